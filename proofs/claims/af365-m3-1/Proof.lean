import JvmDerived
import JvmDerived.Pilot.@@N@@Statement
import JvmDerived.Pilot.@@N@@Code
set_option linter.unusedVariables false
set_option linter.unusedSimpArgs false

namespace Jvm.OwnGo
open Sem ClassFile Op Lib Jvm.Stand Jvm.Free Jvm.LawKit Jvm.RoadKit
/-- what is known of a body while it is walked -/
def Cx (Z : State) (y : MethodName) (code : ByteArray) (ml : Nat) (ret : Option FieldType) (p : Program) (s : State) (m : MethodId) (meth : Method) (c : Code) : Prop :=
  p.tables.exec = Jvm.exec ∧ c.code = code ∧ Z.Warmed39 s.vm ∧ s.vm.findClass y.cls = some m.cls ∧ c.maxLocals = ml ∧ meth.sig.returnType = ret ∧ meth.locks = false ∧ meth.name = y.name
/-- from the frame (pc, Ls, st) over the heap h, with at most k cells and n slots made so far, the body of y returns with Q -/
def Go (l : Launch) (Z : State) (y : MethodName) (code : ByteArray) (ml : Nat) (ret : Option FieldType) (R : Room) (Q : Option Value → Heap → Prop) (k n : Nat) (h : Heap) (pc : Nat) (Ls : Array Slot) (st : List Value) : Prop :=
  ∀ (p : Program) (e : Env) (s : State) (m : MethodId) (args : Array Value) (below : List Frame) (meth : Method) (c : Code), Cx Z y code ml ret p s m meth c →
  ∀ (T : State) (L : List Loc) (k' n' : Nat), Stand p l e R s m args below meth c T L k' n' → k' ≤ k → n' ≤ n → Fr Z.heap.size L → T.heap = h →
  ∃ (v : Option Value) (T' : State) (L' : List Loc) (k'' n'' : Nat), Stand p l e R s m args below meth c T' L' k'' n'' ∧ k'' ≤ R.cells ∧ n'' ≤ R.slots ∧ Fr Z.heap.size L' ∧ Q v T'.heap ∧ (ret = none → v = none) ∧
    ∀ fs, (∀ (f : JFrame) (acts : List Action), f.method = m → f.locked = none → f.entered = [] → (doReturn e (T'.setTop f) acts v).1 = T'.setFrames fs) → Steps p.tables e below (T.setTop (mkF m pc Ls st)) (T'.setFrames fs)
/-- the shapes of an answer -/
def QI (P : Int32 → Heap → Prop) (v : Option Value) (h : Heap) : Prop := ∃ z : Int32, v = some (.int z) ∧ P z h
def QJ (P : Int64 → Heap → Prop) (v : Option Value) (h : Heap) : Prop := ∃ z : Int64, v = some (.long z) ∧ P z h
def QR (P : Value → Heap → Prop) (v : Option Value) (h : Heap) : Prop := ∃ z : Value, v = some z ∧ P z h
def QV (P : Heap → Prop) (v : Option Value) (h : Heap) : Prop := v = none ∧ P h
section Laws
variable {l : Launch} {Z : State} {y : MethodName} {code : ByteArray} {ml : Nat} {ret : Option FieldType} {R : Room} {Q : Option Value → Heap → Prop} {k n : Nat} {h : Heap} {pc : Nat} {Ls : Array Slot} {st : List Value} {a0 : Array Value}
theorem Go.pure {pc' : Nat} {Ls' : Array Slot} {st' : List Value} (g : Go l Z y code ml ret R Q k n h pc' Ls' st')
    (f : ∀ (p : Program) (e : Env) (s : State) (m : MethodId) (args : Array Value) (below : List Frame) (meth : Method) (c : Code), Cx Z y code ml ret p s m meth c → ∀ (T : State) (L : List Loc) (k' n' : Nat), Stand p l e R s m args below meth c T L k' n' → T.heap = h → ∀ target, Steps p.tables e below (T.setTop (mkF m pc' Ls' st')) target → Steps p.tables e below (T.setTop (mkF m pc Ls st)) target) :
    Go l Z y code ml ret R Q k n h pc Ls st := by
  intro p e s m args below meth c K T L k' n' X h1 h2 N hT
  obtain ⟨v, T', L', k'', n'', X', b1, b2, N', q, hv, stp⟩ := g p e s m args below meth c K T L k' n' X h1 h2 N hT
  exact ⟨v, T', L', k'', n'', X', b1, b2, N', q, hv, fun fs hl => f p e s m args below meth c K T L k' n' X hT _ (stp fs hl)⟩
/-- a step that moves the state: by a law that hands out the new Stand -/
theorem Go.move {pc' : Nat} {Ls' : Array Slot} {st' : List Value} {kk nn : Nat} {P : Heap → Prop} (g : ∀ h', P h' → Go l Z y code ml ret R Q kk nn h' pc' Ls' st')
    (f : ∀ (p : Program) (e : Env) (s : State) (m : MethodId) (args : Array Value) (below : List Frame) (meth : Method) (c : Code), Cx Z y code ml ret p s m meth c → ∀ (T : State) (L : List Loc) (k' n' : Nat), Stand p l e R s m args below meth c T L k' n' → k' ≤ k → n' ≤ n → Fr Z.heap.size L → T.heap = h →
      ∃ (T' : State) (L' : List Loc) (k'' n'' : Nat), Stand p l e R s m args below meth c T' L' k'' n'' ∧ k'' ≤ kk ∧ n'' ≤ nn ∧ Fr Z.heap.size L' ∧ P T'.heap ∧ ∀ target, Steps p.tables e below (T'.setTop (mkF m pc' Ls' st')) target → Steps p.tables e below (T.setTop (mkF m pc Ls st)) target) :
    Go l Z y code ml ret R Q k n h pc Ls st := by
  intro p e s m args below meth c K T L k' n' X h1 h2 N hT
  obtain ⟨T1, L1, k1, n1, X1, c1, c2, N1, p1, s1⟩ := f p e s m args below meth c K T L k' n' X h1 h2 N hT
  obtain ⟨v, T', L', k'', n'', X', b1, b2, N', q, hv, stp⟩ := g _ p1 p e s m args below meth c K T1 L1 k1 n1 X1 c1 c2 N1 rfl
  exact ⟨v, T', L', k'', n'', X', b1, b2, N', q, hv, fun fs hl => s1 _ (stp fs hl)⟩
theorem Go.le {k₀ n₀ : Nat} (g : Go l Z y code ml ret R Q k n h pc Ls st) (hk : k₀ ≤ k) (hn : n₀ ≤ n) : Go l Z y code ml ret R Q k₀ n₀ h pc Ls st :=
  fun p e s m args below meth c K T L k' n' X h1 h2 N hT => g p e s m args below meth c K T L k' n' X (Nat.le_trans h1 hk) (Nat.le_trans h2 hn) N hT
theorem Go.mono {Q' : Option Value → Heap → Prop} (g : Go l Z y code ml ret R Q k n h pc Ls st) (hq : ∀ v h', Q v h' → Q' v h') : Go l Z y code ml ret R Q' k n h pc Ls st := by
  intro p e s m args below meth c K T L k' n' X h1 h2 N hT
  obtain ⟨v, T', L', k'', n'', X', b1, b2, N', q, r⟩ := g p e s m args below meth c K T L k' n' X h1 h2 N hT
  exact ⟨v, T', L', k'', n'', X', b1, b2, N', hq _ _ q, r⟩
theorem Go.nameI {x : Int32} (g : ∀ v : Int32, v = x → Go l Z y code ml ret R Q k n h pc Ls (.int v :: st)) : Go l Z y code ml ret R Q k n h pc Ls (.int x :: st) := g x rfl
theorem Go.nameJ {x : Int64} (g : ∀ v : Int64, v = x → Go l Z y code ml ret R Q k n h pc Ls (.long v :: st)) : Go l Z y code ml ret R Q k n h pc Ls (.long x :: st) := g x rfl

theorem Go.iadd {x z : Int32} (q : Nat) (hd : decode code pc = .ok (.iadd, 1))  (hq : pc + 1 = q) (g : Go l Z y code ml ret R Q k n h q Ls (.int (x + z) :: st)) : Go l Z y code ml ret R Q k n h pc Ls (.int z :: .int x :: st) := by
  subst hq; exact g.pure fun p e s m args below meth c K T L k' n' X hT t r => XS.iadd X.here K.1 rfl (hb K.2.1 hd) rfl  r
theorem Go.isub {x z : Int32} (q : Nat) (hd : decode code pc = .ok (.isub, 1))  (hq : pc + 1 = q) (g : Go l Z y code ml ret R Q k n h q Ls (.int (x - z) :: st)) : Go l Z y code ml ret R Q k n h pc Ls (.int z :: .int x :: st) := by
  subst hq; exact g.pure fun p e s m args below meth c K T L k' n' X hT t r => XS.isub X.here K.1 rfl (hb K.2.1 hd) rfl  r
theorem Go.iand {x z : Int32} (q : Nat) (hd : decode code pc = .ok (.iand, 1))  (hq : pc + 1 = q) (g : Go l Z y code ml ret R Q k n h q Ls (.int (x &&& z) :: st)) : Go l Z y code ml ret R Q k n h pc Ls (.int z :: .int x :: st) := by
  subst hq; exact g.pure fun p e s m args below meth c K T L k' n' X hT t r => XS.iand X.here K.1 rfl (hb K.2.1 hd) rfl  r
theorem Go.imul {x z : Int32} (q : Nat) (hd : decode code pc = .ok (.imul, 1))  (hq : pc + 1 = q) (g : Go l Z y code ml ret R Q k n h q Ls (.int (x * z) :: st)) : Go l Z y code ml ret R Q k n h pc Ls (.int z :: .int x :: st) := by
  subst hq; exact g.pure fun p e s m args below meth c K T L k' n' X hT t r => XS.imul X.here K.1 rfl (hb K.2.1 hd) rfl  r
theorem Go.ixor {x z : Int32} (q : Nat) (hd : decode code pc = .ok (.ixor, 1))  (hq : pc + 1 = q) (g : Go l Z y code ml ret R Q k n h q Ls (.int (x ^^^ z) :: st)) : Go l Z y code ml ret R Q k n h pc Ls (.int z :: .int x :: st) := by
  subst hq; exact g.pure fun p e s m args below meth c K T L k' n' X hT t r => XT.ixor X.here K.1 rfl (hb K.2.1 hd) rfl  r
theorem Go.ior {x z : Int32} (q : Nat) (hd : decode code pc = .ok (.ior, 1))  (hq : pc + 1 = q) (g : Go l Z y code ml ret R Q k n h q Ls (.int (x ||| z) :: st)) : Go l Z y code ml ret R Q k n h pc Ls (.int z :: .int x :: st) := by
  subst hq; exact g.pure fun p e s m args below meth c K T L k' n' X hT t r => XT.ior X.here K.1 rfl (hb K.2.1 hd) rfl  r
theorem Go.ishl {x z : Int32} (q : Nat) (hd : decode code pc = .ok (.ishl, 1))  (hq : pc + 1 = q) (g : Go l Z y code ml ret R Q k n h q Ls (.int (x <<< (z &&& 31)) :: st)) : Go l Z y code ml ret R Q k n h pc Ls (.int z :: .int x :: st) := by
  subst hq; exact g.pure fun p e s m args below meth c K T L k' n' X hT t r => XT.ishl X.here K.1 rfl (hb K.2.1 hd) rfl  r
theorem Go.ishr {x z : Int32} (q : Nat) (hd : decode code pc = .ok (.ishr, 1))  (hq : pc + 1 = q) (g : Go l Z y code ml ret R Q k n h q Ls (.int (x >>> (z &&& 31)) :: st)) : Go l Z y code ml ret R Q k n h pc Ls (.int z :: .int x :: st) := by
  subst hq; exact g.pure fun p e s m args below meth c K T L k' n' X hT t r => XT.ishr X.here K.1 rfl (hb K.2.1 hd) rfl  r
theorem Go.iushr {x z : Int32} (q : Nat) (hd : decode code pc = .ok (.iushr, 1))  (hq : pc + 1 = q) (g : Go l Z y code ml ret R Q k n h q Ls (.int (XT.ushr x z) :: st)) : Go l Z y code ml ret R Q k n h pc Ls (.int z :: .int x :: st) := by
  subst hq; exact g.pure fun p e s m args below meth c K T L k' n' X hT t r => XT.iushr X.here K.1 rfl (hb K.2.1 hd) rfl  r
theorem Go.idiv {x z : Int32} (q : Nat) (hd : decode code pc = .ok (.idiv, 1)) (hz : z ≠ 0) (hq : pc + 1 = q) (g : Go l Z y code ml ret R Q k n h q Ls (.int (x / z) :: st)) : Go l Z y code ml ret R Q k n h pc Ls (.int z :: .int x :: st) := by
  subst hq; exact g.pure fun p e s m args below meth c K T L k' n' X hT t r => XS.idiv X.here K.1 rfl (hb K.2.1 hd) rfl hz r
theorem Go.irem {x z : Int32} (q : Nat) (hd : decode code pc = .ok (.irem, 1)) (hz : z ≠ 0) (hq : pc + 1 = q) (g : Go l Z y code ml ret R Q k n h q Ls (.int (x % z) :: st)) : Go l Z y code ml ret R Q k n h pc Ls (.int z :: .int x :: st) := by
  subst hq; exact g.pure fun p e s m args below meth c K T L k' n' X hT t r => iremM X K.1 rfl (hb K.2.1 hd) rfl hz r
theorem Go.ineg {x : Int32} (q : Nat) (hd : decode code pc = .ok (.ineg, 1))  (hq : pc + 1 = q) (g : Go l Z y code ml ret R Q k n h q Ls (.int (-x) :: st)) : Go l Z y code ml ret R Q k n h pc Ls (.int x :: st) := by
  subst hq; exact g.pure fun p e s m args below meth c K T L k' n' X hT t r => XS.ineg X.here K.1 rfl (hb K.2.1 hd) rfl  r
theorem Go.ladd {x z : Int64} (q : Nat) (hd : decode code pc = .ok (.ladd, 1))  (hq : pc + 1 = q) (g : Go l Z y code ml ret R Q k n h q Ls (.long (x + z) :: st)) : Go l Z y code ml ret R Q k n h pc Ls (.long z :: .long x :: st) := by
  subst hq; exact g.pure fun p e s m args below meth c K T L k' n' X hT t r => XT.ladd X.here K.1 rfl (hb K.2.1 hd) rfl  r
theorem Go.lsub {x z : Int64} (q : Nat) (hd : decode code pc = .ok (.lsub, 1))  (hq : pc + 1 = q) (g : Go l Z y code ml ret R Q k n h q Ls (.long (x - z) :: st)) : Go l Z y code ml ret R Q k n h pc Ls (.long z :: .long x :: st) := by
  subst hq; exact g.pure fun p e s m args below meth c K T L k' n' X hT t r => XT.lsub X.here K.1 rfl (hb K.2.1 hd) rfl  r
theorem Go.lmul {x z : Int64} (q : Nat) (hd : decode code pc = .ok (.lmul, 1))  (hq : pc + 1 = q) (g : Go l Z y code ml ret R Q k n h q Ls (.long (x * z) :: st)) : Go l Z y code ml ret R Q k n h pc Ls (.long z :: .long x :: st) := by
  subst hq; exact g.pure fun p e s m args below meth c K T L k' n' X hT t r => XT.lmul X.here K.1 rfl (hb K.2.1 hd) rfl  r
theorem Go.land {x z : Int64} (q : Nat) (hd : decode code pc = .ok (.land, 1))  (hq : pc + 1 = q) (g : Go l Z y code ml ret R Q k n h q Ls (.long (x &&& z) :: st)) : Go l Z y code ml ret R Q k n h pc Ls (.long z :: .long x :: st) := by
  subst hq; exact g.pure fun p e s m args below meth c K T L k' n' X hT t r => XT.land X.here K.1 rfl (hb K.2.1 hd) rfl  r
theorem Go.lor {x z : Int64} (q : Nat) (hd : decode code pc = .ok (.lor, 1))  (hq : pc + 1 = q) (g : Go l Z y code ml ret R Q k n h q Ls (.long (x ||| z) :: st)) : Go l Z y code ml ret R Q k n h pc Ls (.long z :: .long x :: st) := by
  subst hq; exact g.pure fun p e s m args below meth c K T L k' n' X hT t r => XT.lor X.here K.1 rfl (hb K.2.1 hd) rfl  r
theorem Go.lxor {x z : Int64} (q : Nat) (hd : decode code pc = .ok (.lxor, 1))  (hq : pc + 1 = q) (g : Go l Z y code ml ret R Q k n h q Ls (.long (x ^^^ z) :: st)) : Go l Z y code ml ret R Q k n h pc Ls (.long z :: .long x :: st) := by
  subst hq; exact g.pure fun p e s m args below meth c K T L k' n' X hT t r => XT.lxor X.here K.1 rfl (hb K.2.1 hd) rfl  r
theorem Go.ldiv {x z : Int64} (q : Nat) (hd : decode code pc = .ok (.ldiv, 1)) (hz : z ≠ 0) (hq : pc + 1 = q) (g : Go l Z y code ml ret R Q k n h q Ls (.long (x / z) :: st)) : Go l Z y code ml ret R Q k n h pc Ls (.long z :: .long x :: st) := by
  subst hq; exact g.pure fun p e s m args below meth c K T L k' n' X hT t r => XT.ldiv X.here K.1 rfl (hb K.2.1 hd) rfl hz r
theorem Go.lrem {x z : Int64} (q : Nat) (hd : decode code pc = .ok (.lrem, 1)) (hz : z ≠ 0) (hq : pc + 1 = q) (g : Go l Z y code ml ret R Q k n h q Ls (.long (x - (x / z) * z) :: st)) : Go l Z y code ml ret R Q k n h pc Ls (.long z :: .long x :: st) := by
  subst hq; exact g.pure fun p e s m args below meth c K T L k' n' X hT t r => XT.lrem X.here K.1 rfl (hb K.2.1 hd) rfl hz r
theorem Go.lneg {x : Int64} (q : Nat) (hd : decode code pc = .ok (.lneg, 1))  (hq : pc + 1 = q) (g : Go l Z y code ml ret R Q k n h q Ls (.long (-x) :: st)) : Go l Z y code ml ret R Q k n h pc Ls (.long x :: st) := by
  subst hq; exact g.pure fun p e s m args below meth c K T L k' n' X hT t r => XT.lneg X.here K.1 rfl (hb K.2.1 hd) rfl  r
theorem Go.lshl {x : Int64} {z : Int32} (q : Nat) (hd : decode code pc = .ok (.lshl, 1))  (hq : pc + 1 = q) (g : Go l Z y code ml ret R Q k n h q Ls (.long (x <<< (z.toInt64 &&& 63)) :: st)) : Go l Z y code ml ret R Q k n h pc Ls (.int z :: .long x :: st) := by
  subst hq; exact g.pure fun p e s m args below meth c K T L k' n' X hT t r => XT.lshl X.here K.1 rfl (hb K.2.1 hd) rfl  r
theorem Go.lshr {x : Int64} {z : Int32} (q : Nat) (hd : decode code pc = .ok (.lshr, 1))  (hq : pc + 1 = q) (g : Go l Z y code ml ret R Q k n h q Ls (.long (x >>> (z.toInt64 &&& 63)) :: st)) : Go l Z y code ml ret R Q k n h pc Ls (.int z :: .long x :: st) := by
  subst hq; exact g.pure fun p e s m args below meth c K T L k' n' X hT t r => XT.lshr X.here K.1 rfl (hb K.2.1 hd) rfl  r
theorem Go.lushr {x : Int64} {z : Int32} (q : Nat) (hd : decode code pc = .ok (.lushr, 1))  (hq : pc + 1 = q) (g : Go l Z y code ml ret R Q k n h q Ls (.long (XT.ushrL x z) :: st)) : Go l Z y code ml ret R Q k n h pc Ls (.int z :: .long x :: st) := by
  subst hq; exact g.pure fun p e s m args below meth c K T L k' n' X hT t r => XT.lushr X.here K.1 rfl (hb K.2.1 hd) rfl  r
theorem Go.lcmp {x z : Int64} (q : Nat) (hd : decode code pc = .ok (.lcmp, 1))  (hq : pc + 1 = q) (g : Go l Z y code ml ret R Q k n h q Ls (.int (XT.cmpL x z) :: st)) : Go l Z y code ml ret R Q k n h pc Ls (.long z :: .long x :: st) := by
  subst hq; exact g.pure fun p e s m args below meth c K T L k' n' X hT t r => XT.lcmp X.here K.1 rfl (hb K.2.1 hd) rfl  r
theorem Go.i2l {x : Int32} (q : Nat) (hd : decode code pc = .ok (.i2l, 1))  (hq : pc + 1 = q) (g : Go l Z y code ml ret R Q k n h q Ls (.long x.toInt64 :: st)) : Go l Z y code ml ret R Q k n h pc Ls (.int x :: st) := by
  subst hq; exact g.pure fun p e s m args below meth c K T L k' n' X hT t r => XT.i2l X.here K.1 rfl (hb K.2.1 hd) rfl  r
theorem Go.l2i {x : Int64} (q : Nat) (hd : decode code pc = .ok (.l2i, 1))  (hq : pc + 1 = q) (g : Go l Z y code ml ret R Q k n h q Ls (.int x.toInt32 :: st)) : Go l Z y code ml ret R Q k n h pc Ls (.long x :: st) := by
  subst hq; exact g.pure fun p e s m args below meth c K T L k' n' X hT t r => XT.l2i X.here K.1 rfl (hb K.2.1 hd) rfl  r
theorem Go.i2b {x : Int32} (q : Nat) (hd : decode code pc = .ok (.i2b, 1))  (hq : pc + 1 = q) (g : Go l Z y code ml ret R Q k n h q Ls (.int x.toInt8.toInt32 :: st)) : Go l Z y code ml ret R Q k n h pc Ls (.int x :: st) := by
  subst hq; exact g.pure fun p e s m args below meth c K T L k' n' X hT t r => XT.i2b X.here K.1 rfl (hb K.2.1 hd) rfl  r
theorem Go.i2c {x : Int32} (q : Nat) (hd : decode code pc = .ok (.i2c, 1))  (hq : pc + 1 = q) (g : Go l Z y code ml ret R Q k n h q Ls (.int x.toUInt32.toUInt16.toUInt32.toInt32 :: st)) : Go l Z y code ml ret R Q k n h pc Ls (.int x :: st) := by
  subst hq; exact g.pure fun p e s m args below meth c K T L k' n' X hT t r => XT.i2c X.here K.1 rfl (hb K.2.1 hd) rfl  r
theorem Go.i2s {x : Int32} (q : Nat) (hd : decode code pc = .ok (.i2s, 1))  (hq : pc + 1 = q) (g : Go l Z y code ml ret R Q k n h q Ls (.int x.toInt16.toInt32 :: st)) : Go l Z y code ml ret R Q k n h pc Ls (.int x :: st) := by
  subst hq; exact g.pure fun p e s m args below meth c K T L k' n' X hT t r => XT.i2s X.here K.1 rfl (hb K.2.1 hd) rfl  r
theorem Go.pop {x : Value} (q : Nat) (hd : decode code pc = .ok (.pop, 1)) (hc : x.category = 1) (hq : pc + 1 = q) (g : Go l Z y code ml ret R Q k n h q Ls (st)) : Go l Z y code ml ret R Q k n h pc Ls (x :: st) := by
  subst hq; exact g.pure fun p e s m args below meth c K T L k' n' X hT t r => XT.pop X.here K.1 rfl (hb K.2.1 hd) rfl hc r
theorem Go.dup {x : Value} (q : Nat) (hd : decode code pc = .ok (.dup, 1)) (hc : x.category = 1) (hq : pc + 1 = q) (g : Go l Z y code ml ret R Q k n h q Ls (x :: x :: st)) : Go l Z y code ml ret R Q k n h pc Ls (x :: st) := by
  subst hq; exact g.pure fun p e s m args below meth c K T L k' n' X hT t r => XS.dup X.here K.1 rfl (hb K.2.1 hd) rfl hc r
theorem Go.dupX1 {x z : Value} (q : Nat) (hd : decode code pc = .ok (.dup_x1, 1)) (hc : x.category = 1) (hc' : z.category = 1) (hq : pc + 1 = q) (g : Go l Z y code ml ret R Q k n h q Ls (x :: z :: x :: st)) : Go l Z y code ml ret R Q k n h pc Ls (x :: z :: st) := by
  subst hq; exact g.pure fun p e s m args below meth c K T L k' n' X hT t r => XT.dupX1 X.here K.1 rfl (hb K.2.1 hd) rfl hc hc' r
theorem Go.dup2 {x z : Value} (q : Nat) (hd : decode code pc = .ok (.dup2, 1)) (hc : x.category = 1) (hc' : z.category = 1) (hq : pc + 1 = q) (g : Go l Z y code ml ret R Q k n h q Ls (x :: z :: x :: z :: st)) : Go l Z y code ml ret R Q k n h pc Ls (x :: z :: st) := by
  subst hq; exact g.pure fun p e s m args below meth c K T L k' n' X hT t r => XT.dup2 X.here K.1 rfl (hb K.2.1 hd) rfl hc hc' r
theorem Go.dup2L {x : Int64} (q : Nat) (hd : decode code pc = .ok (.dup2, 1))  (hq : pc + 1 = q) (g : Go l Z y code ml ret R Q k n h q Ls (.long x :: .long x :: st)) : Go l Z y code ml ret R Q k n h pc Ls (.long x :: st) := by
  subst hq; exact g.pure fun p e s m args below meth c K T L k' n' X hT t r => XT.dup2L X.here K.1 rfl (hb K.2.1 hd) rfl  r
theorem Go.iconst {i : Int} (q : Nat) (v : Int32) (hd : decode code pc = .ok (.iconst i, 1)) (hv : Int32.ofInt i = v) (hq : pc + 1 = q) (g : Go l Z y code ml ret R Q k n h q Ls (.int v :: st)) : Go l Z y code ml ret R Q k n h pc Ls st := by
  subst hq; exact g.pure fun p e s m args below meth c K T L k' n' X hT t r => XT.iconstV X.here K.1 rfl v (hb K.2.1 hd) hv r
theorem Go.bipush {i : Int} (q : Nat) (v : Int32) (hd : decode code pc = .ok (.bipush i, 2)) (hv : (Int8.ofInt i).toInt32 = v) (hq : pc + 2 = q) (g : Go l Z y code ml ret R Q k n h q Ls (.int v :: st)) : Go l Z y code ml ret R Q k n h pc Ls st := by
  subst hq; exact g.pure fun p e s m args below meth c K T L k' n' X hT t r => XT.bipushV X.here K.1 rfl v (hb K.2.1 hd) hv r
theorem Go.sipush {i : Int} (q : Nat) (v : Int32) (hd : decode code pc = .ok (.sipush i, 3)) (hv : (Int16.ofInt i).toInt32 = v) (hq : pc + 3 = q) (g : Go l Z y code ml ret R Q k n h q Ls (.int v :: st)) : Go l Z y code ml ret R Q k n h pc Ls st := by
  subst hq; exact g.pure fun p e s m args below meth c K T L k' n' X hT t r => XT.sipushV X.here K.1 rfl v (hb K.2.1 hd) hv r
theorem Go.lconst {i : Fin 2} (q : Nat) (v : Int64) (hd : decode code pc = .ok (.lconst i, 1)) (hv : Int64.ofNat i = v) (hq : pc + 1 = q) (g : Go l Z y code ml ret R Q k n h q Ls (.long v :: st)) : Go l Z y code ml ret R Q k n h pc Ls st := by
  subst hq; exact g.pure fun p e s m args below meth c K T L k' n' X hT t r => XT.lconstV X.here K.1 rfl v (hb K.2.1 hd) hv r
theorem Go.aconst_null (q : Nat) (hd : decode code pc = .ok (.aconst_null, 1)) (hq : pc + 1 = q) (g : Go l Z y code ml ret R Q k n h q Ls (.null :: st)) : Go l Z y code ml ret R Q k n h pc Ls st := by
  subst hq; exact g.pure fun p e s m args below meth c K T L k' n' X hT t r => XS.aconstNull X.here K.1 rfl (hb K.2.1 hd) r
theorem Go.ldc {i : Nat} {v : Int32} (q : Nat) (hd : decode code pc = .ok (.ldc i, 2)) (w : (Cond.constant y.cls i v).before a0 Z = true) (hq : pc + 2 = q) (g : Go l Z y code ml ret R Q k n h q Ls (.int v :: st)) : Go l Z y code ml ret R Q k n h pc Ls st := by
  subst hq; exact g.pure fun p e s m args below meth c K T L k' n' X hT t r => X.ldcI K.1 K.2.2.2.1 (mvT K.2.2.1 w) rfl (hb K.2.1 hd) r
theorem Go.ldc_w {i : Nat} {v : Int32} (q : Nat) (hd : decode code pc = .ok (.ldc_w i, 3)) (w : (Cond.constant y.cls i v).before a0 Z = true) (hq : pc + 3 = q) (g : Go l Z y code ml ret R Q k n h q Ls (.int v :: st)) : Go l Z y code ml ret R Q k n h pc Ls st := by
  subst hq; exact g.pure fun p e s m args below meth c K T L k' n' X hT t r => X.ldcWI K.1 K.2.2.2.1 (mvT K.2.2.1 w) rfl (hb K.2.1 hd) r
theorem Go.ldc2_w {i : Nat} {v : Int64} (q : Nat) (hd : decode code pc = .ok (.ldc2_w i, 3)) (w : (Cond.constantLong y.cls i v).before a0 Z = true) (hq : pc + 3 = q) (g : Go l Z y code ml ret R Q k n h q Ls (.long v :: st)) : Go l Z y code ml ret R Q k n h pc Ls st := by
  subst hq; exact g.pure fun p e s m args below meth c K T L k' n' X hT t r => X.ldc2J K.1 K.2.2.2.1 (mvT K.2.2.1 w) rfl (hb K.2.1 hd) r
theorem Go.iload {i : Nat} {v : Int32} (q : Nat) (hd : decode code pc = .ok (.iload i, 2)) (hl : Ls[i]? = some (.val (.int v))) (hq : pc + 2 = q) (g : Go l Z y code ml ret R Q k n h q Ls (.int v :: st)) : Go l Z y code ml ret R Q k n h pc Ls st := by
  subst hq; exact g.pure fun p e s m args below meth c K T L k' n' X hT t r => XS.iload X.here K.1 rfl (hb K.2.1 hd) hl r
theorem Go.iload_n {i : Fin 4} {v : Int32} (q : Nat) (hd : decode code pc = .ok (.iload_n i, 1)) (hl : Ls[i.val]? = some (.val (.int v))) (hq : pc + 1 = q) (g : Go l Z y code ml ret R Q k n h q Ls (.int v :: st)) : Go l Z y code ml ret R Q k n h pc Ls st := by
  subst hq; exact g.pure fun p e s m args below meth c K T L k' n' X hT t r => XS.iloadN X.here K.1 rfl (hb K.2.1 hd) hl r
theorem Go.lload {i : Nat} {v : Int64} (q : Nat) (hd : decode code pc = .ok (.lload i, 2)) (hl : Ls[i]? = some (.val (.long v))) (hq : pc + 2 = q) (g : Go l Z y code ml ret R Q k n h q Ls (.long v :: st)) : Go l Z y code ml ret R Q k n h pc Ls st := by
  subst hq; exact g.pure fun p e s m args below meth c K T L k' n' X hT t r => XT.lload X.here K.1 rfl (hb K.2.1 hd) hl r
theorem Go.lload_n {i : Fin 4} {v : Int64} (q : Nat) (hd : decode code pc = .ok (.lload_n i, 1)) (hl : Ls[i.val]? = some (.val (.long v))) (hq : pc + 1 = q) (g : Go l Z y code ml ret R Q k n h q Ls (.long v :: st)) : Go l Z y code ml ret R Q k n h pc Ls st := by
  subst hq; exact g.pure fun p e s m args below meth c K T L k' n' X hT t r => XT.lloadN X.here K.1 rfl (hb K.2.1 hd) hl r
theorem Go.aload {i : Nat} {v : Value} (q : Nat) (hd : decode code pc = .ok (.aload i, 2)) (hl : Ls[i]? = some (.val v)) (hv : v.isRef = true) (hq : pc + 2 = q) (g : Go l Z y code ml ret R Q k n h q Ls (v :: st)) : Go l Z y code ml ret R Q k n h pc Ls st := by
  subst hq; exact g.pure fun p e s m args below meth c K T L k' n' X hT t r => XS.aload X.here K.1 rfl (hb K.2.1 hd) hl hv r
theorem Go.aload_n {i : Fin 4} {v : Value} (q : Nat) (hd : decode code pc = .ok (.aload_n i, 1)) (hl : Ls[i.val]? = some (.val v)) (hv : v.isRef = true) (hq : pc + 1 = q) (g : Go l Z y code ml ret R Q k n h q Ls (v :: st)) : Go l Z y code ml ret R Q k n h pc Ls st := by
  subst hq; exact g.pure fun p e s m args below meth c K T L k' n' X hT t r => XS.aloadN X.here K.1 rfl (hb K.2.1 hd) hl hv r
theorem Go.istore {i : Nat} {v : Int32} (q : Nat) (Ls' : Array Slot) (hd : decode code pc = .ok (.istore i, 2)) (hl : storeLocals Ls i (.int v) = some Ls') (hq : pc + 2 = q) (g : Go l Z y code ml ret R Q k n h q Ls' st) : Go l Z y code ml ret R Q k n h pc Ls (.int v :: st) := by
  subst hq; exact g.pure fun p e s m args below meth c K T L k' n' X hT t r => XS.istore X.here K.1 rfl (hb K.2.1 hd) rfl hl r
theorem Go.istore_n {i : Fin 4} {v : Int32} (q : Nat) (Ls' : Array Slot) (hd : decode code pc = .ok (.istore_n i, 1)) (hl : storeLocals Ls i.val (.int v) = some Ls') (hq : pc + 1 = q) (g : Go l Z y code ml ret R Q k n h q Ls' st) : Go l Z y code ml ret R Q k n h pc Ls (.int v :: st) := by
  subst hq; exact g.pure fun p e s m args below meth c K T L k' n' X hT t r => XS.istoreN X.here K.1 rfl (hb K.2.1 hd) rfl hl r
theorem Go.lstore {i : Nat} {v : Int64} (q : Nat) (Ls' : Array Slot) (hd : decode code pc = .ok (.lstore i, 2)) (hl : storeLocals Ls i (.long v) = some Ls') (hq : pc + 2 = q) (g : Go l Z y code ml ret R Q k n h q Ls' st) : Go l Z y code ml ret R Q k n h pc Ls (.long v :: st) := by
  subst hq; exact g.pure fun p e s m args below meth c K T L k' n' X hT t r => XT.lstore X.here K.1 rfl (hb K.2.1 hd) rfl hl r
theorem Go.lstore_n {i : Fin 4} {v : Int64} (q : Nat) (Ls' : Array Slot) (hd : decode code pc = .ok (.lstore_n i, 1)) (hl : storeLocals Ls i.val (.long v) = some Ls') (hq : pc + 1 = q) (g : Go l Z y code ml ret R Q k n h q Ls' st) : Go l Z y code ml ret R Q k n h pc Ls (.long v :: st) := by
  subst hq; exact g.pure fun p e s m args below meth c K T L k' n' X hT t r => XT.lstoreN X.here K.1 rfl (hb K.2.1 hd) rfl hl r
theorem Go.astore {i : Nat} {v : Value} (q : Nat) (Ls' : Array Slot) (hd : decode code pc = .ok (.astore i, 2)) (hv : v.isRef = true) (hl : storeLocals Ls i v = some Ls') (hq : pc + 2 = q) (g : Go l Z y code ml ret R Q k n h q Ls' st) : Go l Z y code ml ret R Q k n h pc Ls (v :: st) := by
  subst hq; exact g.pure fun p e s m args below meth c K T L k' n' X hT t r => XS.astore X.here K.1 rfl (hb K.2.1 hd) rfl hv hl r
theorem Go.astore_n {i : Fin 4} {v : Value} (q : Nat) (Ls' : Array Slot) (hd : decode code pc = .ok (.astore_n i, 1)) (hv : v.isRef = true) (hl : storeLocals Ls i.val v = some Ls') (hq : pc + 1 = q) (g : Go l Z y code ml ret R Q k n h q Ls' st) : Go l Z y code ml ret R Q k n h pc Ls (v :: st) := by
  subst hq; exact g.pure fun p e s m args below meth c K T L k' n' X hT t r => XS.astoreN X.here K.1 rfl (hb K.2.1 hd) rfl hv hl r
theorem Go.iinc {i : Nat} {cst : Int} {x : Int32} (q : Nat) (v : Int32) (Ls' : Array Slot) (hd : decode code pc = .ok (.iinc i cst, 3)) (hv : Int32.ofInt cst = v) (hl : Ls[i]? = some (.val (.int x))) (hl' : storeLocals Ls i (.int (x + v)) = some Ls') (hq : pc + 3 = q) (g : Go l Z y code ml ret R Q k n h q Ls' st) : Go l Z y code ml ret R Q k n h pc Ls st := by
  subst hq; exact g.pure fun p e s m args below meth c K T L k' n' X hT t r => XT.iincV X.here K.1 rfl v (hb K.2.1 hd) hv hl hl' r
theorem Go.goto {o : Int} (q : Nat) (hd : decode code pc = .ok (.goto o, 3)) (ho : 0 ≤ (pc : Int) + o) (hq : ((pc : Int) + o).toNat = q) (g : Go l Z y code ml ret R Q k n h q Ls st) : Go l Z y code ml ret R Q k n h pc Ls st :=
  g.pure fun p e s m args below meth c K T L k' n' X hT t r => XS.goto X.here K.1 rfl rfl (hb K.2.1 hd) ho hq r
theorem Go.icmp_eq {o : Int} {x z : Int32} (q1 q2 : Nat) (hd : decode code pc = .ok (.if_icmp .eq o, 3)) (ho : 0 ≤ (pc : Int) + o) (h1 : ((pc : Int) + o).toNat = q1) (h2 : pc + 3 = q2) (g1 : x = z → Go l Z y code ml ret R Q k n h q1 Ls st) (g2 : ¬ x = z → Go l Z y code ml ret R Q k n h q2 Ls st) : Go l Z y code ml ret R Q k n h pc Ls (.int z :: .int x :: st) := by
  subst h2
  by_cases hc : x = z
  · exact (g1 hc).pure fun p e s m args below meth c K T L k' n' X hT t r => XS.icmpYes X.here K.1 rfl rfl (hb K.2.1 hd) rfl (XT.ii_eq_t hc) ho h1 r
  · exact (g2 (by first | exact hc | exact Decidable.not_not.mp hc)).pure fun p e s m args below meth c K T L k' n' X hT t r => XS.icmpNo X.here K.1 rfl (hb K.2.1 hd) rfl (XT.ii_eq_f (by first | exact hc | exact Decidable.not_not.mp hc)) r
theorem Go.lcmp_eq {o : Int} {x z : Int64} (q1 q2 : Nat) (hd : decode code pc = .ok (.ifCond .eq o, 3)) (ho : 0 ≤ (pc : Int) + o) (h1 : ((pc : Int) + o).toNat = q1) (h2 : pc + 3 = q2) (g1 : x = z → Go l Z y code ml ret R Q k n h q1 Ls st) (g2 : ¬ x = z → Go l Z y code ml ret R Q k n h q2 Ls st) : Go l Z y code ml ret R Q k n h pc Ls (.int (XT.cmpL x z) :: st) := by
  subst h2
  by_cases hc : x = z
  · exact (g1 hc).pure fun p e s m args below meth c K T L k' n' X hT t r => XS.ifYes X.here K.1 rfl rfl (hb K.2.1 hd) rfl (XT.ll_eq_t hc) ho h1 r
  · exact (g2 (by first | exact hc | exact Decidable.not_not.mp hc)).pure fun p e s m args below meth c K T L k' n' X hT t r => XS.ifNo X.here K.1 rfl (hb K.2.1 hd) rfl (XT.ll_eq_f (by first | exact hc | exact Decidable.not_not.mp hc)) r
theorem Go.icmp_ne {o : Int} {x z : Int32} (q1 q2 : Nat) (hd : decode code pc = .ok (.if_icmp .ne o, 3)) (ho : 0 ≤ (pc : Int) + o) (h1 : ((pc : Int) + o).toNat = q1) (h2 : pc + 3 = q2) (g1 : ¬ x = z → Go l Z y code ml ret R Q k n h q1 Ls st) (g2 : x = z → Go l Z y code ml ret R Q k n h q2 Ls st) : Go l Z y code ml ret R Q k n h pc Ls (.int z :: .int x :: st) := by
  subst h2
  by_cases hc : ¬ x = z
  · exact (g1 hc).pure fun p e s m args below meth c K T L k' n' X hT t r => XS.icmpYes X.here K.1 rfl rfl (hb K.2.1 hd) rfl (XT.ii_ne_t hc) ho h1 r
  · exact (g2 (by first | exact hc | exact Decidable.not_not.mp hc)).pure fun p e s m args below meth c K T L k' n' X hT t r => XS.icmpNo X.here K.1 rfl (hb K.2.1 hd) rfl (XT.ii_ne_f (by first | exact hc | exact Decidable.not_not.mp hc)) r
theorem Go.lcmp_ne {o : Int} {x z : Int64} (q1 q2 : Nat) (hd : decode code pc = .ok (.ifCond .ne o, 3)) (ho : 0 ≤ (pc : Int) + o) (h1 : ((pc : Int) + o).toNat = q1) (h2 : pc + 3 = q2) (g1 : ¬ x = z → Go l Z y code ml ret R Q k n h q1 Ls st) (g2 : x = z → Go l Z y code ml ret R Q k n h q2 Ls st) : Go l Z y code ml ret R Q k n h pc Ls (.int (XT.cmpL x z) :: st) := by
  subst h2
  by_cases hc : ¬ x = z
  · exact (g1 hc).pure fun p e s m args below meth c K T L k' n' X hT t r => XS.ifYes X.here K.1 rfl rfl (hb K.2.1 hd) rfl (XT.ll_ne_t hc) ho h1 r
  · exact (g2 (by first | exact hc | exact Decidable.not_not.mp hc)).pure fun p e s m args below meth c K T L k' n' X hT t r => XS.ifNo X.here K.1 rfl (hb K.2.1 hd) rfl (XT.ll_ne_f (by first | exact hc | exact Decidable.not_not.mp hc)) r
theorem Go.icmp_lt {o : Int} {x z : Int32} (q1 q2 : Nat) (hd : decode code pc = .ok (.if_icmp .lt o, 3)) (ho : 0 ≤ (pc : Int) + o) (h1 : ((pc : Int) + o).toNat = q1) (h2 : pc + 3 = q2) (g1 : x < z → Go l Z y code ml ret R Q k n h q1 Ls st) (g2 : ¬ x < z → Go l Z y code ml ret R Q k n h q2 Ls st) : Go l Z y code ml ret R Q k n h pc Ls (.int z :: .int x :: st) := by
  subst h2
  by_cases hc : x < z
  · exact (g1 hc).pure fun p e s m args below meth c K T L k' n' X hT t r => XS.icmpYes X.here K.1 rfl rfl (hb K.2.1 hd) rfl (XT.ii_lt_t hc) ho h1 r
  · exact (g2 (by first | exact hc | exact Decidable.not_not.mp hc)).pure fun p e s m args below meth c K T L k' n' X hT t r => XS.icmpNo X.here K.1 rfl (hb K.2.1 hd) rfl (XT.ii_lt_f (by first | exact hc | exact Decidable.not_not.mp hc)) r
theorem Go.lcmp_lt {o : Int} {x z : Int64} (q1 q2 : Nat) (hd : decode code pc = .ok (.ifCond .lt o, 3)) (ho : 0 ≤ (pc : Int) + o) (h1 : ((pc : Int) + o).toNat = q1) (h2 : pc + 3 = q2) (g1 : x < z → Go l Z y code ml ret R Q k n h q1 Ls st) (g2 : ¬ x < z → Go l Z y code ml ret R Q k n h q2 Ls st) : Go l Z y code ml ret R Q k n h pc Ls (.int (XT.cmpL x z) :: st) := by
  subst h2
  by_cases hc : x < z
  · exact (g1 hc).pure fun p e s m args below meth c K T L k' n' X hT t r => XS.ifYes X.here K.1 rfl rfl (hb K.2.1 hd) rfl (XT.ll_lt_t hc) ho h1 r
  · exact (g2 (by first | exact hc | exact Decidable.not_not.mp hc)).pure fun p e s m args below meth c K T L k' n' X hT t r => XS.ifNo X.here K.1 rfl (hb K.2.1 hd) rfl (XT.ll_lt_f (by first | exact hc | exact Decidable.not_not.mp hc)) r
theorem Go.icmp_ge {o : Int} {x z : Int32} (q1 q2 : Nat) (hd : decode code pc = .ok (.if_icmp .ge o, 3)) (ho : 0 ≤ (pc : Int) + o) (h1 : ((pc : Int) + o).toNat = q1) (h2 : pc + 3 = q2) (g1 : ¬ x < z → Go l Z y code ml ret R Q k n h q1 Ls st) (g2 : x < z → Go l Z y code ml ret R Q k n h q2 Ls st) : Go l Z y code ml ret R Q k n h pc Ls (.int z :: .int x :: st) := by
  subst h2
  by_cases hc : ¬ x < z
  · exact (g1 hc).pure fun p e s m args below meth c K T L k' n' X hT t r => XS.icmpYes X.here K.1 rfl rfl (hb K.2.1 hd) rfl (XT.ii_ge_t hc) ho h1 r
  · exact (g2 (by first | exact hc | exact Decidable.not_not.mp hc)).pure fun p e s m args below meth c K T L k' n' X hT t r => XS.icmpNo X.here K.1 rfl (hb K.2.1 hd) rfl (XT.ii_ge_f (by first | exact hc | exact Decidable.not_not.mp hc)) r
theorem Go.lcmp_ge {o : Int} {x z : Int64} (q1 q2 : Nat) (hd : decode code pc = .ok (.ifCond .ge o, 3)) (ho : 0 ≤ (pc : Int) + o) (h1 : ((pc : Int) + o).toNat = q1) (h2 : pc + 3 = q2) (g1 : ¬ x < z → Go l Z y code ml ret R Q k n h q1 Ls st) (g2 : x < z → Go l Z y code ml ret R Q k n h q2 Ls st) : Go l Z y code ml ret R Q k n h pc Ls (.int (XT.cmpL x z) :: st) := by
  subst h2
  by_cases hc : ¬ x < z
  · exact (g1 hc).pure fun p e s m args below meth c K T L k' n' X hT t r => XS.ifYes X.here K.1 rfl rfl (hb K.2.1 hd) rfl (XT.ll_ge_t hc) ho h1 r
  · exact (g2 (by first | exact hc | exact Decidable.not_not.mp hc)).pure fun p e s m args below meth c K T L k' n' X hT t r => XS.ifNo X.here K.1 rfl (hb K.2.1 hd) rfl (XT.ll_ge_f (by first | exact hc | exact Decidable.not_not.mp hc)) r
theorem Go.icmp_gt {o : Int} {x z : Int32} (q1 q2 : Nat) (hd : decode code pc = .ok (.if_icmp .gt o, 3)) (ho : 0 ≤ (pc : Int) + o) (h1 : ((pc : Int) + o).toNat = q1) (h2 : pc + 3 = q2) (g1 : z < x → Go l Z y code ml ret R Q k n h q1 Ls st) (g2 : ¬ z < x → Go l Z y code ml ret R Q k n h q2 Ls st) : Go l Z y code ml ret R Q k n h pc Ls (.int z :: .int x :: st) := by
  subst h2
  by_cases hc : z < x
  · exact (g1 hc).pure fun p e s m args below meth c K T L k' n' X hT t r => XS.icmpYes X.here K.1 rfl rfl (hb K.2.1 hd) rfl (XT.ii_gt_t hc) ho h1 r
  · exact (g2 (by first | exact hc | exact Decidable.not_not.mp hc)).pure fun p e s m args below meth c K T L k' n' X hT t r => XS.icmpNo X.here K.1 rfl (hb K.2.1 hd) rfl (XT.ii_gt_f (by first | exact hc | exact Decidable.not_not.mp hc)) r
theorem Go.lcmp_gt {o : Int} {x z : Int64} (q1 q2 : Nat) (hd : decode code pc = .ok (.ifCond .gt o, 3)) (ho : 0 ≤ (pc : Int) + o) (h1 : ((pc : Int) + o).toNat = q1) (h2 : pc + 3 = q2) (g1 : z < x → Go l Z y code ml ret R Q k n h q1 Ls st) (g2 : ¬ z < x → Go l Z y code ml ret R Q k n h q2 Ls st) : Go l Z y code ml ret R Q k n h pc Ls (.int (XT.cmpL x z) :: st) := by
  subst h2
  by_cases hc : z < x
  · exact (g1 hc).pure fun p e s m args below meth c K T L k' n' X hT t r => XS.ifYes X.here K.1 rfl rfl (hb K.2.1 hd) rfl (XT.ll_gt_t hc) ho h1 r
  · exact (g2 (by first | exact hc | exact Decidable.not_not.mp hc)).pure fun p e s m args below meth c K T L k' n' X hT t r => XS.ifNo X.here K.1 rfl (hb K.2.1 hd) rfl (XT.ll_gt_f (by first | exact hc | exact Decidable.not_not.mp hc)) r
theorem Go.icmp_le {o : Int} {x z : Int32} (q1 q2 : Nat) (hd : decode code pc = .ok (.if_icmp .le o, 3)) (ho : 0 ≤ (pc : Int) + o) (h1 : ((pc : Int) + o).toNat = q1) (h2 : pc + 3 = q2) (g1 : ¬ z < x → Go l Z y code ml ret R Q k n h q1 Ls st) (g2 : z < x → Go l Z y code ml ret R Q k n h q2 Ls st) : Go l Z y code ml ret R Q k n h pc Ls (.int z :: .int x :: st) := by
  subst h2
  by_cases hc : ¬ z < x
  · exact (g1 hc).pure fun p e s m args below meth c K T L k' n' X hT t r => XS.icmpYes X.here K.1 rfl rfl (hb K.2.1 hd) rfl (XT.ii_le_t hc) ho h1 r
  · exact (g2 (by first | exact hc | exact Decidable.not_not.mp hc)).pure fun p e s m args below meth c K T L k' n' X hT t r => XS.icmpNo X.here K.1 rfl (hb K.2.1 hd) rfl (XT.ii_le_f (by first | exact hc | exact Decidable.not_not.mp hc)) r
theorem Go.lcmp_le {o : Int} {x z : Int64} (q1 q2 : Nat) (hd : decode code pc = .ok (.ifCond .le o, 3)) (ho : 0 ≤ (pc : Int) + o) (h1 : ((pc : Int) + o).toNat = q1) (h2 : pc + 3 = q2) (g1 : ¬ z < x → Go l Z y code ml ret R Q k n h q1 Ls st) (g2 : z < x → Go l Z y code ml ret R Q k n h q2 Ls st) : Go l Z y code ml ret R Q k n h pc Ls (.int (XT.cmpL x z) :: st) := by
  subst h2
  by_cases hc : ¬ z < x
  · exact (g1 hc).pure fun p e s m args below meth c K T L k' n' X hT t r => XS.ifYes X.here K.1 rfl rfl (hb K.2.1 hd) rfl (XT.ll_le_t hc) ho h1 r
  · exact (g2 (by first | exact hc | exact Decidable.not_not.mp hc)).pure fun p e s m args below meth c K T L k' n' X hT t r => XS.ifNo X.here K.1 rfl (hb K.2.1 hd) rfl (XT.ll_le_f (by first | exact hc | exact Decidable.not_not.mp hc)) r
theorem if0_eq_t {x : Int32} (h : x = 0) : ifCond.holds .eq x = true := by
  have e : ifCond.holds .eq x = if_icmp.holds .eq x 0 := rfl
  rw [e]; exact XT.ii_eq_t h
theorem if0_eq_f {x : Int32} (h : ¬ x = 0) : ifCond.holds .eq x = false := by
  have e : ifCond.holds .eq x = if_icmp.holds .eq x 0 := rfl
  rw [e]; exact XT.ii_eq_f h
theorem Go.if_eq {o : Int} {x : Int32} (q1 q2 : Nat) (hd : decode code pc = .ok (.ifCond .eq o, 3)) (ho : 0 ≤ (pc : Int) + o) (h1 : ((pc : Int) + o).toNat = q1) (h2 : pc + 3 = q2) (g1 : x = 0 → Go l Z y code ml ret R Q k n h q1 Ls st) (g2 : ¬ x = 0 → Go l Z y code ml ret R Q k n h q2 Ls st) : Go l Z y code ml ret R Q k n h pc Ls (.int x :: st) := by
  subst h2
  by_cases hc : x = 0
  · exact (g1 hc).pure fun p e s m args below meth c K T L k' n' X hT t r => XS.ifYes X.here K.1 rfl rfl (hb K.2.1 hd) rfl (if0_eq_t hc) ho h1 r
  · exact (g2 (by first | exact hc | exact Decidable.not_not.mp hc)).pure fun p e s m args below meth c K T L k' n' X hT t r => XS.ifNo X.here K.1 rfl (hb K.2.1 hd) rfl (if0_eq_f (by first | exact hc | exact Decidable.not_not.mp hc)) r
theorem if0_ne_t {x : Int32} (h : ¬ x = 0) : ifCond.holds .ne x = true := by
  have e : ifCond.holds .ne x = if_icmp.holds .ne x 0 := rfl
  rw [e]; exact XT.ii_ne_t h
theorem if0_ne_f {x : Int32} (h : x = 0) : ifCond.holds .ne x = false := by
  have e : ifCond.holds .ne x = if_icmp.holds .ne x 0 := rfl
  rw [e]; exact XT.ii_ne_f h
theorem Go.if_ne {o : Int} {x : Int32} (q1 q2 : Nat) (hd : decode code pc = .ok (.ifCond .ne o, 3)) (ho : 0 ≤ (pc : Int) + o) (h1 : ((pc : Int) + o).toNat = q1) (h2 : pc + 3 = q2) (g1 : ¬ x = 0 → Go l Z y code ml ret R Q k n h q1 Ls st) (g2 : x = 0 → Go l Z y code ml ret R Q k n h q2 Ls st) : Go l Z y code ml ret R Q k n h pc Ls (.int x :: st) := by
  subst h2
  by_cases hc : ¬ x = 0
  · exact (g1 hc).pure fun p e s m args below meth c K T L k' n' X hT t r => XS.ifYes X.here K.1 rfl rfl (hb K.2.1 hd) rfl (if0_ne_t hc) ho h1 r
  · exact (g2 (by first | exact hc | exact Decidable.not_not.mp hc)).pure fun p e s m args below meth c K T L k' n' X hT t r => XS.ifNo X.here K.1 rfl (hb K.2.1 hd) rfl (if0_ne_f (by first | exact hc | exact Decidable.not_not.mp hc)) r
theorem if0_lt_t {x : Int32} (h : x < 0) : ifCond.holds .lt x = true := by
  have e : ifCond.holds .lt x = if_icmp.holds .lt x 0 := rfl
  rw [e]; exact XT.ii_lt_t h
theorem if0_lt_f {x : Int32} (h : ¬ x < 0) : ifCond.holds .lt x = false := by
  have e : ifCond.holds .lt x = if_icmp.holds .lt x 0 := rfl
  rw [e]; exact XT.ii_lt_f h
theorem Go.if_lt {o : Int} {x : Int32} (q1 q2 : Nat) (hd : decode code pc = .ok (.ifCond .lt o, 3)) (ho : 0 ≤ (pc : Int) + o) (h1 : ((pc : Int) + o).toNat = q1) (h2 : pc + 3 = q2) (g1 : x < 0 → Go l Z y code ml ret R Q k n h q1 Ls st) (g2 : ¬ x < 0 → Go l Z y code ml ret R Q k n h q2 Ls st) : Go l Z y code ml ret R Q k n h pc Ls (.int x :: st) := by
  subst h2
  by_cases hc : x < 0
  · exact (g1 hc).pure fun p e s m args below meth c K T L k' n' X hT t r => XS.ifYes X.here K.1 rfl rfl (hb K.2.1 hd) rfl (if0_lt_t hc) ho h1 r
  · exact (g2 (by first | exact hc | exact Decidable.not_not.mp hc)).pure fun p e s m args below meth c K T L k' n' X hT t r => XS.ifNo X.here K.1 rfl (hb K.2.1 hd) rfl (if0_lt_f (by first | exact hc | exact Decidable.not_not.mp hc)) r
theorem if0_ge_t {x : Int32} (h : ¬ x < 0) : ifCond.holds .ge x = true := by
  have e : ifCond.holds .ge x = if_icmp.holds .ge x 0 := rfl
  rw [e]; exact XT.ii_ge_t h
theorem if0_ge_f {x : Int32} (h : x < 0) : ifCond.holds .ge x = false := by
  have e : ifCond.holds .ge x = if_icmp.holds .ge x 0 := rfl
  rw [e]; exact XT.ii_ge_f h
theorem Go.if_ge {o : Int} {x : Int32} (q1 q2 : Nat) (hd : decode code pc = .ok (.ifCond .ge o, 3)) (ho : 0 ≤ (pc : Int) + o) (h1 : ((pc : Int) + o).toNat = q1) (h2 : pc + 3 = q2) (g1 : ¬ x < 0 → Go l Z y code ml ret R Q k n h q1 Ls st) (g2 : x < 0 → Go l Z y code ml ret R Q k n h q2 Ls st) : Go l Z y code ml ret R Q k n h pc Ls (.int x :: st) := by
  subst h2
  by_cases hc : ¬ x < 0
  · exact (g1 hc).pure fun p e s m args below meth c K T L k' n' X hT t r => XS.ifYes X.here K.1 rfl rfl (hb K.2.1 hd) rfl (if0_ge_t hc) ho h1 r
  · exact (g2 (by first | exact hc | exact Decidable.not_not.mp hc)).pure fun p e s m args below meth c K T L k' n' X hT t r => XS.ifNo X.here K.1 rfl (hb K.2.1 hd) rfl (if0_ge_f (by first | exact hc | exact Decidable.not_not.mp hc)) r
theorem if0_gt_t {x : Int32} (h : 0 < x) : ifCond.holds .gt x = true := by
  have e : ifCond.holds .gt x = if_icmp.holds .gt x 0 := rfl
  rw [e]; exact XT.ii_gt_t h
theorem if0_gt_f {x : Int32} (h : ¬ 0 < x) : ifCond.holds .gt x = false := by
  have e : ifCond.holds .gt x = if_icmp.holds .gt x 0 := rfl
  rw [e]; exact XT.ii_gt_f h
theorem Go.if_gt {o : Int} {x : Int32} (q1 q2 : Nat) (hd : decode code pc = .ok (.ifCond .gt o, 3)) (ho : 0 ≤ (pc : Int) + o) (h1 : ((pc : Int) + o).toNat = q1) (h2 : pc + 3 = q2) (g1 : 0 < x → Go l Z y code ml ret R Q k n h q1 Ls st) (g2 : ¬ 0 < x → Go l Z y code ml ret R Q k n h q2 Ls st) : Go l Z y code ml ret R Q k n h pc Ls (.int x :: st) := by
  subst h2
  by_cases hc : 0 < x
  · exact (g1 hc).pure fun p e s m args below meth c K T L k' n' X hT t r => XS.ifYes X.here K.1 rfl rfl (hb K.2.1 hd) rfl (if0_gt_t hc) ho h1 r
  · exact (g2 (by first | exact hc | exact Decidable.not_not.mp hc)).pure fun p e s m args below meth c K T L k' n' X hT t r => XS.ifNo X.here K.1 rfl (hb K.2.1 hd) rfl (if0_gt_f (by first | exact hc | exact Decidable.not_not.mp hc)) r
theorem if0_le_t {x : Int32} (h : ¬ 0 < x) : ifCond.holds .le x = true := by
  have e : ifCond.holds .le x = if_icmp.holds .le x 0 := rfl
  rw [e]; exact XT.ii_le_t h
theorem if0_le_f {x : Int32} (h : 0 < x) : ifCond.holds .le x = false := by
  have e : ifCond.holds .le x = if_icmp.holds .le x 0 := rfl
  rw [e]; exact XT.ii_le_f h
theorem Go.if_le {o : Int} {x : Int32} (q1 q2 : Nat) (hd : decode code pc = .ok (.ifCond .le o, 3)) (ho : 0 ≤ (pc : Int) + o) (h1 : ((pc : Int) + o).toNat = q1) (h2 : pc + 3 = q2) (g1 : ¬ 0 < x → Go l Z y code ml ret R Q k n h q1 Ls st) (g2 : 0 < x → Go l Z y code ml ret R Q k n h q2 Ls st) : Go l Z y code ml ret R Q k n h pc Ls (.int x :: st) := by
  subst h2
  by_cases hc : ¬ 0 < x
  · exact (g1 hc).pure fun p e s m args below meth c K T L k' n' X hT t r => XS.ifYes X.here K.1 rfl rfl (hb K.2.1 hd) rfl (if0_le_t hc) ho h1 r
  · exact (g2 (by first | exact hc | exact Decidable.not_not.mp hc)).pure fun p e s m args below meth c K T L k' n' X hT t r => XS.ifNo X.here K.1 rfl (hb K.2.1 hd) rfl (if0_le_f (by first | exact hc | exact Decidable.not_not.mp hc)) r
theorem Go.ifnull_no {o : Int} {b : Addr} (q : Nat) (hd : decode code pc = .ok (.ifnull o, 3)) (hq : pc + 3 = q) (g : Go l Z y code ml ret R Q k n h q Ls st) : Go l Z y code ml ret R Q k n h pc Ls (.ref b :: st) := by
  subst hq; exact g.pure fun p e s m args below meth c K T L k' n' X hT t r => XS.ifnullNo X.here K.1 rfl (hb K.2.1 hd) rfl r
theorem Go.ifnull_yes {o : Int} (q : Nat) (hd : decode code pc = .ok (.ifnull o, 3)) (ho : 0 ≤ (pc : Int) + o) (hq : ((pc : Int) + o).toNat = q) (g : Go l Z y code ml ret R Q k n h q Ls st) : Go l Z y code ml ret R Q k n h pc Ls (.null :: st) :=
  g.pure fun p e s m args below meth c K T L k' n' X hT t r => XS.ifnullYes X.here K.1 rfl rfl (hb K.2.1 hd) rfl ho hq r
theorem Go.ifnonnull_yes {o : Int} {b : Addr} (q : Nat) (hd : decode code pc = .ok (.ifnonnull o, 3)) (ho : 0 ≤ (pc : Int) + o) (hq : ((pc : Int) + o).toNat = q) (g : Go l Z y code ml ret R Q k n h q Ls st) : Go l Z y code ml ret R Q k n h pc Ls (.ref b :: st) :=
  g.pure fun p e s m args below meth c K T L k' n' X hT t r => XT.ifnonnullYes X.here K.1 rfl rfl (hb K.2.1 hd) rfl ho hq r
theorem Go.ifnonnull_no {o : Int} (q : Nat) (hd : decode code pc = .ok (.ifnonnull o, 3)) (hq : pc + 3 = q) (g : Go l Z y code ml ret R Q k n h q Ls st) : Go l Z y code ml ret R Q k n h pc Ls (.null :: st) := by
  subst hq; exact g.pure fun p e s m args below meth c K T L k' n' X hT t r => XT.ifnonnullNo X.here K.1 rfl (hb K.2.1 hd) rfl r
theorem Go.acmp {cd : ACond} {o : Int} {x z : Value} (q : Nat) (same : Bool) (hd : decode code pc = .ok (.if_acmp cd o, 3)) (h1 : x.isRef = true) (h2 : z.isRef = true) (hs : decide (x = z) = same) (ho : 0 ≤ (pc : Int) + o) (hq : q = if acV cd same = true then ((pc : Int) + o).toNat else pc + 3) (g : Go l Z y code ml ret R Q k n h q Ls st) : Go l Z y code ml ret R Q k n h pc Ls (z :: x :: st) :=
  g.pure fun p e s m args below meth c K T L k' n' X hT t r => Jvm.RoadKit.acmp X K.1 rfl h1 h2 rfl (hb K.2.1 hd) rfl hs ho hq r
theorem Go.acmp_eq {o : Int} {x z : Addr} (q1 q2 : Nat) (hd : decode code pc = .ok (.if_acmp .eq o, 3)) (ho : 0 ≤ (pc : Int) + o) (h1 : ((pc : Int) + o).toNat = q1) (h2 : pc + 3 = q2) (g1 : x = z → Go l Z y code ml ret R Q k n h q1 Ls st) (g2 : ¬ x = z → Go l Z y code ml ret R Q k n h q2 Ls st) : Go l Z y code ml ret R Q k n h pc Ls (.ref z :: .ref x :: st) := by
  subst h1 h2
  by_cases hc : x = z
  · exact Go.acmp _ true hd rfl rfl (by simp [hc]) ho rfl (by simpa [acV] using g1 hc)
  · exact Go.acmp _ false hd rfl rfl (by simp [hc]) ho rfl (by simpa [acV] using g2 hc)
theorem Go.acmp_ne {o : Int} {x z : Addr} (q1 q2 : Nat) (hd : decode code pc = .ok (.if_acmp .ne o, 3)) (ho : 0 ≤ (pc : Int) + o) (h1 : ((pc : Int) + o).toNat = q1) (h2 : pc + 3 = q2) (g1 : ¬ x = z → Go l Z y code ml ret R Q k n h q1 Ls st) (g2 : x = z → Go l Z y code ml ret R Q k n h q2 Ls st) : Go l Z y code ml ret R Q k n h pc Ls (.ref z :: .ref x :: st) := by
  subst h1 h2
  by_cases hc : x = z
  · exact Go.acmp _ true hd rfl rfl (by simp [hc]) ho rfl (by simpa [acV] using g2 hc)
  · exact Go.acmp _ false hd rfl rfl (by simp [hc]) ho rfl (by simpa [acV] using g1 hc)

theorem Go.retV {w : Value} {t : FieldType} {i : Instr} (hd : decode code pc = .ok (i, 1)) (hret : ret = some t) (hn : narrow t w = w)
    (hi : (i = .ireturn ∧ (t = .int ∨ t = .boolean ∨ t = .byte ∨ t = .char ∨ t = .short) ∧ ∃ z, w = .int z) ∨ (i = .lreturn ∧ t = .long ∧ ∃ z, w = .long z) ∨ (i = .dreturn ∧ t = .double ∧ ∃ z, w = .double z) ∨ (i = .freturn ∧ t = .float ∧ ∃ z, w = .float z) ∨ (i = .areturn ∧ t.isReference = true ∧ w.isRef = true))
    (hk : k ≤ R.cells) (hN : n ≤ R.slots) (hQ : Q (some w) h) : Go l Z y code ml ret R Q k n h pc Ls (w :: st) := by
  intro p e s m args below meth c K T L k' n' X h1 h2 N hT
  refine ⟨some w, T, L, k', n', X, Nat.le_trans h1 hk, Nat.le_trans h2 hN, N, hT ▸ hQ, fun e => ?_, fun fs hl => ?_⟩
  · rw [hret] at e; cases e
  · exact retOut X K.1 (K.2.2.2.2.2.1.trans hret) hn hi (hb K.2.1 hd) hl
theorem Go.ireturn {z : Int32} {P : Int32 → Heap → Prop} (hd : decode code pc = .ok (.ireturn, 1)) (hret : ret = some .int) (hk : k ≤ R.cells) (hN : n ≤ R.slots) (hP : P z h) : Go l Z y code ml ret R (QI P) k n h pc Ls (.int z :: st) :=
  Go.retV hd hret rfl (Or.inl ⟨rfl, Or.inl rfl, z, rfl⟩) hk hN ⟨z, rfl, hP⟩
theorem Go.lreturn {z : Int64} {P : Int64 → Heap → Prop} (hd : decode code pc = .ok (.lreturn, 1)) (hret : ret = some .long) (hk : k ≤ R.cells) (hN : n ≤ R.slots) (hP : P z h) : Go l Z y code ml ret R (QJ P) k n h pc Ls (.long z :: st) :=
  Go.retV hd hret rfl (Or.inr (Or.inl ⟨rfl, rfl, z, rfl⟩)) hk hN ⟨z, rfl, hP⟩
theorem Go.areturn {z : Value} {t : FieldType} {P : Value → Heap → Prop} (hd : decode code pc = .ok (.areturn, 1)) (hret : ret = some t) (ht : t.isReference = true) (hz : z.isRef = true) (hk : k ≤ R.cells) (hN : n ≤ R.slots) (hP : P z h) : Go l Z y code ml ret R (QR P) k n h pc Ls (z :: st) := by
  refine Go.retV hd hret ?_ (Or.inr (Or.inr (Or.inr (Or.inr ⟨rfl, ht, hz⟩)))) hk hN ⟨z, rfl, hP⟩
  cases t <;> cases z <;> first | rfl | (simp [Value.isRef] at hz)
/-- a boolean, byte, char or short: narrowed -/
theorem Go.nreturn {z z' : Int32} {t : FieldType} {P : Int32 → Heap → Prop} (hd : decode code pc = .ok (.ireturn, 1)) (hret : ret = some t) (ht : t = .boolean ∨ t = .byte ∨ t = .char ∨ t = .short) (hz : nar t z = z') (hk : k ≤ R.cells) (hN : n ≤ R.slots) (hP : P z' h) : Go l Z y code ml ret R (QI P) k n h pc Ls (.int z :: st) := by
  subst hz
  intro p e s m args below meth c K T L k' n' X h1 h2 N hT
  refine ⟨some (.int (nar t z)), T, L, k', n', X, Nat.le_trans h1 hk, Nat.le_trans h2 hN, N, ⟨_, rfl, hT ▸ hP⟩, fun e => ?_, fun fs hl => ?_⟩
  · rw [hret] at e; cases e
  · exact retN X K.1 (K.2.2.2.2.2.1.trans hret) ht (hb K.2.1 hd) hl
theorem Go.vreturn {P : Heap → Prop} (hd : decode code pc = .ok (.return_, 1)) (hret : ret = none) (hk : k ≤ R.cells) (hN : n ≤ R.slots) (hP : P h) : Go l Z y code ml ret R (QV P) k n h pc Ls [] := by
  intro p e s m args below meth c K T L k' n' X h1 h2 N hT
  exact ⟨none, T, L, k', n', X, Nat.le_trans h1 hk, Nat.le_trans h2 hN, N, ⟨rfl, hT ▸ hP⟩, fun _ => rfl, fun fs hl => X.returnOut K.1 (K.2.2.2.2.2.1.trans hret) (hb K.2.1 hd) hl⟩
/-- the whole body, as a contract -/
theorem Go.met {as' : Array Value} (hx : plainFor y = true) (hent : ∀ m, entryFrame m as' ml = mkF m 0 Ls []) (G : Go l Z y code ml ret R Q 0 0 h 0 Ls []) (ws : List Jvm.Cond) :
    MetFree l y (head1 (Jvm.Cond.code y code ml ret :: ws) R) (fun a U => a = as' ∧ Z.Warmed39 U.vm ∧ U.heap = h) (fun _ _ _ _ _ => True) (fun _ U o U' => ∃ v L, o = .returned v ∧ (Q v U'.heap ∧ Fr Z.heap.size L) ∧ FrameEnd U o U' L R.cells R.slots) := by
  refine MetFree.of_bodySF hx hisR ?_
  intro p e s m args below meth c s₁ Bd hml hP hK
  obtain ⟨rfl, hZ, hh⟩ := hP
  have X0 : Stand p l e R s m args below meth c s₁ [] 0 0 := Stand.of_body Bd
  have e0 : s₁.heap = h := by rw [← hh, Bd.state]; rfl
  have hnm := (name_of_methodNamed Bd.named Bd.method).1
  obtain ⟨v, T', L', k'', n'', X', b1, b2, N', q, hv, stp⟩ := G p e s m args below meth c ⟨Bd.exec, Bd.bytes, hZ, findClass_of_methodNamed Bd.named, hml, Bd.returns, Bd.notSynchronized, hnm⟩ s₁ [] 0 0 X0 (Nat.le_refl _) (Nat.le_refl _) (Fr.nil _) e0
  obtain ⟨fs, hr, hrun, hended, hW, hsame⟩ := X'.leave (v := v) (fun hh => hv (by rw [← Bd.returns]; exact hh))
  refine ⟨_, _, castTop (hent m) (stp fs hr), hrun, hended, v, L', rfl, ⟨q, N'⟩, ⟨_, rfl⟩, hW, hsame.mono b1 b2⟩


theorem Go.getfield {i : Nat} {O nm d : String} {a : Addr} {v : Value} (q : Nat) (hd : decode code pc = .ok (.getfield i, 3)) (w : (Cond.fieldLink y.cls i O nm d).before a0 Z = true) (F : Fld Z h a O nm d v) (hq : pc + 3 = q) (g : Go l Z y code ml ret R Q k n h q Ls (v :: st)) : Go l Z y code ml ret R Q k n h pc Ls (.ref a :: st) := by
  subst hq
  refine Go.move (P := fun h' => h' = h) (kk := k) (nn := n) (fun h' e => e ▸ g) ?_
  intro p e s m args below meth c K T L k' n' X h1 h2 N hT
  obtain ⟨T', X', e', s'⟩ := getF X K.1 K.2.2.1 K.2.2.2.1 (host := "") (Or.inl w) Via.refl hT F (g := mkF m pc Ls (.ref a :: st)) rfl rfl (hb K.2.1 hd)
  exact ⟨T', L, k', n', X', h1, h2, N, e', s'⟩
theorem Go.getfieldN {i : Nat} {O nm d host : String} {a : Addr} {v : Value} (q : Nat) (hd : decode code pc = .ok (.getfield i, 3)) (w : (Cond.fieldLinkNest y.cls i O nm d host).before a0 Z = true) (F : Fld Z h a O nm d v) (hq : pc + 3 = q) (g : Go l Z y code ml ret R Q k n h q Ls (v :: st)) : Go l Z y code ml ret R Q k n h pc Ls (.ref a :: st) := by
  subst hq
  refine Go.move (P := fun h' => h' = h) (kk := k) (nn := n) (fun h' e => e ▸ g) ?_
  intro p e s m args below meth c K T L k' n' X h1 h2 N hT
  obtain ⟨T', X', e', s'⟩ := getF X K.1 K.2.2.1 K.2.2.2.1 (host := host) (Or.inr w) Via.refl hT F (g := mkF m pc Ls (.ref a :: st)) rfl rfl (hb K.2.1 hd)
  exact ⟨T', L, k', n', X', h1, h2, N, e', s'⟩
theorem Go.getfieldU {i : Nat} {R0 O nm d : String} {a : Addr} {v : Value} (q : Nat) (hd : decode code pc = .ok (.getfield i, 3)) (w : (Cond.fieldLink y.cls i R0 nm d).before a0 Z = true) (via : Via Z R0 O nm d) (F : Fld Z h a O nm d v) (hq : pc + 3 = q) (g : Go l Z y code ml ret R Q k n h q Ls (v :: st)) : Go l Z y code ml ret R Q k n h pc Ls (.ref a :: st) := by
  subst hq
  refine Go.move (P := fun h' => h' = h) (kk := k) (nn := n) (fun h' e => e ▸ g) ?_
  intro p e s m args below meth c K T L k' n' X h1 h2 N hT
  obtain ⟨T', X', e', s'⟩ := getF X K.1 K.2.2.1 K.2.2.2.1 (host := "") (Or.inl w) via hT F (g := mkF m pc Ls (.ref a :: st)) rfl rfl (hb K.2.1 hd)
  exact ⟨T', L, k', n', X', h1, h2, N, e', s'⟩
theorem Go.getstatic {i : Nat} {O nm d : String} {v : Value} (q : Nat) (hd : decode code pc = .ok (.getstatic i, 3)) (w : (Cond.fieldLink y.cls i O nm d).before a0 Z = true) (F : Sta Z h O nm d v) (hq : pc + 3 = q) (g : Go l Z y code ml ret R Q k n h q Ls (v :: st)) : Go l Z y code ml ret R Q k n h pc Ls st := by
  subst hq
  refine Go.move (P := fun h' => h' = h) (kk := k) (nn := n) (fun h' e => e ▸ g) ?_
  intro p e s m args below meth c K T L k' n' X h1 h2 N hT
  obtain ⟨T', X', e', s'⟩ := getS X K.1 K.2.2.1 (host := "") K.2.2.2.1 w Via.refl hT F (g := mkF m pc Ls st) rfl (hb K.2.1 hd)
  exact ⟨T', L, k', n', X', h1, h2, N, e', s'⟩
theorem Go.putfield {i kk : Nat} {C O nm d : String} {ty : FieldType} {a : Addr} {v old : Value} (q : Nat) (hd : decode code pc = .ok (.putfield i, 3)) (w : (Cond.fieldLink y.cls i O nm d).before a0 Z = true) (F : Fld Z h a O nm d old) (E : Exa Z h a C) (hL : (Cond.lays C O nm d).before a0 Z = true ∨ ((Cond.laysFinal C O nm d).before a0 Z = true ∧ y.cls = O ∧ y.name = "<init>"))
    (wi : (Cond.instantiable C kk).before a0 Z = true) (hty : parseFieldDescriptor d = some ty) (hn : narrow ty v = v) (hf : fits ty v = true) (hge : Z.heap.size ≤ a) (hq : pc + 3 = q)
    (g : ∀ h', Wr h h' a (Jvm.RoadKit.slotOf Z O nm d) v → Go l Z y code ml ret R Q k n h' q Ls st) : Go l Z y code ml ret R Q k n h pc Ls (v :: .ref a :: st) := by
  subst hq
  refine Go.move (P := fun h' => Wr h h' a (Jvm.RoadKit.slotOf Z O nm d) v) (kk := k) (nn := n) g ?_
  intro p e s m args below meth c K T L k' n' X h1 h2 N hT
  obtain ⟨T', h', X', e', W', s'⟩ := putF X K.1 K.2.2.1 K.2.2.2.1 (host := "") (Or.inl w) Via.refl hT F E (hL.imp id fun ⟨a1, a2, a3⟩ => ⟨a1, a2, K.2.2.2.2.2.2.2.trans a3⟩) wi hty hn hf (g := mkF m pc Ls (v :: .ref a :: st)) rfl rfl (hb K.2.1 hd)
  exact ⟨T', _, k', n', X', h1, h2, Fr.snoc X' N hge, e' ▸ W', s'⟩
theorem Go.putfieldU {i kk : Nat} {R0 C O nm d : String} {ty : FieldType} {a : Addr} {v old : Value} (q : Nat) (hd : decode code pc = .ok (.putfield i, 3)) (w : (Cond.fieldLink y.cls i R0 nm d).before a0 Z = true) (via : Via Z R0 O nm d) (F : Fld Z h a O nm d old) (E : Exa Z h a C) (hL : (Cond.lays C O nm d).before a0 Z = true ∨ ((Cond.laysFinal C O nm d).before a0 Z = true ∧ y.cls = O ∧ y.name = "<init>"))
    (wi : (Cond.instantiable C kk).before a0 Z = true) (hty : parseFieldDescriptor d = some ty) (hn : narrow ty v = v) (hf : fits ty v = true) (hge : Z.heap.size ≤ a) (hq : pc + 3 = q)
    (g : ∀ h', Wr h h' a (Jvm.RoadKit.slotOf Z O nm d) v → Go l Z y code ml ret R Q k n h' q Ls st) : Go l Z y code ml ret R Q k n h pc Ls (v :: .ref a :: st) := by
  subst hq
  refine Go.move (P := fun h' => Wr h h' a (Jvm.RoadKit.slotOf Z O nm d) v) (kk := k) (nn := n) g ?_
  intro p e s m args below meth c K T L k' n' X h1 h2 N hT
  obtain ⟨T', h', X', e', W', s'⟩ := putF X K.1 K.2.2.1 K.2.2.2.1 (host := "") (Or.inl w) via hT F E (hL.imp id fun ⟨a1, a2, a3⟩ => ⟨a1, a2, K.2.2.2.2.2.2.2.trans a3⟩) wi hty hn hf (g := mkF m pc Ls (v :: .ref a :: st)) rfl rfl (hb K.2.1 hd)
  exact ⟨T', _, k', n', X', h1, h2, Fr.snoc X' N hge, e' ▸ W', s'⟩
/-- a field that narrows (boolean, byte, char, short) -/
theorem Go.putfieldN {i kk : Nat} {C O nm d : String} {ty : FieldType} {a : Addr} {v v' old : Value} (q : Nat) (hd : decode code pc = .ok (.putfield i, 3)) (w : (Cond.fieldLink y.cls i O nm d).before a0 Z = true) (F : Fld Z h a O nm d old) (E : Exa Z h a C) (hL : (Cond.lays C O nm d).before a0 Z = true ∨ ((Cond.laysFinal C O nm d).before a0 Z = true ∧ y.cls = O ∧ y.name = "<init>"))
    (wi : (Cond.instantiable C kk).before a0 Z = true) (hty : parseFieldDescriptor d = some ty) (hn : narrow ty v = v') (hf : fits ty v' = true) (hge : Z.heap.size ≤ a) (hq : pc + 3 = q)
    (g : ∀ h', Wr h h' a (Jvm.RoadKit.slotOf Z O nm d) v' → Go l Z y code ml ret R Q k n h' q Ls st) : Go l Z y code ml ret R Q k n h pc Ls (v :: .ref a :: st) := by
  subst hq
  refine Go.move (P := fun h' => Wr h h' a (Jvm.RoadKit.slotOf Z O nm d) v') (kk := k) (nn := n) g ?_
  intro p e s m args below meth c K T L k' n' X h1 h2 N hT
  obtain ⟨T', h', X', e', W', s'⟩ := putFN X K.1 K.2.2.1 K.2.2.2.1 w Via.refl hT F E (hL.imp id fun ⟨a1, a2, a3⟩ => ⟨a1, a2, K.2.2.2.2.2.2.2.trans a3⟩) wi hty hn hf (g := mkF m pc Ls (v :: .ref a :: st)) rfl rfl (hb K.2.1 hd)
  exact ⟨T', _, k', n', X', h1, h2, Fr.snoc X' N hge, e' ▸ W', s'⟩
theorem Go.new {i sz : Nat} {C : String} (q : Nat) (hd : decode code pc = .ok (.new i, 3)) (w : (Cond.classLink y.cls i C).before a0 Z = true) (wi : (Cond.instantiable C sz).before a0 Z = true) (wz : (Cond.initialized C).before a0 Z = true) (hk : k + 1 ≤ R.cells) (hN : n + sz ≤ R.slots) (hq : pc + 3 = q)
    (g : ∀ (a : Addr) h', a = h.size → Ext h h' → Exa Z h' a C → (∀ {O nm d : String} {ty : FieldType}, Laid Z a0 C O nm d → parseFieldDescriptor d = some ty → Fld Z h' a O nm d (defaultValue ty)) → Go l Z y code ml ret R Q (k + 1) (n + sz) h' q Ls (.ref a :: st)) : Go l Z y code ml ret R Q k n h pc Ls st := by
  subst hq
  refine Go.move (P := fun h' => Ext h h' ∧ Exa Z h' h.size C ∧ (∀ {O nm d : String} {ty : FieldType}, Laid Z a0 C O nm d → parseFieldDescriptor d = some ty → Fld Z h' h.size O nm d (defaultValue ty))) (kk := k + 1) (nn := n + sz) (fun h' p => g h.size h' rfl p.1 p.2.1 p.2.2) ?_
  intro p e s m args below meth c K T L k' n' X h1 h2 N hT
  obtain ⟨T', h', X', e', E', A', D', -, s'⟩ := newO X K.1 K.2.2.1 K.2.2.2.1 w wi wz hT (g := mkF m pc Ls st) rfl (hb K.2.1 hd) (Nat.le_trans (Nat.add_le_add_right h1 1) hk) (Nat.le_trans (Nat.add_le_add_right h2 sz) hN)
  subst e'
  exact ⟨T', L, k' + 1, n' + sz, X', Nat.add_le_add_right h1 1, Nat.add_le_add_right h2 sz, N, ⟨E', A', D'⟩, s'⟩
theorem Go.initO {i : Nat} {a : Addr} (W : Nat) (q : Nat) (hd : decode code pc = .ok (.invokespecial i, 3)) (w1 : (Cond.methodLink y.cls i Lib.objectInit).before a0 Z = true) (w2 : (Cond.instanceMethod Lib.objectInit).before a0 Z = true) (w3 : (Cond.code Lib.objectInit ⟨#[0xb1]⟩ 1 none).before a0 Z = true)
    (hsz : Ls.size = ml) (hf : 1 ≤ R.frames) (hW : (st.map fun v => v.category).sum ≤ W) (hl : W + 12 ≤ R.locals) (hq : pc + 3 = q) (g : Go l Z y code ml ret R Q k n h q Ls st) : Go l Z y code ml ret R Q k n h pc Ls (.ref a :: st) := by
  subst hq
  refine Go.move (P := fun h' => h' = h) (kk := k) (nn := n) (fun h' e => e ▸ g) ?_
  intro p e s m args below meth c K T L k' n' X h1 h2 N hT
  obtain ⟨T', X', e', s'⟩ := Jvm.RoadKit.initO X K.1 K.2.2.1 K.2.2.2.1 w1 w2 w3 hT (g := mkF m pc Ls (.ref a :: st)) rfl (hsz.trans K.2.2.2.2.1.symm) rfl (hb K.2.1 hd) hf (W := W) (by show 2 * 0 + _ ≤ _; rw [Nat.mul_zero, Nat.zero_add]; exact hW) hl
  exact ⟨T', L, k', n', X', h1, h2, N, e', s'⟩


section Calls
variable {y' : MethodName} {code' : ByteArray} {ml' : Nat} {ret' : Option FieldType} {R' : Room} {Q' : Option Value → Heap → Prop} {Ls' : Array Slot} {i W : Nat}
theorem Go.callS (argsL : List Value) (rest : List Value) (q : Nat) (hd : decode code pc = .ok (.invokestatic i, 3)) (w1 : (Cond.methodLink y.cls i y').before a0 Z = true) (w2 : (Cond.static y').before a0 Z = true) (w3 : (Cond.initialized y'.cls).before a0 Z = true) (w4 : (Cond.code y' code' ml' ret').before a0 Z = true)
    (hpl : plainFor y' = true) (hy : y'.cls ≠ "java/lang/invoke/MethodHandle" ∧ y'.cls ≠ "java/lang/invoke/VarHandle") (hlen : ∀ sig, parseMethodDescriptor y'.desc = some sig → argsL.length = sig.parameters.length) (hst : st = argsL.reverse ++ rest) (hent : ∀ m, entryFrame m argsL.toArray ml' = mkF m 0 Ls' [])
    (G : Go l Z y' code' ml' ret' R' Q' 0 0 h 0 Ls' []) (W : Nat) (hsz : Ls.size = ml) (hW : (rest.map fun v => v.category).sum ≤ W) (hf : R'.frames + 1 ≤ R.frames) (hl : W + (ml' + 11) + R'.locals ≤ R.locals) (hk : k + R'.cells ≤ R.cells) (hN : n + R'.slots ≤ R.slots) (hq : pc + 3 = q)
    (g : ∀ v h', Q' v h' → Go l Z y code ml ret R Q (k + R'.cells) (n + R'.slots) h' q Ls (v.toList ++ rest)) : Go l Z y code ml ret R Q k n h pc Ls st := by
  subst hq
  intro p e s m args below meth c K T L k' n' X h1 h2 N hT
  obtain ⟨v, vm₁, ⟨T', L', k'', n''⟩, -, X', ⟨Lc, ⟨hQ, N'⟩, e1, e2, e3⟩, s'⟩ := Jvm.LawKit.callS X K.1 K.2.2.2.1 (mvT K.2.2.1 w1) (mvT K.2.2.1 w2) (mvT K.2.2.1 w3) (mvT K.2.2.1 w4) hy (backOf (W := W) (Q := fun v h L => Q' v h ∧ Fr Z.heap.size L) (Go.met hpl hent G []) K.2.2.1 w4 w3 hf hl) (g := mkF m pc Ls st) rfl (hsz.trans K.2.2.2.2.1.symm) (argsL := argsL) (rest := rest) hlen hst (by show 2 * 0 + _ ≤ _; rw [Nat.mul_zero, Nat.zero_add]; exact hW) (hb K.2.1 hd) (fun _ _ => ⟨rfl, hT, Nat.le_trans (Nat.add_le_add_right h1 _) hk, Nat.le_trans (Nat.add_le_add_right h2 _) hN⟩)
  dsimp only [Pt.U, Pt.locs, Pt.cells, Pt.slots] at X' e1 e2 e3 s' hQ
  subst e1 e2 e3
  obtain ⟨v2, T2, L2, k2, n2, X2, b1, b2, N2, q2, hv, stp⟩ := g v _ hQ p e s m args below meth c K T' _ _ _ X' (Nat.add_le_add_right h1 _) (Nat.add_le_add_right h2 _) (Fr.app N N') rfl
  exact ⟨v2, T2, L2, k2, n2, X2, b1, b2, N2, q2, hv, fun fs hl => s' _ (stp fs hl)⟩
theorem Go.callC {a : Addr} (argsL : List Value) (rest : List Value) (q : Nat) (hd : decode code pc = .ok (.invokespecial i, 3)) (hy1 : y'.name = "<init>") (w1 : (Cond.methodLink y.cls i y').before a0 Z = true) (w2 : (Cond.instanceMethod y').before a0 Z = true) (w3 : (Cond.initialized y'.cls).before a0 Z = true) (w4 : (Cond.code y' code' ml' none).before a0 Z = true)
    (hpl : plainFor y' = true) (hy : y'.cls ≠ "java/lang/invoke/MethodHandle" ∧ y'.cls ≠ "java/lang/invoke/VarHandle") (hlen : ∀ sig, parseMethodDescriptor y'.desc = some sig → argsL.length = sig.parameters.length) (hst : st = argsL.reverse ++ .ref a :: rest) (hent : ∀ m, entryFrame m (.ref a :: argsL).toArray ml' = mkF m 0 Ls' [])
    (P' : Heap → Prop) (G : Go l Z y' code' ml' none R' (QV P') 0 0 h 0 Ls' []) (W : Nat) (hsz : Ls.size = ml) (hW : (rest.map fun v => v.category).sum ≤ W) (hf : R'.frames + 1 ≤ R.frames) (hl : W + (ml' + 11) + R'.locals ≤ R.locals) (hk : k + R'.cells ≤ R.cells) (hN : n + R'.slots ≤ R.slots) (hq : pc + 3 = q)
    (g : ∀ h', P' h' → Go l Z y code ml ret R Q (k + R'.cells) (n + R'.slots) h' q Ls rest) : Go l Z y code ml ret R Q k n h pc Ls st := by
  subst hq
  intro p e s m args below meth c K T L k' n' X h1 h2 N hT
  obtain ⟨v, vm₁, ⟨T', L', k'', n''⟩, -, X', ⟨Lc, ⟨⟨rfl, hQ⟩, N'⟩, e1, e2, e3⟩, s'⟩ := X.specialBack K.1 hy1 K.2.2.2.1 (mvT K.2.2.1 w1) (mvT K.2.2.1 w2) (mvT K.2.2.1 w4) hy (backOf (W := W) (Q := fun v h L => QV P' v h ∧ Fr Z.heap.size L) (Go.met hpl hent G []) K.2.2.1 w4 w3 hf hl) (g := mkF m pc Ls st) rfl (hsz.trans K.2.2.2.2.1.symm) (Steps.refl _) (a := a) (argsL := argsL) (rest := rest) hlen hst (by show 2 * 0 + _ ≤ _; rw [Nat.mul_zero, Nat.zero_add]; exact hW) (hb K.2.1 hd) (fun _ _ => ⟨rfl, hT, Nat.le_trans (Nat.add_le_add_right h1 _) hk, Nat.le_trans (Nat.add_le_add_right h2 _) hN⟩)
  dsimp only [Pt.U, Pt.locs, Pt.cells, Pt.slots] at X' e1 e2 e3 s' hQ
  subst e1 e2 e3
  obtain ⟨v2, T2, L2, k2, n2, X2, b1, b2, N2, q2, hv, stp⟩ := g _ hQ p e s m args below meth c K T' _ _ _ X' (Nat.add_le_add_right h1 _) (Nat.add_le_add_right h2 _) (Fr.app N N') rfl
  exact ⟨v2, T2, L2, k2, n2, X2, b1, b2, N2, q2, hv, fun fs hl => s'.trans (stp fs hl)⟩
theorem Go.callV {a : Addr} {C : String} (argsL : List Value) (rest : List Value) (q : Nat) (hd : decode code pc = .ok (.invokevirtual i, 3)) (w1 : (Cond.methodLink y.cls i y').before a0 Z = true) (w1' : (Cond.declares y').before a0 Z = true) (w1s : (Cond.selects C y' y').before a0 Z = true) (w2 : (Cond.instanceMethod y').before a0 Z = true) (w3 : (Cond.initialized y'.cls).before a0 Z = true) (w4 : (Cond.code y' code' ml' ret').before a0 Z = true) (E : Exa Z h a C)
    (hpl : plainFor y' = true) (hy : y'.cls ≠ "java/lang/invoke/MethodHandle" ∧ y'.cls ≠ "java/lang/invoke/VarHandle") (hlen : ∀ sig, parseMethodDescriptor y'.desc = some sig → argsL.length = sig.parameters.length) (hst : st = argsL.reverse ++ .ref a :: rest) (hent : ∀ m, entryFrame m (.ref a :: argsL).toArray ml' = mkF m 0 Ls' [])
    (G : Go l Z y' code' ml' ret' R' Q' 0 0 h 0 Ls' []) (W : Nat) (hsz : Ls.size = ml) (hW : (rest.map fun v => v.category).sum ≤ W) (hf : R'.frames + 1 ≤ R.frames) (hl : W + (ml' + 11) + R'.locals ≤ R.locals) (hk : k + R'.cells ≤ R.cells) (hN : n + R'.slots ≤ R.slots) (hq : pc + 3 = q)
    (g : ∀ v h', Q' v h' → Go l Z y code ml ret R Q (k + R'.cells) (n + R'.slots) h' q Ls (v.toList ++ rest)) : Go l Z y code ml ret R Q k n h pc Ls st := by
  subst hq
  intro p e s m args below meth c K T L k' n' X h1 h2 N hT
  obtain ⟨cq, kq, qa, qb, qc⟩ := isOf K.2.2.1 hT E
  obtain ⟨v, vm₁, ⟨T', L', k'', n''⟩, -, X', ⟨Lc, ⟨hQ, N'⟩, e1, e2, e3⟩, s'⟩ := X.virtualBack K.1 K.2.2.2.1 (mvT K.2.2.1 w1) (mvT K.2.2.1 w1') (notFace_of_selects (args := #[]) (mvT K.2.2.1 w1s)) (mvT K.2.2.1 w1s) (mvT K.2.2.1 w2) hy (backOf (W := W) (Q := fun v h L => Q' v h ∧ Fr Z.heap.size L) (Go.met hpl hent G []) K.2.2.1 w4 w3 hf hl) qa qc (g := mkF m pc Ls st) rfl (hsz.trans K.2.2.2.2.1.symm) (Steps.refl _) (argsL := argsL) (rest := rest) hlen hst (by show 2 * 0 + _ ≤ _; rw [Nat.mul_zero, Nat.zero_add]; exact hW) (hb K.2.1 hd) (fun _ _ => ⟨rfl, hT, Nat.le_trans (Nat.add_le_add_right h1 _) hk, Nat.le_trans (Nat.add_le_add_right h2 _) hN⟩)
  dsimp only [Pt.U, Pt.locs, Pt.cells, Pt.slots] at X' e1 e2 e3 s' hQ
  subst e1 e2 e3
  obtain ⟨v2, T2, L2, k2, n2, X2, b1, b2, N2, q2, hv, stp⟩ := g v _ hQ p e s m args below meth c K T' _ _ _ X' (Nat.add_le_add_right h1 _) (Nat.add_le_add_right h2 _) (Fr.app N N') rfl
  exact ⟨v2, T2, L2, k2, n2, X2, b1, b2, N2, q2, hv, fun fs hl => s'.trans (stp fs hl)⟩
theorem Go.callCp {a : Addr} (argsL : List Value) (rest : List Value) (q : Nat) (hd : decode code pc = .ok (.invokespecial i, 3)) (hy1 : y'.name = "<init>") (w1 : (Cond.methodLink y.cls i y').before a0 Z = true) (w2 : (Cond.instanceMethod y').before a0 Z = true) (w3 : (Cond.initialized y'.cls).before a0 Z = true) (w4 : (Cond.code y' code' ml' none).before a0 Z = true)
    (hpl : plainFor y' = true) (hy : y'.cls ≠ "java/lang/invoke/MethodHandle" ∧ y'.cls ≠ "java/lang/invoke/VarHandle") (hlen : ∀ sig, parseMethodDescriptor y'.desc = some sig → argsL.length = sig.parameters.length) (hst : st = argsL.reverse ++ .ref a :: rest) (hent : ∀ m, entryFrame m (.ref a :: argsL).toArray ml' = mkF m 0 Ls' [])
    (G : Go l Z y' code' ml' none R' (QV fun h' => h' = h) 0 0 h 0 Ls' []) (W : Nat) (hsz : Ls.size = ml) (hW : (rest.map fun v => v.category).sum ≤ W) (hf : R'.frames + 1 ≤ R.frames) (hl : W + (ml' + 11) + R'.locals ≤ R.locals) (hk : k + R'.cells ≤ R.cells) (hN : n + R'.slots ≤ R.slots) (hq : pc + 3 = q)
    (g : Go l Z y code ml ret R Q (k + R'.cells) (n + R'.slots) h q Ls rest) : Go l Z y code ml ret R Q k n h pc Ls st :=
  Go.callC argsL rest q hd hy1 w1 w2 w3 w4 hpl hy hlen hst hent _ G W hsz hW hf hl hk hN hq (fun h' e => by subst e; exact g)
end Calls

section
variable {y' : MethodName} {code' : ByteArray} {ml' : Nat} {ret' : Option FieldType} {R' : Room} {Ls' : Array Slot} {i : Nat}
theorem Go.callSI (argsL : List Value) (rest : List Value) (q : Nat) (hd : decode code pc = .ok (.invokestatic i, 3)) (w1 : (Cond.methodLink y.cls i y').before a0 Z = true) (w2 : (Cond.static y').before a0 Z = true) (w3 : (Cond.initialized y'.cls).before a0 Z = true) (w4 : (Cond.code y' code' ml' ret').before a0 Z = true)
    (hpl : plainFor y' = true) (hy : y'.cls ≠ "java/lang/invoke/MethodHandle" ∧ y'.cls ≠ "java/lang/invoke/VarHandle") (hlen : ∀ sig, parseMethodDescriptor y'.desc = some sig → argsL.length = sig.parameters.length) (hst : st = argsL.reverse ++ rest) (hent : ∀ m, entryFrame m argsL.toArray ml' = mkF m 0 Ls' [])
    (P' : Int32 → Heap → Prop) (G : Go l Z y' code' ml' ret' R' (QI P') 0 0 h 0 Ls' []) (W : Nat) (hsz : Ls.size = ml) (hW : (rest.map fun v => v.category).sum ≤ W) (hf : R'.frames + 1 ≤ R.frames) (hl : W + (ml' + 11) + R'.locals ≤ R.locals) (hk : k + R'.cells ≤ R.cells) (hN : n + R'.slots ≤ R.slots) (hq : pc + 3 = q)
    (g : ∀ (z : Int32) h', P' z h' → Go l Z y code ml ret R Q (k + R'.cells) (n + R'.slots) h' q Ls (.int z :: rest)) : Go l Z y code ml ret R Q k n h pc Ls st := by
  exact Go.callS argsL rest q hd w1 w2 w3 w4 hpl hy hlen hst hent G W hsz hW hf hl hk hN hq (fun v h' hq' => by obtain ⟨z, e, hp⟩ := hq'; subst e; exact g z h' hp)
end
section
variable {y' : MethodName} {code' : ByteArray} {ml' : Nat} {ret' : Option FieldType} {R' : Room} {Ls' : Array Slot} {i : Nat}
theorem Go.callSIp (argsL : List Value) (rest : List Value) (q : Nat) (hd : decode code pc = .ok (.invokestatic i, 3)) (w1 : (Cond.methodLink y.cls i y').before a0 Z = true) (w2 : (Cond.static y').before a0 Z = true) (w3 : (Cond.initialized y'.cls).before a0 Z = true) (w4 : (Cond.code y' code' ml' ret').before a0 Z = true)
    (hpl : plainFor y' = true) (hy : y'.cls ≠ "java/lang/invoke/MethodHandle" ∧ y'.cls ≠ "java/lang/invoke/VarHandle") (hlen : ∀ sig, parseMethodDescriptor y'.desc = some sig → argsL.length = sig.parameters.length) (hst : st = argsL.reverse ++ rest) (hent : ∀ m, entryFrame m argsL.toArray ml' = mkF m 0 Ls' [])
    (F : Int32) (G : Go l Z y' code' ml' ret' R' (QI fun z h' => z = F ∧ h' = h) 0 0 h 0 Ls' []) (W : Nat) (hsz : Ls.size = ml) (hW : (rest.map fun v => v.category).sum ≤ W) (hf : R'.frames + 1 ≤ R.frames) (hl : W + (ml' + 11) + R'.locals ≤ R.locals) (hk : k + R'.cells ≤ R.cells) (hN : n + R'.slots ≤ R.slots) (hq : pc + 3 = q)
    (g : Go l Z y code ml ret R Q (k + R'.cells) (n + R'.slots) h q Ls (.int F :: rest)) : Go l Z y code ml ret R Q k n h pc Ls st := by
  exact Go.callS argsL rest q hd w1 w2 w3 w4 hpl hy hlen hst hent G W hsz hW hf hl hk hN hq (fun v h' hq' => by obtain ⟨z, e, hp, hh⟩ := hq'; subst e; subst hh; rw [hp]; exact g)
end
section
variable {y' : MethodName} {code' : ByteArray} {ml' : Nat} {ret' : Option FieldType} {R' : Room} {Ls' : Array Slot} {i : Nat}
theorem Go.callSIe (argsL : List Value) (rest : List Value) (q : Nat) (hd : decode code pc = .ok (.invokestatic i, 3)) (w1 : (Cond.methodLink y.cls i y').before a0 Z = true) (w2 : (Cond.static y').before a0 Z = true) (w3 : (Cond.initialized y'.cls).before a0 Z = true) (w4 : (Cond.code y' code' ml' ret').before a0 Z = true)
    (hpl : plainFor y' = true) (hy : y'.cls ≠ "java/lang/invoke/MethodHandle" ∧ y'.cls ≠ "java/lang/invoke/VarHandle") (hlen : ∀ sig, parseMethodDescriptor y'.desc = some sig → argsL.length = sig.parameters.length) (hst : st = argsL.reverse ++ rest) (hent : ∀ m, entryFrame m argsL.toArray ml' = mkF m 0 Ls' [])
    (F : Int32) (P' : Heap → Prop) (G : Go l Z y' code' ml' ret' R' (QI fun z h' => z = F ∧ P' h') 0 0 h 0 Ls' []) (W : Nat) (hsz : Ls.size = ml) (hW : (rest.map fun v => v.category).sum ≤ W) (hf : R'.frames + 1 ≤ R.frames) (hl : W + (ml' + 11) + R'.locals ≤ R.locals) (hk : k + R'.cells ≤ R.cells) (hN : n + R'.slots ≤ R.slots) (hq : pc + 3 = q)
    (g : ∀ h', P' h' → Go l Z y code ml ret R Q (k + R'.cells) (n + R'.slots) h' q Ls (.int F :: rest)) : Go l Z y code ml ret R Q k n h pc Ls st := by
  exact Go.callS argsL rest q hd w1 w2 w3 w4 hpl hy hlen hst hent G W hsz hW hf hl hk hN hq (fun v h' hq' => by obtain ⟨z, e, hp, hh⟩ := hq'; subst e; rw [hp]; exact g h' hh)
end
section
variable {y' : MethodName} {code' : ByteArray} {ml' : Nat} {ret' : Option FieldType} {R' : Room} {Ls' : Array Slot} {i : Nat}
theorem Go.callSJ (argsL : List Value) (rest : List Value) (q : Nat) (hd : decode code pc = .ok (.invokestatic i, 3)) (w1 : (Cond.methodLink y.cls i y').before a0 Z = true) (w2 : (Cond.static y').before a0 Z = true) (w3 : (Cond.initialized y'.cls).before a0 Z = true) (w4 : (Cond.code y' code' ml' ret').before a0 Z = true)
    (hpl : plainFor y' = true) (hy : y'.cls ≠ "java/lang/invoke/MethodHandle" ∧ y'.cls ≠ "java/lang/invoke/VarHandle") (hlen : ∀ sig, parseMethodDescriptor y'.desc = some sig → argsL.length = sig.parameters.length) (hst : st = argsL.reverse ++ rest) (hent : ∀ m, entryFrame m argsL.toArray ml' = mkF m 0 Ls' [])
    (P' : Int64 → Heap → Prop) (G : Go l Z y' code' ml' ret' R' (QJ P') 0 0 h 0 Ls' []) (W : Nat) (hsz : Ls.size = ml) (hW : (rest.map fun v => v.category).sum ≤ W) (hf : R'.frames + 1 ≤ R.frames) (hl : W + (ml' + 11) + R'.locals ≤ R.locals) (hk : k + R'.cells ≤ R.cells) (hN : n + R'.slots ≤ R.slots) (hq : pc + 3 = q)
    (g : ∀ (z : Int64) h', P' z h' → Go l Z y code ml ret R Q (k + R'.cells) (n + R'.slots) h' q Ls (.long z :: rest)) : Go l Z y code ml ret R Q k n h pc Ls st := by
  exact Go.callS argsL rest q hd w1 w2 w3 w4 hpl hy hlen hst hent G W hsz hW hf hl hk hN hq (fun v h' hq' => by obtain ⟨z, e, hp⟩ := hq'; subst e; exact g z h' hp)
end
section
variable {y' : MethodName} {code' : ByteArray} {ml' : Nat} {ret' : Option FieldType} {R' : Room} {Ls' : Array Slot} {i : Nat}
theorem Go.callSJp (argsL : List Value) (rest : List Value) (q : Nat) (hd : decode code pc = .ok (.invokestatic i, 3)) (w1 : (Cond.methodLink y.cls i y').before a0 Z = true) (w2 : (Cond.static y').before a0 Z = true) (w3 : (Cond.initialized y'.cls).before a0 Z = true) (w4 : (Cond.code y' code' ml' ret').before a0 Z = true)
    (hpl : plainFor y' = true) (hy : y'.cls ≠ "java/lang/invoke/MethodHandle" ∧ y'.cls ≠ "java/lang/invoke/VarHandle") (hlen : ∀ sig, parseMethodDescriptor y'.desc = some sig → argsL.length = sig.parameters.length) (hst : st = argsL.reverse ++ rest) (hent : ∀ m, entryFrame m argsL.toArray ml' = mkF m 0 Ls' [])
    (F : Int64) (G : Go l Z y' code' ml' ret' R' (QJ fun z h' => z = F ∧ h' = h) 0 0 h 0 Ls' []) (W : Nat) (hsz : Ls.size = ml) (hW : (rest.map fun v => v.category).sum ≤ W) (hf : R'.frames + 1 ≤ R.frames) (hl : W + (ml' + 11) + R'.locals ≤ R.locals) (hk : k + R'.cells ≤ R.cells) (hN : n + R'.slots ≤ R.slots) (hq : pc + 3 = q)
    (g : Go l Z y code ml ret R Q (k + R'.cells) (n + R'.slots) h q Ls (.long F :: rest)) : Go l Z y code ml ret R Q k n h pc Ls st := by
  exact Go.callS argsL rest q hd w1 w2 w3 w4 hpl hy hlen hst hent G W hsz hW hf hl hk hN hq (fun v h' hq' => by obtain ⟨z, e, hp, hh⟩ := hq'; subst e; subst hh; rw [hp]; exact g)
end
section
variable {y' : MethodName} {code' : ByteArray} {ml' : Nat} {ret' : Option FieldType} {R' : Room} {Ls' : Array Slot} {i : Nat}
theorem Go.callSJe (argsL : List Value) (rest : List Value) (q : Nat) (hd : decode code pc = .ok (.invokestatic i, 3)) (w1 : (Cond.methodLink y.cls i y').before a0 Z = true) (w2 : (Cond.static y').before a0 Z = true) (w3 : (Cond.initialized y'.cls).before a0 Z = true) (w4 : (Cond.code y' code' ml' ret').before a0 Z = true)
    (hpl : plainFor y' = true) (hy : y'.cls ≠ "java/lang/invoke/MethodHandle" ∧ y'.cls ≠ "java/lang/invoke/VarHandle") (hlen : ∀ sig, parseMethodDescriptor y'.desc = some sig → argsL.length = sig.parameters.length) (hst : st = argsL.reverse ++ rest) (hent : ∀ m, entryFrame m argsL.toArray ml' = mkF m 0 Ls' [])
    (F : Int64) (P' : Heap → Prop) (G : Go l Z y' code' ml' ret' R' (QJ fun z h' => z = F ∧ P' h') 0 0 h 0 Ls' []) (W : Nat) (hsz : Ls.size = ml) (hW : (rest.map fun v => v.category).sum ≤ W) (hf : R'.frames + 1 ≤ R.frames) (hl : W + (ml' + 11) + R'.locals ≤ R.locals) (hk : k + R'.cells ≤ R.cells) (hN : n + R'.slots ≤ R.slots) (hq : pc + 3 = q)
    (g : ∀ h', P' h' → Go l Z y code ml ret R Q (k + R'.cells) (n + R'.slots) h' q Ls (.long F :: rest)) : Go l Z y code ml ret R Q k n h pc Ls st := by
  exact Go.callS argsL rest q hd w1 w2 w3 w4 hpl hy hlen hst hent G W hsz hW hf hl hk hN hq (fun v h' hq' => by obtain ⟨z, e, hp, hh⟩ := hq'; subst e; rw [hp]; exact g h' hh)
end
section
variable {y' : MethodName} {code' : ByteArray} {ml' : Nat} {ret' : Option FieldType} {R' : Room} {Ls' : Array Slot} {i : Nat}
theorem Go.callSR (argsL : List Value) (rest : List Value) (q : Nat) (hd : decode code pc = .ok (.invokestatic i, 3)) (w1 : (Cond.methodLink y.cls i y').before a0 Z = true) (w2 : (Cond.static y').before a0 Z = true) (w3 : (Cond.initialized y'.cls).before a0 Z = true) (w4 : (Cond.code y' code' ml' ret').before a0 Z = true)
    (hpl : plainFor y' = true) (hy : y'.cls ≠ "java/lang/invoke/MethodHandle" ∧ y'.cls ≠ "java/lang/invoke/VarHandle") (hlen : ∀ sig, parseMethodDescriptor y'.desc = some sig → argsL.length = sig.parameters.length) (hst : st = argsL.reverse ++ rest) (hent : ∀ m, entryFrame m argsL.toArray ml' = mkF m 0 Ls' [])
    (P' : Value → Heap → Prop) (G : Go l Z y' code' ml' ret' R' (QR P') 0 0 h 0 Ls' []) (W : Nat) (hsz : Ls.size = ml) (hW : (rest.map fun v => v.category).sum ≤ W) (hf : R'.frames + 1 ≤ R.frames) (hl : W + (ml' + 11) + R'.locals ≤ R.locals) (hk : k + R'.cells ≤ R.cells) (hN : n + R'.slots ≤ R.slots) (hq : pc + 3 = q)
    (g : ∀ (z : Value) h', P' z h' → Go l Z y code ml ret R Q (k + R'.cells) (n + R'.slots) h' q Ls ( z :: rest)) : Go l Z y code ml ret R Q k n h pc Ls st := by
  exact Go.callS argsL rest q hd w1 w2 w3 w4 hpl hy hlen hst hent G W hsz hW hf hl hk hN hq (fun v h' hq' => by obtain ⟨z, e, hp⟩ := hq'; subst e; exact g z h' hp)
end
section
variable {y' : MethodName} {code' : ByteArray} {ml' : Nat} {ret' : Option FieldType} {R' : Room} {Ls' : Array Slot} {i : Nat}
theorem Go.callSRp (argsL : List Value) (rest : List Value) (q : Nat) (hd : decode code pc = .ok (.invokestatic i, 3)) (w1 : (Cond.methodLink y.cls i y').before a0 Z = true) (w2 : (Cond.static y').before a0 Z = true) (w3 : (Cond.initialized y'.cls).before a0 Z = true) (w4 : (Cond.code y' code' ml' ret').before a0 Z = true)
    (hpl : plainFor y' = true) (hy : y'.cls ≠ "java/lang/invoke/MethodHandle" ∧ y'.cls ≠ "java/lang/invoke/VarHandle") (hlen : ∀ sig, parseMethodDescriptor y'.desc = some sig → argsL.length = sig.parameters.length) (hst : st = argsL.reverse ++ rest) (hent : ∀ m, entryFrame m argsL.toArray ml' = mkF m 0 Ls' [])
    (F : Value) (G : Go l Z y' code' ml' ret' R' (QR fun z h' => z = F ∧ h' = h) 0 0 h 0 Ls' []) (W : Nat) (hsz : Ls.size = ml) (hW : (rest.map fun v => v.category).sum ≤ W) (hf : R'.frames + 1 ≤ R.frames) (hl : W + (ml' + 11) + R'.locals ≤ R.locals) (hk : k + R'.cells ≤ R.cells) (hN : n + R'.slots ≤ R.slots) (hq : pc + 3 = q)
    (g : Go l Z y code ml ret R Q (k + R'.cells) (n + R'.slots) h q Ls ( F :: rest)) : Go l Z y code ml ret R Q k n h pc Ls st := by
  exact Go.callS argsL rest q hd w1 w2 w3 w4 hpl hy hlen hst hent G W hsz hW hf hl hk hN hq (fun v h' hq' => by obtain ⟨z, e, hp, hh⟩ := hq'; subst e; subst hh; rw [hp]; exact g)
end
section
variable {y' : MethodName} {code' : ByteArray} {ml' : Nat} {ret' : Option FieldType} {R' : Room} {Ls' : Array Slot} {i : Nat}
theorem Go.callSRe (argsL : List Value) (rest : List Value) (q : Nat) (hd : decode code pc = .ok (.invokestatic i, 3)) (w1 : (Cond.methodLink y.cls i y').before a0 Z = true) (w2 : (Cond.static y').before a0 Z = true) (w3 : (Cond.initialized y'.cls).before a0 Z = true) (w4 : (Cond.code y' code' ml' ret').before a0 Z = true)
    (hpl : plainFor y' = true) (hy : y'.cls ≠ "java/lang/invoke/MethodHandle" ∧ y'.cls ≠ "java/lang/invoke/VarHandle") (hlen : ∀ sig, parseMethodDescriptor y'.desc = some sig → argsL.length = sig.parameters.length) (hst : st = argsL.reverse ++ rest) (hent : ∀ m, entryFrame m argsL.toArray ml' = mkF m 0 Ls' [])
    (F : Value) (P' : Heap → Prop) (G : Go l Z y' code' ml' ret' R' (QR fun z h' => z = F ∧ P' h') 0 0 h 0 Ls' []) (W : Nat) (hsz : Ls.size = ml) (hW : (rest.map fun v => v.category).sum ≤ W) (hf : R'.frames + 1 ≤ R.frames) (hl : W + (ml' + 11) + R'.locals ≤ R.locals) (hk : k + R'.cells ≤ R.cells) (hN : n + R'.slots ≤ R.slots) (hq : pc + 3 = q)
    (g : ∀ h', P' h' → Go l Z y code ml ret R Q (k + R'.cells) (n + R'.slots) h' q Ls ( F :: rest)) : Go l Z y code ml ret R Q k n h pc Ls st := by
  exact Go.callS argsL rest q hd w1 w2 w3 w4 hpl hy hlen hst hent G W hsz hW hf hl hk hN hq (fun v h' hq' => by obtain ⟨z, e, hp, hh⟩ := hq'; subst e; rw [hp]; exact g h' hh)
end
section
variable {y' : MethodName} {code' : ByteArray} {ml' : Nat} {ret' : Option FieldType} {R' : Room} {Ls' : Array Slot} {i : Nat}
theorem Go.callSV (argsL : List Value) (rest : List Value) (q : Nat) (hd : decode code pc = .ok (.invokestatic i, 3)) (w1 : (Cond.methodLink y.cls i y').before a0 Z = true) (w2 : (Cond.static y').before a0 Z = true) (w3 : (Cond.initialized y'.cls).before a0 Z = true) (w4 : (Cond.code y' code' ml' ret').before a0 Z = true)
    (hpl : plainFor y' = true) (hy : y'.cls ≠ "java/lang/invoke/MethodHandle" ∧ y'.cls ≠ "java/lang/invoke/VarHandle") (hlen : ∀ sig, parseMethodDescriptor y'.desc = some sig → argsL.length = sig.parameters.length) (hst : st = argsL.reverse ++ rest) (hent : ∀ m, entryFrame m argsL.toArray ml' = mkF m 0 Ls' [])
    (P' : Heap → Prop) (G : Go l Z y' code' ml' ret' R' (QV P') 0 0 h 0 Ls' []) (W : Nat) (hsz : Ls.size = ml) (hW : (rest.map fun v => v.category).sum ≤ W) (hf : R'.frames + 1 ≤ R.frames) (hl : W + (ml' + 11) + R'.locals ≤ R.locals) (hk : k + R'.cells ≤ R.cells) (hN : n + R'.slots ≤ R.slots) (hq : pc + 3 = q)
    (g : ∀ h', P' h' → Go l Z y code ml ret R Q (k + R'.cells) (n + R'.slots) h' q Ls rest) : Go l Z y code ml ret R Q k n h pc Ls st := by
  exact Go.callS argsL rest q hd w1 w2 w3 w4 hpl hy hlen hst hent G W hsz hW hf hl hk hN hq (fun v h' hq' => by obtain ⟨e, hp⟩ := hq'; subst e; exact g h' hp)
end
section
variable {y' : MethodName} {code' : ByteArray} {ml' : Nat} {ret' : Option FieldType} {R' : Room} {Ls' : Array Slot} {i : Nat}
theorem Go.callSVp (argsL : List Value) (rest : List Value) (q : Nat) (hd : decode code pc = .ok (.invokestatic i, 3)) (w1 : (Cond.methodLink y.cls i y').before a0 Z = true) (w2 : (Cond.static y').before a0 Z = true) (w3 : (Cond.initialized y'.cls).before a0 Z = true) (w4 : (Cond.code y' code' ml' ret').before a0 Z = true)
    (hpl : plainFor y' = true) (hy : y'.cls ≠ "java/lang/invoke/MethodHandle" ∧ y'.cls ≠ "java/lang/invoke/VarHandle") (hlen : ∀ sig, parseMethodDescriptor y'.desc = some sig → argsL.length = sig.parameters.length) (hst : st = argsL.reverse ++ rest) (hent : ∀ m, entryFrame m argsL.toArray ml' = mkF m 0 Ls' [])
    (G : Go l Z y' code' ml' ret' R' (QV fun h' => h' = h) 0 0 h 0 Ls' []) (W : Nat) (hsz : Ls.size = ml) (hW : (rest.map fun v => v.category).sum ≤ W) (hf : R'.frames + 1 ≤ R.frames) (hl : W + (ml' + 11) + R'.locals ≤ R.locals) (hk : k + R'.cells ≤ R.cells) (hN : n + R'.slots ≤ R.slots) (hq : pc + 3 = q)
    (g : Go l Z y code ml ret R Q (k + R'.cells) (n + R'.slots) h q Ls rest) : Go l Z y code ml ret R Q k n h pc Ls st := by
  exact Go.callS argsL rest q hd w1 w2 w3 w4 hpl hy hlen hst hent G W hsz hW hf hl hk hN hq (fun v h' hq' => by obtain ⟨e, hp⟩ := hq'; subst e; subst hp; exact g)
end
section
variable {y' : MethodName} {code' : ByteArray} {ml' : Nat} {ret' : Option FieldType} {R' : Room} {Ls' : Array Slot} {i : Nat}
theorem Go.callVI {a : Addr} {C : String} (argsL : List Value) (rest : List Value) (q : Nat) (hd : decode code pc = .ok (.invokevirtual i, 3)) (w1 : (Cond.methodLink y.cls i y').before a0 Z = true) (w1' : (Cond.declares y').before a0 Z = true) (w1s : (Cond.selects C y' y').before a0 Z = true) (w2 : (Cond.instanceMethod y').before a0 Z = true) (w3 : (Cond.initialized y'.cls).before a0 Z = true) (w4 : (Cond.code y' code' ml' ret').before a0 Z = true) (E : Exa Z h a C)
    (hpl : plainFor y' = true) (hy : y'.cls ≠ "java/lang/invoke/MethodHandle" ∧ y'.cls ≠ "java/lang/invoke/VarHandle") (hlen : ∀ sig, parseMethodDescriptor y'.desc = some sig → argsL.length = sig.parameters.length) (hst : st = argsL.reverse ++ .ref a :: rest) (hent : ∀ m, entryFrame m (.ref a :: argsL).toArray ml' = mkF m 0 Ls' [])
    (P' : Int32 → Heap → Prop) (G : Go l Z y' code' ml' ret' R' (QI P') 0 0 h 0 Ls' []) (W : Nat) (hsz : Ls.size = ml) (hW : (rest.map fun v => v.category).sum ≤ W) (hf : R'.frames + 1 ≤ R.frames) (hl : W + (ml' + 11) + R'.locals ≤ R.locals) (hk : k + R'.cells ≤ R.cells) (hN : n + R'.slots ≤ R.slots) (hq : pc + 3 = q)
    (g : ∀ (z : Int32) h', P' z h' → Go l Z y code ml ret R Q (k + R'.cells) (n + R'.slots) h' q Ls (.int z :: rest)) : Go l Z y code ml ret R Q k n h pc Ls st := by
  exact Go.callV argsL rest q hd w1 w1' w1s w2 w3 w4 E hpl hy hlen hst hent G W hsz hW hf hl hk hN hq (fun v h' hq' => by obtain ⟨z, e, hp⟩ := hq'; subst e; exact g z h' hp)
end
section
variable {y' : MethodName} {code' : ByteArray} {ml' : Nat} {ret' : Option FieldType} {R' : Room} {Ls' : Array Slot} {i : Nat}
theorem Go.callVIp {a : Addr} {C : String} (argsL : List Value) (rest : List Value) (q : Nat) (hd : decode code pc = .ok (.invokevirtual i, 3)) (w1 : (Cond.methodLink y.cls i y').before a0 Z = true) (w1' : (Cond.declares y').before a0 Z = true) (w1s : (Cond.selects C y' y').before a0 Z = true) (w2 : (Cond.instanceMethod y').before a0 Z = true) (w3 : (Cond.initialized y'.cls).before a0 Z = true) (w4 : (Cond.code y' code' ml' ret').before a0 Z = true) (E : Exa Z h a C)
    (hpl : plainFor y' = true) (hy : y'.cls ≠ "java/lang/invoke/MethodHandle" ∧ y'.cls ≠ "java/lang/invoke/VarHandle") (hlen : ∀ sig, parseMethodDescriptor y'.desc = some sig → argsL.length = sig.parameters.length) (hst : st = argsL.reverse ++ .ref a :: rest) (hent : ∀ m, entryFrame m (.ref a :: argsL).toArray ml' = mkF m 0 Ls' [])
    (F : Int32) (G : Go l Z y' code' ml' ret' R' (QI fun z h' => z = F ∧ h' = h) 0 0 h 0 Ls' []) (W : Nat) (hsz : Ls.size = ml) (hW : (rest.map fun v => v.category).sum ≤ W) (hf : R'.frames + 1 ≤ R.frames) (hl : W + (ml' + 11) + R'.locals ≤ R.locals) (hk : k + R'.cells ≤ R.cells) (hN : n + R'.slots ≤ R.slots) (hq : pc + 3 = q)
    (g : Go l Z y code ml ret R Q (k + R'.cells) (n + R'.slots) h q Ls (.int F :: rest)) : Go l Z y code ml ret R Q k n h pc Ls st := by
  exact Go.callV argsL rest q hd w1 w1' w1s w2 w3 w4 E hpl hy hlen hst hent G W hsz hW hf hl hk hN hq (fun v h' hq' => by obtain ⟨z, e, hp, hh⟩ := hq'; subst e; subst hh; rw [hp]; exact g)
end
section
variable {y' : MethodName} {code' : ByteArray} {ml' : Nat} {ret' : Option FieldType} {R' : Room} {Ls' : Array Slot} {i : Nat}
theorem Go.callVIe {a : Addr} {C : String} (argsL : List Value) (rest : List Value) (q : Nat) (hd : decode code pc = .ok (.invokevirtual i, 3)) (w1 : (Cond.methodLink y.cls i y').before a0 Z = true) (w1' : (Cond.declares y').before a0 Z = true) (w1s : (Cond.selects C y' y').before a0 Z = true) (w2 : (Cond.instanceMethod y').before a0 Z = true) (w3 : (Cond.initialized y'.cls).before a0 Z = true) (w4 : (Cond.code y' code' ml' ret').before a0 Z = true) (E : Exa Z h a C)
    (hpl : plainFor y' = true) (hy : y'.cls ≠ "java/lang/invoke/MethodHandle" ∧ y'.cls ≠ "java/lang/invoke/VarHandle") (hlen : ∀ sig, parseMethodDescriptor y'.desc = some sig → argsL.length = sig.parameters.length) (hst : st = argsL.reverse ++ .ref a :: rest) (hent : ∀ m, entryFrame m (.ref a :: argsL).toArray ml' = mkF m 0 Ls' [])
    (F : Int32) (P' : Heap → Prop) (G : Go l Z y' code' ml' ret' R' (QI fun z h' => z = F ∧ P' h') 0 0 h 0 Ls' []) (W : Nat) (hsz : Ls.size = ml) (hW : (rest.map fun v => v.category).sum ≤ W) (hf : R'.frames + 1 ≤ R.frames) (hl : W + (ml' + 11) + R'.locals ≤ R.locals) (hk : k + R'.cells ≤ R.cells) (hN : n + R'.slots ≤ R.slots) (hq : pc + 3 = q)
    (g : ∀ h', P' h' → Go l Z y code ml ret R Q (k + R'.cells) (n + R'.slots) h' q Ls (.int F :: rest)) : Go l Z y code ml ret R Q k n h pc Ls st := by
  exact Go.callV argsL rest q hd w1 w1' w1s w2 w3 w4 E hpl hy hlen hst hent G W hsz hW hf hl hk hN hq (fun v h' hq' => by obtain ⟨z, e, hp, hh⟩ := hq'; subst e; rw [hp]; exact g h' hh)
end
section
variable {y' : MethodName} {code' : ByteArray} {ml' : Nat} {ret' : Option FieldType} {R' : Room} {Ls' : Array Slot} {i : Nat}
theorem Go.callVJ {a : Addr} {C : String} (argsL : List Value) (rest : List Value) (q : Nat) (hd : decode code pc = .ok (.invokevirtual i, 3)) (w1 : (Cond.methodLink y.cls i y').before a0 Z = true) (w1' : (Cond.declares y').before a0 Z = true) (w1s : (Cond.selects C y' y').before a0 Z = true) (w2 : (Cond.instanceMethod y').before a0 Z = true) (w3 : (Cond.initialized y'.cls).before a0 Z = true) (w4 : (Cond.code y' code' ml' ret').before a0 Z = true) (E : Exa Z h a C)
    (hpl : plainFor y' = true) (hy : y'.cls ≠ "java/lang/invoke/MethodHandle" ∧ y'.cls ≠ "java/lang/invoke/VarHandle") (hlen : ∀ sig, parseMethodDescriptor y'.desc = some sig → argsL.length = sig.parameters.length) (hst : st = argsL.reverse ++ .ref a :: rest) (hent : ∀ m, entryFrame m (.ref a :: argsL).toArray ml' = mkF m 0 Ls' [])
    (P' : Int64 → Heap → Prop) (G : Go l Z y' code' ml' ret' R' (QJ P') 0 0 h 0 Ls' []) (W : Nat) (hsz : Ls.size = ml) (hW : (rest.map fun v => v.category).sum ≤ W) (hf : R'.frames + 1 ≤ R.frames) (hl : W + (ml' + 11) + R'.locals ≤ R.locals) (hk : k + R'.cells ≤ R.cells) (hN : n + R'.slots ≤ R.slots) (hq : pc + 3 = q)
    (g : ∀ (z : Int64) h', P' z h' → Go l Z y code ml ret R Q (k + R'.cells) (n + R'.slots) h' q Ls (.long z :: rest)) : Go l Z y code ml ret R Q k n h pc Ls st := by
  exact Go.callV argsL rest q hd w1 w1' w1s w2 w3 w4 E hpl hy hlen hst hent G W hsz hW hf hl hk hN hq (fun v h' hq' => by obtain ⟨z, e, hp⟩ := hq'; subst e; exact g z h' hp)
end
section
variable {y' : MethodName} {code' : ByteArray} {ml' : Nat} {ret' : Option FieldType} {R' : Room} {Ls' : Array Slot} {i : Nat}
theorem Go.callVJp {a : Addr} {C : String} (argsL : List Value) (rest : List Value) (q : Nat) (hd : decode code pc = .ok (.invokevirtual i, 3)) (w1 : (Cond.methodLink y.cls i y').before a0 Z = true) (w1' : (Cond.declares y').before a0 Z = true) (w1s : (Cond.selects C y' y').before a0 Z = true) (w2 : (Cond.instanceMethod y').before a0 Z = true) (w3 : (Cond.initialized y'.cls).before a0 Z = true) (w4 : (Cond.code y' code' ml' ret').before a0 Z = true) (E : Exa Z h a C)
    (hpl : plainFor y' = true) (hy : y'.cls ≠ "java/lang/invoke/MethodHandle" ∧ y'.cls ≠ "java/lang/invoke/VarHandle") (hlen : ∀ sig, parseMethodDescriptor y'.desc = some sig → argsL.length = sig.parameters.length) (hst : st = argsL.reverse ++ .ref a :: rest) (hent : ∀ m, entryFrame m (.ref a :: argsL).toArray ml' = mkF m 0 Ls' [])
    (F : Int64) (G : Go l Z y' code' ml' ret' R' (QJ fun z h' => z = F ∧ h' = h) 0 0 h 0 Ls' []) (W : Nat) (hsz : Ls.size = ml) (hW : (rest.map fun v => v.category).sum ≤ W) (hf : R'.frames + 1 ≤ R.frames) (hl : W + (ml' + 11) + R'.locals ≤ R.locals) (hk : k + R'.cells ≤ R.cells) (hN : n + R'.slots ≤ R.slots) (hq : pc + 3 = q)
    (g : Go l Z y code ml ret R Q (k + R'.cells) (n + R'.slots) h q Ls (.long F :: rest)) : Go l Z y code ml ret R Q k n h pc Ls st := by
  exact Go.callV argsL rest q hd w1 w1' w1s w2 w3 w4 E hpl hy hlen hst hent G W hsz hW hf hl hk hN hq (fun v h' hq' => by obtain ⟨z, e, hp, hh⟩ := hq'; subst e; subst hh; rw [hp]; exact g)
end
section
variable {y' : MethodName} {code' : ByteArray} {ml' : Nat} {ret' : Option FieldType} {R' : Room} {Ls' : Array Slot} {i : Nat}
theorem Go.callVJe {a : Addr} {C : String} (argsL : List Value) (rest : List Value) (q : Nat) (hd : decode code pc = .ok (.invokevirtual i, 3)) (w1 : (Cond.methodLink y.cls i y').before a0 Z = true) (w1' : (Cond.declares y').before a0 Z = true) (w1s : (Cond.selects C y' y').before a0 Z = true) (w2 : (Cond.instanceMethod y').before a0 Z = true) (w3 : (Cond.initialized y'.cls).before a0 Z = true) (w4 : (Cond.code y' code' ml' ret').before a0 Z = true) (E : Exa Z h a C)
    (hpl : plainFor y' = true) (hy : y'.cls ≠ "java/lang/invoke/MethodHandle" ∧ y'.cls ≠ "java/lang/invoke/VarHandle") (hlen : ∀ sig, parseMethodDescriptor y'.desc = some sig → argsL.length = sig.parameters.length) (hst : st = argsL.reverse ++ .ref a :: rest) (hent : ∀ m, entryFrame m (.ref a :: argsL).toArray ml' = mkF m 0 Ls' [])
    (F : Int64) (P' : Heap → Prop) (G : Go l Z y' code' ml' ret' R' (QJ fun z h' => z = F ∧ P' h') 0 0 h 0 Ls' []) (W : Nat) (hsz : Ls.size = ml) (hW : (rest.map fun v => v.category).sum ≤ W) (hf : R'.frames + 1 ≤ R.frames) (hl : W + (ml' + 11) + R'.locals ≤ R.locals) (hk : k + R'.cells ≤ R.cells) (hN : n + R'.slots ≤ R.slots) (hq : pc + 3 = q)
    (g : ∀ h', P' h' → Go l Z y code ml ret R Q (k + R'.cells) (n + R'.slots) h' q Ls (.long F :: rest)) : Go l Z y code ml ret R Q k n h pc Ls st := by
  exact Go.callV argsL rest q hd w1 w1' w1s w2 w3 w4 E hpl hy hlen hst hent G W hsz hW hf hl hk hN hq (fun v h' hq' => by obtain ⟨z, e, hp, hh⟩ := hq'; subst e; rw [hp]; exact g h' hh)
end
section
variable {y' : MethodName} {code' : ByteArray} {ml' : Nat} {ret' : Option FieldType} {R' : Room} {Ls' : Array Slot} {i : Nat}
theorem Go.callVR {a : Addr} {C : String} (argsL : List Value) (rest : List Value) (q : Nat) (hd : decode code pc = .ok (.invokevirtual i, 3)) (w1 : (Cond.methodLink y.cls i y').before a0 Z = true) (w1' : (Cond.declares y').before a0 Z = true) (w1s : (Cond.selects C y' y').before a0 Z = true) (w2 : (Cond.instanceMethod y').before a0 Z = true) (w3 : (Cond.initialized y'.cls).before a0 Z = true) (w4 : (Cond.code y' code' ml' ret').before a0 Z = true) (E : Exa Z h a C)
    (hpl : plainFor y' = true) (hy : y'.cls ≠ "java/lang/invoke/MethodHandle" ∧ y'.cls ≠ "java/lang/invoke/VarHandle") (hlen : ∀ sig, parseMethodDescriptor y'.desc = some sig → argsL.length = sig.parameters.length) (hst : st = argsL.reverse ++ .ref a :: rest) (hent : ∀ m, entryFrame m (.ref a :: argsL).toArray ml' = mkF m 0 Ls' [])
    (P' : Value → Heap → Prop) (G : Go l Z y' code' ml' ret' R' (QR P') 0 0 h 0 Ls' []) (W : Nat) (hsz : Ls.size = ml) (hW : (rest.map fun v => v.category).sum ≤ W) (hf : R'.frames + 1 ≤ R.frames) (hl : W + (ml' + 11) + R'.locals ≤ R.locals) (hk : k + R'.cells ≤ R.cells) (hN : n + R'.slots ≤ R.slots) (hq : pc + 3 = q)
    (g : ∀ (z : Value) h', P' z h' → Go l Z y code ml ret R Q (k + R'.cells) (n + R'.slots) h' q Ls ( z :: rest)) : Go l Z y code ml ret R Q k n h pc Ls st := by
  exact Go.callV argsL rest q hd w1 w1' w1s w2 w3 w4 E hpl hy hlen hst hent G W hsz hW hf hl hk hN hq (fun v h' hq' => by obtain ⟨z, e, hp⟩ := hq'; subst e; exact g z h' hp)
end
section
variable {y' : MethodName} {code' : ByteArray} {ml' : Nat} {ret' : Option FieldType} {R' : Room} {Ls' : Array Slot} {i : Nat}
theorem Go.callVRp {a : Addr} {C : String} (argsL : List Value) (rest : List Value) (q : Nat) (hd : decode code pc = .ok (.invokevirtual i, 3)) (w1 : (Cond.methodLink y.cls i y').before a0 Z = true) (w1' : (Cond.declares y').before a0 Z = true) (w1s : (Cond.selects C y' y').before a0 Z = true) (w2 : (Cond.instanceMethod y').before a0 Z = true) (w3 : (Cond.initialized y'.cls).before a0 Z = true) (w4 : (Cond.code y' code' ml' ret').before a0 Z = true) (E : Exa Z h a C)
    (hpl : plainFor y' = true) (hy : y'.cls ≠ "java/lang/invoke/MethodHandle" ∧ y'.cls ≠ "java/lang/invoke/VarHandle") (hlen : ∀ sig, parseMethodDescriptor y'.desc = some sig → argsL.length = sig.parameters.length) (hst : st = argsL.reverse ++ .ref a :: rest) (hent : ∀ m, entryFrame m (.ref a :: argsL).toArray ml' = mkF m 0 Ls' [])
    (F : Value) (G : Go l Z y' code' ml' ret' R' (QR fun z h' => z = F ∧ h' = h) 0 0 h 0 Ls' []) (W : Nat) (hsz : Ls.size = ml) (hW : (rest.map fun v => v.category).sum ≤ W) (hf : R'.frames + 1 ≤ R.frames) (hl : W + (ml' + 11) + R'.locals ≤ R.locals) (hk : k + R'.cells ≤ R.cells) (hN : n + R'.slots ≤ R.slots) (hq : pc + 3 = q)
    (g : Go l Z y code ml ret R Q (k + R'.cells) (n + R'.slots) h q Ls ( F :: rest)) : Go l Z y code ml ret R Q k n h pc Ls st := by
  exact Go.callV argsL rest q hd w1 w1' w1s w2 w3 w4 E hpl hy hlen hst hent G W hsz hW hf hl hk hN hq (fun v h' hq' => by obtain ⟨z, e, hp, hh⟩ := hq'; subst e; subst hh; rw [hp]; exact g)
end
section
variable {y' : MethodName} {code' : ByteArray} {ml' : Nat} {ret' : Option FieldType} {R' : Room} {Ls' : Array Slot} {i : Nat}
theorem Go.callVRe {a : Addr} {C : String} (argsL : List Value) (rest : List Value) (q : Nat) (hd : decode code pc = .ok (.invokevirtual i, 3)) (w1 : (Cond.methodLink y.cls i y').before a0 Z = true) (w1' : (Cond.declares y').before a0 Z = true) (w1s : (Cond.selects C y' y').before a0 Z = true) (w2 : (Cond.instanceMethod y').before a0 Z = true) (w3 : (Cond.initialized y'.cls).before a0 Z = true) (w4 : (Cond.code y' code' ml' ret').before a0 Z = true) (E : Exa Z h a C)
    (hpl : plainFor y' = true) (hy : y'.cls ≠ "java/lang/invoke/MethodHandle" ∧ y'.cls ≠ "java/lang/invoke/VarHandle") (hlen : ∀ sig, parseMethodDescriptor y'.desc = some sig → argsL.length = sig.parameters.length) (hst : st = argsL.reverse ++ .ref a :: rest) (hent : ∀ m, entryFrame m (.ref a :: argsL).toArray ml' = mkF m 0 Ls' [])
    (F : Value) (P' : Heap → Prop) (G : Go l Z y' code' ml' ret' R' (QR fun z h' => z = F ∧ P' h') 0 0 h 0 Ls' []) (W : Nat) (hsz : Ls.size = ml) (hW : (rest.map fun v => v.category).sum ≤ W) (hf : R'.frames + 1 ≤ R.frames) (hl : W + (ml' + 11) + R'.locals ≤ R.locals) (hk : k + R'.cells ≤ R.cells) (hN : n + R'.slots ≤ R.slots) (hq : pc + 3 = q)
    (g : ∀ h', P' h' → Go l Z y code ml ret R Q (k + R'.cells) (n + R'.slots) h' q Ls ( F :: rest)) : Go l Z y code ml ret R Q k n h pc Ls st := by
  exact Go.callV argsL rest q hd w1 w1' w1s w2 w3 w4 E hpl hy hlen hst hent G W hsz hW hf hl hk hN hq (fun v h' hq' => by obtain ⟨z, e, hp, hh⟩ := hq'; subst e; rw [hp]; exact g h' hh)
end
section
variable {y' : MethodName} {code' : ByteArray} {ml' : Nat} {ret' : Option FieldType} {R' : Room} {Ls' : Array Slot} {i : Nat}
theorem Go.callVV {a : Addr} {C : String} (argsL : List Value) (rest : List Value) (q : Nat) (hd : decode code pc = .ok (.invokevirtual i, 3)) (w1 : (Cond.methodLink y.cls i y').before a0 Z = true) (w1' : (Cond.declares y').before a0 Z = true) (w1s : (Cond.selects C y' y').before a0 Z = true) (w2 : (Cond.instanceMethod y').before a0 Z = true) (w3 : (Cond.initialized y'.cls).before a0 Z = true) (w4 : (Cond.code y' code' ml' ret').before a0 Z = true) (E : Exa Z h a C)
    (hpl : plainFor y' = true) (hy : y'.cls ≠ "java/lang/invoke/MethodHandle" ∧ y'.cls ≠ "java/lang/invoke/VarHandle") (hlen : ∀ sig, parseMethodDescriptor y'.desc = some sig → argsL.length = sig.parameters.length) (hst : st = argsL.reverse ++ .ref a :: rest) (hent : ∀ m, entryFrame m (.ref a :: argsL).toArray ml' = mkF m 0 Ls' [])
    (P' : Heap → Prop) (G : Go l Z y' code' ml' ret' R' (QV P') 0 0 h 0 Ls' []) (W : Nat) (hsz : Ls.size = ml) (hW : (rest.map fun v => v.category).sum ≤ W) (hf : R'.frames + 1 ≤ R.frames) (hl : W + (ml' + 11) + R'.locals ≤ R.locals) (hk : k + R'.cells ≤ R.cells) (hN : n + R'.slots ≤ R.slots) (hq : pc + 3 = q)
    (g : ∀ h', P' h' → Go l Z y code ml ret R Q (k + R'.cells) (n + R'.slots) h' q Ls rest) : Go l Z y code ml ret R Q k n h pc Ls st := by
  exact Go.callV argsL rest q hd w1 w1' w1s w2 w3 w4 E hpl hy hlen hst hent G W hsz hW hf hl hk hN hq (fun v h' hq' => by obtain ⟨e, hp⟩ := hq'; subst e; exact g h' hp)
end
section
variable {y' : MethodName} {code' : ByteArray} {ml' : Nat} {ret' : Option FieldType} {R' : Room} {Ls' : Array Slot} {i : Nat}
theorem Go.callVVp {a : Addr} {C : String} (argsL : List Value) (rest : List Value) (q : Nat) (hd : decode code pc = .ok (.invokevirtual i, 3)) (w1 : (Cond.methodLink y.cls i y').before a0 Z = true) (w1' : (Cond.declares y').before a0 Z = true) (w1s : (Cond.selects C y' y').before a0 Z = true) (w2 : (Cond.instanceMethod y').before a0 Z = true) (w3 : (Cond.initialized y'.cls).before a0 Z = true) (w4 : (Cond.code y' code' ml' ret').before a0 Z = true) (E : Exa Z h a C)
    (hpl : plainFor y' = true) (hy : y'.cls ≠ "java/lang/invoke/MethodHandle" ∧ y'.cls ≠ "java/lang/invoke/VarHandle") (hlen : ∀ sig, parseMethodDescriptor y'.desc = some sig → argsL.length = sig.parameters.length) (hst : st = argsL.reverse ++ .ref a :: rest) (hent : ∀ m, entryFrame m (.ref a :: argsL).toArray ml' = mkF m 0 Ls' [])
    (G : Go l Z y' code' ml' ret' R' (QV fun h' => h' = h) 0 0 h 0 Ls' []) (W : Nat) (hsz : Ls.size = ml) (hW : (rest.map fun v => v.category).sum ≤ W) (hf : R'.frames + 1 ≤ R.frames) (hl : W + (ml' + 11) + R'.locals ≤ R.locals) (hk : k + R'.cells ≤ R.cells) (hN : n + R'.slots ≤ R.slots) (hq : pc + 3 = q)
    (g : Go l Z y code ml ret R Q (k + R'.cells) (n + R'.slots) h q Ls rest) : Go l Z y code ml ret R Q k n h pc Ls st := by
  exact Go.callV argsL rest q hd w1 w1' w1s w2 w3 w4 E hpl hy hlen hst hent G W hsz hW hf hl hk hN hq (fun v h' hq' => by obtain ⟨e, hp⟩ := hq'; subst e; subst hp; exact g)
end



theorem own_eqf {args : Array Value} {s : State} {t : Term} {O n d : String} {v : Int32} {x : Addr} (ht : t.eval args s none [] s = some (.ref x)) (h : (Jvm.Cond.eq (Term.field t O n d) (Term.int v)).value args s none s [] = some true) : Fld s s.heap x O n d (.int v) := by
  apply Fld.start
  have e := fld_at (C := O) (n := n) (dd := d) ht
  have i : (Term.int v).eval args s none [] s = some (.int v) := Term.int_eval v
  simp only [Jvm.Cond.value, e, i] at h
  cases q : s.fieldOf? x O n d with
  | none => rw [q] at h; simp at h
  | some w =>
    rw [q] at h
    cases w <;> simp at h
    rw [h]
/-- an array of ints, shorts, chars, bytes or booleans, with its elements -/
def Ari (Z : State) (h : Heap) (a : Addr) (ty : FieldType) (xs : List Int32) : Prop := ∃ c : Cell, Arr Z h a c ty ∧ c.slots.toList = xs.map Value.int ∧ xs.length < 2147483648
def Arj (Z : State) (h : Heap) (a : Addr) (xs : List Int64) : Prop := ∃ c : Cell, Arr Z h a c .long ∧ c.slots.toList = xs.map Value.long ∧ xs.length < 2147483648
theorem Ari.lt {a : Addr} {ty : FieldType} {xs : List Int32} (F : Ari Z h a ty xs) : a < h.size := by obtain ⟨c, A, -⟩ := F; exact A.lt
theorem Arj.lt {a : Addr} {xs : List Int64} (F : Arj Z h a xs) : a < h.size := by obtain ⟨c, A, -⟩ := F; exact A.lt
theorem Ari.ext {h' : Heap} {a : Addr} {ty : FieldType} {xs : List Int32} (F : Ari Z h a ty xs) (E : Ext h h') : Ari Z h' a ty xs := by obtain ⟨c, A, r⟩ := F; exact ⟨c, A.ext E, r⟩
theorem Arj.ext {h' : Heap} {a : Addr} {xs : List Int64} (F : Arj Z h a xs) (E : Ext h h') : Arj Z h' a xs := by obtain ⟨c, A, r⟩ := F; exact ⟨c, A.ext E, r⟩
theorem Ari.other {h' : Heap} {a b : Addr} {sl : Nat} {v : Value} {ty : FieldType} {xs : List Int32} (F : Ari Z h b ty xs) (W : Wr h h' a sl v) (q : b ≠ a) : Ari Z h' b ty xs := by obtain ⟨c, A, r⟩ := F; exact ⟨c, A.other W q, r⟩
theorem Arj.other {h' : Heap} {a b : Addr} {sl : Nat} {v : Value} {xs : List Int64} (F : Arj Z h b xs) (W : Wr h h' a sl v) (q : b ≠ a) : Arj Z h' b xs := by obtain ⟨c, A, r⟩ := F; exact ⟨c, A.other W q, r⟩
theorem Ari.keep {h' : Heap} {a : Addr} {ws : List Addr} {ty : FieldType} {xs : List Int32} (F : Ari Z h a ty xs) (K : Keep h h' ws) (q : a ∉ ws) : Ari Z h' a ty xs := by obtain ⟨c, A, r⟩ := F; exact ⟨c, ⟨K.2.1 _ _ A.1 q, A.2⟩, r⟩
theorem Arj.keep {h' : Heap} {a : Addr} {ws : List Addr} {xs : List Int64} (F : Arj Z h a xs) (K : Keep h h' ws) (q : a ∉ ws) : Arj Z h' a xs := by obtain ⟨c, A, r⟩ := F; exact ⟨c, ⟨K.2.1 _ _ A.1 q, A.2⟩, r⟩
theorem own_size {c : Cell} {α : Type} {f : α → Value} {xs : List α} (e : c.slots.toList = xs.map f) : c.slots.size = xs.length := by
  have q := congrArg List.length e
  simpa using q
theorem own_at {c : Cell} {α : Type} {f : α → Value} {xs : List α} (e : c.slots.toList = xs.map f) {i : Nat} {x : α} (hx : xs[i]? = some x) : c.slots[i]? = some (f x) := by
  have q : c.slots.toList[i]? = some (f x) := by rw [e, List.getElem?_map, hx]; rfl
  simpa using q
theorem own_in {c : Cell} {α : Type} {f : α → Value} {xs : List α} (e : c.slots.toList = xs.map f) {i : Nat} {j : Int32} (hj : ¬ j < 0) (hi : j.toNatClampNeg = i) (hx : i < xs.length) : ¬ (j < 0 ∨ c.slots.size ≤ j.toNatClampNeg) := by
  rw [own_size e, hi]; intro q; rcases q with q | q
  · exact hj q
  · exact absurd hx (Nat.not_lt.mpr q)
theorem own_set {c : Cell} {α : Type} {f : α → Value} {xs : List α} (e : c.slots.toList = xs.map f) (i : Nat) (x : α) : (c.setSlot i (f x)).slots.toList = (xs.set i x).map f := by
  show (c.slots.setIfInBounds i (f x)).toList = _
  rw [Array.toList_setIfInBounds, e, List.map_set]
theorem Ari.set {h' : Heap} {a : Addr} {ty : FieldType} {xs xs' : List Int32} {i : Nat} {x : Int32} (F : Ari Z h a ty xs) (W : Wr h h' a i (.int x)) (e : xs.set i x = xs') : Ari Z h' a ty xs' := by
  subst e
  obtain ⟨c, A, r, r2⟩ := F
  exact ⟨_, A.same W, own_set r i x, by rw [List.length_set]; exact r2⟩
theorem Arj.set {h' : Heap} {a : Addr} {xs xs' : List Int64} {i : Nat} {x : Int64} (F : Arj Z h a xs) (W : Wr h h' a i (.long x)) (e : xs.set i x = xs') : Arj Z h' a xs' := by
  subst e
  obtain ⟨c, A, r, r2⟩ := F
  exact ⟨_, A.same W, own_set r i x, by rw [List.length_set]; exact r2⟩

theorem Go.iaload {a : Addr} {j x : Int32} {xs : List Int32} (i : Nat) (q : Nat) (hd : decode code pc = .ok (.iaload, 1)) (A : Ari Z h a .int xs) (hj : ¬ j < 0) (hi : j.toNatClampNeg = i) (hx : xs[i]? = some x) (hq : pc + 1 = q) (g : Go l Z y code ml ret R Q k n h q Ls (.int x :: st)) : Go l Z y code ml ret R Q k n h pc Ls (.int j :: .ref a :: st) := by
  subst hq hi
  obtain ⟨cl, A, r, r2⟩ := A
  have hv := own_at r hx
  have hin := own_in r hj rfl (List.getElem?_eq_some_iff.mp hx).1
  exact g.pure fun p e s m args below meth c K T L k' n' X hT t rr => X.iaload K.1 (cell := cl) (v := .int x) (by rw [hT]; exact A.1) (State.isArrayOf_alike K.2.2.1.alike A.2.1) A.2.2 hin hv (g := mkF m pc Ls (.int j :: .ref a :: st)) rfl rfl (hb K.2.1 hd) t rr
theorem Go.baload {a : Addr} {j x : Int32} {xs : List Int32} (i : Nat) (q : Nat) (hd : decode code pc = .ok (.baload, 1)) (A : Ari Z h a .byte xs) (hj : ¬ j < 0) (hi : j.toNatClampNeg = i) (hx : xs[i]? = some x) (hq : pc + 1 = q) (g : Go l Z y code ml ret R Q k n h q Ls (.int x :: st)) : Go l Z y code ml ret R Q k n h pc Ls (.int j :: .ref a :: st) := by
  subst hq hi
  obtain ⟨cl, A, r, r2⟩ := A
  have hv := own_at r hx
  have hin := own_in r hj rfl (List.getElem?_eq_some_iff.mp hx).1
  exact g.pure fun p e s m args below meth c K T L k' n' X hT t rr => X.baloadBytes K.1 (cell := cl) (v := .int x) (by rw [hT]; exact A.1) (State.isArrayOf_alike K.2.2.1.alike A.2.1) A.2.2 hin hv (g := mkF m pc Ls (.int j :: .ref a :: st)) rfl rfl (hb K.2.1 hd) t rr
theorem Go.zaload {a : Addr} {j x : Int32} {xs : List Int32} (i : Nat) (q : Nat) (hd : decode code pc = .ok (.baload, 1)) (A : Ari Z h a .boolean xs) (hj : ¬ j < 0) (hi : j.toNatClampNeg = i) (hx : xs[i]? = some x) (hq : pc + 1 = q) (g : Go l Z y code ml ret R Q k n h q Ls (.int x :: st)) : Go l Z y code ml ret R Q k n h pc Ls (.int j :: .ref a :: st) := by
  subst hq hi
  obtain ⟨cl, A, r, r2⟩ := A
  have hv := own_at r hx
  have hin := own_in r hj rfl (List.getElem?_eq_some_iff.mp hx).1
  exact g.pure fun p e s m args below meth c K T L k' n' X hT t rr => X.baloadBooleans K.1 (cell := cl) (v := .int x) (by rw [hT]; exact A.1) (State.isArrayOf_alike K.2.2.1.alike A.2.1) A.2.2 hin hv (g := mkF m pc Ls (.int j :: .ref a :: st)) rfl rfl (hb K.2.1 hd) t rr
theorem Go.caload {a : Addr} {j x : Int32} {xs : List Int32} (i : Nat) (q : Nat) (hd : decode code pc = .ok (.caload, 1)) (A : Ari Z h a .char xs) (hj : ¬ j < 0) (hi : j.toNatClampNeg = i) (hx : xs[i]? = some x) (hq : pc + 1 = q) (g : Go l Z y code ml ret R Q k n h q Ls (.int x :: st)) : Go l Z y code ml ret R Q k n h pc Ls (.int j :: .ref a :: st) := by
  subst hq hi
  obtain ⟨cl, A, r, r2⟩ := A
  have hv := own_at r hx
  have hin := own_in r hj rfl (List.getElem?_eq_some_iff.mp hx).1
  exact g.pure fun p e s m args below meth c K T L k' n' X hT t rr => X.caload K.1 (cell := cl) (v := .int x) (by rw [hT]; exact A.1) (State.isArrayOf_alike K.2.2.1.alike A.2.1) A.2.2 hin hv (g := mkF m pc Ls (.int j :: .ref a :: st)) rfl rfl (hb K.2.1 hd) t rr
theorem Go.laload {a : Addr} {j : Int32} {x : Int64} {xs : List Int64} (i : Nat) (q : Nat) (hd : decode code pc = .ok (.laload, 1)) (A : Arj Z h a xs) (hj : ¬ j < 0) (hi : j.toNatClampNeg = i) (hx : xs[i]? = some x) (hq : pc + 1 = q) (g : Go l Z y code ml ret R Q k n h q Ls (.long x :: st)) : Go l Z y code ml ret R Q k n h pc Ls (.int j :: .ref a :: st) := by
  subst hq hi
  obtain ⟨cl, A, r, r2⟩ := A
  have hv := own_at r hx
  have hin := own_in r hj rfl (List.getElem?_eq_some_iff.mp hx).1
  exact g.pure fun p e s m args below meth c K T L k' n' X hT t rr => X.laload K.1 (cell := cl) (v := .long x) (by rw [hT]; exact A.1) (State.isArrayOf_alike K.2.2.1.alike A.2.1) A.2.2 hin hv (g := mkF m pc Ls (.int j :: .ref a :: st)) rfl rfl (hb K.2.1 hd) t rr
theorem Go.arraylength {a : Addr} {ty : FieldType} {xs : List Int32} {z : Int32} (q : Nat) (hd : decode code pc = .ok (.arraylength, 1)) (A : Ari Z h a ty xs) (hz : xs.length.toInt32 = z) (hq : pc + 1 = q) (g : Go l Z y code ml ret R Q k n h q Ls (.int z :: st)) : Go l Z y code ml ret R Q k n h pc Ls (.ref a :: st) := by
  subst hq
  obtain ⟨cl, A, r, r2⟩ := A
  subst hz
  exact g.pure fun p e s m args below meth c K T L k' n' X hT t rr => X.arraylength K.1 (cell := cl) (by rw [hT]; exact A.1) (State.isArrayOf_alike K.2.2.1.alike A.2.1) (g := mkF m pc Ls (.ref a :: st)) rfl rfl (hb K.2.1 hd) t (by rw [own_size r]; exact rr)
theorem Go.arraylengthJ {a : Addr} {xs : List Int64} {z : Int32} (q : Nat) (hd : decode code pc = .ok (.arraylength, 1)) (A : Arj Z h a xs) (hz : xs.length.toInt32 = z) (hq : pc + 1 = q) (g : Go l Z y code ml ret R Q k n h q Ls (.int z :: st)) : Go l Z y code ml ret R Q k n h pc Ls (.ref a :: st) := by
  subst hq
  obtain ⟨cl, A, r, r2⟩ := A
  subst hz
  exact g.pure fun p e s m args below meth c K T L k' n' X hT t rr => X.arraylength K.1 (cell := cl) (by rw [hT]; exact A.1) (State.isArrayOf_alike K.2.2.1.alike A.2.1) (g := mkF m pc Ls (.ref a :: st)) rfl rfl (hb K.2.1 hd) t (by rw [own_size r]; exact rr)
theorem Go.iastore {a : Addr} {j x : Int32} {xs : List Int32} (i : Nat) (xs' : List Int32) (q : Nat) (hd : decode code pc = .ok (.iastore, 1)) (A : Ari Z h a .int xs) (hj : ¬ j < 0) (hi : j.toNatClampNeg = i) (hx : i < xs.length) (he : xs.set i (x) = xs') (hge : Z.heap.size ≤ a) (hq : pc + 1 = q)
    (g : ∀ h', Wr h h' a i (.int (x)) → Ari Z h' a .int xs' → Go l Z y code ml ret R Q k n h' q Ls st) : Go l Z y code ml ret R Q k n h pc Ls (.int x :: .int j :: .ref a :: st) := by
  subst hq hi
  refine Go.move (P := fun h' => Wr h h' a j.toNatClampNeg (.int (x))) (kk := k) (nn := n) (fun h' W => g h' W (A.set W he)) ?_
  obtain ⟨cl, A, r, r2⟩ := A
  intro p e s m args below meth c K T L k' n' X h1 h2 N hT
  obtain ⟨T', h', X', e', W', s'⟩ := stI X K.1 K.2.2.1 hT A (own_in r hj rfl hx) (g := mkF m pc Ls (.int x :: .int j :: .ref a :: st)) rfl rfl (hb K.2.1 hd)
  exact ⟨T', _, k', n', X', h1, h2, Fr.snoc X' N hge, e' ▸ W', s'⟩
theorem Go.bastore {a : Addr} {j x : Int32} {xs : List Int32} (i : Nat) (xs' : List Int32) (q : Nat) (hd : decode code pc = .ok (.bastore, 1)) (A : Ari Z h a .byte xs) (hj : ¬ j < 0) (hi : j.toNatClampNeg = i) (hx : i < xs.length) (he : xs.set i (nar .byte x) = xs') (hge : Z.heap.size ≤ a) (hq : pc + 1 = q)
    (g : ∀ h', Wr h h' a i (.int (nar .byte x)) → Ari Z h' a .byte xs' → Go l Z y code ml ret R Q k n h' q Ls st) : Go l Z y code ml ret R Q k n h pc Ls (.int x :: .int j :: .ref a :: st) := by
  subst hq hi
  refine Go.move (P := fun h' => Wr h h' a j.toNatClampNeg (.int (nar .byte x))) (kk := k) (nn := n) (fun h' W => g h' W (A.set W he)) ?_
  obtain ⟨cl, A, r, r2⟩ := A
  intro p e s m args below meth c K T L k' n' X h1 h2 N hT
  obtain ⟨T', h', X', e', W', s'⟩ := stB X K.1 K.2.2.1 hT A (own_in r hj rfl hx) (g := mkF m pc Ls (.int x :: .int j :: .ref a :: st)) rfl rfl (hb K.2.1 hd)
  exact ⟨T', _, k', n', X', h1, h2, Fr.snoc X' N hge, e' ▸ W', s'⟩
theorem Go.zastore {a : Addr} {j x : Int32} {xs : List Int32} (i : Nat) (xs' : List Int32) (q : Nat) (hd : decode code pc = .ok (.bastore, 1)) (A : Ari Z h a .boolean xs) (hj : ¬ j < 0) (hi : j.toNatClampNeg = i) (hx : i < xs.length) (he : xs.set i (nar .boolean x) = xs') (hge : Z.heap.size ≤ a) (hq : pc + 1 = q)
    (g : ∀ h', Wr h h' a i (.int (nar .boolean x)) → Ari Z h' a .boolean xs' → Go l Z y code ml ret R Q k n h' q Ls st) : Go l Z y code ml ret R Q k n h pc Ls (.int x :: .int j :: .ref a :: st) := by
  subst hq hi
  refine Go.move (P := fun h' => Wr h h' a j.toNatClampNeg (.int (nar .boolean x))) (kk := k) (nn := n) (fun h' W => g h' W (A.set W he)) ?_
  obtain ⟨cl, A, r, r2⟩ := A
  intro p e s m args below meth c K T L k' n' X h1 h2 N hT
  obtain ⟨T', h', X', e', W', s'⟩ := stZ X K.1 K.2.2.1 hT A (own_in r hj rfl hx) (g := mkF m pc Ls (.int x :: .int j :: .ref a :: st)) rfl rfl (hb K.2.1 hd)
  exact ⟨T', _, k', n', X', h1, h2, Fr.snoc X' N hge, e' ▸ W', s'⟩
theorem Go.castore {a : Addr} {j x : Int32} {xs : List Int32} (i : Nat) (xs' : List Int32) (q : Nat) (hd : decode code pc = .ok (.castore, 1)) (A : Ari Z h a .char xs) (hj : ¬ j < 0) (hi : j.toNatClampNeg = i) (hx : i < xs.length) (he : xs.set i (nar .char x) = xs') (hge : Z.heap.size ≤ a) (hq : pc + 1 = q)
    (g : ∀ h', Wr h h' a i (.int (nar .char x)) → Ari Z h' a .char xs' → Go l Z y code ml ret R Q k n h' q Ls st) : Go l Z y code ml ret R Q k n h pc Ls (.int x :: .int j :: .ref a :: st) := by
  subst hq hi
  refine Go.move (P := fun h' => Wr h h' a j.toNatClampNeg (.int (nar .char x))) (kk := k) (nn := n) (fun h' W => g h' W (A.set W he)) ?_
  obtain ⟨cl, A, r, r2⟩ := A
  intro p e s m args below meth c K T L k' n' X h1 h2 N hT
  obtain ⟨T', h', X', e', W', s'⟩ := stC X K.1 K.2.2.1 hT A (own_in r hj rfl hx) (g := mkF m pc Ls (.int x :: .int j :: .ref a :: st)) rfl rfl (hb K.2.1 hd)
  exact ⟨T', _, k', n', X', h1, h2, Fr.snoc X' N hge, e' ▸ W', s'⟩
theorem Go.lastore {a : Addr} {j : Int32} {x : Int64} {xs : List Int64} (i : Nat) (xs' : List Int64) (q : Nat) (hd : decode code pc = .ok (.lastore, 1)) (A : Arj Z h a xs) (hj : ¬ j < 0) (hi : j.toNatClampNeg = i) (hx : i < xs.length) (he : xs.set i x = xs') (hge : Z.heap.size ≤ a) (hq : pc + 1 = q)
    (g : ∀ h', Wr h h' a i (.long x) → Arj Z h' a xs' → Go l Z y code ml ret R Q k n h' q Ls st) : Go l Z y code ml ret R Q k n h pc Ls (.long x :: .int j :: .ref a :: st) := by
  subst hq hi
  refine Go.move (P := fun h' => Wr h h' a j.toNatClampNeg (.long x)) (kk := k) (nn := n) (fun h' W => g h' W (A.set W he)) ?_
  obtain ⟨cl, A, r, r2⟩ := A
  intro p e s m args below meth c K T L k' n' X h1 h2 N hT
  obtain ⟨T', h', X', e', W', s'⟩ := stJ X K.1 K.2.2.1 hT A (own_in r hj rfl hx) (g := mkF m pc Ls (.long x :: .int j :: .ref a :: st)) rfl rfl (hb K.2.1 hd)
  exact ⟨T', _, k', n', X', h1, h2, Fr.snoc X' N hge, e' ▸ W', s'⟩
theorem Go.newI {aty : ArrayType} {z : Int32} (cap : Nat) (xs : List Int32) (q : Nat) (hd : decode code pc = .ok (.newarray aty, 2)) (w : (Cond.arrayClass (newarray.typeOf aty)).before a0 Z = true) (hdv : defaultValue (newarray.typeOf aty) = .int 0) (hz : ¬ z < 0) (hcap : z.toNatClampNeg ≤ cap) (hbig : cap * 8 ≤ 536870912) (hxs : List.replicate z.toNatClampNeg 0 = xs) (hk : k + 1 ≤ R.cells) (hN : n + cap ≤ R.slots) (hq : pc + 2 = q)
    (g : ∀ (a : Addr) h', a = h.size → Ext h h' → Ari Z h' a (newarray.typeOf aty) xs → Go l Z y code ml ret R Q (k + 1) (n + cap) h' q Ls (.ref a :: st)) : Go l Z y code ml ret R Q k n h pc Ls (.int z :: st) := by
  subst hq hxs
  refine Go.move (P := fun h' => Ext h h' ∧ Ari Z h' h.size (newarray.typeOf aty) (List.replicate z.toNatClampNeg 0)) (kk := k + 1) (nn := n + cap) (fun h' p => g h.size h' rfl p.1 p.2) ?_
  intro p e s m args below meth c K T L k' n' X h1 h2 N hT
  obtain ⟨T', h', cA, X', e', E', A', s'⟩ := newP X K.1 K.2.2.1 w hT (g := mkF m pc Ls (.int z :: st)) rfl (hb K.2.1 hd) rfl hz hcap hbig (Nat.le_trans (Nat.add_le_add_right h1 1) hk) (Nat.le_trans (Nat.add_le_add_right h2 cap) hN)
  subst e'
  refine ⟨T', L, k' + 1, n' + cap, X', Nat.add_le_add_right h1 1, Nat.add_le_add_right h2 cap, N, ⟨E', _, A', ?_, ?_⟩, s'⟩
  · show (Array.replicate z.toNatClampNeg (defaultValue (newarray.typeOf aty))).toList = _
    rw [hdv]; simp [List.map_replicate]
  · rw [List.length_replicate]; omega
theorem Go.newJ {aty : ArrayType} {z : Int32} (cap : Nat) (xs : List Int64) (q : Nat) (hd : decode code pc = .ok (.newarray aty, 2)) (w : (Cond.arrayClass (newarray.typeOf aty)).before a0 Z = true) (hdv : newarray.typeOf aty = .long) (hz : ¬ z < 0) (hcap : z.toNatClampNeg ≤ cap) (hbig : cap * 8 ≤ 536870912) (hxs : List.replicate z.toNatClampNeg 0 = xs) (hk : k + 1 ≤ R.cells) (hN : n + cap ≤ R.slots) (hq : pc + 2 = q)
    (g : ∀ (a : Addr) h', a = h.size → Ext h h' → Arj Z h' a xs → Go l Z y code ml ret R Q (k + 1) (n + cap) h' q Ls (.ref a :: st)) : Go l Z y code ml ret R Q k n h pc Ls (.int z :: st) := by
  subst hq hxs
  refine Go.move (P := fun h' => Ext h h' ∧ Arj Z h' h.size (List.replicate z.toNatClampNeg 0)) (kk := k + 1) (nn := n + cap) (fun h' p => g h.size h' rfl p.1 p.2) ?_
  intro p e s m args below meth c K T L k' n' X h1 h2 N hT
  obtain ⟨T', h', cA, X', e', E', A', s'⟩ := newP X K.1 K.2.2.1 w hT (g := mkF m pc Ls (.int z :: st)) rfl (hb K.2.1 hd) rfl hz hcap hbig (Nat.le_trans (Nat.add_le_add_right h1 1) hk) (Nat.le_trans (Nat.add_le_add_right h2 cap) hN)
  subst e'
  refine ⟨T', L, k' + 1, n' + cap, X', Nat.add_le_add_right h1 1, Nat.add_le_add_right h2 cap, N, ⟨E', _, hdv ▸ A', ?_, ?_⟩, s'⟩
  · show (Array.replicate z.toNatClampNeg (defaultValue .long)).toList = _
    simp [List.map_replicate, defaultValue]
  · rw [List.length_replicate]; omega

theorem own_arv {a : Addr} {ty : FieldType} {xs : List Int32} (F : Ari Z h a ty xs) (hf : ∀ x ∈ xs, fits ty (.int x) = true) : ∃ k : ClassId, Arv Z h a k ty xs.length.toInt32 (xs.map Value.int) (.int 0) := by
  obtain ⟨c, A, r, r2⟩ := F
  have sz := own_size r
  have hz : ¬ xs.length.toInt32 < 0 := by
    have e := len_toInt (n := xs.length) (by omega)
    rw [Int32.lt_iff_toInt_lt, e]
    show ¬ (xs.length : Int) < 0
    omega
  have hn : xs.length.toInt32.toNatClampNeg = xs.length := by
    have e := nat_of hz
    have e2 := len_toInt (n := xs.length) (by omega)
    omega
  have hat : ∀ i, i < c.slots.size → ∃ x, xs[i]? = some x := fun i hi => ⟨xs[i]'(by omega), List.getElem?_eq_getElem (by omega)⟩
  refine ⟨c.cls, c, A, rfl, by rw [sz, hn], hz, fun i hi => ?_, fun i hi => ?_⟩
  · obtain ⟨x, hx⟩ := hat i hi
    rw [own_at r hx, List.getD_eq_getElem?_getD, List.getElem?_map, hx]; rfl
  · obtain ⟨x, hx⟩ := hat i hi
    rw [List.getD_eq_getElem?_getD, List.getElem?_map, hx]
    exact hf x (List.mem_of_getElem? hx)
theorem own_ari {a : Addr} {ty : FieldType} {k : ClassId} {z : Int32} {ys : List Int32} (F : Arv Z h a k ty z (ys.map Value.int) (.int 0)) (hl : z.toNatClampNeg = ys.length) (hb : ys.length < 2147483648) : Ari Z h a ty ys := by
  obtain ⟨c, A, -, sz, -, H, -⟩ := F
  refine ⟨c, A, ?_, hb⟩
  apply List.ext_getElem?
  intro i
  rw [List.getElem?_map]
  by_cases hi : i < c.slots.size
  · have q := H i hi
    rw [Array.getElem?_toList, q, List.getD_eq_getElem?_getD, List.getElem?_map, List.getElem?_eq_getElem (show i < ys.length by omega)]
    rfl
  · rw [List.getElem?_eq_none (by simpa using hi), List.getElem?_eq_none (show ys.length ≤ i by omega)]
    rfl
theorem Go.arraycopy {a b : Addr} {ty : FieldType} {xs ys ys' : List Int32} {sp dp nn : Int32} {i W : Nat} (sN dN n' : Nat) (q : Nat) (hd : decode code pc = .ok (.invokestatic i, 3)) (w1 : (Cond.methodLink y.cls i Jvm.Stand.acN).before a0 Z = true) (w2 : (Cond.native Jvm.Stand.acN).before a0 Z = true) (w3 : (Cond.static Jvm.Stand.acN).before a0 Z = true) (w4 : (Cond.initialized "java/lang/System").before a0 Z = true)
    (A : Ari Z h a ty xs) (B : Ari Z h b ty ys) (hfa : ∀ x ∈ xs, fits ty (.int x) = true) (hfb : ∀ x ∈ ys, fits ty (.int x) = true) (hty : refKind ty = false) (h1 : ¬ sp < 0) (h2 : ¬ dp < 0) (h3 : ¬ nn < 0) (e1 : sp.toNatClampNeg = sN) (e2 : dp.toNatClampNeg = dN) (e3 : nn.toNatClampNeg = n') (l1 : sN + n' ≤ xs.length) (l2 : dN + n' ≤ ys.length) (he : ys.take dN ++ (xs.drop sN).take n' ++ ys.drop (dN + n') = ys')
    (hge : Z.heap.size ≤ b) (hsz : Ls.size = ml) (hfr : 1 ≤ R.frames) (hW : (st.map fun v => v.category).sum ≤ W) (hlo : W + (nativeFrameWords "java/lang/System" "arraycopy" 5 + 11) ≤ R.locals) (hq : pc + 3 = q)
    (g : ∀ h', Keep h h' [b] → Ari Z h' b ty ys' → Go l Z y code ml ret R Q k n h' q Ls st) : Go l Z y code ml ret R Q k n h pc Ls (.int nn :: .int dp :: .ref b :: .int sp :: .ref a :: st) := by
  subst hq e1 e2 e3 he
  refine Go.move (P := fun h' => Keep h h' [b] ∧ Ari Z h' b ty (ys.take dp.toNatClampNeg ++ (xs.drop sp.toNatClampNeg).take nn.toNatClampNeg ++ ys.drop (dp.toNatClampNeg + nn.toNatClampNeg))) (kk := k) (nn := n) (fun h' p => g h' p.1 p.2) ?_
  obtain ⟨ka, A'⟩ := own_arv A hfa
  obtain ⟨kb, B'⟩ := own_arv B hfb
  obtain ⟨_, _, _, bb⟩ := B
  obtain ⟨_, _, _, ba⟩ := A
  have na : xs.length.toInt32.toNatClampNeg = xs.length := by
    have hz : ¬ xs.length.toInt32 < 0 := A'.choose_spec.2.2.2.1
    have e := nat_of hz
    have e2 := len_toInt (n := xs.length) (by omega)
    omega
  have nb : ys.length.toInt32.toNatClampNeg = ys.length := by
    have hz : ¬ ys.length.toInt32 < 0 := B'.choose_spec.2.2.2.1
    have e := nat_of hz
    have e2 := len_toInt (n := ys.length) (by omega)
    omega
  have hus : ((xs.drop sp.toNatClampNeg).take nn.toNatClampNeg).map Value.int = (List.range nn.toNatClampNeg).map fun i => (xs.map Value.int).getD (sp.toNatClampNeg + i) (.int 0) := by
    apply List.ext_getElem?
    intro i
    simp only [List.getElem?_map, List.getElem?_take, List.getElem?_drop, List.getElem?_range']
    by_cases hi : i < nn.toNatClampNeg
    · rw [if_pos hi, List.getElem?_range hi, Option.map_some, List.getD_eq_getElem?_getD, List.getElem?_map, List.getElem?_eq_getElem (show sp.toNatClampNeg + i < xs.length by omega)]
      rfl
    · rw [if_neg hi, List.getElem?_eq_none (by simpa using hi)]
      rfl
  intro p e s m args below meth c K T L k' n' X h1' h2' N hT
  obtain ⟨T', h', L', X', e', N', K', B2, s'⟩ := cpA X K.1 K.2.2.1 K.2.2.2.1 w1 w2 w3 w4 hT A' B' (Or.inl ⟨rfl, hty⟩) h1 h2 h3 (by rw [na]; exact l1) (by rw [nb]; exact l2) hus (by rw [List.length_map]; exact l2) N hge (g := mkF m pc Ls (.int nn :: .int dp :: .ref b :: .int sp :: .ref a :: st)) rfl (hsz.trans K.2.2.2.2.1.symm) rfl (hb K.2.1 hd) hfr (W := W) (by show 2 * 0 + _ ≤ _; rw [Nat.mul_zero, Nat.zero_add]; exact hW) hlo
  subst e'
  refine ⟨T', L', k', n', X', h1', h2', N', ⟨K', own_ari (z := ys.length.toInt32) (k := kb) ?_ ?_ ?_⟩, s'⟩
  · rw [List.map_append, List.map_append, List.map_take, List.map_drop]; exact B2
  · rw [nb]; simp only [List.length_append, List.length_take, List.length_drop]; omega
  · simp only [List.length_append, List.length_take, List.length_drop]; omega

end Laws
end Jvm.OwnGo

namespace Jvm.Pilot.@@N@@
open Jvm Jvm.ClassFile Sem Op Lib Jvm.Free Jvm.Stand Jvm.LawKit Jvm.RoadKit Bundle Jvm.OwnGo Jvm.Pilot.@@N@@.Jvm.D
theorem pnx : plainName x.cls = true := by first | (simp [x, plainName, overriddenIn]; done) | decide +kernel
theorem tw0 {a0 : Array Value} {Z : State} (hw : ∀ d ∈ tables_1, d.before a0 Z = true) : ((Jvm.Cond.fieldLink "com/example/dense_bloom/densebloom/model/BloomFilterFromWordsPinLaw" (13 : Nat) "com/example/dense_bloom/densebloom/model/EntryKind" "ADDRESS" "Lcom/example/dense_bloom/densebloom/model/EntryKind;")).before a0 Z = true := hw _ (List.mem_of_getElem? (i := 0) rfl)
theorem tw1 {a0 : Array Value} {Z : State} (hw : ∀ d ∈ tables_1, d.before a0 Z = true) : ((Jvm.Cond.initialized "com/example/dense_bloom/densebloom/model/EntryKind")).before a0 Z = true := hw _ (List.mem_of_getElem? (i := 1) rfl)
theorem tw2 {a0 : Array Value} {Z : State} (hw : ∀ d ∈ tables_1, d.before a0 Z = true) : ((Jvm.Cond.laysStatic "com/example/dense_bloom/densebloom/model/EntryKind" "ADDRESS" "Lcom/example/dense_bloom/densebloom/model/EntryKind;")).before a0 Z = true := hw _ (List.mem_of_getElem? (i := 2) rfl)
theorem tw3 {a0 : Array Value} {Z : State} (hw : ∀ d ∈ tables_1, d.before a0 Z = true) : ((Jvm.Cond.constantLong "com/example/dense_bloom/densebloom/model/BloomFilterFromWordsPinLaw" (20 : Nat) (9223372036854775807 : Int64))).before a0 Z = true := hw _ (List.mem_of_getElem? (i := 3) rfl)
theorem tw4 {a0 : Array Value} {Z : State} (hw : ∀ d ∈ tables_1, d.before a0 Z = true) : ((Jvm.Cond.methodLink "com/example/dense_bloom/densebloom/model/BloomFilterFromWordsPinLaw" (22 : Nat) ({ cls := "java/lang/Math", name := "max", desc := "(JJ)J" } : Jvm.MethodName))).before a0 Z = true := hw _ (List.mem_of_getElem? (i := 4) rfl)
theorem tw5 {a0 : Array Value} {Z : State} (hw : ∀ d ∈ tables_1, d.before a0 Z = true) : ((Jvm.Cond.static ({ cls := "java/lang/Math", name := "max", desc := "(JJ)J" } : Jvm.MethodName))).before a0 Z = true := hw _ (List.mem_of_getElem? (i := 5) rfl)
theorem tw6 {a0 : Array Value} {Z : State} (hw : ∀ d ∈ tables_1, d.before a0 Z = true) : ((Jvm.Cond.initialized "java/lang/Math")).before a0 Z = true := hw _ (List.mem_of_getElem? (i := 6) rfl)
theorem tw7 {a0 : Array Value} {Z : State} (hw : ∀ d ∈ tables_1, d.before a0 Z = true) : ((Jvm.Cond.code ({ cls := "java/lang/Math", name := "max", desc := "(JJ)J" } : Jvm.MethodName) jdk_29_method_66_code (4 : Nat) (Option.some Jvm.ClassFile.FieldType.long))).before a0 Z = true := hw _ (List.mem_of_getElem? (i := 7) rfl)
theorem tw8 {a0 : Array Value} {Z : State} (hw : ∀ d ∈ tables_1, d.before a0 Z = true) : ((Jvm.Cond.arrayClass Jvm.ClassFile.FieldType.long)).before a0 Z = true := hw _ (List.mem_of_getElem? (i := 8) rfl)
theorem tw9 {a0 : Array Value} {Z : State} (hw : ∀ d ∈ tables_1, d.before a0 Z = true) : ((Jvm.Cond.constantLong "com/example/dense_bloom/densebloom/model/BloomFilterFromWordsPinLaw" (28 : Nat) (-1 : Int64))).before a0 Z = true := hw _ (List.mem_of_getElem? (i := 9) rfl)
theorem tw10 {a0 : Array Value} {Z : State} (hw : ∀ d ∈ tables_1, d.before a0 Z = true) : ((Jvm.Cond.classLink "com/example/dense_bloom/densebloom/model/BloomFilterFromWordsPinLaw" (30 : Nat) "com/example/dense_bloom/densebloom/model/FilterSize")).before a0 Z = true := hw _ (List.mem_of_getElem? (i := 10) rfl)
theorem tw11 {a0 : Array Value} {Z : State} (hw : ∀ d ∈ tables_1, d.before a0 Z = true) : ((Jvm.Cond.instantiable "com/example/dense_bloom/densebloom/model/FilterSize" (3 : Nat))).before a0 Z = true := hw _ (List.mem_of_getElem? (i := 11) rfl)
theorem tw12 {a0 : Array Value} {Z : State} (hw : ∀ d ∈ tables_1, d.before a0 Z = true) : ((Jvm.Cond.initialized "com/example/dense_bloom/densebloom/model/FilterSize")).before a0 Z = true := hw _ (List.mem_of_getElem? (i := 12) rfl)
theorem tw13 {a0 : Array Value} {Z : State} (hw : ∀ d ∈ tables_1, d.before a0 Z = true) : ((Jvm.Cond.methodLink "com/example/dense_bloom/densebloom/model/BloomFilterFromWordsPinLaw" (32 : Nat) ({ cls := "com/example/dense_bloom/densebloom/model/FilterSize", name := "<init>", desc := "(JJI)V" } : Jvm.MethodName))).before a0 Z = true := hw _ (List.mem_of_getElem? (i := 13) rfl)
theorem tw14 {a0 : Array Value} {Z : State} (hw : ∀ d ∈ tables_1, d.before a0 Z = true) : ((Jvm.Cond.instanceMethod ({ cls := "com/example/dense_bloom/densebloom/model/FilterSize", name := "<init>", desc := "(JJI)V" } : Jvm.MethodName))).before a0 Z = true := hw _ (List.mem_of_getElem? (i := 14) rfl)
theorem tw15 {a0 : Array Value} {Z : State} (hw : ∀ d ∈ tables_1, d.before a0 Z = true) : ((Jvm.Cond.code ({ cls := "com/example/dense_bloom/densebloom/model/FilterSize", name := "<init>", desc := "(JJI)V" } : Jvm.MethodName) prog_27_method_1_code (6 : Nat) (Option.none : Option Jvm.ClassFile.FieldType))).before a0 Z = true := hw _ (List.mem_of_getElem? (i := 15) rfl)
theorem tw16 {a0 : Array Value} {Z : State} (hw : ∀ d ∈ tables_1, d.before a0 Z = true) : ((Jvm.Cond.methodLink "com/example/dense_bloom/densebloom/model/FilterSize" (1 : Nat) ({ cls := "java/lang/Record", name := "<init>", desc := "()V" } : Jvm.MethodName))).before a0 Z = true := hw _ (List.mem_of_getElem? (i := 16) rfl)
theorem tw17 {a0 : Array Value} {Z : State} (hw : ∀ d ∈ tables_1, d.before a0 Z = true) : ((Jvm.Cond.instanceMethod ({ cls := "java/lang/Record", name := "<init>", desc := "()V" } : Jvm.MethodName))).before a0 Z = true := hw _ (List.mem_of_getElem? (i := 17) rfl)
theorem tw19 {a0 : Array Value} {Z : State} (hw : ∀ d ∈ tables_1, d.before a0 Z = true) : ((Jvm.Cond.initialized "java/lang/Record")).before a0 Z = true := hw _ (List.mem_of_getElem? (i := 19) rfl)
theorem tw20 {a0 : Array Value} {Z : State} (hw : ∀ d ∈ tables_1, d.before a0 Z = true) : ((Jvm.Cond.code ({ cls := "java/lang/Record", name := "<init>", desc := "()V" } : Jvm.MethodName) jdk_30_method_1_code (1 : Nat) (Option.none : Option Jvm.ClassFile.FieldType))).before a0 Z = true := hw _ (List.mem_of_getElem? (i := 20) rfl)
theorem tw21 {a0 : Array Value} {Z : State} (hw : ∀ d ∈ tables_1, d.before a0 Z = true) : ((Jvm.Cond.methodLink "java/lang/Record" (1 : Nat) ({ cls := "java/lang/Object", name := "<init>", desc := "()V" } : Jvm.MethodName))).before a0 Z = true := hw _ (List.mem_of_getElem? (i := 21) rfl)
theorem tw22 {a0 : Array Value} {Z : State} (hw : ∀ d ∈ tables_1, d.before a0 Z = true) : ((Jvm.Cond.instanceMethod ({ cls := "java/lang/Object", name := "<init>", desc := "()V" } : Jvm.MethodName))).before a0 Z = true := hw _ (List.mem_of_getElem? (i := 22) rfl)
theorem tw23 {a0 : Array Value} {Z : State} (hw : ∀ d ∈ tables_1, d.before a0 Z = true) : ((Jvm.Cond.code ({ cls := "java/lang/Object", name := "<init>", desc := "()V" } : Jvm.MethodName) object_method_1_code (1 : Nat) (Option.none : Option Jvm.ClassFile.FieldType))).before a0 Z = true := hw _ (List.mem_of_getElem? (i := 23) rfl)
theorem tw24 {a0 : Array Value} {Z : State} (hw : ∀ d ∈ tables_1, d.before a0 Z = true) : ((Jvm.Cond.methodLink "com/example/dense_bloom/densebloom/model/FilterSize" (7 : Nat) ({ cls := "com/example/dense_bloom/densebloom/model/FilterSize", name := "requireEntries", desc := "(J)V" } : Jvm.MethodName))).before a0 Z = true := hw _ (List.mem_of_getElem? (i := 24) rfl)
theorem tw25 {a0 : Array Value} {Z : State} (hw : ∀ d ∈ tables_1, d.before a0 Z = true) : ((Jvm.Cond.static ({ cls := "com/example/dense_bloom/densebloom/model/FilterSize", name := "requireEntries", desc := "(J)V" } : Jvm.MethodName))).before a0 Z = true := hw _ (List.mem_of_getElem? (i := 25) rfl)
theorem tw26 {a0 : Array Value} {Z : State} (hw : ∀ d ∈ tables_1, d.before a0 Z = true) : ((Jvm.Cond.code ({ cls := "com/example/dense_bloom/densebloom/model/FilterSize", name := "requireEntries", desc := "(J)V" } : Jvm.MethodName) prog_27_method_5_code (2 : Nat) (Option.none : Option Jvm.ClassFile.FieldType))).before a0 Z = true := hw _ (List.mem_of_getElem? (i := 26) rfl)
theorem tw27 {a0 : Array Value} {Z : State} (hw : ∀ d ∈ tables_1, d.before a0 Z = true) : ((Jvm.Cond.methodLink "com/example/dense_bloom/densebloom/model/FilterSize" (13 : Nat) ({ cls := "com/example/dense_bloom/densebloom/model/FilterSize", name := "requireBits", desc := "(J)V" } : Jvm.MethodName))).before a0 Z = true := hw _ (List.mem_of_getElem? (i := 27) rfl)
theorem tw28 {a0 : Array Value} {Z : State} (hw : ∀ d ∈ tables_1, d.before a0 Z = true) : ((Jvm.Cond.static ({ cls := "com/example/dense_bloom/densebloom/model/FilterSize", name := "requireBits", desc := "(J)V" } : Jvm.MethodName))).before a0 Z = true := hw _ (List.mem_of_getElem? (i := 28) rfl)
theorem tw29 {a0 : Array Value} {Z : State} (hw : ∀ d ∈ tables_1, d.before a0 Z = true) : ((Jvm.Cond.code ({ cls := "com/example/dense_bloom/densebloom/model/FilterSize", name := "requireBits", desc := "(J)V" } : Jvm.MethodName) prog_27_method_6_code (2 : Nat) (Option.none : Option Jvm.ClassFile.FieldType))).before a0 Z = true := hw _ (List.mem_of_getElem? (i := 29) rfl)
theorem tw30 {a0 : Array Value} {Z : State} (hw : ∀ d ∈ tables_1, d.before a0 Z = true) : ((Jvm.Cond.methodLink "com/example/dense_bloom/densebloom/model/FilterSize" (16 : Nat) ({ cls := "com/example/dense_bloom/densebloom/model/FilterSize", name := "requireHashes", desc := "(I)V" } : Jvm.MethodName))).before a0 Z = true := hw _ (List.mem_of_getElem? (i := 30) rfl)
theorem tw31 {a0 : Array Value} {Z : State} (hw : ∀ d ∈ tables_1, d.before a0 Z = true) : ((Jvm.Cond.static ({ cls := "com/example/dense_bloom/densebloom/model/FilterSize", name := "requireHashes", desc := "(I)V" } : Jvm.MethodName))).before a0 Z = true := hw _ (List.mem_of_getElem? (i := 31) rfl)
theorem tw32 {a0 : Array Value} {Z : State} (hw : ∀ d ∈ tables_1, d.before a0 Z = true) : ((Jvm.Cond.code ({ cls := "com/example/dense_bloom/densebloom/model/FilterSize", name := "requireHashes", desc := "(I)V" } : Jvm.MethodName) prog_27_method_7_code (1 : Nat) (Option.none : Option Jvm.ClassFile.FieldType))).before a0 Z = true := hw _ (List.mem_of_getElem? (i := 32) rfl)
theorem tw33 {a0 : Array Value} {Z : State} (hw : ∀ d ∈ tables_1, d.before a0 Z = true) : ((Jvm.Cond.fieldLink "com/example/dense_bloom/densebloom/model/FilterSize" (20 : Nat) "com/example/dense_bloom/densebloom/model/FilterSize" "expectedEntries" "J")).before a0 Z = true := hw _ (List.mem_of_getElem? (i := 33) rfl)
theorem tw34 {a0 : Array Value} {Z : State} (hw : ∀ d ∈ tables_1, d.before a0 Z = true) : ((Jvm.Cond.laysFinal "com/example/dense_bloom/densebloom/model/FilterSize" "com/example/dense_bloom/densebloom/model/FilterSize" "expectedEntries" "J")).before a0 Z = true := hw _ (List.mem_of_getElem? (i := 34) rfl)
theorem tw35 {a0 : Array Value} {Z : State} (hw : ∀ d ∈ tables_1, d.before a0 Z = true) : ((Jvm.Cond.fieldLink "com/example/dense_bloom/densebloom/model/FilterSize" (24 : Nat) "com/example/dense_bloom/densebloom/model/FilterSize" "bits" "J")).before a0 Z = true := hw _ (List.mem_of_getElem? (i := 35) rfl)
theorem tw36 {a0 : Array Value} {Z : State} (hw : ∀ d ∈ tables_1, d.before a0 Z = true) : ((Jvm.Cond.laysFinal "com/example/dense_bloom/densebloom/model/FilterSize" "com/example/dense_bloom/densebloom/model/FilterSize" "bits" "J")).before a0 Z = true := hw _ (List.mem_of_getElem? (i := 36) rfl)
theorem tw37 {a0 : Array Value} {Z : State} (hw : ∀ d ∈ tables_1, d.before a0 Z = true) : ((Jvm.Cond.fieldLink "com/example/dense_bloom/densebloom/model/FilterSize" (27 : Nat) "com/example/dense_bloom/densebloom/model/FilterSize" "hashes" "I")).before a0 Z = true := hw _ (List.mem_of_getElem? (i := 37) rfl)
theorem tw38 {a0 : Array Value} {Z : State} (hw : ∀ d ∈ tables_1, d.before a0 Z = true) : ((Jvm.Cond.laysFinal "com/example/dense_bloom/densebloom/model/FilterSize" "com/example/dense_bloom/densebloom/model/FilterSize" "hashes" "I")).before a0 Z = true := hw _ (List.mem_of_getElem? (i := 38) rfl)
theorem tw39 {a0 : Array Value} {Z : State} (hw : ∀ d ∈ tables_1, d.before a0 Z = true) : ((Jvm.Cond.methodLink "com/example/dense_bloom/densebloom/model/BloomFilterFromWordsPinLaw" (35 : Nat) ({ cls := "com/example/dense_bloom/densebloom/model/BloomFilter", name := "fromWords", desc := "(Lcom/example/dense_bloom/densebloom/model/FilterSize;Lcom/example/dense_bloom/densebloom/model/EntryKind;J[J)Lcom/example/dense_bloom/densebloom/model/BloomFilter;" } : Jvm.MethodName))).before a0 Z = true := hw _ (List.mem_of_getElem? (i := 39) rfl)
theorem tw40 {a0 : Array Value} {Z : State} (hw : ∀ d ∈ tables_1, d.before a0 Z = true) : ((Jvm.Cond.static ({ cls := "com/example/dense_bloom/densebloom/model/BloomFilter", name := "fromWords", desc := "(Lcom/example/dense_bloom/densebloom/model/FilterSize;Lcom/example/dense_bloom/densebloom/model/EntryKind;J[J)Lcom/example/dense_bloom/densebloom/model/BloomFilter;" } : Jvm.MethodName))).before a0 Z = true := hw _ (List.mem_of_getElem? (i := 40) rfl)
theorem tw41 {a0 : Array Value} {Z : State} (hw : ∀ d ∈ tables_1, d.before a0 Z = true) : ((Jvm.Cond.initialized "com/example/dense_bloom/densebloom/model/BloomFilter")).before a0 Z = true := hw _ (List.mem_of_getElem? (i := 41) rfl)
theorem tw42 {a0 : Array Value} {Z : State} (hw : ∀ d ∈ tables_1, d.before a0 Z = true) : ((Jvm.Cond.code ({ cls := "com/example/dense_bloom/densebloom/model/BloomFilter", name := "fromWords", desc := "(Lcom/example/dense_bloom/densebloom/model/FilterSize;Lcom/example/dense_bloom/densebloom/model/EntryKind;J[J)Lcom/example/dense_bloom/densebloom/model/BloomFilter;" } : Jvm.MethodName) prog_17_method_3_code (6 : Nat) (Option.some (Jvm.ClassFile.FieldType.object "com/example/dense_bloom/densebloom/model/BloomFilter")))).before a0 Z = true := hw _ (List.mem_of_getElem? (i := 42) rfl)
theorem tw43 {a0 : Array Value} {Z : State} (hw : ∀ d ∈ tables_1, d.before a0 Z = true) : ((Jvm.Cond.methodLink "com/example/dense_bloom/densebloom/model/BloomFilter" (43 : Nat) ({ cls := "com/example/dense_bloom/densebloom/model/FilterSize", name := "bits", desc := "()J" } : Jvm.MethodName))).before a0 Z = true := hw _ (List.mem_of_getElem? (i := 43) rfl)
theorem tw44 {a0 : Array Value} {Z : State} (hw : ∀ d ∈ tables_1, d.before a0 Z = true) : ((Jvm.Cond.declares ({ cls := "com/example/dense_bloom/densebloom/model/FilterSize", name := "bits", desc := "()J" } : Jvm.MethodName))).before a0 Z = true := hw _ (List.mem_of_getElem? (i := 44) rfl)
theorem tw45 {a0 : Array Value} {Z : State} (hw : ∀ d ∈ tables_1, d.before a0 Z = true) : ((Jvm.Cond.instanceMethod ({ cls := "com/example/dense_bloom/densebloom/model/FilterSize", name := "bits", desc := "()J" } : Jvm.MethodName))).before a0 Z = true := hw _ (List.mem_of_getElem? (i := 45) rfl)
theorem tw46 {a0 : Array Value} {Z : State} (hw : ∀ d ∈ tables_1, d.before a0 Z = true) : ((Jvm.Cond.selects "com/example/dense_bloom/densebloom/model/FilterSize" ({ cls := "com/example/dense_bloom/densebloom/model/FilterSize", name := "bits", desc := "()J" } : Jvm.MethodName) ({ cls := "com/example/dense_bloom/densebloom/model/FilterSize", name := "bits", desc := "()J" } : Jvm.MethodName))).before a0 Z = true := hw _ (List.mem_of_getElem? (i := 46) rfl)
theorem tw47 {a0 : Array Value} {Z : State} (hw : ∀ d ∈ tables_1, d.before a0 Z = true) : ((Jvm.Cond.code ({ cls := "com/example/dense_bloom/densebloom/model/FilterSize", name := "bits", desc := "()J" } : Jvm.MethodName) prog_27_method_22_code (1 : Nat) (Option.some Jvm.ClassFile.FieldType.long))).before a0 Z = true := hw _ (List.mem_of_getElem? (i := 47) rfl)
theorem tw48 {a0 : Array Value} {Z : State} (hw : ∀ d ∈ tables_1, d.before a0 Z = true) : ((Jvm.Cond.methodLink "com/example/dense_bloom/densebloom/model/BloomFilter" (49 : Nat) ({ cls := "com/example/dense_bloom/densebloom/model/BloomFilter", name := "wordCount", desc := "(J)I" } : Jvm.MethodName))).before a0 Z = true := hw _ (List.mem_of_getElem? (i := 48) rfl)
theorem tw49 {a0 : Array Value} {Z : State} (hw : ∀ d ∈ tables_1, d.before a0 Z = true) : ((Jvm.Cond.static ({ cls := "com/example/dense_bloom/densebloom/model/BloomFilter", name := "wordCount", desc := "(J)I" } : Jvm.MethodName))).before a0 Z = true := hw _ (List.mem_of_getElem? (i := 49) rfl)
theorem tw50 {a0 : Array Value} {Z : State} (hw : ∀ d ∈ tables_1, d.before a0 Z = true) : ((Jvm.Cond.code ({ cls := "com/example/dense_bloom/densebloom/model/BloomFilter", name := "wordCount", desc := "(J)I" } : Jvm.MethodName) prog_17_method_6_code (2 : Nat) (Option.some Jvm.ClassFile.FieldType.int))).before a0 Z = true := hw _ (List.mem_of_getElem? (i := 50) rfl)
theorem tw51 {a0 : Array Value} {Z : State} (hw : ∀ d ∈ tables_1, d.before a0 Z = true) : ((Jvm.Cond.constantLong "com/example/dense_bloom/densebloom/model/BloomFilter" (56 : Nat) (137438952896 : Int64))).before a0 Z = true := hw _ (List.mem_of_getElem? (i := 51) rfl)
theorem tw52 {a0 : Array Value} {Z : State} (hw : ∀ d ∈ tables_1, d.before a0 Z = true) : ((Jvm.Cond.constantLong "com/example/dense_bloom/densebloom/model/BloomFilter" (75 : Nat) (63 : Int64))).before a0 Z = true := hw _ (List.mem_of_getElem? (i := 52) rfl)
theorem tw53 {a0 : Array Value} {Z : State} (hw : ∀ d ∈ tables_1, d.before a0 Z = true) : ((Jvm.Cond.constantLong "com/example/dense_bloom/densebloom/model/BloomFilter" (77 : Nat) (64 : Int64))).before a0 Z = true := hw _ (List.mem_of_getElem? (i := 53) rfl)
theorem tw54 {a0 : Array Value} {Z : State} (hw : ∀ d ∈ tables_1, d.before a0 Z = true) : ((Jvm.Cond.classLink "com/example/dense_bloom/densebloom/model/BloomFilter" (3 : Nat) "com/example/dense_bloom/densebloom/model/BloomFilter")).before a0 Z = true := hw _ (List.mem_of_getElem? (i := 54) rfl)
theorem tw55 {a0 : Array Value} {Z : State} (hw : ∀ d ∈ tables_1, d.before a0 Z = true) : ((Jvm.Cond.instantiable "com/example/dense_bloom/densebloom/model/BloomFilter" (4 : Nat))).before a0 Z = true := hw _ (List.mem_of_getElem? (i := 55) rfl)
theorem tw56 {a0 : Array Value} {Z : State} (hw : ∀ d ∈ tables_1, d.before a0 Z = true) : ((Jvm.Cond.methodLink "com/example/dense_bloom/densebloom/model/BloomFilter" (9 : Nat) ({ cls := "com/example/dense_bloom/densebloom/model/BloomFilter", name := "<init>", desc := "(Lcom/example/dense_bloom/densebloom/model/FilterSize;Lcom/example/dense_bloom/densebloom/model/EntryKind;J[J)V" } : Jvm.MethodName))).before a0 Z = true := hw _ (List.mem_of_getElem? (i := 56) rfl)
theorem tw57 {a0 : Array Value} {Z : State} (hw : ∀ d ∈ tables_1, d.before a0 Z = true) : ((Jvm.Cond.instanceMethod ({ cls := "com/example/dense_bloom/densebloom/model/BloomFilter", name := "<init>", desc := "(Lcom/example/dense_bloom/densebloom/model/FilterSize;Lcom/example/dense_bloom/densebloom/model/EntryKind;J[J)V" } : Jvm.MethodName))).before a0 Z = true := hw _ (List.mem_of_getElem? (i := 57) rfl)
theorem tw58 {a0 : Array Value} {Z : State} (hw : ∀ d ∈ tables_1, d.before a0 Z = true) : ((Jvm.Cond.code ({ cls := "com/example/dense_bloom/densebloom/model/BloomFilter", name := "<init>", desc := "(Lcom/example/dense_bloom/densebloom/model/FilterSize;Lcom/example/dense_bloom/densebloom/model/EntryKind;J[J)V" } : Jvm.MethodName) prog_17_method_2_code (6 : Nat) (Option.none : Option Jvm.ClassFile.FieldType))).before a0 Z = true := hw _ (List.mem_of_getElem? (i := 58) rfl)
theorem tw59 {a0 : Array Value} {Z : State} (hw : ∀ d ∈ tables_1, d.before a0 Z = true) : ((Jvm.Cond.methodLink "com/example/dense_bloom/densebloom/model/BloomFilter" (13 : Nat) ({ cls := "java/lang/Object", name := "<init>", desc := "()V" } : Jvm.MethodName))).before a0 Z = true := hw _ (List.mem_of_getElem? (i := 59) rfl)
theorem tw60 {a0 : Array Value} {Z : State} (hw : ∀ d ∈ tables_1, d.before a0 Z = true) : ((Jvm.Cond.fieldLink "com/example/dense_bloom/densebloom/model/BloomFilter" (18 : Nat) "com/example/dense_bloom/densebloom/model/BloomFilter" "size" "Lcom/example/dense_bloom/densebloom/model/FilterSize;")).before a0 Z = true := hw _ (List.mem_of_getElem? (i := 60) rfl)
theorem tw61 {a0 : Array Value} {Z : State} (hw : ∀ d ∈ tables_1, d.before a0 Z = true) : ((Jvm.Cond.laysFinal "com/example/dense_bloom/densebloom/model/BloomFilter" "com/example/dense_bloom/densebloom/model/BloomFilter" "size" "Lcom/example/dense_bloom/densebloom/model/FilterSize;")).before a0 Z = true := hw _ (List.mem_of_getElem? (i := 61) rfl)
theorem tw62 {a0 : Array Value} {Z : State} (hw : ∀ d ∈ tables_1, d.before a0 Z = true) : ((Jvm.Cond.fieldLink "com/example/dense_bloom/densebloom/model/BloomFilter" (22 : Nat) "com/example/dense_bloom/densebloom/model/BloomFilter" "kind" "Lcom/example/dense_bloom/densebloom/model/EntryKind;")).before a0 Z = true := hw _ (List.mem_of_getElem? (i := 62) rfl)
theorem tw63 {a0 : Array Value} {Z : State} (hw : ∀ d ∈ tables_1, d.before a0 Z = true) : ((Jvm.Cond.laysFinal "com/example/dense_bloom/densebloom/model/BloomFilter" "com/example/dense_bloom/densebloom/model/BloomFilter" "kind" "Lcom/example/dense_bloom/densebloom/model/EntryKind;")).before a0 Z = true := hw _ (List.mem_of_getElem? (i := 63) rfl)
theorem tw64 {a0 : Array Value} {Z : State} (hw : ∀ d ∈ tables_1, d.before a0 Z = true) : ((Jvm.Cond.fieldLink "com/example/dense_bloom/densebloom/model/BloomFilter" (26 : Nat) "com/example/dense_bloom/densebloom/model/BloomFilter" "added" "J")).before a0 Z = true := hw _ (List.mem_of_getElem? (i := 64) rfl)
theorem tw65 {a0 : Array Value} {Z : State} (hw : ∀ d ∈ tables_1, d.before a0 Z = true) : ((Jvm.Cond.lays "com/example/dense_bloom/densebloom/model/BloomFilter" "com/example/dense_bloom/densebloom/model/BloomFilter" "added" "J")).before a0 Z = true := hw _ (List.mem_of_getElem? (i := 65) rfl)
theorem tw66 {a0 : Array Value} {Z : State} (hw : ∀ d ∈ tables_1, d.before a0 Z = true) : ((Jvm.Cond.fieldLink "com/example/dense_bloom/densebloom/model/BloomFilter" (30 : Nat) "com/example/dense_bloom/densebloom/model/BloomFilter" "words" "[J")).before a0 Z = true := hw _ (List.mem_of_getElem? (i := 66) rfl)
theorem tw67 {a0 : Array Value} {Z : State} (hw : ∀ d ∈ tables_1, d.before a0 Z = true) : ((Jvm.Cond.laysFinal "com/example/dense_bloom/densebloom/model/BloomFilter" "com/example/dense_bloom/densebloom/model/BloomFilter" "words" "[J")).before a0 Z = true := hw _ (List.mem_of_getElem? (i := 67) rfl)
theorem tw68 {a0 : Array Value} {Z : State} (hw : ∀ d ∈ tables_1, d.before a0 Z = true) : ((Jvm.Cond.methodLink "com/example/dense_bloom/densebloom/model/BloomFilterFromWordsPinLaw" (41 : Nat) ({ cls := "com/example/dense_bloom/densebloom/model/BloomFilter", name := "size", desc := "()Lcom/example/dense_bloom/densebloom/model/FilterSize;" } : Jvm.MethodName))).before a0 Z = true := hw _ (List.mem_of_getElem? (i := 68) rfl)
theorem tw69 {a0 : Array Value} {Z : State} (hw : ∀ d ∈ tables_1, d.before a0 Z = true) : ((Jvm.Cond.declares ({ cls := "com/example/dense_bloom/densebloom/model/BloomFilter", name := "size", desc := "()Lcom/example/dense_bloom/densebloom/model/FilterSize;" } : Jvm.MethodName))).before a0 Z = true := hw _ (List.mem_of_getElem? (i := 69) rfl)
theorem tw70 {a0 : Array Value} {Z : State} (hw : ∀ d ∈ tables_1, d.before a0 Z = true) : ((Jvm.Cond.instanceMethod ({ cls := "com/example/dense_bloom/densebloom/model/BloomFilter", name := "size", desc := "()Lcom/example/dense_bloom/densebloom/model/FilterSize;" } : Jvm.MethodName))).before a0 Z = true := hw _ (List.mem_of_getElem? (i := 70) rfl)
theorem tw71 {a0 : Array Value} {Z : State} (hw : ∀ d ∈ tables_1, d.before a0 Z = true) : ((Jvm.Cond.selects "com/example/dense_bloom/densebloom/model/BloomFilter" ({ cls := "com/example/dense_bloom/densebloom/model/BloomFilter", name := "size", desc := "()Lcom/example/dense_bloom/densebloom/model/FilterSize;" } : Jvm.MethodName) ({ cls := "com/example/dense_bloom/densebloom/model/BloomFilter", name := "size", desc := "()Lcom/example/dense_bloom/densebloom/model/FilterSize;" } : Jvm.MethodName))).before a0 Z = true := hw _ (List.mem_of_getElem? (i := 71) rfl)
theorem tw72 {a0 : Array Value} {Z : State} (hw : ∀ d ∈ tables_1, d.before a0 Z = true) : ((Jvm.Cond.code ({ cls := "com/example/dense_bloom/densebloom/model/BloomFilter", name := "size", desc := "()Lcom/example/dense_bloom/densebloom/model/FilterSize;" } : Jvm.MethodName) prog_17_method_7_code (1 : Nat) (Option.some (Jvm.ClassFile.FieldType.object "com/example/dense_bloom/densebloom/model/FilterSize")))).before a0 Z = true := hw _ (List.mem_of_getElem? (i := 72) rfl)
theorem tw73 {a0 : Array Value} {Z : State} (hw : ∀ d ∈ tables_1, d.before a0 Z = true) : ((Jvm.Cond.methodLink "com/example/dense_bloom/densebloom/model/BloomFilterFromWordsPinLaw" (45 : Nat) ({ cls := "com/example/dense_bloom/densebloom/model/BloomFilter", name := "kind", desc := "()Lcom/example/dense_bloom/densebloom/model/EntryKind;" } : Jvm.MethodName))).before a0 Z = true := hw _ (List.mem_of_getElem? (i := 73) rfl)
theorem tw74 {a0 : Array Value} {Z : State} (hw : ∀ d ∈ tables_1, d.before a0 Z = true) : ((Jvm.Cond.declares ({ cls := "com/example/dense_bloom/densebloom/model/BloomFilter", name := "kind", desc := "()Lcom/example/dense_bloom/densebloom/model/EntryKind;" } : Jvm.MethodName))).before a0 Z = true := hw _ (List.mem_of_getElem? (i := 74) rfl)
theorem tw75 {a0 : Array Value} {Z : State} (hw : ∀ d ∈ tables_1, d.before a0 Z = true) : ((Jvm.Cond.instanceMethod ({ cls := "com/example/dense_bloom/densebloom/model/BloomFilter", name := "kind", desc := "()Lcom/example/dense_bloom/densebloom/model/EntryKind;" } : Jvm.MethodName))).before a0 Z = true := hw _ (List.mem_of_getElem? (i := 75) rfl)
theorem tw76 {a0 : Array Value} {Z : State} (hw : ∀ d ∈ tables_1, d.before a0 Z = true) : ((Jvm.Cond.selects "com/example/dense_bloom/densebloom/model/BloomFilter" ({ cls := "com/example/dense_bloom/densebloom/model/BloomFilter", name := "kind", desc := "()Lcom/example/dense_bloom/densebloom/model/EntryKind;" } : Jvm.MethodName) ({ cls := "com/example/dense_bloom/densebloom/model/BloomFilter", name := "kind", desc := "()Lcom/example/dense_bloom/densebloom/model/EntryKind;" } : Jvm.MethodName))).before a0 Z = true := hw _ (List.mem_of_getElem? (i := 76) rfl)
theorem tw77 {a0 : Array Value} {Z : State} (hw : ∀ d ∈ tables_1, d.before a0 Z = true) : ((Jvm.Cond.code ({ cls := "com/example/dense_bloom/densebloom/model/BloomFilter", name := "kind", desc := "()Lcom/example/dense_bloom/densebloom/model/EntryKind;" } : Jvm.MethodName) prog_17_method_8_code (1 : Nat) (Option.some (Jvm.ClassFile.FieldType.object "com/example/dense_bloom/densebloom/model/EntryKind")))).before a0 Z = true := hw _ (List.mem_of_getElem? (i := 77) rfl)
theorem tw78 {a0 : Array Value} {Z : State} (hw : ∀ d ∈ tables_1, d.before a0 Z = true) : ((Jvm.Cond.methodLink "com/example/dense_bloom/densebloom/model/BloomFilterFromWordsPinLaw" (49 : Nat) ({ cls := "com/example/dense_bloom/densebloom/model/BloomFilter", name := "added", desc := "()J" } : Jvm.MethodName))).before a0 Z = true := hw _ (List.mem_of_getElem? (i := 78) rfl)
theorem tw79 {a0 : Array Value} {Z : State} (hw : ∀ d ∈ tables_1, d.before a0 Z = true) : ((Jvm.Cond.declares ({ cls := "com/example/dense_bloom/densebloom/model/BloomFilter", name := "added", desc := "()J" } : Jvm.MethodName))).before a0 Z = true := hw _ (List.mem_of_getElem? (i := 79) rfl)
theorem tw80 {a0 : Array Value} {Z : State} (hw : ∀ d ∈ tables_1, d.before a0 Z = true) : ((Jvm.Cond.instanceMethod ({ cls := "com/example/dense_bloom/densebloom/model/BloomFilter", name := "added", desc := "()J" } : Jvm.MethodName))).before a0 Z = true := hw _ (List.mem_of_getElem? (i := 80) rfl)
theorem tw81 {a0 : Array Value} {Z : State} (hw : ∀ d ∈ tables_1, d.before a0 Z = true) : ((Jvm.Cond.selects "com/example/dense_bloom/densebloom/model/BloomFilter" ({ cls := "com/example/dense_bloom/densebloom/model/BloomFilter", name := "added", desc := "()J" } : Jvm.MethodName) ({ cls := "com/example/dense_bloom/densebloom/model/BloomFilter", name := "added", desc := "()J" } : Jvm.MethodName))).before a0 Z = true := hw _ (List.mem_of_getElem? (i := 81) rfl)
theorem tw82 {a0 : Array Value} {Z : State} (hw : ∀ d ∈ tables_1, d.before a0 Z = true) : ((Jvm.Cond.code ({ cls := "com/example/dense_bloom/densebloom/model/BloomFilter", name := "added", desc := "()J" } : Jvm.MethodName) prog_17_method_9_code (1 : Nat) (Option.some Jvm.ClassFile.FieldType.long))).before a0 Z = true := hw _ (List.mem_of_getElem? (i := 82) rfl)
theorem tw83 {a0 : Array Value} {Z : State} (hw : ∀ d ∈ tables_1, d.before a0 Z = true) : ((Jvm.Cond.methodLink "com/example/dense_bloom/densebloom/model/BloomFilterFromWordsPinLaw" (53 : Nat) ({ cls := "com/example/dense_bloom/densebloom/model/BloomFilter", name := "wordCount", desc := "()I" } : Jvm.MethodName))).before a0 Z = true := hw _ (List.mem_of_getElem? (i := 83) rfl)
theorem tw84 {a0 : Array Value} {Z : State} (hw : ∀ d ∈ tables_1, d.before a0 Z = true) : ((Jvm.Cond.declares ({ cls := "com/example/dense_bloom/densebloom/model/BloomFilter", name := "wordCount", desc := "()I" } : Jvm.MethodName))).before a0 Z = true := hw _ (List.mem_of_getElem? (i := 84) rfl)
theorem tw85 {a0 : Array Value} {Z : State} (hw : ∀ d ∈ tables_1, d.before a0 Z = true) : ((Jvm.Cond.instanceMethod ({ cls := "com/example/dense_bloom/densebloom/model/BloomFilter", name := "wordCount", desc := "()I" } : Jvm.MethodName))).before a0 Z = true := hw _ (List.mem_of_getElem? (i := 85) rfl)
theorem tw86 {a0 : Array Value} {Z : State} (hw : ∀ d ∈ tables_1, d.before a0 Z = true) : ((Jvm.Cond.selects "com/example/dense_bloom/densebloom/model/BloomFilter" ({ cls := "com/example/dense_bloom/densebloom/model/BloomFilter", name := "wordCount", desc := "()I" } : Jvm.MethodName) ({ cls := "com/example/dense_bloom/densebloom/model/BloomFilter", name := "wordCount", desc := "()I" } : Jvm.MethodName))).before a0 Z = true := hw _ (List.mem_of_getElem? (i := 86) rfl)
theorem tw87 {a0 : Array Value} {Z : State} (hw : ∀ d ∈ tables_1, d.before a0 Z = true) : ((Jvm.Cond.code ({ cls := "com/example/dense_bloom/densebloom/model/BloomFilter", name := "wordCount", desc := "()I" } : Jvm.MethodName) prog_17_method_12_code (1 : Nat) (Option.some Jvm.ClassFile.FieldType.int))).before a0 Z = true := hw _ (List.mem_of_getElem? (i := 87) rfl)
theorem tw88 {a0 : Array Value} {Z : State} (hw : ∀ d ∈ tables_1, d.before a0 Z = true) : ((Jvm.Cond.methodLink "com/example/dense_bloom/densebloom/model/BloomFilterFromWordsPinLaw" (57 : Nat) ({ cls := "com/example/dense_bloom/densebloom/model/BloomFilter", name := "word", desc := "(I)J" } : Jvm.MethodName))).before a0 Z = true := hw _ (List.mem_of_getElem? (i := 88) rfl)
theorem tw89 {a0 : Array Value} {Z : State} (hw : ∀ d ∈ tables_1, d.before a0 Z = true) : ((Jvm.Cond.declares ({ cls := "com/example/dense_bloom/densebloom/model/BloomFilter", name := "word", desc := "(I)J" } : Jvm.MethodName))).before a0 Z = true := hw _ (List.mem_of_getElem? (i := 89) rfl)
theorem tw90 {a0 : Array Value} {Z : State} (hw : ∀ d ∈ tables_1, d.before a0 Z = true) : ((Jvm.Cond.instanceMethod ({ cls := "com/example/dense_bloom/densebloom/model/BloomFilter", name := "word", desc := "(I)J" } : Jvm.MethodName))).before a0 Z = true := hw _ (List.mem_of_getElem? (i := 90) rfl)
theorem tw91 {a0 : Array Value} {Z : State} (hw : ∀ d ∈ tables_1, d.before a0 Z = true) : ((Jvm.Cond.selects "com/example/dense_bloom/densebloom/model/BloomFilter" ({ cls := "com/example/dense_bloom/densebloom/model/BloomFilter", name := "word", desc := "(I)J" } : Jvm.MethodName) ({ cls := "com/example/dense_bloom/densebloom/model/BloomFilter", name := "word", desc := "(I)J" } : Jvm.MethodName))).before a0 Z = true := hw _ (List.mem_of_getElem? (i := 91) rfl)
theorem tw92 {a0 : Array Value} {Z : State} (hw : ∀ d ∈ tables_1, d.before a0 Z = true) : ((Jvm.Cond.code ({ cls := "com/example/dense_bloom/densebloom/model/BloomFilter", name := "word", desc := "(I)J" } : Jvm.MethodName) prog_17_method_13_code (2 : Nat) (Option.some Jvm.ClassFile.FieldType.long))).before a0 Z = true := hw _ (List.mem_of_getElem? (i := 92) rfl)
theorem tw93 {a0 : Array Value} {Z : State} (hw : ∀ d ∈ tables_1, d.before a0 Z = true) : ((Jvm.Cond.constantLong "com/example/dense_bloom/densebloom/model/BloomFilterFromWordsPinLaw" (16 : Nat) (193 : Int64))).before a0 Z = true := hw _ (List.mem_of_getElem? (i := 93) rfl)
theorem tw94 {a0 : Array Value} {Z : State} (hw : ∀ d ∈ tables_1, d.before a0 Z = true) : ((Jvm.Cond.fieldLink "com/example/dense_bloom/densebloom/model/BloomFilterFromWordsPinLaw" (7 : Nat) "com/example/dense_bloom/densebloom/model/EntryKind" "DOMAIN" "Lcom/example/dense_bloom/densebloom/model/EntryKind;")).before a0 Z = true := hw _ (List.mem_of_getElem? (i := 94) rfl)
theorem tw95 {a0 : Array Value} {Z : State} (hw : ∀ d ∈ tables_1, d.before a0 Z = true) : ((Jvm.Cond.laysStatic "com/example/dense_bloom/densebloom/model/EntryKind" "DOMAIN" "Lcom/example/dense_bloom/densebloom/model/EntryKind;")).before a0 Z = true := hw _ (List.mem_of_getElem? (i := 95) rfl)
theorem own_nn {x : Int32} (h : 0 ≤ x.toInt) : x.toInt = (x.toBitVec.toNat : Int) := by
  have q := BitVec.toInt_eq_toNat_cond x.toBitVec
  have e : x.toInt = x.toBitVec.toInt := rfl
  rw [e] at h ⊢
  rw [q] at h ⊢
  have := x.toBitVec.isLt
  split at h <;> rename_i c
  · rw [if_pos c]
  · omega
theorem own_nn' {x : Int32} (h : x.toBitVec.toNat < 2147483648) : x.toInt = (x.toBitVec.toNat : Int) := by
  have q := BitVec.toInt_eq_toNat_cond x.toBitVec
  have e : x.toInt = x.toBitVec.toInt := rfl
  rw [e, q, if_pos (by omega)]
theorem own_ofnat {x : Int32} (h : 0 ≤ x.toInt) : x = Int32.ofNat x.toBitVec.toNat := by
  apply Int32.toBitVec_inj.mp
  apply BitVec.eq_of_toNat_eq
  show _ = (BitVec.ofNat 32 x.toBitVec.toNat).toNat
  rw [BitVec.toNat_ofNat, Nat.mod_eq_of_lt x.toBitVec.isLt]
theorem own_b32 (x : Int32) : -2147483648 ≤ x.toInt ∧ x.toInt < 2147483648 := ⟨Int32.le_toInt x, Int32.toInt_lt x⟩
theorem own_b64 (x : Int64) : -9223372036854775808 ≤ x.toInt ∧ x.toInt < 9223372036854775808 := ⟨Int64.le_toInt x, Int64.toInt_lt x⟩
theorem own_add64 {x y : Int64} (h1 : -9223372036854775808 ≤ x.toInt + y.toInt) (h2 : x.toInt + y.toInt < 9223372036854775808) : (x + y).toInt = x.toInt + y.toInt := XT.add64 ⟨h1, h2⟩
theorem own_sub64 {x y : Int64} (h1 : -9223372036854775808 ≤ x.toInt - y.toInt) (h2 : x.toInt - y.toInt < 9223372036854775808) : (x - y).toInt = x.toInt - y.toInt := XT.sub64 ⟨h1, h2⟩
theorem own_mul64 {x y : Int64} (h1 : -9223372036854775808 ≤ x.toInt * y.toInt) (h2 : x.toInt * y.toInt < 9223372036854775808) : (x * y).toInt = x.toInt * y.toInt := XT.mul64 ⟨h1, h2⟩
theorem own_add32 {x y : Int32} (h1 : -2147483648 ≤ x.toInt + y.toInt) (h2 : x.toInt + y.toInt < 2147483648) : (x + y).toInt = x.toInt + y.toInt := XT.add32 ⟨h1, h2⟩
theorem own_sub32 {x y : Int32} (h1 : -2147483648 ≤ x.toInt - y.toInt) (h2 : x.toInt - y.toInt < 2147483648) : (x - y).toInt = x.toInt - y.toInt := XT.sub32 ⟨h1, h2⟩
theorem own_w (x : Int32) : x.toInt64.toInt = x.toInt := Int32.toInt_toInt64 x
theorem own_div64 {x y : Int64} (hx : 0 ≤ x.toInt) (hy : 0 < y.toInt) : (x / y).toInt = x.toInt / y.toInt := by
  rw [Int64.toInt_div, Int.tdiv_eq_ediv_of_nonneg hx]
  have b := own_b64 x
  have h1 : 0 ≤ x.toInt / y.toInt := Int.ediv_nonneg hx (Int.le_of_lt hy)
  have h2 : x.toInt / y.toInt ≤ x.toInt := Int.ediv_le_self _ hx
  exact Int.bmod_eq_of_le (by omega) (by omega)
theorem own_div32 {x y : Int32} (hx : 0 ≤ x.toInt) (hy : 0 < y.toInt) : (x / y).toInt = x.toInt / y.toInt := by
  rw [Int32.toInt_div, Int.tdiv_eq_ediv_of_nonneg hx]
  have b := own_b32 x
  have h1 : 0 ≤ x.toInt / y.toInt := Int.ediv_nonneg hx (Int.le_of_lt hy)
  have h2 : x.toInt / y.toInt ≤ x.toInt := Int.ediv_le_self _ hx
  exact Int.bmod_eq_of_le (by omega) (by omega)
theorem own_rem32 {x y : Int32} (hx : 0 ≤ x.toInt) : (x % y).toInt = x.toInt % y.toInt := by
  rw [Int32.toInt_mod, Int.tmod_eq_emod_of_nonneg hx]
theorem own_pos32 (x : Int32) : 0 ≤ (x &&& 2147483647).toInt := by
  have q := (XT.and_neg32 x 2147483647)
  rw [XT.negI32] at q
  have r : ¬ (x &&& 2147483647).toInt < 0 := fun h => absurd (q.mp h).2 (by decide)
  omega
theorem own_pos64 (x : Int64) : 0 ≤ (x &&& 9223372036854775807).toInt := by
  have q := (XT.and_neg64 x 9223372036854775807)
  rw [XT.negI64] at q
  have r : ¬ (x &&& 9223372036854775807).toInt < 0 := fun h => absurd (q.mp h).2 (by decide)
  omega
theorem own_lt32 {x y : Int32} : x < y ↔ x.toInt < y.toInt := Int32.lt_iff_toInt_lt
theorem own_lt64 {x y : Int64} : x < y ↔ x.toInt < y.toInt := Int64.lt_iff_toInt_lt
theorem own_eq32 {x y : Int32} : x = y ↔ x.toInt = y.toInt := ⟨fun h => h ▸ rfl, Int32.toInt_inj.mp⟩
theorem own_eq64 {x y : Int64} : x = y ↔ x.toInt = y.toInt := ⟨fun h => h ▸ rfl, Int64.toInt_inj.mp⟩
def own_wc (b : Int64) : Int32 := ((b + 63) / 64).toInt32
theorem own_ubits (x k : Int32) (n : Nat) (hk : (k &&& 31).toUInt32.toBitVec.toNat = n) (hn : n < 32) : 0 ≤ ((XT.ushr x k) &&& 63).toInt ∧ ((XT.ushr x k) &&& 63).toInt < 64 := by
  generalize XT.ushr x k = b
  have e : (b &&& 63).toBitVec.toNat = b.toBitVec.toNat % 64 := by
    rw [Int32.toBitVec_and, BitVec.toNat_and]
    show b.toBitVec.toNat &&& 63 = _
    exact Nat.and_two_pow_sub_one_eq_mod b.toBitVec.toNat 6
  have h := own_nn' (x := b &&& 63) (by omega)
  omega
theorem own_hash (x v : Int32) (h : v = 1 + ((XT.ushr x 2) &&& 63)) : ¬ v < 1 ∧ ¬ 64 < v := by
  have m := own_ubits x 2 2 (by decide) (by decide)
  have c1 : (1 : Int32).toInt = 1 := by decide
  have c64 : (64 : Int32).toInt = 64 := by decide
  have e : v.toInt = 1 + ((XT.ushr x 2) &&& 63).toInt := by rw [h, own_add32 (by rw [c1]; omega) (by rw [c1]; omega), c1]
  rw [own_lt32, own_lt32, e, c1, c64]
  omega
theorem own_low (x : Int32) (v : Int64) (h : v = ((XT.ushr x 8) &&& 63).toInt64) : 0 ≤ v.toInt ∧ v.toInt < 64 := by
  have m := own_ubits x 8 8 (by decide) (by decide)
  rw [h, own_w]; exact m
theorem own_bitsv {low v b0 : Int64} {k : Int32} (hl : 0 ≤ low.toInt ∧ low.toInt < 64) (hb : b0 = 193 ∧ k = 4 ∨ b0 = 1 ∧ k = 1) (h : v = b0 + low) : ¬ v < 1 ∧ ¬ 137438952896 < v ∧ k = own_wc v := by
  have c1 : (1 : Int64).toInt = 1 := by decide
  have c63 : (63 : Int64).toInt = 63 := by decide
  have c64 : (64 : Int64).toInt = 64 := by decide
  have c193 : (193 : Int64).toInt = 193 := by decide
  have cm : (137438952896 : Int64).toInt = 137438952896 := by decide
  have k4 : (4 : Int32).toInt = 4 := by decide
  have k1 : (1 : Int32).toInt = 1 := by decide
  have ev : v.toInt = b0.toInt + low.toInt := by
    rcases hb with ⟨q, -⟩ | ⟨q, -⟩ <;> subst q <;> rw [h]
    · rw [own_add64 (by rw [c193]; omega) (by rw [c193]; omega)]
    · rw [own_add64 (by rw [c1]; omega) (by rw [c1]; omega)]
  have hb0 : b0.toInt = 193 ∧ k.toInt = 4 ∨ b0.toInt = 1 ∧ k.toInt = 1 := by
    rcases hb with ⟨q, r⟩ | ⟨q, r⟩ <;> subst q r
    · exact Or.inl ⟨c193, k4⟩
    · exact Or.inr ⟨c1, k1⟩
  have e3 : (v + 63).toInt = v.toInt + 63 := by rw [own_add64 (by rw [c63]; omega) (by rw [c63]; omega), c63]
  have e4 : ((v + 63) / 64).toInt = (v.toInt + 63) / 64 := by rw [own_div64 (by omega) (by omega), e3, c64]
  refine ⟨by rw [own_lt64]; omega, by rw [own_lt64]; omega, ?_⟩
  rw [own_eq32]
  unfold own_wc
  rw [XT.narrowInt ⟨by omega, by omega⟩, e4]
  omega
theorem own_exp (x v : Int64) (h : v = if (1 : Int64) < (x &&& 9223372036854775807) then (x &&& 9223372036854775807) else 1) : ¬ v < 1 := by
  have c1 : (1 : Int64).toInt = 1 := by decide
  subst h
  rw [own_lt64]
  split
  · rename_i q; rw [own_lt64] at q; omega
  · omega
theorem own_nonneg (x v : Int64) (h : v = x &&& 9223372036854775807) : ¬ v < 0 := by
  have p := own_pos64 x
  have c0 : (0 : Int64).toInt = 0 := by decide
  rw [own_lt64, h, c0]; omega

theorem d1_0 : decode jdk_29_method_66_code 0 = .ok (.lload_n 0, 1) := by decide +kernel
theorem d1_1 : decode jdk_29_method_66_code 1 = .ok (.lload_n 2, 1) := by decide +kernel
theorem d1_2 : decode jdk_29_method_66_code 2 = .ok (.lcmp, 1) := by decide +kernel
theorem d1_3 : decode jdk_29_method_66_code 3 = .ok (.ifCond .lt 7, 3) := by decide +kernel
theorem d1_6 : decode jdk_29_method_66_code 6 = .ok (.lload_n 0, 1) := by decide +kernel
theorem d1_7 : decode jdk_29_method_66_code 7 = .ok (.goto 4, 3) := by decide +kernel
theorem d1_10 : decode jdk_29_method_66_code 10 = .ok (.lload_n 2, 1) := by decide +kernel
theorem d1_11 : decode jdk_29_method_66_code 11 = .ok (.lreturn, 1) := by decide +kernel

theorem pd1 : parseMethodDescriptor "(JJ)J" = some ⟨[.long, .long], some .long⟩ := by decide +kernel
theorem pl1 : plainFor (⟨"java/lang/Math", "max", "(JJ)J"⟩ : MethodName) = true := by first | exact plainFor_of_name (by first | (simp [plainName, overriddenIn]; done) | decide +kernel) | decide +kernel

theorem ef_k_maxJ (m : MethodId) (x0 : Int64) (x1 : Int64) : entryFrame m #[(.long x0), (.long x1)] 4 = mkF m 0 #[.val (.long x0), .second, .val (.long x1), .second] [] := by first | (simp [entryFrame, mkF, argsToLocals, Value.category]; done) | rfl

set_option maxRecDepth 65536 in
set_option maxHeartbeats 40000000 in
theorem k_maxJ {l : Launch} {Z : State} {a0 : Array Value} (hw : ∀ d ∈ tables_1, d.before a0 Z = true)  (h : Heap) (hz : Z.heap.size ≤ h.size) (x : Int64) (z : Int64)     : Go l Z (⟨"java/lang/Math", "max", "(JJ)J"⟩ : MethodName) jdk_29_method_66_code 4 (Option.some Jvm.ClassFile.FieldType.long) ({ frames := 0, cells := 0, slots := 0, locals := 0 } : Room) (QJ fun rz h' => rz = (if x < z then z else x) ∧ h' = h) 0 0 h 0 #[.val (.long x), .second, .val (.long z), .second] [] := by
  refine Go.lload_n 1 d1_0 rfl rfl ?_
  refine Go.lload_n 2 d1_1 rfl rfl ?_
  refine Go.lcmp 3 d1_2 rfl ?_
  refine Go.lcmp_lt 10 6 d1_3 (by decide) (by decide) rfl (fun c1 => ?_) (fun c1 => ?_)
  ·
    refine Go.lload_n 11 d1_10 rfl rfl ?_
    refine Go.lreturn d1_11 rfl (by decide) (by decide) ?_
    exact ⟨by first | rfl | (simp [*]; done) | simp_all, rfl⟩
  ·
    refine Go.lload_n 7 d1_6 rfl rfl ?_
    refine Go.goto 11 d1_7 (by decide) (by decide) ?_
    refine Go.lreturn d1_11 rfl (by decide) (by decide) ?_
    exact ⟨by first | rfl | (simp [*]; done) | simp_all, rfl⟩

theorem d3_0 : decode jdk_30_method_1_code 0 = .ok (.aload_n 0, 1) := by decide +kernel
theorem d3_1 : decode jdk_30_method_1_code 1 = .ok (.invokespecial 1, 3) := by decide +kernel
theorem d3_4 : decode jdk_30_method_1_code 4 = .ok (.return_, 1) := by decide +kernel

theorem pd3 : parseMethodDescriptor "()V" = some ⟨[], none⟩ := by decide +kernel
theorem pl3 : plainFor (⟨"java/lang/Record", "<init>", "()V"⟩ : MethodName) = true := by first | exact plainFor_of_name (by first | (simp [plainName, overriddenIn]; done) | decide +kernel) | decide +kernel

theorem ef_k_rec (m : MethodId) (x0 : Addr) : entryFrame m #[(.ref x0)] 1 = mkF m 0 #[.val (.ref x0)] [] := by first | (simp [entryFrame, mkF, argsToLocals, Value.category]; done) | rfl

set_option maxRecDepth 65536 in
set_option maxHeartbeats 40000000 in
theorem k_rec {l : Launch} {Z : State} {a0 : Array Value} (hw : ∀ d ∈ tables_1, d.before a0 Z = true)  (h : Heap) (hz : Z.heap.size ≤ h.size) (a : Addr)     : Go l Z (⟨"java/lang/Record", "<init>", "()V"⟩ : MethodName) jdk_30_method_1_code 1 (Option.none : Option Jvm.ClassFile.FieldType) ({ frames := 1, cells := 0, slots := 0, locals := 16 } : Room) (QV fun h' => h' = h) 0 0 h 0 #[.val (.ref a)] [] := by
  refine Go.aload_n 1 d3_0 rfl rfl rfl ?_
  refine Go.initO 0 4 d3_1 (tw21 hw) (tw22 hw) (tw23 hw) rfl (by decide) (Nat.le_of_eq rfl) (by decide) rfl ?_
  refine Go.vreturn d3_4 rfl (by decide) (by decide) ?_
  exact rfl

theorem d5_0 : decode prog_27_method_5_code 0 = .ok (.lload_n 0, 1) := by decide +kernel
theorem d5_1 : decode prog_27_method_5_code 1 = .ok (.lconst 1, 1) := by decide +kernel
theorem d5_2 : decode prog_27_method_5_code 2 = .ok (.lcmp, 1) := by decide +kernel
theorem d5_3 : decode prog_27_method_5_code 3 = .ok (.ifCond .ge 17, 3) := by decide +kernel
theorem d5_6 : decode prog_27_method_5_code 6 = .ok (.new 56, 3) := by decide +kernel
theorem d5_9 : decode prog_27_method_5_code 9 = .ok (.dup, 1) := by decide +kernel
theorem d5_10 : decode prog_27_method_5_code 10 = .ok (.lload_n 0, 1) := by decide +kernel
theorem d5_11 : decode prog_27_method_5_code 11 = .ok (.invokedynamic 58, 5) := by decide +kernel
theorem d5_16 : decode prog_27_method_5_code 16 = .ok (.invokespecial 61, 3) := by decide +kernel
theorem d5_19 : decode prog_27_method_5_code 19 = .ok (.athrow, 1) := by decide +kernel
theorem d5_20 : decode prog_27_method_5_code 20 = .ok (.return_, 1) := by decide +kernel

theorem pd5 : parseMethodDescriptor "(J)V" = some ⟨[.long], none⟩ := by decide +kernel
theorem pl5 : plainFor (⟨"com/example/dense_bloom/densebloom/model/FilterSize", "requireEntries", "(J)V"⟩ : MethodName) = true := by first | exact plainFor_of_name (by first | (simp [plainName, overriddenIn]; done) | decide +kernel) | decide +kernel

theorem ef_k_re (m : MethodId) (x0 : Int64) : entryFrame m #[(.long x0)] 2 = mkF m 0 #[.val (.long x0), .second] [] := by first | (simp [entryFrame, mkF, argsToLocals, Value.category]; done) | rfl

set_option maxRecDepth 65536 in
set_option maxHeartbeats 40000000 in
theorem k_re {l : Launch} {Z : State} {a0 : Array Value} (hw : ∀ d ∈ tables_1, d.before a0 Z = true)  (h : Heap) (hz : Z.heap.size ≤ h.size) (x : Int64)  (h1 : ¬ x < 1)   : Go l Z (⟨"com/example/dense_bloom/densebloom/model/FilterSize", "requireEntries", "(J)V"⟩ : MethodName) prog_27_method_5_code 2 (Option.none : Option Jvm.ClassFile.FieldType) ({ frames := 0, cells := 0, slots := 0, locals := 0 } : Room) (QV fun h' => h' = h) 0 0 h 0 #[.val (.long x), .second] [] := by
  refine Go.lload_n 1 d5_0 rfl rfl ?_
  refine Go.lconst 2 (1) d5_1 (by decide) rfl ?_
  refine Go.lcmp 3 d5_2 rfl ?_
  refine Go.lcmp_ge 20 6 d5_3 (by decide) (by decide) rfl (fun c1 => ?_) (fun c1 => ?_)
  ·
    refine Go.vreturn d5_20 rfl (by decide) (by decide) ?_
    exact rfl
  ·
    exact absurd c1 h1

theorem d6_0 : decode prog_27_method_6_code 0 = .ok (.lload_n 0, 1) := by decide +kernel
theorem d6_1 : decode prog_27_method_6_code 1 = .ok (.lconst 1, 1) := by decide +kernel
theorem d6_2 : decode prog_27_method_6_code 2 = .ok (.lcmp, 1) := by decide +kernel
theorem d6_3 : decode prog_27_method_6_code 3 = .ok (.ifCond .ge 17, 3) := by decide +kernel
theorem d6_6 : decode prog_27_method_6_code 6 = .ok (.new 56, 3) := by decide +kernel
theorem d6_9 : decode prog_27_method_6_code 9 = .ok (.dup, 1) := by decide +kernel
theorem d6_10 : decode prog_27_method_6_code 10 = .ok (.lload_n 0, 1) := by decide +kernel
theorem d6_11 : decode prog_27_method_6_code 11 = .ok (.invokedynamic 64, 5) := by decide +kernel
theorem d6_16 : decode prog_27_method_6_code 16 = .ok (.invokespecial 61, 3) := by decide +kernel
theorem d6_19 : decode prog_27_method_6_code 19 = .ok (.athrow, 1) := by decide +kernel
theorem d6_20 : decode prog_27_method_6_code 20 = .ok (.return_, 1) := by decide +kernel

theorem pd6 : parseMethodDescriptor "(J)V" = some ⟨[.long], none⟩ := by decide +kernel
theorem pl6 : plainFor (⟨"com/example/dense_bloom/densebloom/model/FilterSize", "requireBits", "(J)V"⟩ : MethodName) = true := by first | exact plainFor_of_name (by first | (simp [plainName, overriddenIn]; done) | decide +kernel) | decide +kernel

theorem ef_k_rb (m : MethodId) (x0 : Int64) : entryFrame m #[(.long x0)] 2 = mkF m 0 #[.val (.long x0), .second] [] := by first | (simp [entryFrame, mkF, argsToLocals, Value.category]; done) | rfl

set_option maxRecDepth 65536 in
set_option maxHeartbeats 40000000 in
theorem k_rb {l : Launch} {Z : State} {a0 : Array Value} (hw : ∀ d ∈ tables_1, d.before a0 Z = true)  (h : Heap) (hz : Z.heap.size ≤ h.size) (x : Int64)  (h1 : ¬ x < 1)   : Go l Z (⟨"com/example/dense_bloom/densebloom/model/FilterSize", "requireBits", "(J)V"⟩ : MethodName) prog_27_method_6_code 2 (Option.none : Option Jvm.ClassFile.FieldType) ({ frames := 0, cells := 0, slots := 0, locals := 0 } : Room) (QV fun h' => h' = h) 0 0 h 0 #[.val (.long x), .second] [] := by
  refine Go.lload_n 1 d6_0 rfl rfl ?_
  refine Go.lconst 2 (1) d6_1 (by decide) rfl ?_
  refine Go.lcmp 3 d6_2 rfl ?_
  refine Go.lcmp_ge 20 6 d6_3 (by decide) (by decide) rfl (fun c1 => ?_) (fun c1 => ?_)
  ·
    refine Go.vreturn d6_20 rfl (by decide) (by decide) ?_
    exact rfl
  ·
    exact absurd c1 h1

theorem d7_0 : decode prog_27_method_7_code 0 = .ok (.iload_n 0, 1) := by decide +kernel
theorem d7_1 : decode prog_27_method_7_code 1 = .ok (.iconst 1, 1) := by decide +kernel
theorem d7_2 : decode prog_27_method_7_code 2 = .ok (.if_icmp .lt 9, 3) := by decide +kernel
theorem d7_5 : decode prog_27_method_7_code 5 = .ok (.iload_n 0, 1) := by decide +kernel
theorem d7_6 : decode prog_27_method_7_code 6 = .ok (.bipush 64, 2) := by decide +kernel
theorem d7_8 : decode prog_27_method_7_code 8 = .ok (.if_icmp .le 17, 3) := by decide +kernel
theorem d7_11 : decode prog_27_method_7_code 11 = .ok (.new 56, 3) := by decide +kernel
theorem d7_14 : decode prog_27_method_7_code 14 = .ok (.dup, 1) := by decide +kernel
theorem d7_15 : decode prog_27_method_7_code 15 = .ok (.iload_n 0, 1) := by decide +kernel
theorem d7_16 : decode prog_27_method_7_code 16 = .ok (.invokedynamic 65, 5) := by decide +kernel
theorem d7_21 : decode prog_27_method_7_code 21 = .ok (.invokespecial 61, 3) := by decide +kernel
theorem d7_24 : decode prog_27_method_7_code 24 = .ok (.athrow, 1) := by decide +kernel
theorem d7_25 : decode prog_27_method_7_code 25 = .ok (.return_, 1) := by decide +kernel

theorem pd7 : parseMethodDescriptor "(I)V" = some ⟨[.int], none⟩ := by decide +kernel
theorem pl7 : plainFor (⟨"com/example/dense_bloom/densebloom/model/FilterSize", "requireHashes", "(I)V"⟩ : MethodName) = true := by first | exact plainFor_of_name (by first | (simp [plainName, overriddenIn]; done) | decide +kernel) | decide +kernel

theorem ef_k_rh (m : MethodId) (x0 : Int32) : entryFrame m #[(.int x0)] 1 = mkF m 0 #[.val (.int x0)] [] := by first | (simp [entryFrame, mkF, argsToLocals, Value.category]; done) | rfl

set_option maxRecDepth 65536 in
set_option maxHeartbeats 40000000 in
theorem k_rh {l : Launch} {Z : State} {a0 : Array Value} (hw : ∀ d ∈ tables_1, d.before a0 Z = true)  (h : Heap) (hz : Z.heap.size ≤ h.size) (x : Int32)  (h1 : ¬ x < 1) (h2 : ¬ 64 < x)   : Go l Z (⟨"com/example/dense_bloom/densebloom/model/FilterSize", "requireHashes", "(I)V"⟩ : MethodName) prog_27_method_7_code 1 (Option.none : Option Jvm.ClassFile.FieldType) ({ frames := 0, cells := 0, slots := 0, locals := 0 } : Room) (QV fun h' => h' = h) 0 0 h 0 #[.val (.int x)] [] := by
  refine Go.iload_n 1 d7_0 rfl rfl ?_
  refine Go.iconst 2 (1) d7_1 (by decide) rfl ?_
  refine Go.icmp_lt 11 5 d7_2 (by decide) (by decide) rfl (fun c1 => ?_) (fun c1 => ?_)
  ·
    exact absurd c1 h1
  ·
    refine Go.iload_n 6 d7_5 rfl rfl ?_
    refine Go.bipush 8 (64) d7_6 (by decide) rfl ?_
    refine Go.icmp_le 25 11 d7_8 (by decide) (by decide) rfl (fun c2 => ?_) (fun c2 => ?_)
    ·
      refine Go.vreturn d7_25 rfl (by decide) (by decide) ?_
      exact rfl
    ·
      exact absurd c2 h2

theorem d2_0 : decode prog_27_method_1_code 0 = .ok (.aload_n 0, 1) := by decide +kernel
theorem d2_1 : decode prog_27_method_1_code 1 = .ok (.invokespecial 1, 3) := by decide +kernel
theorem d2_4 : decode prog_27_method_1_code 4 = .ok (.lload_n 1, 1) := by decide +kernel
theorem d2_5 : decode prog_27_method_1_code 5 = .ok (.invokestatic 7, 3) := by decide +kernel
theorem d2_8 : decode prog_27_method_1_code 8 = .ok (.lload_n 3, 1) := by decide +kernel
theorem d2_9 : decode prog_27_method_1_code 9 = .ok (.invokestatic 13, 3) := by decide +kernel
theorem d2_12 : decode prog_27_method_1_code 12 = .ok (.iload 5, 2) := by decide +kernel
theorem d2_14 : decode prog_27_method_1_code 14 = .ok (.invokestatic 16, 3) := by decide +kernel
theorem d2_17 : decode prog_27_method_1_code 17 = .ok (.aload_n 0, 1) := by decide +kernel
theorem d2_18 : decode prog_27_method_1_code 18 = .ok (.lload_n 1, 1) := by decide +kernel
theorem d2_19 : decode prog_27_method_1_code 19 = .ok (.putfield 20, 3) := by decide +kernel
theorem d2_22 : decode prog_27_method_1_code 22 = .ok (.aload_n 0, 1) := by decide +kernel
theorem d2_23 : decode prog_27_method_1_code 23 = .ok (.lload_n 3, 1) := by decide +kernel
theorem d2_24 : decode prog_27_method_1_code 24 = .ok (.putfield 24, 3) := by decide +kernel
theorem d2_27 : decode prog_27_method_1_code 27 = .ok (.aload_n 0, 1) := by decide +kernel
theorem d2_28 : decode prog_27_method_1_code 28 = .ok (.iload 5, 2) := by decide +kernel
theorem d2_30 : decode prog_27_method_1_code 30 = .ok (.putfield 27, 3) := by decide +kernel
theorem d2_33 : decode prog_27_method_1_code 33 = .ok (.return_, 1) := by decide +kernel

theorem pd2 : parseMethodDescriptor "(JJI)V" = some ⟨[.long, .long, .int], none⟩ := by decide +kernel
theorem pl2 : plainFor (⟨"com/example/dense_bloom/densebloom/model/FilterSize", "<init>", "(JJI)V"⟩ : MethodName) = true := by first | exact plainFor_of_name (by first | (simp [plainName, overriddenIn]; done) | decide +kernel) | decide +kernel

theorem ef_k_init (m : MethodId) (x0 : Addr) (x1 : Int64) (x2 : Int64) (x3 : Int32) : entryFrame m #[(.ref x0), (.long x1), (.long x2), (.int x3)] 6 = mkF m 0 #[.val (.ref x0), .val (.long x1), .second, .val (.long x2), .second, .val (.int x3)] [] := by first | (simp [entryFrame, mkF, argsToLocals, Value.category]; done) | rfl

set_option maxRecDepth 65536 in
set_option maxHeartbeats 40000000 in
theorem k_init {l : Launch} {Z : State} {a0 : Array Value} (hw : ∀ d ∈ tables_1, d.before a0 Z = true)  (h : Heap) (hz : Z.heap.size ≤ h.size) (a : Addr) (x : Int64) (z : Int64) (w : Int32) (fa0 : Exa Z h a "com/example/dense_bloom/densebloom/model/FilterSize") (fa1 : Fld Z h a "com/example/dense_bloom/densebloom/model/FilterSize" "expectedEntries" "J" (.long (0 : Int64))) (fa2 : Fld Z h a "com/example/dense_bloom/densebloom/model/FilterSize" "bits" "J" (.long (0 : Int64))) (fa3 : Fld Z h a "com/example/dense_bloom/densebloom/model/FilterSize" "hashes" "I" (.int (0 : Int32))) (h1 : ¬ x < 1) (h2 : ¬ z < 1) (h3 : ¬ w < 1) (h4 : ¬ 64 < w) (ge_a : Z.heap.size ≤ a)  : Go l Z (⟨"com/example/dense_bloom/densebloom/model/FilterSize", "<init>", "(JJI)V"⟩ : MethodName) prog_27_method_1_code 6 (Option.none : Option Jvm.ClassFile.FieldType) ({ frames := 2, cells := 0, slots := 0, locals := 48 } : Room) (QV fun h' => Keep h h' [a] ∧ Exa Z h' a "com/example/dense_bloom/densebloom/model/FilterSize" ∧ Fld Z h' a "com/example/dense_bloom/densebloom/model/FilterSize" "bits" "J" (.long z)) 0 0 h 0 #[.val (.ref a), .val (.long x), .second, .val (.long z), .second, .val (.int w)] [] := by
  have kp0 : Keep h h [a] := Keep.refl _ _
  refine Go.aload_n 1 d2_0 rfl rfl rfl ?_
  refine Go.callCp [] [] 4 d2_1 rfl (tw16 hw) (tw17 hw) (tw19 hw) (tw20 hw) pl3 (by decide) (lenOf pd3 rfl) rfl (fun m => ef_k_rec m a) (k_rec hw h hz a) 0 rfl (Nat.le_of_eq rfl) (by decide) (by decide) (by decide) (by decide) rfl ?_
  refine Go.lload_n 5 d2_4 rfl rfl ?_
  refine Go.callSVp [.long x] [] 8 d2_5 (tw24 hw) (tw25 hw) (tw12 hw) (tw26 hw) pl5 (by decide) (lenOf pd5 rfl) rfl (fun m => ef_k_re m x) (k_re hw h hz x (by assumption)) 0 rfl (Nat.le_of_eq rfl) (by decide) (by decide) (by decide) (by decide) rfl ?_
  refine Go.lload_n 9 d2_8 rfl rfl ?_
  refine Go.callSVp [.long z] [] 12 d2_9 (tw27 hw) (tw28 hw) (tw12 hw) (tw29 hw) pl6 (by decide) (lenOf pd6 rfl) rfl (fun m => ef_k_rb m z) (k_rb hw h hz z (by assumption)) 0 rfl (Nat.le_of_eq rfl) (by decide) (by decide) (by decide) (by decide) rfl ?_
  refine Go.iload 14 d2_12 rfl rfl ?_
  refine Go.callSVp [.int w] [] 17 d2_14 (tw30 hw) (tw31 hw) (tw12 hw) (tw32 hw) pl7 (by decide) (lenOf pd7 rfl) rfl (fun m => ef_k_rh m w) (k_rh hw h hz w (by assumption) (by assumption)) 0 rfl (Nat.le_of_eq rfl) (by decide) (by decide) (by decide) (by decide) rfl ?_
  refine Go.aload_n 18 d2_17 rfl rfl rfl ?_
  refine Go.lload_n 19 d2_18 rfl rfl ?_
  refine Go.putfield (ty := .long) 22 d2_19 (tw33 hw) fa1 fa0 (Or.inr ⟨(tw34 hw), rfl, rfl⟩) (tw11 hw) (by decide) rfl rfl ge_a rfl (fun h13 W14 => ?_)
  have f15 : Exa Z h13 a "com/example/dense_bloom/densebloom/model/FilterSize" := fa0.wr W14
  have f16 : Fld Z h13 a "com/example/dense_bloom/densebloom/model/FilterSize" "expectedEntries" "J" (.long x) := fa1.same W14
  have f17 : Fld Z h13 a "com/example/dense_bloom/densebloom/model/FilterSize" "bits" "J" (.long (0 : Int64)) := fa2.other W14 (Or.inr (slot_ne (Or.inr (tw36 hw)) (Or.inr (tw34 hw)) (by decide) (by decide +kernel : parseFieldDescriptor "J" = some .long) (by decide +kernel : parseFieldDescriptor "J" = some .long)))
  have f18 : Fld Z h13 a "com/example/dense_bloom/densebloom/model/FilterSize" "hashes" "I" (.int (0 : Int32)) := fa3.other W14 (Or.inr (slot_ne (Or.inr (tw38 hw)) (Or.inr (tw34 hw)) (by decide) (by decide +kernel : parseFieldDescriptor "I" = some .int) (by decide +kernel : parseFieldDescriptor "J" = some .long)))
  have zs19 : Z.heap.size ≤ h13.size := W14.size ▸ hz
  have kp20 : Keep h h13 [a] := kp0.wr W14 (Or.inl (by simp))
  refine Go.aload_n 23 d2_22 rfl rfl rfl ?_
  refine Go.lload_n 24 d2_23 rfl rfl ?_
  refine Go.putfield (ty := .long) 27 d2_24 (tw35 hw) f17 f15 (Or.inr ⟨(tw36 hw), rfl, rfl⟩) (tw11 hw) (by decide) rfl rfl ge_a rfl (fun h21 W22 => ?_)
  have f23 : Exa Z h21 a "com/example/dense_bloom/densebloom/model/FilterSize" := f15.wr W22
  have f24 : Fld Z h21 a "com/example/dense_bloom/densebloom/model/FilterSize" "expectedEntries" "J" (.long x) := f16.other W22 (Or.inr (slot_ne (Or.inr (tw34 hw)) (Or.inr (tw36 hw)) (by decide) (by decide +kernel : parseFieldDescriptor "J" = some .long) (by decide +kernel : parseFieldDescriptor "J" = some .long)))
  have f25 : Fld Z h21 a "com/example/dense_bloom/densebloom/model/FilterSize" "bits" "J" (.long z) := f17.same W22
  have f26 : Fld Z h21 a "com/example/dense_bloom/densebloom/model/FilterSize" "hashes" "I" (.int (0 : Int32)) := f18.other W22 (Or.inr (slot_ne (Or.inr (tw38 hw)) (Or.inr (tw36 hw)) (by decide) (by decide +kernel : parseFieldDescriptor "I" = some .int) (by decide +kernel : parseFieldDescriptor "J" = some .long)))
  have zs27 : Z.heap.size ≤ h21.size := W22.size ▸ zs19
  have kp28 : Keep h h21 [a] := kp20.wr W22 (Or.inl (by simp))
  refine Go.aload_n 28 d2_27 rfl rfl rfl ?_
  refine Go.iload 30 d2_28 rfl rfl ?_
  refine Go.putfield (ty := .int) 33 d2_30 (tw37 hw) f26 f23 (Or.inr ⟨(tw38 hw), rfl, rfl⟩) (tw11 hw) (by decide) rfl rfl ge_a rfl (fun h29 W30 => ?_)
  have f31 : Exa Z h29 a "com/example/dense_bloom/densebloom/model/FilterSize" := f23.wr W30
  have f32 : Fld Z h29 a "com/example/dense_bloom/densebloom/model/FilterSize" "expectedEntries" "J" (.long x) := f24.other W30 (Or.inr (slot_ne (Or.inr (tw34 hw)) (Or.inr (tw38 hw)) (by decide) (by decide +kernel : parseFieldDescriptor "J" = some .long) (by decide +kernel : parseFieldDescriptor "I" = some .int)))
  have f33 : Fld Z h29 a "com/example/dense_bloom/densebloom/model/FilterSize" "bits" "J" (.long z) := f25.other W30 (Or.inr (slot_ne (Or.inr (tw36 hw)) (Or.inr (tw38 hw)) (by decide) (by decide +kernel : parseFieldDescriptor "J" = some .long) (by decide +kernel : parseFieldDescriptor "I" = some .int)))
  have f34 : Fld Z h29 a "com/example/dense_bloom/densebloom/model/FilterSize" "hashes" "I" (.int w) := f26.same W30
  have zs35 : Z.heap.size ≤ h29.size := W30.size ▸ zs27
  have kp36 : Keep h h29 [a] := kp28.wr W30 (Or.inl (by simp))
  refine Go.vreturn d2_33 rfl (by decide) (by decide) ?_
  exact ⟨kp36, f31, f33⟩

theorem d9_0 : decode prog_27_method_22_code 0 = .ok (.aload_n 0, 1) := by decide +kernel
theorem d9_1 : decode prog_27_method_22_code 1 = .ok (.getfield 24, 3) := by decide +kernel
theorem d9_4 : decode prog_27_method_22_code 4 = .ok (.lreturn, 1) := by decide +kernel

theorem pd9 : parseMethodDescriptor "()J" = some ⟨[], some .long⟩ := by decide +kernel
theorem pl9 : plainFor (⟨"com/example/dense_bloom/densebloom/model/FilterSize", "bits", "()J"⟩ : MethodName) = true := by first | exact plainFor_of_name (by first | (simp [plainName, overriddenIn]; done) | decide +kernel) | decide +kernel

theorem ef_k_bits (m : MethodId) (x0 : Addr) : entryFrame m #[(.ref x0)] 1 = mkF m 0 #[.val (.ref x0)] [] := by first | (simp [entryFrame, mkF, argsToLocals, Value.category]; done) | rfl

set_option maxRecDepth 65536 in
set_option maxHeartbeats 40000000 in
theorem k_bits {l : Launch} {Z : State} {a0 : Array Value} (hw : ∀ d ∈ tables_1, d.before a0 Z = true) {b : Int64} (h : Heap) (hz : Z.heap.size ≤ h.size) (a : Addr) (fa0 : Fld Z h a "com/example/dense_bloom/densebloom/model/FilterSize" "bits" "J" (.long b))    : Go l Z (⟨"com/example/dense_bloom/densebloom/model/FilterSize", "bits", "()J"⟩ : MethodName) prog_27_method_22_code 1 (Option.some Jvm.ClassFile.FieldType.long) ({ frames := 0, cells := 0, slots := 0, locals := 0 } : Room) (QJ fun rz h' => rz = b ∧ h' = h) 0 0 h 0 #[.val (.ref a)] [] := by
  refine Go.aload_n 1 d9_0 rfl rfl rfl ?_
  refine Go.getfield 4 d9_1 (tw35 hw) fa0 rfl ?_
  refine Go.lreturn d9_4 rfl (by decide) (by decide) ?_
  exact ⟨by rfl, rfl⟩

theorem d10_0 : decode prog_17_method_6_code 0 = .ok (.lload_n 0, 1) := by decide +kernel
theorem d10_1 : decode prog_17_method_6_code 1 = .ok (.lconst 1, 1) := by decide +kernel
theorem d10_2 : decode prog_17_method_6_code 2 = .ok (.lcmp, 1) := by decide +kernel
theorem d10_3 : decode prog_17_method_6_code 3 = .ok (.ifCond .lt 11, 3) := by decide +kernel
theorem d10_6 : decode prog_17_method_6_code 6 = .ok (.lload_n 0, 1) := by decide +kernel
theorem d10_7 : decode prog_17_method_6_code 7 = .ok (.ldc2_w 56, 3) := by decide +kernel
theorem d10_10 : decode prog_17_method_6_code 10 = .ok (.lcmp, 1) := by decide +kernel
theorem d10_11 : decode prog_17_method_6_code 11 = .ok (.ifCond .le 17, 3) := by decide +kernel
theorem d10_14 : decode prog_17_method_6_code 14 = .ok (.new 34, 3) := by decide +kernel
theorem d10_17 : decode prog_17_method_6_code 17 = .ok (.dup, 1) := by decide +kernel
theorem d10_18 : decode prog_17_method_6_code 18 = .ok (.lload_n 0, 1) := by decide +kernel
theorem d10_19 : decode prog_17_method_6_code 19 = .ok (.invokedynamic 74, 5) := by decide +kernel
theorem d10_24 : decode prog_17_method_6_code 24 = .ok (.invokespecial 40, 3) := by decide +kernel
theorem d10_27 : decode prog_17_method_6_code 27 = .ok (.athrow, 1) := by decide +kernel
theorem d10_28 : decode prog_17_method_6_code 28 = .ok (.lload_n 0, 1) := by decide +kernel
theorem d10_29 : decode prog_17_method_6_code 29 = .ok (.ldc2_w 75, 3) := by decide +kernel
theorem d10_32 : decode prog_17_method_6_code 32 = .ok (.ladd, 1) := by decide +kernel
theorem d10_33 : decode prog_17_method_6_code 33 = .ok (.ldc2_w 77, 3) := by decide +kernel
theorem d10_36 : decode prog_17_method_6_code 36 = .ok (.ldiv, 1) := by decide +kernel
theorem d10_37 : decode prog_17_method_6_code 37 = .ok (.l2i, 1) := by decide +kernel
theorem d10_38 : decode prog_17_method_6_code 38 = .ok (.ireturn, 1) := by decide +kernel

theorem pd10 : parseMethodDescriptor "(J)I" = some ⟨[.long], some .int⟩ := by decide +kernel
theorem pl10 : plainFor (⟨"com/example/dense_bloom/densebloom/model/BloomFilter", "wordCount", "(J)I"⟩ : MethodName) = true := by first | exact plainFor_of_name (by first | (simp [plainName, overriddenIn]; done) | decide +kernel) | decide +kernel

theorem ef_k_wc (m : MethodId) (x0 : Int64) : entryFrame m #[(.long x0)] 2 = mkF m 0 #[.val (.long x0), .second] [] := by first | (simp [entryFrame, mkF, argsToLocals, Value.category]; done) | rfl

set_option maxRecDepth 65536 in
set_option maxHeartbeats 40000000 in
theorem k_wc {l : Launch} {Z : State} {a0 : Array Value} (hw : ∀ d ∈ tables_1, d.before a0 Z = true)  (h : Heap) (hz : Z.heap.size ≤ h.size) (x : Int64)  (h1 : ¬ x < 1) (h2 : ¬ 137438952896 < x)   : Go l Z (⟨"com/example/dense_bloom/densebloom/model/BloomFilter", "wordCount", "(J)I"⟩ : MethodName) prog_17_method_6_code 2 (Option.some Jvm.ClassFile.FieldType.int) ({ frames := 0, cells := 0, slots := 0, locals := 0 } : Room) (QI fun rz h' => rz = (own_wc x) ∧ h' = h) 0 0 h 0 #[.val (.long x), .second] [] := by
  refine Go.lload_n 1 d10_0 rfl rfl ?_
  refine Go.lconst 2 (1) d10_1 (by decide) rfl ?_
  refine Go.lcmp 3 d10_2 rfl ?_
  refine Go.lcmp_lt 14 6 d10_3 (by decide) (by decide) rfl (fun c1 => ?_) (fun c1 => ?_)
  ·
    exact absurd c1 h1
  ·
    refine Go.lload_n 7 d10_6 rfl rfl ?_
    refine Go.ldc2_w 10 d10_7 (tw51 hw) rfl ?_
    refine Go.lcmp 11 d10_10 rfl ?_
    refine Go.lcmp_le 28 14 d10_11 (by decide) (by decide) rfl (fun c2 => ?_) (fun c2 => ?_)
    ·
      refine Go.lload_n 29 d10_28 rfl rfl ?_
      refine Go.ldc2_w 32 d10_29 (tw52 hw) rfl ?_
      refine Go.ladd 33 d10_32 rfl ?_
      refine Go.ldc2_w 36 d10_33 (tw53 hw) rfl ?_
      refine Go.ldiv 37 d10_36 (by decide) rfl ?_
      refine Go.l2i 38 d10_37 rfl ?_
      refine Go.ireturn d10_38 rfl (by decide) (by decide) ?_
      exact ⟨by rfl, rfl⟩
    ·
      exact absurd c2 h2

theorem d11_0 : decode prog_17_method_2_code 0 = .ok (.aload_n 0, 1) := by decide +kernel
theorem d11_1 : decode prog_17_method_2_code 1 = .ok (.invokespecial 13, 3) := by decide +kernel
theorem d11_4 : decode prog_17_method_2_code 4 = .ok (.aload_n 0, 1) := by decide +kernel
theorem d11_5 : decode prog_17_method_2_code 5 = .ok (.aload_n 1, 1) := by decide +kernel
theorem d11_6 : decode prog_17_method_2_code 6 = .ok (.putfield 18, 3) := by decide +kernel
theorem d11_9 : decode prog_17_method_2_code 9 = .ok (.aload_n 0, 1) := by decide +kernel
theorem d11_10 : decode prog_17_method_2_code 10 = .ok (.aload_n 2, 1) := by decide +kernel
theorem d11_11 : decode prog_17_method_2_code 11 = .ok (.putfield 22, 3) := by decide +kernel
theorem d11_14 : decode prog_17_method_2_code 14 = .ok (.aload_n 0, 1) := by decide +kernel
theorem d11_15 : decode prog_17_method_2_code 15 = .ok (.lload_n 3, 1) := by decide +kernel
theorem d11_16 : decode prog_17_method_2_code 16 = .ok (.putfield 26, 3) := by decide +kernel
theorem d11_19 : decode prog_17_method_2_code 19 = .ok (.aload_n 0, 1) := by decide +kernel
theorem d11_20 : decode prog_17_method_2_code 20 = .ok (.aload 5, 2) := by decide +kernel
theorem d11_22 : decode prog_17_method_2_code 22 = .ok (.putfield 30, 3) := by decide +kernel
theorem d11_25 : decode prog_17_method_2_code 25 = .ok (.return_, 1) := by decide +kernel

theorem pd11 : parseMethodDescriptor "(Lcom/example/dense_bloom/densebloom/model/FilterSize;Lcom/example/dense_bloom/densebloom/model/EntryKind;J[J)V" = some ⟨[(.object "com/example/dense_bloom/densebloom/model/FilterSize"), (.object "com/example/dense_bloom/densebloom/model/EntryKind"), .long, (.array .long)], none⟩ := by decide +kernel
theorem pl11 : plainFor (⟨"com/example/dense_bloom/densebloom/model/BloomFilter", "<init>", "(Lcom/example/dense_bloom/densebloom/model/FilterSize;Lcom/example/dense_bloom/densebloom/model/EntryKind;J[J)V"⟩ : MethodName) = true := by first | exact plainFor_of_name (by first | (simp [plainName, overriddenIn]; done) | decide +kernel) | decide +kernel

theorem ef_k_binit (m : MethodId) (x0 : Addr) (x1 : Addr) (x2 : Addr) (x3 : Int64) (x4 : Addr) : entryFrame m #[(.ref x0), (.ref x1), (.ref x2), (.long x3), (.ref x4)] 6 = mkF m 0 #[.val (.ref x0), .val (.ref x1), .val (.ref x2), .val (.long x3), .second, .val (.ref x4)] [] := by first | (simp [entryFrame, mkF, argsToLocals, Value.category]; done) | rfl

set_option maxRecDepth 65536 in
set_option maxHeartbeats 40000000 in
theorem k_binit {l : Launch} {Z : State} {a0 : Array Value} (hw : ∀ d ∈ tables_1, d.before a0 Z = true)  (h : Heap) (hz : Z.heap.size ≤ h.size) (a : Addr) (s : Addr) (k : Addr) (ad : Int64) (w : Addr) (fa0 : Exa Z h a "com/example/dense_bloom/densebloom/model/BloomFilter") (fa1 : Fld Z h a "com/example/dense_bloom/densebloom/model/BloomFilter" "size" "Lcom/example/dense_bloom/densebloom/model/FilterSize;" (.null)) (fa2 : Fld Z h a "com/example/dense_bloom/densebloom/model/BloomFilter" "kind" "Lcom/example/dense_bloom/densebloom/model/EntryKind;" (.null)) (fa3 : Fld Z h a "com/example/dense_bloom/densebloom/model/BloomFilter" "added" "J" (.long (0 : Int64))) (fa4 : Fld Z h a "com/example/dense_bloom/densebloom/model/BloomFilter" "words" "[J" (.null))  (ge_a : Z.heap.size ≤ a)  : Go l Z (⟨"com/example/dense_bloom/densebloom/model/BloomFilter", "<init>", "(Lcom/example/dense_bloom/densebloom/model/FilterSize;Lcom/example/dense_bloom/densebloom/model/EntryKind;J[J)V"⟩ : MethodName) prog_17_method_2_code 6 (Option.none : Option Jvm.ClassFile.FieldType) ({ frames := 1, cells := 0, slots := 0, locals := 16 } : Room) (QV fun h' => Keep h h' [a] ∧ Exa Z h' a "com/example/dense_bloom/densebloom/model/BloomFilter" ∧ Fld Z h' a "com/example/dense_bloom/densebloom/model/BloomFilter" "size" "Lcom/example/dense_bloom/densebloom/model/FilterSize;" (.ref s) ∧ Fld Z h' a "com/example/dense_bloom/densebloom/model/BloomFilter" "kind" "Lcom/example/dense_bloom/densebloom/model/EntryKind;" (.ref k) ∧ Fld Z h' a "com/example/dense_bloom/densebloom/model/BloomFilter" "added" "J" (.long ad) ∧ Fld Z h' a "com/example/dense_bloom/densebloom/model/BloomFilter" "words" "[J" (.ref w)) 0 0 h 0 #[.val (.ref a), .val (.ref s), .val (.ref k), .val (.long ad), .second, .val (.ref w)] [] := by
  have kp0 : Keep h h [a] := Keep.refl _ _
  refine Go.aload_n 1 d11_0 rfl rfl rfl ?_
  refine Go.initO 0 4 d11_1 (tw59 hw) (tw22 hw) (tw23 hw) rfl (by decide) (Nat.le_of_eq rfl) (by decide) rfl ?_
  refine Go.aload_n 5 d11_4 rfl rfl rfl ?_
  refine Go.aload_n 6 d11_5 rfl rfl rfl ?_
  refine Go.putfield (ty := (.object "com/example/dense_bloom/densebloom/model/FilterSize")) 9 d11_6 (tw60 hw) fa1 fa0 (Or.inr ⟨(tw61 hw), rfl, rfl⟩) (tw55 hw) (by decide) rfl rfl ge_a rfl (fun h1 W2 => ?_)
  have f3 : Exa Z h1 a "com/example/dense_bloom/densebloom/model/BloomFilter" := fa0.wr W2
  have f4 : Fld Z h1 a "com/example/dense_bloom/densebloom/model/BloomFilter" "size" "Lcom/example/dense_bloom/densebloom/model/FilterSize;" (.ref s) := fa1.same W2
  have f5 : Fld Z h1 a "com/example/dense_bloom/densebloom/model/BloomFilter" "kind" "Lcom/example/dense_bloom/densebloom/model/EntryKind;" (.null) := fa2.other W2 (Or.inr (slot_ne (Or.inr (tw63 hw)) (Or.inr (tw61 hw)) (by decide) (by decide +kernel : parseFieldDescriptor "Lcom/example/dense_bloom/densebloom/model/EntryKind;" = some (.object "com/example/dense_bloom/densebloom/model/EntryKind")) (by decide +kernel : parseFieldDescriptor "Lcom/example/dense_bloom/densebloom/model/FilterSize;" = some (.object "com/example/dense_bloom/densebloom/model/FilterSize"))))
  have f6 : Fld Z h1 a "com/example/dense_bloom/densebloom/model/BloomFilter" "added" "J" (.long (0 : Int64)) := fa3.other W2 (Or.inr (slot_ne (Or.inl (tw65 hw)) (Or.inr (tw61 hw)) (by decide) (by decide +kernel : parseFieldDescriptor "J" = some .long) (by decide +kernel : parseFieldDescriptor "Lcom/example/dense_bloom/densebloom/model/FilterSize;" = some (.object "com/example/dense_bloom/densebloom/model/FilterSize"))))
  have f7 : Fld Z h1 a "com/example/dense_bloom/densebloom/model/BloomFilter" "words" "[J" (.null) := fa4.other W2 (Or.inr (slot_ne (Or.inr (tw67 hw)) (Or.inr (tw61 hw)) (by decide) (by decide +kernel : parseFieldDescriptor "[J" = some (.array .long)) (by decide +kernel : parseFieldDescriptor "Lcom/example/dense_bloom/densebloom/model/FilterSize;" = some (.object "com/example/dense_bloom/densebloom/model/FilterSize"))))
  have zs8 : Z.heap.size ≤ h1.size := W2.size ▸ hz
  have kp9 : Keep h h1 [a] := kp0.wr W2 (Or.inl (by simp))
  refine Go.aload_n 10 d11_9 rfl rfl rfl ?_
  refine Go.aload_n 11 d11_10 rfl rfl rfl ?_
  refine Go.putfield (ty := (.object "com/example/dense_bloom/densebloom/model/EntryKind")) 14 d11_11 (tw62 hw) f5 f3 (Or.inr ⟨(tw63 hw), rfl, rfl⟩) (tw55 hw) (by decide) rfl rfl ge_a rfl (fun h10 W11 => ?_)
  have f12 : Exa Z h10 a "com/example/dense_bloom/densebloom/model/BloomFilter" := f3.wr W11
  have f13 : Fld Z h10 a "com/example/dense_bloom/densebloom/model/BloomFilter" "size" "Lcom/example/dense_bloom/densebloom/model/FilterSize;" (.ref s) := f4.other W11 (Or.inr (slot_ne (Or.inr (tw61 hw)) (Or.inr (tw63 hw)) (by decide) (by decide +kernel : parseFieldDescriptor "Lcom/example/dense_bloom/densebloom/model/FilterSize;" = some (.object "com/example/dense_bloom/densebloom/model/FilterSize")) (by decide +kernel : parseFieldDescriptor "Lcom/example/dense_bloom/densebloom/model/EntryKind;" = some (.object "com/example/dense_bloom/densebloom/model/EntryKind"))))
  have f14 : Fld Z h10 a "com/example/dense_bloom/densebloom/model/BloomFilter" "kind" "Lcom/example/dense_bloom/densebloom/model/EntryKind;" (.ref k) := f5.same W11
  have f15 : Fld Z h10 a "com/example/dense_bloom/densebloom/model/BloomFilter" "added" "J" (.long (0 : Int64)) := f6.other W11 (Or.inr (slot_ne (Or.inl (tw65 hw)) (Or.inr (tw63 hw)) (by decide) (by decide +kernel : parseFieldDescriptor "J" = some .long) (by decide +kernel : parseFieldDescriptor "Lcom/example/dense_bloom/densebloom/model/EntryKind;" = some (.object "com/example/dense_bloom/densebloom/model/EntryKind"))))
  have f16 : Fld Z h10 a "com/example/dense_bloom/densebloom/model/BloomFilter" "words" "[J" (.null) := f7.other W11 (Or.inr (slot_ne (Or.inr (tw67 hw)) (Or.inr (tw63 hw)) (by decide) (by decide +kernel : parseFieldDescriptor "[J" = some (.array .long)) (by decide +kernel : parseFieldDescriptor "Lcom/example/dense_bloom/densebloom/model/EntryKind;" = some (.object "com/example/dense_bloom/densebloom/model/EntryKind"))))
  have zs17 : Z.heap.size ≤ h10.size := W11.size ▸ zs8
  have kp18 : Keep h h10 [a] := kp9.wr W11 (Or.inl (by simp))
  refine Go.aload_n 15 d11_14 rfl rfl rfl ?_
  refine Go.lload_n 16 d11_15 rfl rfl ?_
  refine Go.putfield (ty := .long) 19 d11_16 (tw64 hw) f15 f12 (Or.inl (tw65 hw)) (tw55 hw) (by decide) rfl rfl ge_a rfl (fun h19 W20 => ?_)
  have f21 : Exa Z h19 a "com/example/dense_bloom/densebloom/model/BloomFilter" := f12.wr W20
  have f22 : Fld Z h19 a "com/example/dense_bloom/densebloom/model/BloomFilter" "size" "Lcom/example/dense_bloom/densebloom/model/FilterSize;" (.ref s) := f13.other W20 (Or.inr (slot_ne (Or.inr (tw61 hw)) (Or.inl (tw65 hw)) (by decide) (by decide +kernel : parseFieldDescriptor "Lcom/example/dense_bloom/densebloom/model/FilterSize;" = some (.object "com/example/dense_bloom/densebloom/model/FilterSize")) (by decide +kernel : parseFieldDescriptor "J" = some .long)))
  have f23 : Fld Z h19 a "com/example/dense_bloom/densebloom/model/BloomFilter" "kind" "Lcom/example/dense_bloom/densebloom/model/EntryKind;" (.ref k) := f14.other W20 (Or.inr (slot_ne (Or.inr (tw63 hw)) (Or.inl (tw65 hw)) (by decide) (by decide +kernel : parseFieldDescriptor "Lcom/example/dense_bloom/densebloom/model/EntryKind;" = some (.object "com/example/dense_bloom/densebloom/model/EntryKind")) (by decide +kernel : parseFieldDescriptor "J" = some .long)))
  have f24 : Fld Z h19 a "com/example/dense_bloom/densebloom/model/BloomFilter" "added" "J" (.long ad) := f15.same W20
  have f25 : Fld Z h19 a "com/example/dense_bloom/densebloom/model/BloomFilter" "words" "[J" (.null) := f16.other W20 (Or.inr (slot_ne (Or.inr (tw67 hw)) (Or.inl (tw65 hw)) (by decide) (by decide +kernel : parseFieldDescriptor "[J" = some (.array .long)) (by decide +kernel : parseFieldDescriptor "J" = some .long)))
  have zs26 : Z.heap.size ≤ h19.size := W20.size ▸ zs17
  have kp27 : Keep h h19 [a] := kp18.wr W20 (Or.inl (by simp))
  refine Go.aload_n 20 d11_19 rfl rfl rfl ?_
  refine Go.aload 22 d11_20 rfl rfl rfl ?_
  refine Go.putfield (ty := (.array .long)) 25 d11_22 (tw66 hw) f25 f21 (Or.inr ⟨(tw67 hw), rfl, rfl⟩) (tw55 hw) (by decide) rfl rfl ge_a rfl (fun h28 W29 => ?_)
  have f30 : Exa Z h28 a "com/example/dense_bloom/densebloom/model/BloomFilter" := f21.wr W29
  have f31 : Fld Z h28 a "com/example/dense_bloom/densebloom/model/BloomFilter" "size" "Lcom/example/dense_bloom/densebloom/model/FilterSize;" (.ref s) := f22.other W29 (Or.inr (slot_ne (Or.inr (tw61 hw)) (Or.inr (tw67 hw)) (by decide) (by decide +kernel : parseFieldDescriptor "Lcom/example/dense_bloom/densebloom/model/FilterSize;" = some (.object "com/example/dense_bloom/densebloom/model/FilterSize")) (by decide +kernel : parseFieldDescriptor "[J" = some (.array .long))))
  have f32 : Fld Z h28 a "com/example/dense_bloom/densebloom/model/BloomFilter" "kind" "Lcom/example/dense_bloom/densebloom/model/EntryKind;" (.ref k) := f23.other W29 (Or.inr (slot_ne (Or.inr (tw63 hw)) (Or.inr (tw67 hw)) (by decide) (by decide +kernel : parseFieldDescriptor "Lcom/example/dense_bloom/densebloom/model/EntryKind;" = some (.object "com/example/dense_bloom/densebloom/model/EntryKind")) (by decide +kernel : parseFieldDescriptor "[J" = some (.array .long))))
  have f33 : Fld Z h28 a "com/example/dense_bloom/densebloom/model/BloomFilter" "added" "J" (.long ad) := f24.other W29 (Or.inr (slot_ne (Or.inl (tw65 hw)) (Or.inr (tw67 hw)) (by decide) (by decide +kernel : parseFieldDescriptor "J" = some .long) (by decide +kernel : parseFieldDescriptor "[J" = some (.array .long))))
  have f34 : Fld Z h28 a "com/example/dense_bloom/densebloom/model/BloomFilter" "words" "[J" (.ref w) := f25.same W29
  have zs35 : Z.heap.size ≤ h28.size := W29.size ▸ zs26
  have kp36 : Keep h h28 [a] := kp27.wr W29 (Or.inl (by simp))
  refine Go.vreturn d11_25 rfl (by decide) (by decide) ?_
  exact ⟨kp36, f30, f31, f32, f33, f34⟩

theorem d8_0 : decode prog_17_method_3_code 0 = .ok (.lload_n 2, 1) := by decide +kernel
theorem d8_1 : decode prog_17_method_3_code 1 = .ok (.lconst 0, 1) := by decide +kernel
theorem d8_2 : decode prog_17_method_3_code 2 = .ok (.lcmp, 1) := by decide +kernel
theorem d8_3 : decode prog_17_method_3_code 3 = .ok (.ifCond .ge 17, 3) := by decide +kernel
theorem d8_6 : decode prog_17_method_3_code 6 = .ok (.new 34, 3) := by decide +kernel
theorem d8_9 : decode prog_17_method_3_code 9 = .ok (.dup, 1) := by decide +kernel
theorem d8_10 : decode prog_17_method_3_code 10 = .ok (.lload_n 2, 1) := by decide +kernel
theorem d8_11 : decode prog_17_method_3_code 11 = .ok (.invokedynamic 36, 5) := by decide +kernel
theorem d8_16 : decode prog_17_method_3_code 16 = .ok (.invokespecial 40, 3) := by decide +kernel
theorem d8_19 : decode prog_17_method_3_code 19 = .ok (.athrow, 1) := by decide +kernel
theorem d8_20 : decode prog_17_method_3_code 20 = .ok (.aload_n 0, 1) := by decide +kernel
theorem d8_21 : decode prog_17_method_3_code 21 = .ok (.invokevirtual 43, 3) := by decide +kernel
theorem d8_24 : decode prog_17_method_3_code 24 = .ok (.invokestatic 49, 3) := by decide +kernel
theorem d8_27 : decode prog_17_method_3_code 27 = .ok (.istore 5, 2) := by decide +kernel
theorem d8_29 : decode prog_17_method_3_code 29 = .ok (.aload 4, 2) := by decide +kernel
theorem d8_31 : decode prog_17_method_3_code 31 = .ok (.arraylength, 1) := by decide +kernel
theorem d8_32 : decode prog_17_method_3_code 32 = .ok (.iload 5, 2) := by decide +kernel
theorem d8_34 : decode prog_17_method_3_code 34 = .ok (.if_icmp .eq 25, 3) := by decide +kernel
theorem d8_37 : decode prog_17_method_3_code 37 = .ok (.new 34, 3) := by decide +kernel
theorem d8_40 : decode prog_17_method_3_code 40 = .ok (.dup, 1) := by decide +kernel
theorem d8_41 : decode prog_17_method_3_code 41 = .ok (.aload_n 0, 1) := by decide +kernel
theorem d8_42 : decode prog_17_method_3_code 42 = .ok (.invokevirtual 43, 3) := by decide +kernel
theorem d8_45 : decode prog_17_method_3_code 45 = .ok (.iload 5, 2) := by decide +kernel
theorem d8_47 : decode prog_17_method_3_code 47 = .ok (.aload 4, 2) := by decide +kernel
theorem d8_49 : decode prog_17_method_3_code 49 = .ok (.arraylength, 1) := by decide +kernel
theorem d8_50 : decode prog_17_method_3_code 50 = .ok (.invokedynamic 53, 5) := by decide +kernel
theorem d8_55 : decode prog_17_method_3_code 55 = .ok (.invokespecial 40, 3) := by decide +kernel
theorem d8_58 : decode prog_17_method_3_code 58 = .ok (.athrow, 1) := by decide +kernel
theorem d8_59 : decode prog_17_method_3_code 59 = .ok (.new 3, 3) := by decide +kernel
theorem d8_62 : decode prog_17_method_3_code 62 = .ok (.dup, 1) := by decide +kernel
theorem d8_63 : decode prog_17_method_3_code 63 = .ok (.aload_n 0, 1) := by decide +kernel
theorem d8_64 : decode prog_17_method_3_code 64 = .ok (.aload_n 1, 1) := by decide +kernel
theorem d8_65 : decode prog_17_method_3_code 65 = .ok (.lload_n 2, 1) := by decide +kernel
theorem d8_66 : decode prog_17_method_3_code 66 = .ok (.aload 4, 2) := by decide +kernel
theorem d8_68 : decode prog_17_method_3_code 68 = .ok (.invokespecial 9, 3) := by decide +kernel
theorem d8_71 : decode prog_17_method_3_code 71 = .ok (.areturn, 1) := by decide +kernel

theorem pd8 : parseMethodDescriptor "(Lcom/example/dense_bloom/densebloom/model/FilterSize;Lcom/example/dense_bloom/densebloom/model/EntryKind;J[J)Lcom/example/dense_bloom/densebloom/model/BloomFilter;" = some ⟨[(.object "com/example/dense_bloom/densebloom/model/FilterSize"), (.object "com/example/dense_bloom/densebloom/model/EntryKind"), .long, (.array .long)], some (.object "com/example/dense_bloom/densebloom/model/BloomFilter")⟩ := by decide +kernel
theorem pl8 : plainFor (⟨"com/example/dense_bloom/densebloom/model/BloomFilter", "fromWords", "(Lcom/example/dense_bloom/densebloom/model/FilterSize;Lcom/example/dense_bloom/densebloom/model/EntryKind;J[J)Lcom/example/dense_bloom/densebloom/model/BloomFilter;"⟩ : MethodName) = true := by first | exact plainFor_of_name (by first | (simp [plainName, overriddenIn]; done) | decide +kernel) | decide +kernel

theorem ef_k_fw1 (m : MethodId) (x0 : Addr) (x1 : Addr) (x2 : Int64) (x3 : Addr) : entryFrame m #[(.ref x0), (.ref x1), (.long x2), (.ref x3)] 6 = mkF m 0 #[.val (.ref x0), .val (.ref x1), .val (.long x2), .second, .val (.ref x3), .unset] [] := by first | (simp [entryFrame, mkF, argsToLocals, Value.category]; done) | rfl

set_option maxRecDepth 65536 in
set_option maxHeartbeats 40000000 in
theorem k_fw1 {l : Launch} {Z : State} {a0 : Array Value} (hw : ∀ d ∈ tables_1, d.before a0 Z = true) {b : Int64} {w0 : Int64} (h : Heap) (hz : Z.heap.size ≤ h.size) (s : Addr) (k : Addr) (ad : Int64) (w : Addr) (fa0 : Exa Z h s "com/example/dense_bloom/densebloom/model/FilterSize") (fa1 : Fld Z h s "com/example/dense_bloom/densebloom/model/FilterSize" "bits" "J" (.long b)) (fa2 : Arj Z h w [w0]) (h1 : ¬ ad < 0) (h2 : ¬ b < 1) (h3 : ¬ 137438952896 < b) (h4 : (1 : Int32) = own_wc b)   : Go l Z (⟨"com/example/dense_bloom/densebloom/model/BloomFilter", "fromWords", "(Lcom/example/dense_bloom/densebloom/model/FilterSize;Lcom/example/dense_bloom/densebloom/model/EntryKind;J[J)Lcom/example/dense_bloom/densebloom/model/BloomFilter;"⟩ : MethodName) prog_17_method_3_code 6 (Option.some (Jvm.ClassFile.FieldType.object "com/example/dense_bloom/densebloom/model/BloomFilter")) ({ frames := 2, cells := 1, slots := 4, locals := 48 } : Room) (QR fun rz h' => ∃ r : Addr, rz = .ref r ∧ h.size ≤ r ∧ Keep h h' [] ∧ Exa Z h' r "com/example/dense_bloom/densebloom/model/BloomFilter" ∧ Fld Z h' r "com/example/dense_bloom/densebloom/model/BloomFilter" "size" "Lcom/example/dense_bloom/densebloom/model/FilterSize;" (.ref s) ∧ Fld Z h' r "com/example/dense_bloom/densebloom/model/BloomFilter" "kind" "Lcom/example/dense_bloom/densebloom/model/EntryKind;" (.ref k) ∧ Fld Z h' r "com/example/dense_bloom/densebloom/model/BloomFilter" "added" "J" (.long ad) ∧ Fld Z h' r "com/example/dense_bloom/densebloom/model/BloomFilter" "words" "[J" (.ref w)) 0 0 h 0 #[.val (.ref s), .val (.ref k), .val (.long ad), .second, .val (.ref w), .unset] [] := by
  have kp0 : Keep h h [] := Keep.refl _ _
  refine Go.lload_n 1 d8_0 rfl rfl ?_
  refine Go.lconst 2 (0) d8_1 (by decide) rfl ?_
  refine Go.lcmp 3 d8_2 rfl ?_
  refine Go.lcmp_ge 20 6 d8_3 (by decide) (by decide) rfl (fun c1 => ?_) (fun c1 => ?_)
  ·
    refine Go.aload_n 21 d8_20 rfl rfl rfl ?_
    refine Go.callVJp [] [] 24 d8_21 (tw43 hw) (tw44 hw) (tw46 hw) (tw45 hw) (tw12 hw) (tw47 hw) fa0 pl9 (by decide) (lenOf pd9 rfl) rfl (fun m => ef_k_bits m s) _ (k_bits hw h hz s fa1) 0 rfl (Nat.le_of_eq rfl) (by decide) (by decide) (by decide) (by decide) rfl ?_
    refine Go.callSIp [.long b] [] 27 d8_24 (tw48 hw) (tw49 hw) (tw41 hw) (tw50 hw) pl10 (by decide) (lenOf pd10 rfl) rfl (fun m => ef_k_wc m b) _ (k_wc hw h hz b h2 h3) 0 rfl (Nat.le_of_eq rfl) (by decide) (by decide) (by decide) (by decide) rfl ?_
    refine Go.nameI (fun v8 e9 => ?_)
    refine Go.istore 29 #[.val (.ref s), .val (.ref k), .val (.long ad), .second, .val (.ref w), .val (.int v8)] d8_27 rfl rfl ?_
    refine Go.aload 31 d8_29 rfl rfl rfl ?_
    refine Go.arraylengthJ (z := (1 : Int32)) 32 d8_31 fa2 (by decide : Nat.toInt32 1 = (1 : Int32)) rfl ?_
    refine Go.iload 34 d8_32 rfl rfl ?_
    refine Go.icmp_eq 59 37 d8_34 (by decide) (by decide) rfl (fun c10 => ?_) (fun c10 => ?_)
    ·
      refine Go.new 62 d8_59 (tw54 hw) (tw55 hw) (tw41 hw) (by decide) (by decide) rfl (fun a11 h12 q13 E14 A15 D16 => ?_)
      have ne17 : s ≠ a11 := fun e => absurd fa0.lt (by rw [e, q13]; exact Nat.lt_irrefl _)
      have ne18 : w ≠ a11 := fun e => absurd fa2.lt (by rw [e, q13]; exact Nat.lt_irrefl _)
      have ge19 : Z.heap.size ≤ a11 := (Eq.symm q13) ▸ hz
      have fr20 : h.size ≤ a11 := by rw [q13]; exact kp0.1
      have f21 : Exa Z h12 s "com/example/dense_bloom/densebloom/model/FilterSize" := fa0.ext E14
      have f22 : Fld Z h12 s "com/example/dense_bloom/densebloom/model/FilterSize" "bits" "J" (.long b) := fa1.ext E14
      have f23 : Arj Z h12 w [w0] := fa2.ext E14
      have zs24 : Z.heap.size ≤ h12.size := Nat.le_trans hz E14.1
      have kp25 : Keep h h12 [] := kp0.ext E14
      have f26 : Fld Z h12 a11 "com/example/dense_bloom/densebloom/model/BloomFilter" "size" "Lcom/example/dense_bloom/densebloom/model/FilterSize;" (.null) := D16 (Or.inr (tw61 hw)) (ty := (.object "com/example/dense_bloom/densebloom/model/FilterSize")) (by decide)
      have f27 : Fld Z h12 a11 "com/example/dense_bloom/densebloom/model/BloomFilter" "kind" "Lcom/example/dense_bloom/densebloom/model/EntryKind;" (.null) := D16 (Or.inr (tw63 hw)) (ty := (.object "com/example/dense_bloom/densebloom/model/EntryKind")) (by decide)
      have f28 : Fld Z h12 a11 "com/example/dense_bloom/densebloom/model/BloomFilter" "added" "J" (.long (0 : Int64)) := D16 (Or.inl (tw65 hw)) (ty := .long) (by decide)
      have f29 : Fld Z h12 a11 "com/example/dense_bloom/densebloom/model/BloomFilter" "words" "[J" (.null) := D16 (Or.inr (tw67 hw)) (ty := (.array .long)) (by decide)
      refine Go.dup 63 d8_62 rfl rfl ?_
      refine Go.aload_n 64 d8_63 rfl rfl rfl ?_
      refine Go.aload_n 65 d8_64 rfl rfl rfl ?_
      refine Go.lload_n 66 d8_65 rfl rfl ?_
      refine Go.aload 68 d8_66 rfl rfl rfl ?_
      refine Go.callC [.ref s, .ref k, .long ad, .ref w] [.ref a11] 71 d8_68 rfl (tw56 hw) (tw57 hw) (tw41 hw) (tw58 hw) pl11 (by decide) (lenOf pd11 rfl) rfl (fun m => ef_k_binit m a11 s k ad w) _ (k_binit hw h12 zs24 a11 s k ad w A15 f26 f27 f28 f29 ge19) 1 rfl (Nat.le_of_eq rfl) (by decide) (by decide) (by decide) (by decide) rfl ?_
      rintro h31 ⟨K32, f33, f34, f35, f36, f37⟩
      have f38 : Exa Z h31 s "com/example/dense_bloom/densebloom/model/FilterSize" := f21.keep K32
      have f39 : Fld Z h31 s "com/example/dense_bloom/densebloom/model/FilterSize" "bits" "J" (.long b) := f22.keep K32 (ninS ne17 nin0)
      have f40 : Arj Z h31 w [w0] := f23.keep K32 (ninS ne18 nin0)
      have zs41 : Z.heap.size ≤ h31.size := Nat.le_trans zs24 K32.1
      have kp42 : Keep h h31 [] := kp25.trans K32 (allS (Or.inr fr20) all0)
      refine Go.areturn d8_71 rfl rfl rfl (by decide) (by decide) ?_
      exact ⟨a11, rfl, fr20, kp42, f33, f34, f35, f36, f37⟩
    ·
      exact absurd (by first | exact h4 | (rw [e9]; exact h4)) c10
  ·
    exact absurd c1 h1

theorem ef_k_fw4 (m : MethodId) (x0 : Addr) (x1 : Addr) (x2 : Int64) (x3 : Addr) : entryFrame m #[(.ref x0), (.ref x1), (.long x2), (.ref x3)] 6 = mkF m 0 #[.val (.ref x0), .val (.ref x1), .val (.long x2), .second, .val (.ref x3), .unset] [] := by first | (simp [entryFrame, mkF, argsToLocals, Value.category]; done) | rfl

set_option maxRecDepth 65536 in
set_option maxHeartbeats 40000000 in
theorem k_fw4 {l : Launch} {Z : State} {a0 : Array Value} (hw : ∀ d ∈ tables_1, d.before a0 Z = true) {b : Int64} {w0 : Int64} {w1 : Int64} {w2 : Int64} {w3 : Int64} (h : Heap) (hz : Z.heap.size ≤ h.size) (s : Addr) (k : Addr) (ad : Int64) (w : Addr) (fa0 : Exa Z h s "com/example/dense_bloom/densebloom/model/FilterSize") (fa1 : Fld Z h s "com/example/dense_bloom/densebloom/model/FilterSize" "bits" "J" (.long b)) (fa2 : Arj Z h w [w0, w1, w2, w3]) (h1 : ¬ ad < 0) (h2 : ¬ b < 1) (h3 : ¬ 137438952896 < b) (h4 : (4 : Int32) = own_wc b)   : Go l Z (⟨"com/example/dense_bloom/densebloom/model/BloomFilter", "fromWords", "(Lcom/example/dense_bloom/densebloom/model/FilterSize;Lcom/example/dense_bloom/densebloom/model/EntryKind;J[J)Lcom/example/dense_bloom/densebloom/model/BloomFilter;"⟩ : MethodName) prog_17_method_3_code 6 (Option.some (Jvm.ClassFile.FieldType.object "com/example/dense_bloom/densebloom/model/BloomFilter")) ({ frames := 2, cells := 1, slots := 4, locals := 48 } : Room) (QR fun rz h' => ∃ r : Addr, rz = .ref r ∧ h.size ≤ r ∧ Keep h h' [] ∧ Exa Z h' r "com/example/dense_bloom/densebloom/model/BloomFilter" ∧ Fld Z h' r "com/example/dense_bloom/densebloom/model/BloomFilter" "size" "Lcom/example/dense_bloom/densebloom/model/FilterSize;" (.ref s) ∧ Fld Z h' r "com/example/dense_bloom/densebloom/model/BloomFilter" "kind" "Lcom/example/dense_bloom/densebloom/model/EntryKind;" (.ref k) ∧ Fld Z h' r "com/example/dense_bloom/densebloom/model/BloomFilter" "added" "J" (.long ad) ∧ Fld Z h' r "com/example/dense_bloom/densebloom/model/BloomFilter" "words" "[J" (.ref w)) 0 0 h 0 #[.val (.ref s), .val (.ref k), .val (.long ad), .second, .val (.ref w), .unset] [] := by
  have kp0 : Keep h h [] := Keep.refl _ _
  refine Go.lload_n 1 d8_0 rfl rfl ?_
  refine Go.lconst 2 (0) d8_1 (by decide) rfl ?_
  refine Go.lcmp 3 d8_2 rfl ?_
  refine Go.lcmp_ge 20 6 d8_3 (by decide) (by decide) rfl (fun c1 => ?_) (fun c1 => ?_)
  ·
    refine Go.aload_n 21 d8_20 rfl rfl rfl ?_
    refine Go.callVJp [] [] 24 d8_21 (tw43 hw) (tw44 hw) (tw46 hw) (tw45 hw) (tw12 hw) (tw47 hw) fa0 pl9 (by decide) (lenOf pd9 rfl) rfl (fun m => ef_k_bits m s) _ (k_bits hw h hz s fa1) 0 rfl (Nat.le_of_eq rfl) (by decide) (by decide) (by decide) (by decide) rfl ?_
    refine Go.callSIp [.long b] [] 27 d8_24 (tw48 hw) (tw49 hw) (tw41 hw) (tw50 hw) pl10 (by decide) (lenOf pd10 rfl) rfl (fun m => ef_k_wc m b) _ (k_wc hw h hz b h2 h3) 0 rfl (Nat.le_of_eq rfl) (by decide) (by decide) (by decide) (by decide) rfl ?_
    refine Go.nameI (fun v8 e9 => ?_)
    refine Go.istore 29 #[.val (.ref s), .val (.ref k), .val (.long ad), .second, .val (.ref w), .val (.int v8)] d8_27 rfl rfl ?_
    refine Go.aload 31 d8_29 rfl rfl rfl ?_
    refine Go.arraylengthJ (z := (4 : Int32)) 32 d8_31 fa2 (by decide : Nat.toInt32 4 = (4 : Int32)) rfl ?_
    refine Go.iload 34 d8_32 rfl rfl ?_
    refine Go.icmp_eq 59 37 d8_34 (by decide) (by decide) rfl (fun c10 => ?_) (fun c10 => ?_)
    ·
      refine Go.new 62 d8_59 (tw54 hw) (tw55 hw) (tw41 hw) (by decide) (by decide) rfl (fun a11 h12 q13 E14 A15 D16 => ?_)
      have ne17 : s ≠ a11 := fun e => absurd fa0.lt (by rw [e, q13]; exact Nat.lt_irrefl _)
      have ne18 : w ≠ a11 := fun e => absurd fa2.lt (by rw [e, q13]; exact Nat.lt_irrefl _)
      have ge19 : Z.heap.size ≤ a11 := (Eq.symm q13) ▸ hz
      have fr20 : h.size ≤ a11 := by rw [q13]; exact kp0.1
      have f21 : Exa Z h12 s "com/example/dense_bloom/densebloom/model/FilterSize" := fa0.ext E14
      have f22 : Fld Z h12 s "com/example/dense_bloom/densebloom/model/FilterSize" "bits" "J" (.long b) := fa1.ext E14
      have f23 : Arj Z h12 w [w0, w1, w2, w3] := fa2.ext E14
      have zs24 : Z.heap.size ≤ h12.size := Nat.le_trans hz E14.1
      have kp25 : Keep h h12 [] := kp0.ext E14
      have f26 : Fld Z h12 a11 "com/example/dense_bloom/densebloom/model/BloomFilter" "size" "Lcom/example/dense_bloom/densebloom/model/FilterSize;" (.null) := D16 (Or.inr (tw61 hw)) (ty := (.object "com/example/dense_bloom/densebloom/model/FilterSize")) (by decide)
      have f27 : Fld Z h12 a11 "com/example/dense_bloom/densebloom/model/BloomFilter" "kind" "Lcom/example/dense_bloom/densebloom/model/EntryKind;" (.null) := D16 (Or.inr (tw63 hw)) (ty := (.object "com/example/dense_bloom/densebloom/model/EntryKind")) (by decide)
      have f28 : Fld Z h12 a11 "com/example/dense_bloom/densebloom/model/BloomFilter" "added" "J" (.long (0 : Int64)) := D16 (Or.inl (tw65 hw)) (ty := .long) (by decide)
      have f29 : Fld Z h12 a11 "com/example/dense_bloom/densebloom/model/BloomFilter" "words" "[J" (.null) := D16 (Or.inr (tw67 hw)) (ty := (.array .long)) (by decide)
      refine Go.dup 63 d8_62 rfl rfl ?_
      refine Go.aload_n 64 d8_63 rfl rfl rfl ?_
      refine Go.aload_n 65 d8_64 rfl rfl rfl ?_
      refine Go.lload_n 66 d8_65 rfl rfl ?_
      refine Go.aload 68 d8_66 rfl rfl rfl ?_
      refine Go.callC [.ref s, .ref k, .long ad, .ref w] [.ref a11] 71 d8_68 rfl (tw56 hw) (tw57 hw) (tw41 hw) (tw58 hw) pl11 (by decide) (lenOf pd11 rfl) rfl (fun m => ef_k_binit m a11 s k ad w) _ (k_binit hw h12 zs24 a11 s k ad w A15 f26 f27 f28 f29 ge19) 1 rfl (Nat.le_of_eq rfl) (by decide) (by decide) (by decide) (by decide) rfl ?_
      rintro h31 ⟨K32, f33, f34, f35, f36, f37⟩
      have f38 : Exa Z h31 s "com/example/dense_bloom/densebloom/model/FilterSize" := f21.keep K32
      have f39 : Fld Z h31 s "com/example/dense_bloom/densebloom/model/FilterSize" "bits" "J" (.long b) := f22.keep K32 (ninS ne17 nin0)
      have f40 : Arj Z h31 w [w0, w1, w2, w3] := f23.keep K32 (ninS ne18 nin0)
      have zs41 : Z.heap.size ≤ h31.size := Nat.le_trans zs24 K32.1
      have kp42 : Keep h h31 [] := kp25.trans K32 (allS (Or.inr fr20) all0)
      refine Go.areturn d8_71 rfl rfl rfl (by decide) (by decide) ?_
      exact ⟨a11, rfl, fr20, kp42, f33, f34, f35, f36, f37⟩
    ·
      exact absurd (by first | exact h4 | (rw [e9]; exact h4)) c10
  ·
    exact absurd c1 h1

theorem d12_0 : decode prog_17_method_7_code 0 = .ok (.aload_n 0, 1) := by decide +kernel
theorem d12_1 : decode prog_17_method_7_code 1 = .ok (.getfield 18, 3) := by decide +kernel
theorem d12_4 : decode prog_17_method_7_code 4 = .ok (.areturn, 1) := by decide +kernel

theorem pd12 : parseMethodDescriptor "()Lcom/example/dense_bloom/densebloom/model/FilterSize;" = some ⟨[], some (.object "com/example/dense_bloom/densebloom/model/FilterSize")⟩ := by decide +kernel
theorem pl12 : plainFor (⟨"com/example/dense_bloom/densebloom/model/BloomFilter", "size", "()Lcom/example/dense_bloom/densebloom/model/FilterSize;"⟩ : MethodName) = true := by first | exact plainFor_of_name (by first | (simp [plainName, overriddenIn]; done) | decide +kernel) | decide +kernel

theorem ef_k_gsize (m : MethodId) (x0 : Addr) : entryFrame m #[(.ref x0)] 1 = mkF m 0 #[.val (.ref x0)] [] := by first | (simp [entryFrame, mkF, argsToLocals, Value.category]; done) | rfl

set_option maxRecDepth 65536 in
set_option maxHeartbeats 40000000 in
theorem k_gsize {l : Launch} {Z : State} {a0 : Array Value} (hw : ∀ d ∈ tables_1, d.before a0 Z = true) {v : Addr} (h : Heap) (hz : Z.heap.size ≤ h.size) (a : Addr) (fa0 : Fld Z h a "com/example/dense_bloom/densebloom/model/BloomFilter" "size" "Lcom/example/dense_bloom/densebloom/model/FilterSize;" (.ref v))    : Go l Z (⟨"com/example/dense_bloom/densebloom/model/BloomFilter", "size", "()Lcom/example/dense_bloom/densebloom/model/FilterSize;"⟩ : MethodName) prog_17_method_7_code 1 (Option.some (Jvm.ClassFile.FieldType.object "com/example/dense_bloom/densebloom/model/FilterSize")) ({ frames := 0, cells := 0, slots := 0, locals := 0 } : Room) (QR fun rz h' => rz = .ref v ∧ h' = h) 0 0 h 0 #[.val (.ref a)] [] := by
  refine Go.aload_n 1 d12_0 rfl rfl rfl ?_
  refine Go.getfield 4 d12_1 (tw60 hw) fa0 rfl ?_
  refine Go.areturn d12_4 rfl rfl rfl (by decide) (by decide) ?_
  exact ⟨by rfl, rfl⟩

theorem d13_0 : decode prog_17_method_8_code 0 = .ok (.aload_n 0, 1) := by decide +kernel
theorem d13_1 : decode prog_17_method_8_code 1 = .ok (.getfield 22, 3) := by decide +kernel
theorem d13_4 : decode prog_17_method_8_code 4 = .ok (.areturn, 1) := by decide +kernel

theorem pd13 : parseMethodDescriptor "()Lcom/example/dense_bloom/densebloom/model/EntryKind;" = some ⟨[], some (.object "com/example/dense_bloom/densebloom/model/EntryKind")⟩ := by decide +kernel
theorem pl13 : plainFor (⟨"com/example/dense_bloom/densebloom/model/BloomFilter", "kind", "()Lcom/example/dense_bloom/densebloom/model/EntryKind;"⟩ : MethodName) = true := by first | exact plainFor_of_name (by first | (simp [plainName, overriddenIn]; done) | decide +kernel) | decide +kernel

theorem ef_k_gkind (m : MethodId) (x0 : Addr) : entryFrame m #[(.ref x0)] 1 = mkF m 0 #[.val (.ref x0)] [] := by first | (simp [entryFrame, mkF, argsToLocals, Value.category]; done) | rfl

set_option maxRecDepth 65536 in
set_option maxHeartbeats 40000000 in
theorem k_gkind {l : Launch} {Z : State} {a0 : Array Value} (hw : ∀ d ∈ tables_1, d.before a0 Z = true) {v : Addr} (h : Heap) (hz : Z.heap.size ≤ h.size) (a : Addr) (fa0 : Fld Z h a "com/example/dense_bloom/densebloom/model/BloomFilter" "kind" "Lcom/example/dense_bloom/densebloom/model/EntryKind;" (.ref v))    : Go l Z (⟨"com/example/dense_bloom/densebloom/model/BloomFilter", "kind", "()Lcom/example/dense_bloom/densebloom/model/EntryKind;"⟩ : MethodName) prog_17_method_8_code 1 (Option.some (Jvm.ClassFile.FieldType.object "com/example/dense_bloom/densebloom/model/EntryKind")) ({ frames := 0, cells := 0, slots := 0, locals := 0 } : Room) (QR fun rz h' => rz = .ref v ∧ h' = h) 0 0 h 0 #[.val (.ref a)] [] := by
  refine Go.aload_n 1 d13_0 rfl rfl rfl ?_
  refine Go.getfield 4 d13_1 (tw62 hw) fa0 rfl ?_
  refine Go.areturn d13_4 rfl rfl rfl (by decide) (by decide) ?_
  exact ⟨by rfl, rfl⟩

theorem d14_0 : decode prog_17_method_9_code 0 = .ok (.aload_n 0, 1) := by decide +kernel
theorem d14_1 : decode prog_17_method_9_code 1 = .ok (.getfield 26, 3) := by decide +kernel
theorem d14_4 : decode prog_17_method_9_code 4 = .ok (.lreturn, 1) := by decide +kernel

theorem pd14 : parseMethodDescriptor "()J" = some ⟨[], some .long⟩ := by decide +kernel
theorem pl14 : plainFor (⟨"com/example/dense_bloom/densebloom/model/BloomFilter", "added", "()J"⟩ : MethodName) = true := by first | exact plainFor_of_name (by first | (simp [plainName, overriddenIn]; done) | decide +kernel) | decide +kernel

theorem ef_k_gadded (m : MethodId) (x0 : Addr) : entryFrame m #[(.ref x0)] 1 = mkF m 0 #[.val (.ref x0)] [] := by first | (simp [entryFrame, mkF, argsToLocals, Value.category]; done) | rfl

set_option maxRecDepth 65536 in
set_option maxHeartbeats 40000000 in
theorem k_gadded {l : Launch} {Z : State} {a0 : Array Value} (hw : ∀ d ∈ tables_1, d.before a0 Z = true) {v : Int64} (h : Heap) (hz : Z.heap.size ≤ h.size) (a : Addr) (fa0 : Fld Z h a "com/example/dense_bloom/densebloom/model/BloomFilter" "added" "J" (.long v))    : Go l Z (⟨"com/example/dense_bloom/densebloom/model/BloomFilter", "added", "()J"⟩ : MethodName) prog_17_method_9_code 1 (Option.some Jvm.ClassFile.FieldType.long) ({ frames := 0, cells := 0, slots := 0, locals := 0 } : Room) (QJ fun rz h' => rz = v ∧ h' = h) 0 0 h 0 #[.val (.ref a)] [] := by
  refine Go.aload_n 1 d14_0 rfl rfl rfl ?_
  refine Go.getfield 4 d14_1 (tw64 hw) fa0 rfl ?_
  refine Go.lreturn d14_4 rfl (by decide) (by decide) ?_
  exact ⟨by rfl, rfl⟩

theorem d15_0 : decode prog_17_method_12_code 0 = .ok (.aload_n 0, 1) := by decide +kernel
theorem d15_1 : decode prog_17_method_12_code 1 = .ok (.getfield 30, 3) := by decide +kernel
theorem d15_4 : decode prog_17_method_12_code 4 = .ok (.arraylength, 1) := by decide +kernel
theorem d15_5 : decode prog_17_method_12_code 5 = .ok (.ireturn, 1) := by decide +kernel

theorem pd15 : parseMethodDescriptor "()I" = some ⟨[], some .int⟩ := by decide +kernel
theorem pl15 : plainFor (⟨"com/example/dense_bloom/densebloom/model/BloomFilter", "wordCount", "()I"⟩ : MethodName) = true := by first | exact plainFor_of_name (by first | (simp [plainName, overriddenIn]; done) | decide +kernel) | decide +kernel

theorem ef_k_gc1 (m : MethodId) (x0 : Addr) : entryFrame m #[(.ref x0)] 1 = mkF m 0 #[.val (.ref x0)] [] := by first | (simp [entryFrame, mkF, argsToLocals, Value.category]; done) | rfl

set_option maxRecDepth 65536 in
set_option maxHeartbeats 40000000 in
theorem k_gc1 {l : Launch} {Z : State} {a0 : Array Value} (hw : ∀ d ∈ tables_1, d.before a0 Z = true) {v : Addr} {w0 : Int64} (h : Heap) (hz : Z.heap.size ≤ h.size) (a : Addr) (fa0 : Fld Z h a "com/example/dense_bloom/densebloom/model/BloomFilter" "words" "[J" (.ref v)) (fa1 : Arj Z h v [w0])    : Go l Z (⟨"com/example/dense_bloom/densebloom/model/BloomFilter", "wordCount", "()I"⟩ : MethodName) prog_17_method_12_code 1 (Option.some Jvm.ClassFile.FieldType.int) ({ frames := 0, cells := 0, slots := 0, locals := 0 } : Room) (QI fun rz h' => rz = (1 : Int32) ∧ h' = h) 0 0 h 0 #[.val (.ref a)] [] := by
  refine Go.aload_n 1 d15_0 rfl rfl rfl ?_
  refine Go.getfield 4 d15_1 (tw66 hw) fa0 rfl ?_
  refine Go.arraylengthJ (z := (1 : Int32)) 5 d15_4 fa1 (by decide : Nat.toInt32 1 = (1 : Int32)) rfl ?_
  refine Go.ireturn d15_5 rfl (by decide) (by decide) ?_
  exact ⟨by rfl, rfl⟩

theorem d16_0 : decode prog_17_method_13_code 0 = .ok (.aload_n 0, 1) := by decide +kernel
theorem d16_1 : decode prog_17_method_13_code 1 = .ok (.getfield 30, 3) := by decide +kernel
theorem d16_4 : decode prog_17_method_13_code 4 = .ok (.iload_n 1, 1) := by decide +kernel
theorem d16_5 : decode prog_17_method_13_code 5 = .ok (.laload, 1) := by decide +kernel
theorem d16_6 : decode prog_17_method_13_code 6 = .ok (.lreturn, 1) := by decide +kernel

theorem pd16 : parseMethodDescriptor "(I)J" = some ⟨[.int], some .long⟩ := by decide +kernel
theorem pl16 : plainFor (⟨"com/example/dense_bloom/densebloom/model/BloomFilter", "word", "(I)J"⟩ : MethodName) = true := by first | exact plainFor_of_name (by first | (simp [plainName, overriddenIn]; done) | decide +kernel) | decide +kernel

theorem ef_k_w1_0 (m : MethodId) (x0 : Addr) (x1 : Int32) : entryFrame m #[(.ref x0), (.int x1)] 2 = mkF m 0 #[.val (.ref x0), .val (.int x1)] [] := by first | (simp [entryFrame, mkF, argsToLocals, Value.category]; done) | rfl

set_option maxRecDepth 65536 in
set_option maxHeartbeats 40000000 in
theorem k_w1_0 {l : Launch} {Z : State} {a0 : Array Value} (hw : ∀ d ∈ tables_1, d.before a0 Z = true) {v : Addr} {w0 : Int64} (h : Heap) (hz : Z.heap.size ≤ h.size) (a : Addr) (j : Int32) (fa0 : Fld Z h a "com/example/dense_bloom/densebloom/model/BloomFilter" "words" "[J" (.ref v)) (fa1 : Arj Z h v [w0]) (p : ¬ j < 0) (q : Int32.toNatClampNeg j = 0)   : Go l Z (⟨"com/example/dense_bloom/densebloom/model/BloomFilter", "word", "(I)J"⟩ : MethodName) prog_17_method_13_code 2 (Option.some Jvm.ClassFile.FieldType.long) ({ frames := 0, cells := 0, slots := 0, locals := 0 } : Room) (QJ fun rz h' => rz = w0 ∧ h' = h) 0 0 h 0 #[.val (.ref a), .val (.int j)] [] := by
  refine Go.aload_n 1 d16_0 rfl rfl rfl ?_
  refine Go.getfield 4 d16_1 (tw66 hw) fa0 rfl ?_
  refine Go.iload_n 5 d16_4 rfl rfl ?_
  refine Go.laload (x := w0) (0) 6 d16_5 fa1 p q rfl rfl ?_
  refine Go.lreturn d16_6 rfl (by decide) (by decide) ?_
  exact ⟨by rfl, rfl⟩

theorem ef_k_gc4 (m : MethodId) (x0 : Addr) : entryFrame m #[(.ref x0)] 1 = mkF m 0 #[.val (.ref x0)] [] := by first | (simp [entryFrame, mkF, argsToLocals, Value.category]; done) | rfl

set_option maxRecDepth 65536 in
set_option maxHeartbeats 40000000 in
theorem k_gc4 {l : Launch} {Z : State} {a0 : Array Value} (hw : ∀ d ∈ tables_1, d.before a0 Z = true) {v : Addr} {w0 : Int64} {w1 : Int64} {w2 : Int64} {w3 : Int64} (h : Heap) (hz : Z.heap.size ≤ h.size) (a : Addr) (fa0 : Fld Z h a "com/example/dense_bloom/densebloom/model/BloomFilter" "words" "[J" (.ref v)) (fa1 : Arj Z h v [w0, w1, w2, w3])    : Go l Z (⟨"com/example/dense_bloom/densebloom/model/BloomFilter", "wordCount", "()I"⟩ : MethodName) prog_17_method_12_code 1 (Option.some Jvm.ClassFile.FieldType.int) ({ frames := 0, cells := 0, slots := 0, locals := 0 } : Room) (QI fun rz h' => rz = (4 : Int32) ∧ h' = h) 0 0 h 0 #[.val (.ref a)] [] := by
  refine Go.aload_n 1 d15_0 rfl rfl rfl ?_
  refine Go.getfield 4 d15_1 (tw66 hw) fa0 rfl ?_
  refine Go.arraylengthJ (z := (4 : Int32)) 5 d15_4 fa1 (by decide : Nat.toInt32 4 = (4 : Int32)) rfl ?_
  refine Go.ireturn d15_5 rfl (by decide) (by decide) ?_
  exact ⟨by rfl, rfl⟩

theorem ef_k_w4_0 (m : MethodId) (x0 : Addr) (x1 : Int32) : entryFrame m #[(.ref x0), (.int x1)] 2 = mkF m 0 #[.val (.ref x0), .val (.int x1)] [] := by first | (simp [entryFrame, mkF, argsToLocals, Value.category]; done) | rfl

set_option maxRecDepth 65536 in
set_option maxHeartbeats 40000000 in
theorem k_w4_0 {l : Launch} {Z : State} {a0 : Array Value} (hw : ∀ d ∈ tables_1, d.before a0 Z = true) {v : Addr} {w0 : Int64} {w1 : Int64} {w2 : Int64} {w3 : Int64} (h : Heap) (hz : Z.heap.size ≤ h.size) (a : Addr) (j : Int32) (fa0 : Fld Z h a "com/example/dense_bloom/densebloom/model/BloomFilter" "words" "[J" (.ref v)) (fa1 : Arj Z h v [w0, w1, w2, w3]) (p : ¬ j < 0) (q : Int32.toNatClampNeg j = 0)   : Go l Z (⟨"com/example/dense_bloom/densebloom/model/BloomFilter", "word", "(I)J"⟩ : MethodName) prog_17_method_13_code 2 (Option.some Jvm.ClassFile.FieldType.long) ({ frames := 0, cells := 0, slots := 0, locals := 0 } : Room) (QJ fun rz h' => rz = w0 ∧ h' = h) 0 0 h 0 #[.val (.ref a), .val (.int j)] [] := by
  refine Go.aload_n 1 d16_0 rfl rfl rfl ?_
  refine Go.getfield 4 d16_1 (tw66 hw) fa0 rfl ?_
  refine Go.iload_n 5 d16_4 rfl rfl ?_
  refine Go.laload (x := w0) (0) 6 d16_5 fa1 p q rfl rfl ?_
  refine Go.lreturn d16_6 rfl (by decide) (by decide) ?_
  exact ⟨by rfl, rfl⟩

theorem ef_k_w4_3 (m : MethodId) (x0 : Addr) (x1 : Int32) : entryFrame m #[(.ref x0), (.int x1)] 2 = mkF m 0 #[.val (.ref x0), .val (.int x1)] [] := by first | (simp [entryFrame, mkF, argsToLocals, Value.category]; done) | rfl

set_option maxRecDepth 65536 in
set_option maxHeartbeats 40000000 in
theorem k_w4_3 {l : Launch} {Z : State} {a0 : Array Value} (hw : ∀ d ∈ tables_1, d.before a0 Z = true) {v : Addr} {w0 : Int64} {w1 : Int64} {w2 : Int64} {w3 : Int64} (h : Heap) (hz : Z.heap.size ≤ h.size) (a : Addr) (j : Int32) (fa0 : Fld Z h a "com/example/dense_bloom/densebloom/model/BloomFilter" "words" "[J" (.ref v)) (fa1 : Arj Z h v [w0, w1, w2, w3]) (p : ¬ j < 0) (q : Int32.toNatClampNeg j = 3)   : Go l Z (⟨"com/example/dense_bloom/densebloom/model/BloomFilter", "word", "(I)J"⟩ : MethodName) prog_17_method_13_code 2 (Option.some Jvm.ClassFile.FieldType.long) ({ frames := 0, cells := 0, slots := 0, locals := 0 } : Room) (QJ fun rz h' => rz = w3 ∧ h' = h) 0 0 h 0 #[.val (.ref a), .val (.int j)] [] := by
  refine Go.aload_n 1 d16_0 rfl rfl rfl ?_
  refine Go.getfield 4 d16_1 (tw66 hw) fa0 rfl ?_
  refine Go.iload_n 5 d16_4 rfl rfl ?_
  refine Go.laload (x := w3) (3) 6 d16_5 fa1 p q rfl rfl ?_
  refine Go.lreturn d16_6 rfl (by decide) (by decide) ?_
  exact ⟨by rfl, rfl⟩

theorem ef_law0 (m : MethodId) (x0 : Int32) (x1 : Int64) (x2 : Int64) (x3 : Int64) (x4 : Int64) : entryFrame m #[(.int x0), (.long x1), (.long x2), (.long x3), (.long x4)] maxLocals = mkF m 0 #[.val (.int x0), .val (.long x1), .second, .val (.long x2), .second, .val (.long x3), .second, .val (.long x4), .second, .unset, .unset, .unset, .unset, .unset, .unset, .unset, .unset, .unset, .unset, .unset, .unset, .unset, .unset, .unset, .unset, .unset, .unset, .unset, .unset] [] := by first | (simp [entryFrame, mkF, argsToLocals, Value.category, maxLocals]; done) | rfl

set_option maxRecDepth 65536 in
set_option maxHeartbeats 40000000 in
theorem law0 {l : Launch} {Z : State} {a0 : Array Value} (hw : ∀ d ∈ tables_1, d.before a0 Z = true) {r_ADDRESS : Addr} {r_DOMAIN : Addr} (h : Heap) (hz : Z.heap.size ≤ h.size) (i0 : Int32) (i1 : Int64) (i2 : Int64) (i3 : Int64) (i4 : Int64) (fa0 : Sta Z h "com/example/dense_bloom/densebloom/model/EntryKind" "ADDRESS" "Lcom/example/dense_bloom/densebloom/model/EntryKind;" (.ref r_ADDRESS)) (fa1 : Exa Z h r_ADDRESS "com/example/dense_bloom/densebloom/model/EntryKind") (fa2 : Sta Z h "com/example/dense_bloom/densebloom/model/EntryKind" "DOMAIN" "Lcom/example/dense_bloom/densebloom/model/EntryKind;" (.ref r_DOMAIN)) (fa3 : Exa Z h r_DOMAIN "com/example/dense_bloom/densebloom/model/EntryKind")    : Go l Z x code maxLocals ret room_1 (QI fun z h' => z = 1) 0 0 h 0 #[.val (.int i0), .val (.long i1), .second, .val (.long i2), .second, .val (.long i3), .second, .val (.long i4), .second, .unset, .unset, .unset, .unset, .unset, .unset, .unset, .unset, .unset, .unset, .unset, .unset, .unset, .unset, .unset, .unset, .unset, .unset, .unset, .unset] [] := by
  refine Go.iload_n 1 at_0 rfl rfl ?_
  refine Go.iconst 2 (1) at_1 (by decide) rfl ?_
  refine Go.iand 3 at_2 rfl ?_
  refine Go.if_eq 10 6 at_3 (by decide) (by decide) rfl (fun c1 => ?_) (fun c1 => ?_)
  ·
    refine Go.iconst 11 (0) at_10 (by decide) rfl ?_
    refine Go.istore 13 #[.val (.int i0), .val (.long i1), .second, .val (.long i2), .second, .val (.long i3), .second, .val (.long i4), .second, .val (.int (0 : Int32)), .unset, .unset, .unset, .unset, .unset, .unset, .unset, .unset, .unset, .unset, .unset, .unset, .unset, .unset, .unset, .unset, .unset, .unset, .unset] at_11 rfl rfl ?_
    refine Go.iload_n 14 at_13 rfl rfl ?_
    refine Go.iconst 15 (2) at_14 (by decide) rfl ?_
    refine Go.iand 16 at_15 rfl ?_
    refine Go.if_eq 25 19 at_16 (by decide) (by decide) rfl (fun c2 => ?_) (fun c2 => ?_)
    ·
      refine Go.getstatic 28 at_25 (tw0 hw) fa0 rfl ?_
      refine Go.astore 30 #[.val (.int i0), .val (.long i1), .second, .val (.long i2), .second, .val (.long i3), .second, .val (.long i4), .second, .val (.int (0 : Int32)), .val (.ref r_ADDRESS), .unset, .unset, .unset, .unset, .unset, .unset, .unset, .unset, .unset, .unset, .unset, .unset, .unset, .unset, .unset, .unset, .unset, .unset] at_28 rfl rfl rfl ?_
      refine Go.iconst 31 (1) at_30 (by decide) rfl ?_
      refine Go.iload_n 32 at_31 rfl rfl ?_
      refine Go.iconst 33 (2) at_32 (by decide) rfl ?_
      refine Go.iushr 34 at_33 rfl ?_
      refine Go.bipush 36 (63) at_34 (by decide) rfl ?_
      refine Go.iand 37 at_36 rfl ?_
      refine Go.iadd 38 at_37 rfl ?_
      refine Go.nameI (fun v3 e4 => ?_)
      refine Go.istore 40 #[.val (.int i0), .val (.long i1), .second, .val (.long i2), .second, .val (.long i3), .second, .val (.long i4), .second, .val (.int (0 : Int32)), .val (.ref r_ADDRESS), .val (.int v3), .unset, .unset, .unset, .unset, .unset, .unset, .unset, .unset, .unset, .unset, .unset, .unset, .unset, .unset, .unset, .unset, .unset] at_38 rfl rfl ?_
      refine Go.iload_n 41 at_40 rfl rfl ?_
      refine Go.bipush 43 (8) at_41 (by decide) rfl ?_
      refine Go.iushr 44 at_43 rfl ?_
      refine Go.bipush 46 (63) at_44 (by decide) rfl ?_
      refine Go.iand 47 at_46 rfl ?_
      refine Go.i2l 48 at_47 rfl ?_
      refine Go.nameJ (fun v5 e6 => ?_)
      refine Go.lstore 50 #[.val (.int i0), .val (.long i1), .second, .val (.long i2), .second, .val (.long i3), .second, .val (.long i4), .second, .val (.int (0 : Int32)), .val (.ref r_ADDRESS), .val (.int v3), .val (.long v5), .second, .unset, .unset, .unset, .unset, .unset, .unset, .unset, .unset, .unset, .unset, .unset, .unset, .unset, .unset, .unset] at_48 rfl rfl ?_
      refine Go.iload 52 at_50 rfl rfl ?_
      refine Go.if_eq 64 55 at_52 (by decide) (by decide) rfl (fun _ => ?_) (fun c => absurd c (by decide))
      refine Go.lconst 65 (1) at_64 (by decide) rfl ?_
      refine Go.lload 67 at_65 rfl rfl ?_
      refine Go.ladd 68 at_67 rfl ?_
      refine Go.nameJ (fun v8 e9 => ?_)
      refine Go.lstore 70 #[.val (.int i0), .val (.long i1), .second, .val (.long i2), .second, .val (.long i3), .second, .val (.long i4), .second, .val (.int (0 : Int32)), .val (.ref r_ADDRESS), .val (.int v3), .val (.long v5), .second, .val (.long v8), .second, .unset, .unset, .unset, .unset, .unset, .unset, .unset, .unset, .unset, .unset, .unset, .unset, .unset] at_68 rfl rfl ?_
      refine Go.lconst 71 (1) at_70 (by decide) rfl ?_
      refine Go.lload 73 at_71 rfl rfl ?_
      refine Go.ldc2_w 76 at_73 (tw3 hw) rfl ?_
      refine Go.land 77 at_76 rfl ?_
      refine Go.callSJp [.long (1 : Int64), .long (i4 &&& (9223372036854775807 : Int64))] [] 80 at_77 (tw4 hw) (tw5 hw) (tw6 hw) (tw7 hw) pl1 (by decide) (lenOf pd1 rfl) rfl (fun m => ef_k_maxJ m (1 : Int64) (i4 &&& (9223372036854775807 : Int64))) _ (k_maxJ hw h hz (1 : Int64) ((i4 &&& (9223372036854775807 : Int64)))) 0 rfl (Nat.le_of_eq rfl) (by decide) (by decide) (by decide) (by decide) rfl ?_
      refine Go.nameJ (fun v13 e14 => ?_)
      refine Go.lstore 82 #[.val (.int i0), .val (.long i1), .second, .val (.long i2), .second, .val (.long i3), .second, .val (.long i4), .second, .val (.int (0 : Int32)), .val (.ref r_ADDRESS), .val (.int v3), .val (.long v5), .second, .val (.long v8), .second, .val (.long v13), .second, .unset, .unset, .unset, .unset, .unset, .unset, .unset, .unset, .unset, .unset, .unset] at_80 rfl rfl ?_
      refine Go.lload_n 83 at_82 rfl rfl ?_
      refine Go.ldc2_w 86 at_83 (tw3 hw) rfl ?_
      refine Go.land 87 at_86 rfl ?_
      refine Go.nameJ (fun v15 e16 => ?_)
      refine Go.lstore 89 #[.val (.int i0), .val (.long i1), .second, .val (.long i2), .second, .val (.long i3), .second, .val (.long i4), .second, .val (.int (0 : Int32)), .val (.ref r_ADDRESS), .val (.int v3), .val (.long v5), .second, .val (.long v8), .second, .val (.long v13), .second, .val (.long v15), .second, .unset, .unset, .unset, .unset, .unset, .unset, .unset, .unset, .unset] at_87 rfl rfl ?_
      obtain ⟨oh3, oh4⟩ := own_hash i0 v3 e4
      obtain ⟨oh2, ob3, ob4⟩ := own_bitsv (own_low i0 v5 e6) (Or.inr ⟨rfl, rfl⟩) e9
      have oh1 := own_exp i4 v13 e14
      have oad := own_nonneg i1 v15 e16
      refine Go.iconst 90 (1) at_89 (by decide) rfl ?_
      refine Go.newJ (cap := 1) (xs := [0]) 92 at_90 (tw8 hw) rfl (by decide) (by decide) (by decide) rfl (by decide) (by decide) rfl (fun a17 h18 q19 E20 A21 => ?_)
      have ne22 : r_ADDRESS ≠ a17 := fun e => absurd fa1.lt (by rw [e, q19]; exact Nat.lt_irrefl _)
      have ne23 : r_DOMAIN ≠ a17 := fun e => absurd fa3.lt (by rw [e, q19]; exact Nat.lt_irrefl _)
      have ge24 : Z.heap.size ≤ a17 := (Eq.symm q19) ▸ hz
      have f25 : Sta Z h18 "com/example/dense_bloom/densebloom/model/EntryKind" "ADDRESS" "Lcom/example/dense_bloom/densebloom/model/EntryKind;" (.ref r_ADDRESS) := fa0.ext E20
      have f26 : Exa Z h18 r_ADDRESS "com/example/dense_bloom/densebloom/model/EntryKind" := fa1.ext E20
      have f27 : Sta Z h18 "com/example/dense_bloom/densebloom/model/EntryKind" "DOMAIN" "Lcom/example/dense_bloom/densebloom/model/EntryKind;" (.ref r_DOMAIN) := fa2.ext E20
      have f28 : Exa Z h18 r_DOMAIN "com/example/dense_bloom/densebloom/model/EntryKind" := fa3.ext E20
      have zs29 : Z.heap.size ≤ h18.size := Nat.le_trans hz E20.1
      refine Go.astore 94 #[.val (.int i0), .val (.long i1), .second, .val (.long i2), .second, .val (.long i3), .second, .val (.long i4), .second, .val (.int (0 : Int32)), .val (.ref r_ADDRESS), .val (.int v3), .val (.long v5), .second, .val (.long v8), .second, .val (.long v13), .second, .val (.long v15), .second, .val (.ref a17), .unset, .unset, .unset, .unset, .unset, .unset, .unset, .unset] at_92 rfl rfl rfl ?_
      refine Go.iconst 95 (4) at_94 (by decide) rfl ?_
      refine Go.newJ (cap := 4) (xs := [0, 0, 0, 0]) 97 at_95 (tw8 hw) rfl (by decide) (by decide) (by decide) rfl (by decide) (by decide) rfl (fun a30 h31 q32 E33 A34 => ?_)
      have ne35 : r_ADDRESS ≠ a30 := fun e => absurd f26.lt (by rw [e, q32]; exact Nat.lt_irrefl _)
      have ne36 : r_DOMAIN ≠ a30 := fun e => absurd f28.lt (by rw [e, q32]; exact Nat.lt_irrefl _)
      have ne37 : a17 ≠ a30 := fun e => absurd A21.lt (by rw [e, q32]; exact Nat.lt_irrefl _)
      have ge38 : Z.heap.size ≤ a30 := (Eq.symm q32) ▸ zs29
      have f39 : Sta Z h31 "com/example/dense_bloom/densebloom/model/EntryKind" "ADDRESS" "Lcom/example/dense_bloom/densebloom/model/EntryKind;" (.ref r_ADDRESS) := f25.ext E33
      have f40 : Exa Z h31 r_ADDRESS "com/example/dense_bloom/densebloom/model/EntryKind" := f26.ext E33
      have f41 : Sta Z h31 "com/example/dense_bloom/densebloom/model/EntryKind" "DOMAIN" "Lcom/example/dense_bloom/densebloom/model/EntryKind;" (.ref r_DOMAIN) := f27.ext E33
      have f42 : Exa Z h31 r_DOMAIN "com/example/dense_bloom/densebloom/model/EntryKind" := f28.ext E33
      have f43 : Arj Z h31 a17 [0] := A21.ext E33
      have zs44 : Z.heap.size ≤ h31.size := Nat.le_trans zs29 E33.1
      refine Go.astore 99 #[.val (.int i0), .val (.long i1), .second, .val (.long i2), .second, .val (.long i3), .second, .val (.long i4), .second, .val (.int (0 : Int32)), .val (.ref r_ADDRESS), .val (.int v3), .val (.long v5), .second, .val (.long v8), .second, .val (.long v13), .second, .val (.long v15), .second, .val (.ref a17), .val (.ref a30), .unset, .unset, .unset, .unset, .unset, .unset, .unset] at_97 rfl rfl rfl ?_
      refine Go.aload 101 at_99 rfl rfl rfl ?_
      refine Go.iconst 102 (0) at_101 (by decide) rfl ?_
      refine Go.lload_n 103 at_102 rfl rfl ?_
      refine Go.lastore (0) ([i2]) 104 at_103 f43 (by decide) (by decide) (by decide : (0 : Nat) < 1) rfl ge24 rfl (fun h45 W46 A47 => ?_)
      have f48 : Sta Z h45 "com/example/dense_bloom/densebloom/model/EntryKind" "ADDRESS" "Lcom/example/dense_bloom/densebloom/model/EntryKind;" (.ref r_ADDRESS) := f39.wr W46
      have f49 : Exa Z h45 r_ADDRESS "com/example/dense_bloom/densebloom/model/EntryKind" := f40.wr W46
      have f50 : Sta Z h45 "com/example/dense_bloom/densebloom/model/EntryKind" "DOMAIN" "Lcom/example/dense_bloom/densebloom/model/EntryKind;" (.ref r_DOMAIN) := f41.wr W46
      have f51 : Exa Z h45 r_DOMAIN "com/example/dense_bloom/densebloom/model/EntryKind" := f42.wr W46
      have f52 : Arj Z h45 a30 [0, 0, 0, 0] := A34.other W46 (Ne.symm ne37)
      have zs53 : Z.heap.size ≤ h45.size := W46.size ▸ zs44
      refine Go.aload 106 at_104 rfl rfl rfl ?_
      refine Go.iconst 107 (0) at_106 (by decide) rfl ?_
      refine Go.lload_n 108 at_107 rfl rfl ?_
      refine Go.lastore (0) ([i2, 0, 0, 0]) 109 at_108 f52 (by decide) (by decide) (by decide : (0 : Nat) < 4) rfl ge38 rfl (fun h54 W55 A56 => ?_)
      have f57 : Sta Z h54 "com/example/dense_bloom/densebloom/model/EntryKind" "ADDRESS" "Lcom/example/dense_bloom/densebloom/model/EntryKind;" (.ref r_ADDRESS) := f48.wr W55
      have f58 : Exa Z h54 r_ADDRESS "com/example/dense_bloom/densebloom/model/EntryKind" := f49.wr W55
      have f59 : Sta Z h54 "com/example/dense_bloom/densebloom/model/EntryKind" "DOMAIN" "Lcom/example/dense_bloom/densebloom/model/EntryKind;" (.ref r_DOMAIN) := f50.wr W55
      have f60 : Exa Z h54 r_DOMAIN "com/example/dense_bloom/densebloom/model/EntryKind" := f51.wr W55
      have f61 : Arj Z h54 a17 [i2] := A47.other W55 ne37
      have zs62 : Z.heap.size ≤ h54.size := W55.size ▸ zs53
      refine Go.aload 111 at_109 rfl rfl rfl ?_
      refine Go.iconst 112 (1) at_111 (by decide) rfl ?_
      refine Go.lload 114 at_112 rfl rfl ?_
      refine Go.lastore (1) ([i2, i3, 0, 0]) 115 at_114 A56 (by decide) (by decide) (by decide : (1 : Nat) < 4) rfl ge38 rfl (fun h63 W64 A65 => ?_)
      have f66 : Sta Z h63 "com/example/dense_bloom/densebloom/model/EntryKind" "ADDRESS" "Lcom/example/dense_bloom/densebloom/model/EntryKind;" (.ref r_ADDRESS) := f57.wr W64
      have f67 : Exa Z h63 r_ADDRESS "com/example/dense_bloom/densebloom/model/EntryKind" := f58.wr W64
      have f68 : Sta Z h63 "com/example/dense_bloom/densebloom/model/EntryKind" "DOMAIN" "Lcom/example/dense_bloom/densebloom/model/EntryKind;" (.ref r_DOMAIN) := f59.wr W64
      have f69 : Exa Z h63 r_DOMAIN "com/example/dense_bloom/densebloom/model/EntryKind" := f60.wr W64
      have f70 : Arj Z h63 a17 [i2] := f61.other W64 ne37
      have zs71 : Z.heap.size ≤ h63.size := W64.size ▸ zs62
      refine Go.aload 117 at_115 rfl rfl rfl ?_
      refine Go.iconst 118 (2) at_117 (by decide) rfl ?_
      refine Go.lload_n 119 at_118 rfl rfl ?_
      refine Go.lload 121 at_119 rfl rfl ?_
      refine Go.lxor 122 at_121 rfl ?_
      refine Go.nameJ (fun v72 e73 => ?_)
      refine Go.lastore (2) ([i2, i3, v72, 0]) 123 at_122 A65 (by decide) (by decide) (by decide : (2 : Nat) < 4) rfl ge38 rfl (fun h74 W75 A76 => ?_)
      have f77 : Sta Z h74 "com/example/dense_bloom/densebloom/model/EntryKind" "ADDRESS" "Lcom/example/dense_bloom/densebloom/model/EntryKind;" (.ref r_ADDRESS) := f66.wr W75
      have f78 : Exa Z h74 r_ADDRESS "com/example/dense_bloom/densebloom/model/EntryKind" := f67.wr W75
      have f79 : Sta Z h74 "com/example/dense_bloom/densebloom/model/EntryKind" "DOMAIN" "Lcom/example/dense_bloom/densebloom/model/EntryKind;" (.ref r_DOMAIN) := f68.wr W75
      have f80 : Exa Z h74 r_DOMAIN "com/example/dense_bloom/densebloom/model/EntryKind" := f69.wr W75
      have f81 : Arj Z h74 a17 [i2] := f70.other W75 ne37
      have zs82 : Z.heap.size ≤ h74.size := W75.size ▸ zs71
      refine Go.aload 125 at_123 rfl rfl rfl ?_
      refine Go.iconst 126 (3) at_125 (by decide) rfl ?_
      refine Go.lload 128 at_126 rfl rfl ?_
      refine Go.ldc2_w 131 at_128 (tw9 hw) rfl ?_
      refine Go.lxor 132 at_131 rfl ?_
      refine Go.nameJ (fun v83 e84 => ?_)
      refine Go.lastore (3) ([i2, i3, v72, v83]) 133 at_132 A76 (by decide) (by decide) (by decide : (3 : Nat) < 4) rfl ge38 rfl (fun h85 W86 A87 => ?_)
      have f88 : Sta Z h85 "com/example/dense_bloom/densebloom/model/EntryKind" "ADDRESS" "Lcom/example/dense_bloom/densebloom/model/EntryKind;" (.ref r_ADDRESS) := f77.wr W86
      have f89 : Exa Z h85 r_ADDRESS "com/example/dense_bloom/densebloom/model/EntryKind" := f78.wr W86
      have f90 : Sta Z h85 "com/example/dense_bloom/densebloom/model/EntryKind" "DOMAIN" "Lcom/example/dense_bloom/densebloom/model/EntryKind;" (.ref r_DOMAIN) := f79.wr W86
      have f91 : Exa Z h85 r_DOMAIN "com/example/dense_bloom/densebloom/model/EntryKind" := f80.wr W86
      have f92 : Arj Z h85 a17 [i2] := f81.other W86 ne37
      have zs93 : Z.heap.size ≤ h85.size := W86.size ▸ zs82
      refine Go.iload 135 at_133 rfl rfl ?_
      refine Go.if_eq 143 138 at_135 (by decide) (by decide) rfl (fun _ => ?_) (fun c => absurd c (by decide))
      refine Go.aload 145 at_143 rfl rfl rfl ?_
      refine Go.astore 147 #[.val (.int i0), .val (.long i1), .second, .val (.long i2), .second, .val (.long i3), .second, .val (.long i4), .second, .val (.int (0 : Int32)), .val (.ref r_ADDRESS), .val (.int v3), .val (.long v5), .second, .val (.long v8), .second, .val (.long v13), .second, .val (.long v15), .second, .val (.ref a17), .val (.ref a30), .val (.ref a17), .unset, .unset, .unset, .unset, .unset, .unset] at_145 rfl rfl rfl ?_
      refine Go.iload 149 at_147 rfl rfl ?_
      refine Go.if_eq 156 152 at_149 (by decide) (by decide) rfl (fun _ => ?_) (fun c => absurd c (by decide))
      refine Go.iconst 157 (1) at_156 (by decide) rfl ?_
      refine Go.istore 159 #[.val (.int i0), .val (.long i1), .second, .val (.long i2), .second, .val (.long i3), .second, .val (.long i4), .second, .val (.int (0 : Int32)), .val (.ref r_ADDRESS), .val (.int v3), .val (.long v5), .second, .val (.long v8), .second, .val (.long v13), .second, .val (.long v15), .second, .val (.ref a17), .val (.ref a30), .val (.ref a17), .val (.int (1 : Int32)), .unset, .unset, .unset, .unset, .unset] at_157 rfl rfl ?_
      refine Go.iload 161 at_159 rfl rfl ?_
      refine Go.if_eq 173 164 at_161 (by decide) (by decide) rfl (fun _ => ?_) (fun c => absurd c (by decide))
      refine Go.lload_n 174 at_173 rfl rfl ?_
      refine Go.lstore 176 #[.val (.int i0), .val (.long i1), .second, .val (.long i2), .second, .val (.long i3), .second, .val (.long i4), .second, .val (.int (0 : Int32)), .val (.ref r_ADDRESS), .val (.int v3), .val (.long v5), .second, .val (.long v8), .second, .val (.long v13), .second, .val (.long v15), .second, .val (.ref a17), .val (.ref a30), .val (.ref a17), .val (.int (1 : Int32)), .val (.long i2), .second, .unset, .unset, .unset] at_174 rfl rfl ?_
      refine Go.new 179 at_176 (tw10 hw) (tw11 hw) (tw12 hw) (by decide) (by decide) rfl (fun a97 h98 q99 E100 A101 D102 => ?_)
      have ne103 : r_ADDRESS ≠ a97 := fun e => absurd f89.lt (by rw [e, q99]; exact Nat.lt_irrefl _)
      have ne104 : r_DOMAIN ≠ a97 := fun e => absurd f91.lt (by rw [e, q99]; exact Nat.lt_irrefl _)
      have ne105 : a17 ≠ a97 := fun e => absurd f92.lt (by rw [e, q99]; exact Nat.lt_irrefl _)
      have ne106 : a30 ≠ a97 := fun e => absurd A87.lt (by rw [e, q99]; exact Nat.lt_irrefl _)
      have ge107 : Z.heap.size ≤ a97 := (Eq.symm q99) ▸ zs93
      have f108 : Sta Z h98 "com/example/dense_bloom/densebloom/model/EntryKind" "ADDRESS" "Lcom/example/dense_bloom/densebloom/model/EntryKind;" (.ref r_ADDRESS) := f88.ext E100
      have f109 : Exa Z h98 r_ADDRESS "com/example/dense_bloom/densebloom/model/EntryKind" := f89.ext E100
      have f110 : Sta Z h98 "com/example/dense_bloom/densebloom/model/EntryKind" "DOMAIN" "Lcom/example/dense_bloom/densebloom/model/EntryKind;" (.ref r_DOMAIN) := f90.ext E100
      have f111 : Exa Z h98 r_DOMAIN "com/example/dense_bloom/densebloom/model/EntryKind" := f91.ext E100
      have f112 : Arj Z h98 a17 [i2] := f92.ext E100
      have f113 : Arj Z h98 a30 [i2, i3, v72, v83] := A87.ext E100
      have zs114 : Z.heap.size ≤ h98.size := Nat.le_trans zs93 E100.1
      have f115 : Fld Z h98 a97 "com/example/dense_bloom/densebloom/model/FilterSize" "expectedEntries" "J" (.long (0 : Int64)) := D102 (Or.inr (tw34 hw)) (ty := .long) (by decide)
      have f116 : Fld Z h98 a97 "com/example/dense_bloom/densebloom/model/FilterSize" "bits" "J" (.long (0 : Int64)) := D102 (Or.inr (tw36 hw)) (ty := .long) (by decide)
      have f117 : Fld Z h98 a97 "com/example/dense_bloom/densebloom/model/FilterSize" "hashes" "I" (.int (0 : Int32)) := D102 (Or.inr (tw38 hw)) (ty := .int) (by decide)
      refine Go.dup 180 at_179 rfl rfl ?_
      refine Go.lload 182 at_180 rfl rfl ?_
      refine Go.lload 184 at_182 rfl rfl ?_
      refine Go.iload 186 at_184 rfl rfl ?_
      refine Go.callC [.long v13, .long v8, .int v3] [.ref a97] 189 at_186 rfl (tw13 hw) (tw14 hw) (tw12 hw) (tw15 hw) pl2 (by decide) (lenOf pd2 rfl) rfl (fun m => ef_k_init m a97 v13 v8 v3) _ (k_init hw h98 zs114 a97 v13 v8 v3 A101 f115 f116 f117 oh1 oh2 oh3 oh4 ge107) 1 rfl (Nat.le_of_eq rfl) (by decide) (by decide) (by decide) (by decide) rfl ?_
      rintro h119 ⟨K120, f121, f122⟩
      have f123 : Exa Z h119 r_ADDRESS "com/example/dense_bloom/densebloom/model/EntryKind" := f109.keep K120
      have f124 : Exa Z h119 r_DOMAIN "com/example/dense_bloom/densebloom/model/EntryKind" := f111.keep K120
      have f125 : Arj Z h119 a17 [i2] := f112.keep K120 (ninS ne105 nin0)
      have f126 : Arj Z h119 a30 [i2, i3, v72, v83] := f113.keep K120 (ninS ne106 nin0)
      have zs127 : Z.heap.size ≤ h119.size := Nat.le_trans zs114 K120.1
      refine Go.astore 191 #[.val (.int i0), .val (.long i1), .second, .val (.long i2), .second, .val (.long i3), .second, .val (.long i4), .second, .val (.int (0 : Int32)), .val (.ref r_ADDRESS), .val (.int v3), .val (.long v5), .second, .val (.long v8), .second, .val (.long v13), .second, .val (.long v15), .second, .val (.ref a17), .val (.ref a30), .val (.ref a17), .val (.int (1 : Int32)), .val (.long i2), .second, .val (.ref a97), .unset, .unset] at_189 rfl rfl rfl ?_
      refine Go.aload 193 at_191 rfl rfl rfl ?_
      refine Go.aload 195 at_193 rfl rfl rfl ?_
      refine Go.lload 197 at_195 rfl rfl ?_
      refine Go.aload 199 at_197 rfl rfl rfl ?_
      refine Go.callSR [.ref a97, .ref r_ADDRESS, .long v15, .ref a17] [] 202 at_199 (tw39 hw) (tw40 hw) (tw41 hw) (tw42 hw) pl8 (by decide) (lenOf pd8 rfl) rfl (fun m => ef_k_fw1 m a97 r_ADDRESS v15 a17) _ (k_fw1 hw h119 zs127 a97 r_ADDRESS v15 a17 f121 f122 f125 oad oh2 ob3 ob4) 0 rfl (Nat.le_of_eq rfl) (by decide) (by decide) (by decide) (by decide) rfl ?_
      rintro z128 h129 ⟨a131, rfl, g132, K130, f133, f134, f135, f136, f137⟩
      have ne138 : r_ADDRESS ≠ a131 := Nat.ne_of_lt (Nat.lt_of_lt_of_le f123.lt g132)
      have ne139 : r_DOMAIN ≠ a131 := Nat.ne_of_lt (Nat.lt_of_lt_of_le f124.lt g132)
      have ne140 : a17 ≠ a131 := Nat.ne_of_lt (Nat.lt_of_lt_of_le f125.lt g132)
      have ne141 : a30 ≠ a131 := Nat.ne_of_lt (Nat.lt_of_lt_of_le f126.lt g132)
      have ne142 : a97 ≠ a131 := Nat.ne_of_lt (Nat.lt_of_lt_of_le f121.lt g132)
      have ge143 : Z.heap.size ≤ a131 := Nat.le_trans zs127 g132
      have f144 : Exa Z h129 r_ADDRESS "com/example/dense_bloom/densebloom/model/EntryKind" := f123.keep K130
      have f145 : Exa Z h129 r_DOMAIN "com/example/dense_bloom/densebloom/model/EntryKind" := f124.keep K130
      have f146 : Arj Z h129 a17 [i2] := f125.keep K130 nin0
      have f147 : Arj Z h129 a30 [i2, i3, v72, v83] := f126.keep K130 nin0
      have f148 : Exa Z h129 a97 "com/example/dense_bloom/densebloom/model/FilterSize" := f121.keep K130
      have f149 : Fld Z h129 a97 "com/example/dense_bloom/densebloom/model/FilterSize" "bits" "J" (.long v8) := f122.keep K130 nin0
      have zs150 : Z.heap.size ≤ h129.size := Nat.le_trans zs127 K130.1
      refine Go.astore 204 #[.val (.int i0), .val (.long i1), .second, .val (.long i2), .second, .val (.long i3), .second, .val (.long i4), .second, .val (.int (0 : Int32)), .val (.ref r_ADDRESS), .val (.int v3), .val (.long v5), .second, .val (.long v8), .second, .val (.long v13), .second, .val (.long v15), .second, .val (.ref a17), .val (.ref a30), .val (.ref a17), .val (.int (1 : Int32)), .val (.long i2), .second, .val (.ref a97), .val (.ref a131), .unset] at_202 rfl rfl rfl ?_
      refine Go.aload 206 at_204 rfl rfl rfl ?_
      refine Go.callVRp [] [] 209 at_206 (tw68 hw) (tw69 hw) (tw71 hw) (tw70 hw) (tw41 hw) (tw72 hw) f133 pl12 (by decide) (lenOf pd12 rfl) rfl (fun m => ef_k_gsize m a131) _ (k_gsize hw h129 zs150 a131 f134) 0 rfl (Nat.le_of_eq rfl) (by decide) (by decide) (by decide) (by decide) rfl ?_
      refine Go.aload 211 at_209 rfl rfl rfl ?_
      refine Go.acmp 214 true at_211 rfl rfl (by simp) (by decide) (by decide) ?_
      refine Go.aload 216 at_214 rfl rfl rfl ?_
      refine Go.callVRp [] [] 219 at_216 (tw73 hw) (tw74 hw) (tw76 hw) (tw75 hw) (tw41 hw) (tw77 hw) f133 pl13 (by decide) (lenOf pd13 rfl) rfl (fun m => ef_k_gkind m a131) _ (k_gkind hw h129 zs150 a131 f135) 0 rfl (Nat.le_of_eq rfl) (by decide) (by decide) (by decide) (by decide) rfl ?_
      refine Go.aload 221 at_219 rfl rfl rfl ?_
      refine Go.acmp 224 true at_221 rfl rfl (by simp) (by decide) (by decide) ?_
      refine Go.aload 226 at_224 rfl rfl rfl ?_
      refine Go.callVJp [] [] 229 at_226 (tw78 hw) (tw79 hw) (tw81 hw) (tw80 hw) (tw41 hw) (tw82 hw) f133 pl14 (by decide) (lenOf pd14 rfl) rfl (fun m => ef_k_gadded m a131) _ (k_gadded hw h129 zs150 a131 f136) 0 rfl (Nat.le_of_eq rfl) (by decide) (by decide) (by decide) (by decide) rfl ?_
      refine Go.lload 231 at_229 rfl rfl ?_
      refine Go.lcmp 232 at_231 rfl ?_
      refine Go.lcmp_ne 275 235 at_232 (by decide) (by decide) rfl (fun c160 => ?_) (fun c160 => ?_)
      ·
        refine Go.iconst 276 (0) at_275 (by decide) rfl ?_
        refine Go.istore 278 #[.val (.int i0), .val (.long i1), .second, .val (.long i2), .second, .val (.long i3), .second, .val (.long i4), .second, .val (.int (0 : Int32)), .val (.ref r_ADDRESS), .val (.int v3), .val (.long v5), .second, .val (.long v8), .second, .val (.long v13), .second, .val (.long v15), .second, .val (.ref a17), .val (.ref a30), .val (.ref a17), .val (.int (1 : Int32)), .val (.long i2), .second, .val (.ref a97), .val (.ref a131), .val (.int (0 : Int32))] at_276 rfl rfl ?_
        refine Go.aload 280 at_278 rfl rfl rfl ?_
        refine Go.iconst 281 (0) at_280 (by decide) rfl ?_
        refine Go.lload_n 282 at_281 rfl rfl ?_
        refine Go.ldc2_w 285 at_282 (tw9 hw) rfl ?_
        refine Go.lxor 286 at_285 rfl ?_
        refine Go.nameJ (fun v161 e162 => ?_)
        refine Go.lastore (0) ([v161]) 287 at_286 f146 (by decide) (by decide) (by decide : (0 : Nat) < 1) rfl ge24 rfl (fun h163 W164 A165 => ?_)
        have f166 : Exa Z h163 r_ADDRESS "com/example/dense_bloom/densebloom/model/EntryKind" := f144.wr W164
        have f167 : Exa Z h163 r_DOMAIN "com/example/dense_bloom/densebloom/model/EntryKind" := f145.wr W164
        have f168 : Arj Z h163 a30 [i2, i3, v72, v83] := f147.other W164 (Ne.symm ne37)
        have f169 : Exa Z h163 a97 "com/example/dense_bloom/densebloom/model/FilterSize" := f148.wr W164
        have f170 : Fld Z h163 a97 "com/example/dense_bloom/densebloom/model/FilterSize" "bits" "J" (.long v8) := f149.other W164 (Or.inl (Ne.symm ne105))
        have f171 : Exa Z h163 a131 "com/example/dense_bloom/densebloom/model/BloomFilter" := f133.wr W164
        have f172 : Fld Z h163 a131 "com/example/dense_bloom/densebloom/model/BloomFilter" "size" "Lcom/example/dense_bloom/densebloom/model/FilterSize;" (.ref a97) := f134.other W164 (Or.inl (Ne.symm ne140))
        have f173 : Fld Z h163 a131 "com/example/dense_bloom/densebloom/model/BloomFilter" "kind" "Lcom/example/dense_bloom/densebloom/model/EntryKind;" (.ref r_ADDRESS) := f135.other W164 (Or.inl (Ne.symm ne140))
        have f174 : Fld Z h163 a131 "com/example/dense_bloom/densebloom/model/BloomFilter" "added" "J" (.long v15) := f136.other W164 (Or.inl (Ne.symm ne140))
        have f175 : Fld Z h163 a131 "com/example/dense_bloom/densebloom/model/BloomFilter" "words" "[J" (.ref a17) := f137.other W164 (Or.inl (Ne.symm ne140))
        have zs176 : Z.heap.size ≤ h163.size := W164.size ▸ zs150
        refine Go.iload 289 at_287 rfl rfl ?_
        refine Go.if_eq 311 292 at_289 (by decide) (by decide) rfl (fun _ => ?_) (fun c => absurd c (by decide))
        refine Go.iconst 312 (0) at_311 (by decide) rfl ?_
        refine Go.nreturn (t := .boolean) (z' := (0 : Int32)) at_312 rfl (by simp) (by decide) (by decide) (by decide) ?_
        exfalso
        first | exact c160 rfl | (subst_vars; exact absurd rfl ‹¬ _›) | exact absurd rfl c160
      ·
        refine Go.aload 237 at_235 rfl rfl rfl ?_
        refine Go.callVIp [] [] 240 at_237 (tw83 hw) (tw84 hw) (tw86 hw) (tw85 hw) (tw41 hw) (tw87 hw) f133 pl15 (by decide) (lenOf pd15 rfl) rfl (fun m => ef_k_gc1 m a131) _ (k_gc1 hw h129 zs150 a131 f137 f146) 0 rfl (Nat.le_of_eq rfl) (by decide) (by decide) (by decide) (by decide) rfl ?_
        refine Go.iload 242 at_240 rfl rfl ?_
        refine Go.icmp_ne 275 245 at_242 (by decide) (by decide) rfl (fun c => absurd c (by decide)) (fun _ => ?_)
        refine Go.aload 247 at_245 rfl rfl rfl ?_
        refine Go.iconst 248 (0) at_247 (by decide) rfl ?_
        refine Go.callVJp [.int (0 : Int32)] [] 251 at_248 (tw88 hw) (tw89 hw) (tw91 hw) (tw90 hw) (tw41 hw) (tw92 hw) f133 pl16 (by decide) (lenOf pd16 rfl) rfl (fun m => ef_k_w1_0 m a131 (0 : Int32)) _ (k_w1_0 hw h129 zs150 a131 (0 : Int32) f137 f146 (by decide) (by decide)) 0 rfl (Nat.le_of_eq rfl) (by decide) (by decide) (by decide) (by decide) rfl ?_
        refine Go.lload_n 252 at_251 rfl rfl ?_
        refine Go.lcmp 253 at_252 rfl ?_
        refine Go.lcmp_ne 275 256 at_253 (by decide) (by decide) rfl (fun c185 => ?_) (fun c185 => ?_)
        ·
          refine Go.iconst 276 (0) at_275 (by decide) rfl ?_
          refine Go.istore 278 #[.val (.int i0), .val (.long i1), .second, .val (.long i2), .second, .val (.long i3), .second, .val (.long i4), .second, .val (.int (0 : Int32)), .val (.ref r_ADDRESS), .val (.int v3), .val (.long v5), .second, .val (.long v8), .second, .val (.long v13), .second, .val (.long v15), .second, .val (.ref a17), .val (.ref a30), .val (.ref a17), .val (.int (1 : Int32)), .val (.long i2), .second, .val (.ref a97), .val (.ref a131), .val (.int (0 : Int32))] at_276 rfl rfl ?_
          refine Go.aload 280 at_278 rfl rfl rfl ?_
          refine Go.iconst 281 (0) at_280 (by decide) rfl ?_
          refine Go.lload_n 282 at_281 rfl rfl ?_
          refine Go.ldc2_w 285 at_282 (tw9 hw) rfl ?_
          refine Go.lxor 286 at_285 rfl ?_
          refine Go.nameJ (fun v186 e187 => ?_)
          refine Go.lastore (0) ([v186]) 287 at_286 f146 (by decide) (by decide) (by decide : (0 : Nat) < 1) rfl ge24 rfl (fun h188 W189 A190 => ?_)
          have f191 : Exa Z h188 r_ADDRESS "com/example/dense_bloom/densebloom/model/EntryKind" := f144.wr W189
          have f192 : Exa Z h188 r_DOMAIN "com/example/dense_bloom/densebloom/model/EntryKind" := f145.wr W189
          have f193 : Arj Z h188 a30 [i2, i3, v72, v83] := f147.other W189 (Ne.symm ne37)
          have f194 : Exa Z h188 a97 "com/example/dense_bloom/densebloom/model/FilterSize" := f148.wr W189
          have f195 : Fld Z h188 a97 "com/example/dense_bloom/densebloom/model/FilterSize" "bits" "J" (.long v8) := f149.other W189 (Or.inl (Ne.symm ne105))
          have f196 : Exa Z h188 a131 "com/example/dense_bloom/densebloom/model/BloomFilter" := f133.wr W189
          have f197 : Fld Z h188 a131 "com/example/dense_bloom/densebloom/model/BloomFilter" "size" "Lcom/example/dense_bloom/densebloom/model/FilterSize;" (.ref a97) := f134.other W189 (Or.inl (Ne.symm ne140))
          have f198 : Fld Z h188 a131 "com/example/dense_bloom/densebloom/model/BloomFilter" "kind" "Lcom/example/dense_bloom/densebloom/model/EntryKind;" (.ref r_ADDRESS) := f135.other W189 (Or.inl (Ne.symm ne140))
          have f199 : Fld Z h188 a131 "com/example/dense_bloom/densebloom/model/BloomFilter" "added" "J" (.long v15) := f136.other W189 (Or.inl (Ne.symm ne140))
          have f200 : Fld Z h188 a131 "com/example/dense_bloom/densebloom/model/BloomFilter" "words" "[J" (.ref a17) := f137.other W189 (Or.inl (Ne.symm ne140))
          have zs201 : Z.heap.size ≤ h188.size := W189.size ▸ zs150
          refine Go.iload 289 at_287 rfl rfl ?_
          refine Go.if_eq 311 292 at_289 (by decide) (by decide) rfl (fun _ => ?_) (fun c => absurd c (by decide))
          refine Go.iconst 312 (0) at_311 (by decide) rfl ?_
          refine Go.nreturn (t := .boolean) (z' := (0 : Int32)) at_312 rfl (by simp) (by decide) (by decide) (by decide) ?_
          exfalso
          first | exact c185 rfl | (subst_vars; exact absurd rfl ‹¬ _›) | exact absurd rfl c185
        ·
          refine Go.aload 258 at_256 rfl rfl rfl ?_
          refine Go.iload 260 at_258 rfl rfl ?_
          refine Go.iconst 261 (1) at_260 (by decide) rfl ?_
          refine Go.isub 262 at_261 rfl ?_
          refine Go.callVJp [.int ((1 : Int32) - (1 : Int32))] [] 265 at_262 (tw88 hw) (tw89 hw) (tw91 hw) (tw90 hw) (tw41 hw) (tw92 hw) f133 pl16 (by decide) (lenOf pd16 rfl) rfl (fun m => ef_k_w1_0 m a131 ((1 : Int32) - (1 : Int32))) _ (k_w1_0 hw h129 zs150 a131 (((1 : Int32) - (1 : Int32))) f137 f146 (by decide) (by decide)) 0 rfl (Nat.le_of_eq rfl) (by decide) (by decide) (by decide) (by decide) rfl ?_
          refine Go.lload 267 at_265 rfl rfl ?_
          refine Go.lcmp 268 at_267 rfl ?_
          refine Go.lcmp_ne 275 271 at_268 (by decide) (by decide) rfl (fun c => absurd c185 c) (fun _ => ?_)
          refine Go.iconst 272 (1) at_271 (by decide) rfl ?_
          refine Go.goto 276 at_272 (by decide) (by decide) ?_
          refine Go.istore 278 #[.val (.int i0), .val (.long i1), .second, .val (.long i2), .second, .val (.long i3), .second, .val (.long i4), .second, .val (.int (0 : Int32)), .val (.ref r_ADDRESS), .val (.int v3), .val (.long v5), .second, .val (.long v8), .second, .val (.long v13), .second, .val (.long v15), .second, .val (.ref a17), .val (.ref a30), .val (.ref a17), .val (.int (1 : Int32)), .val (.long i2), .second, .val (.ref a97), .val (.ref a131), .val (.int (1 : Int32))] at_276 rfl rfl ?_
          refine Go.aload 280 at_278 rfl rfl rfl ?_
          refine Go.iconst 281 (0) at_280 (by decide) rfl ?_
          refine Go.lload_n 282 at_281 rfl rfl ?_
          refine Go.ldc2_w 285 at_282 (tw9 hw) rfl ?_
          refine Go.lxor 286 at_285 rfl ?_
          refine Go.nameJ (fun v207 e208 => ?_)
          refine Go.lastore (0) ([v207]) 287 at_286 f146 (by decide) (by decide) (by decide : (0 : Nat) < 1) rfl ge24 rfl (fun h209 W210 A211 => ?_)
          have f212 : Exa Z h209 r_ADDRESS "com/example/dense_bloom/densebloom/model/EntryKind" := f144.wr W210
          have f213 : Exa Z h209 r_DOMAIN "com/example/dense_bloom/densebloom/model/EntryKind" := f145.wr W210
          have f214 : Arj Z h209 a30 [i2, i3, v72, v83] := f147.other W210 (Ne.symm ne37)
          have f215 : Exa Z h209 a97 "com/example/dense_bloom/densebloom/model/FilterSize" := f148.wr W210
          have f216 : Fld Z h209 a97 "com/example/dense_bloom/densebloom/model/FilterSize" "bits" "J" (.long v8) := f149.other W210 (Or.inl (Ne.symm ne105))
          have f217 : Exa Z h209 a131 "com/example/dense_bloom/densebloom/model/BloomFilter" := f133.wr W210
          have f218 : Fld Z h209 a131 "com/example/dense_bloom/densebloom/model/BloomFilter" "size" "Lcom/example/dense_bloom/densebloom/model/FilterSize;" (.ref a97) := f134.other W210 (Or.inl (Ne.symm ne140))
          have f219 : Fld Z h209 a131 "com/example/dense_bloom/densebloom/model/BloomFilter" "kind" "Lcom/example/dense_bloom/densebloom/model/EntryKind;" (.ref r_ADDRESS) := f135.other W210 (Or.inl (Ne.symm ne140))
          have f220 : Fld Z h209 a131 "com/example/dense_bloom/densebloom/model/BloomFilter" "added" "J" (.long v15) := f136.other W210 (Or.inl (Ne.symm ne140))
          have f221 : Fld Z h209 a131 "com/example/dense_bloom/densebloom/model/BloomFilter" "words" "[J" (.ref a17) := f137.other W210 (Or.inl (Ne.symm ne140))
          have zs222 : Z.heap.size ≤ h209.size := W210.size ▸ zs150
          refine Go.iload 289 at_287 rfl rfl ?_
          refine Go.if_eq 311 292 at_289 (by decide) (by decide) rfl (fun c => absurd c (by decide)) (fun _ => ?_)
          refine Go.aload 294 at_292 rfl rfl rfl ?_
          refine Go.iconst 295 (0) at_294 (by decide) rfl ?_
          refine Go.callVJp [.int (0 : Int32)] [] 298 at_295 (tw88 hw) (tw89 hw) (tw91 hw) (tw90 hw) (tw41 hw) (tw92 hw) f217 pl16 (by decide) (lenOf pd16 rfl) rfl (fun m => ef_k_w1_0 m a131 (0 : Int32)) _ (k_w1_0 hw h209 zs222 a131 (0 : Int32) f221 A211 (by decide) (by decide)) 0 rfl (Nat.le_of_eq rfl) (by decide) (by decide) (by decide) (by decide) rfl ?_
          refine Go.lload_n 299 at_298 rfl rfl ?_
          refine Go.ldc2_w 302 at_299 (tw9 hw) rfl ?_
          refine Go.lxor 303 at_302 rfl ?_
          refine Go.lcmp 304 at_303 rfl ?_
          refine Go.lcmp_ne 311 307 at_304 (by decide) (by decide) rfl (fun c227 => ?_) (fun c227 => ?_)
          ·
            refine Go.iconst 312 (0) at_311 (by decide) rfl ?_
            refine Go.nreturn (t := .boolean) (z' := (0 : Int32)) at_312 rfl (by simp) (by decide) (by decide) (by decide) ?_
            exfalso
            first | exact c227 rfl | (subst_vars; exact absurd rfl ‹¬ _›) | exact absurd rfl c227
          ·
            refine Go.iconst 308 (1) at_307 (by decide) rfl ?_
            refine Go.goto 312 at_308 (by decide) (by decide) ?_
            refine Go.nreturn (t := .boolean) (z' := (1 : Int32)) at_312 rfl (by simp) (by decide) (by decide) (by decide) ?_
            rfl
    ·
      refine Go.getstatic 22 at_19 (tw94 hw) fa2 rfl ?_
      refine Go.goto 28 at_22 (by decide) (by decide) ?_
      refine Go.astore 30 #[.val (.int i0), .val (.long i1), .second, .val (.long i2), .second, .val (.long i3), .second, .val (.long i4), .second, .val (.int (0 : Int32)), .val (.ref r_DOMAIN), .unset, .unset, .unset, .unset, .unset, .unset, .unset, .unset, .unset, .unset, .unset, .unset, .unset, .unset, .unset, .unset, .unset, .unset] at_28 rfl rfl rfl ?_
      refine Go.iconst 31 (1) at_30 (by decide) rfl ?_
      refine Go.iload_n 32 at_31 rfl rfl ?_
      refine Go.iconst 33 (2) at_32 (by decide) rfl ?_
      refine Go.iushr 34 at_33 rfl ?_
      refine Go.bipush 36 (63) at_34 (by decide) rfl ?_
      refine Go.iand 37 at_36 rfl ?_
      refine Go.iadd 38 at_37 rfl ?_
      refine Go.nameI (fun v228 e229 => ?_)
      refine Go.istore 40 #[.val (.int i0), .val (.long i1), .second, .val (.long i2), .second, .val (.long i3), .second, .val (.long i4), .second, .val (.int (0 : Int32)), .val (.ref r_DOMAIN), .val (.int v228), .unset, .unset, .unset, .unset, .unset, .unset, .unset, .unset, .unset, .unset, .unset, .unset, .unset, .unset, .unset, .unset, .unset] at_38 rfl rfl ?_
      refine Go.iload_n 41 at_40 rfl rfl ?_
      refine Go.bipush 43 (8) at_41 (by decide) rfl ?_
      refine Go.iushr 44 at_43 rfl ?_
      refine Go.bipush 46 (63) at_44 (by decide) rfl ?_
      refine Go.iand 47 at_46 rfl ?_
      refine Go.i2l 48 at_47 rfl ?_
      refine Go.nameJ (fun v230 e231 => ?_)
      refine Go.lstore 50 #[.val (.int i0), .val (.long i1), .second, .val (.long i2), .second, .val (.long i3), .second, .val (.long i4), .second, .val (.int (0 : Int32)), .val (.ref r_DOMAIN), .val (.int v228), .val (.long v230), .second, .unset, .unset, .unset, .unset, .unset, .unset, .unset, .unset, .unset, .unset, .unset, .unset, .unset, .unset, .unset] at_48 rfl rfl ?_
      refine Go.iload 52 at_50 rfl rfl ?_
      refine Go.if_eq 64 55 at_52 (by decide) (by decide) rfl (fun _ => ?_) (fun c => absurd c (by decide))
      refine Go.lconst 65 (1) at_64 (by decide) rfl ?_
      refine Go.lload 67 at_65 rfl rfl ?_
      refine Go.ladd 68 at_67 rfl ?_
      refine Go.nameJ (fun v233 e234 => ?_)
      refine Go.lstore 70 #[.val (.int i0), .val (.long i1), .second, .val (.long i2), .second, .val (.long i3), .second, .val (.long i4), .second, .val (.int (0 : Int32)), .val (.ref r_DOMAIN), .val (.int v228), .val (.long v230), .second, .val (.long v233), .second, .unset, .unset, .unset, .unset, .unset, .unset, .unset, .unset, .unset, .unset, .unset, .unset, .unset] at_68 rfl rfl ?_
      refine Go.lconst 71 (1) at_70 (by decide) rfl ?_
      refine Go.lload 73 at_71 rfl rfl ?_
      refine Go.ldc2_w 76 at_73 (tw3 hw) rfl ?_
      refine Go.land 77 at_76 rfl ?_
      refine Go.callSJp [.long (1 : Int64), .long (i4 &&& (9223372036854775807 : Int64))] [] 80 at_77 (tw4 hw) (tw5 hw) (tw6 hw) (tw7 hw) pl1 (by decide) (lenOf pd1 rfl) rfl (fun m => ef_k_maxJ m (1 : Int64) (i4 &&& (9223372036854775807 : Int64))) _ (k_maxJ hw h hz (1 : Int64) ((i4 &&& (9223372036854775807 : Int64)))) 0 rfl (Nat.le_of_eq rfl) (by decide) (by decide) (by decide) (by decide) rfl ?_
      refine Go.nameJ (fun v238 e239 => ?_)
      refine Go.lstore 82 #[.val (.int i0), .val (.long i1), .second, .val (.long i2), .second, .val (.long i3), .second, .val (.long i4), .second, .val (.int (0 : Int32)), .val (.ref r_DOMAIN), .val (.int v228), .val (.long v230), .second, .val (.long v233), .second, .val (.long v238), .second, .unset, .unset, .unset, .unset, .unset, .unset, .unset, .unset, .unset, .unset, .unset] at_80 rfl rfl ?_
      refine Go.lload_n 83 at_82 rfl rfl ?_
      refine Go.ldc2_w 86 at_83 (tw3 hw) rfl ?_
      refine Go.land 87 at_86 rfl ?_
      refine Go.nameJ (fun v240 e241 => ?_)
      refine Go.lstore 89 #[.val (.int i0), .val (.long i1), .second, .val (.long i2), .second, .val (.long i3), .second, .val (.long i4), .second, .val (.int (0 : Int32)), .val (.ref r_DOMAIN), .val (.int v228), .val (.long v230), .second, .val (.long v233), .second, .val (.long v238), .second, .val (.long v240), .second, .unset, .unset, .unset, .unset, .unset, .unset, .unset, .unset, .unset] at_87 rfl rfl ?_
      obtain ⟨oh3, oh4⟩ := own_hash i0 v228 e229
      obtain ⟨oh2, ob3, ob4⟩ := own_bitsv (own_low i0 v230 e231) (Or.inr ⟨rfl, rfl⟩) e234
      have oh1 := own_exp i4 v238 e239
      have oad := own_nonneg i1 v240 e241
      refine Go.iconst 90 (1) at_89 (by decide) rfl ?_
      refine Go.newJ (cap := 1) (xs := [0]) 92 at_90 (tw8 hw) rfl (by decide) (by decide) (by decide) rfl (by decide) (by decide) rfl (fun a242 h243 q244 E245 A246 => ?_)
      have ne247 : r_ADDRESS ≠ a242 := fun e => absurd fa1.lt (by rw [e, q244]; exact Nat.lt_irrefl _)
      have ne248 : r_DOMAIN ≠ a242 := fun e => absurd fa3.lt (by rw [e, q244]; exact Nat.lt_irrefl _)
      have ge249 : Z.heap.size ≤ a242 := (Eq.symm q244) ▸ hz
      have f250 : Sta Z h243 "com/example/dense_bloom/densebloom/model/EntryKind" "ADDRESS" "Lcom/example/dense_bloom/densebloom/model/EntryKind;" (.ref r_ADDRESS) := fa0.ext E245
      have f251 : Exa Z h243 r_ADDRESS "com/example/dense_bloom/densebloom/model/EntryKind" := fa1.ext E245
      have f252 : Sta Z h243 "com/example/dense_bloom/densebloom/model/EntryKind" "DOMAIN" "Lcom/example/dense_bloom/densebloom/model/EntryKind;" (.ref r_DOMAIN) := fa2.ext E245
      have f253 : Exa Z h243 r_DOMAIN "com/example/dense_bloom/densebloom/model/EntryKind" := fa3.ext E245
      have zs254 : Z.heap.size ≤ h243.size := Nat.le_trans hz E245.1
      refine Go.astore 94 #[.val (.int i0), .val (.long i1), .second, .val (.long i2), .second, .val (.long i3), .second, .val (.long i4), .second, .val (.int (0 : Int32)), .val (.ref r_DOMAIN), .val (.int v228), .val (.long v230), .second, .val (.long v233), .second, .val (.long v238), .second, .val (.long v240), .second, .val (.ref a242), .unset, .unset, .unset, .unset, .unset, .unset, .unset, .unset] at_92 rfl rfl rfl ?_
      refine Go.iconst 95 (4) at_94 (by decide) rfl ?_
      refine Go.newJ (cap := 4) (xs := [0, 0, 0, 0]) 97 at_95 (tw8 hw) rfl (by decide) (by decide) (by decide) rfl (by decide) (by decide) rfl (fun a255 h256 q257 E258 A259 => ?_)
      have ne260 : r_ADDRESS ≠ a255 := fun e => absurd f251.lt (by rw [e, q257]; exact Nat.lt_irrefl _)
      have ne261 : r_DOMAIN ≠ a255 := fun e => absurd f253.lt (by rw [e, q257]; exact Nat.lt_irrefl _)
      have ne262 : a242 ≠ a255 := fun e => absurd A246.lt (by rw [e, q257]; exact Nat.lt_irrefl _)
      have ge263 : Z.heap.size ≤ a255 := (Eq.symm q257) ▸ zs254
      have f264 : Sta Z h256 "com/example/dense_bloom/densebloom/model/EntryKind" "ADDRESS" "Lcom/example/dense_bloom/densebloom/model/EntryKind;" (.ref r_ADDRESS) := f250.ext E258
      have f265 : Exa Z h256 r_ADDRESS "com/example/dense_bloom/densebloom/model/EntryKind" := f251.ext E258
      have f266 : Sta Z h256 "com/example/dense_bloom/densebloom/model/EntryKind" "DOMAIN" "Lcom/example/dense_bloom/densebloom/model/EntryKind;" (.ref r_DOMAIN) := f252.ext E258
      have f267 : Exa Z h256 r_DOMAIN "com/example/dense_bloom/densebloom/model/EntryKind" := f253.ext E258
      have f268 : Arj Z h256 a242 [0] := A246.ext E258
      have zs269 : Z.heap.size ≤ h256.size := Nat.le_trans zs254 E258.1
      refine Go.astore 99 #[.val (.int i0), .val (.long i1), .second, .val (.long i2), .second, .val (.long i3), .second, .val (.long i4), .second, .val (.int (0 : Int32)), .val (.ref r_DOMAIN), .val (.int v228), .val (.long v230), .second, .val (.long v233), .second, .val (.long v238), .second, .val (.long v240), .second, .val (.ref a242), .val (.ref a255), .unset, .unset, .unset, .unset, .unset, .unset, .unset] at_97 rfl rfl rfl ?_
      refine Go.aload 101 at_99 rfl rfl rfl ?_
      refine Go.iconst 102 (0) at_101 (by decide) rfl ?_
      refine Go.lload_n 103 at_102 rfl rfl ?_
      refine Go.lastore (0) ([i2]) 104 at_103 f268 (by decide) (by decide) (by decide : (0 : Nat) < 1) rfl ge249 rfl (fun h270 W271 A272 => ?_)
      have f273 : Sta Z h270 "com/example/dense_bloom/densebloom/model/EntryKind" "ADDRESS" "Lcom/example/dense_bloom/densebloom/model/EntryKind;" (.ref r_ADDRESS) := f264.wr W271
      have f274 : Exa Z h270 r_ADDRESS "com/example/dense_bloom/densebloom/model/EntryKind" := f265.wr W271
      have f275 : Sta Z h270 "com/example/dense_bloom/densebloom/model/EntryKind" "DOMAIN" "Lcom/example/dense_bloom/densebloom/model/EntryKind;" (.ref r_DOMAIN) := f266.wr W271
      have f276 : Exa Z h270 r_DOMAIN "com/example/dense_bloom/densebloom/model/EntryKind" := f267.wr W271
      have f277 : Arj Z h270 a255 [0, 0, 0, 0] := A259.other W271 (Ne.symm ne262)
      have zs278 : Z.heap.size ≤ h270.size := W271.size ▸ zs269
      refine Go.aload 106 at_104 rfl rfl rfl ?_
      refine Go.iconst 107 (0) at_106 (by decide) rfl ?_
      refine Go.lload_n 108 at_107 rfl rfl ?_
      refine Go.lastore (0) ([i2, 0, 0, 0]) 109 at_108 f277 (by decide) (by decide) (by decide : (0 : Nat) < 4) rfl ge263 rfl (fun h279 W280 A281 => ?_)
      have f282 : Sta Z h279 "com/example/dense_bloom/densebloom/model/EntryKind" "ADDRESS" "Lcom/example/dense_bloom/densebloom/model/EntryKind;" (.ref r_ADDRESS) := f273.wr W280
      have f283 : Exa Z h279 r_ADDRESS "com/example/dense_bloom/densebloom/model/EntryKind" := f274.wr W280
      have f284 : Sta Z h279 "com/example/dense_bloom/densebloom/model/EntryKind" "DOMAIN" "Lcom/example/dense_bloom/densebloom/model/EntryKind;" (.ref r_DOMAIN) := f275.wr W280
      have f285 : Exa Z h279 r_DOMAIN "com/example/dense_bloom/densebloom/model/EntryKind" := f276.wr W280
      have f286 : Arj Z h279 a242 [i2] := A272.other W280 ne262
      have zs287 : Z.heap.size ≤ h279.size := W280.size ▸ zs278
      refine Go.aload 111 at_109 rfl rfl rfl ?_
      refine Go.iconst 112 (1) at_111 (by decide) rfl ?_
      refine Go.lload 114 at_112 rfl rfl ?_
      refine Go.lastore (1) ([i2, i3, 0, 0]) 115 at_114 A281 (by decide) (by decide) (by decide : (1 : Nat) < 4) rfl ge263 rfl (fun h288 W289 A290 => ?_)
      have f291 : Sta Z h288 "com/example/dense_bloom/densebloom/model/EntryKind" "ADDRESS" "Lcom/example/dense_bloom/densebloom/model/EntryKind;" (.ref r_ADDRESS) := f282.wr W289
      have f292 : Exa Z h288 r_ADDRESS "com/example/dense_bloom/densebloom/model/EntryKind" := f283.wr W289
      have f293 : Sta Z h288 "com/example/dense_bloom/densebloom/model/EntryKind" "DOMAIN" "Lcom/example/dense_bloom/densebloom/model/EntryKind;" (.ref r_DOMAIN) := f284.wr W289
      have f294 : Exa Z h288 r_DOMAIN "com/example/dense_bloom/densebloom/model/EntryKind" := f285.wr W289
      have f295 : Arj Z h288 a242 [i2] := f286.other W289 ne262
      have zs296 : Z.heap.size ≤ h288.size := W289.size ▸ zs287
      refine Go.aload 117 at_115 rfl rfl rfl ?_
      refine Go.iconst 118 (2) at_117 (by decide) rfl ?_
      refine Go.lload_n 119 at_118 rfl rfl ?_
      refine Go.lload 121 at_119 rfl rfl ?_
      refine Go.lxor 122 at_121 rfl ?_
      refine Go.nameJ (fun v297 e298 => ?_)
      refine Go.lastore (2) ([i2, i3, v297, 0]) 123 at_122 A290 (by decide) (by decide) (by decide : (2 : Nat) < 4) rfl ge263 rfl (fun h299 W300 A301 => ?_)
      have f302 : Sta Z h299 "com/example/dense_bloom/densebloom/model/EntryKind" "ADDRESS" "Lcom/example/dense_bloom/densebloom/model/EntryKind;" (.ref r_ADDRESS) := f291.wr W300
      have f303 : Exa Z h299 r_ADDRESS "com/example/dense_bloom/densebloom/model/EntryKind" := f292.wr W300
      have f304 : Sta Z h299 "com/example/dense_bloom/densebloom/model/EntryKind" "DOMAIN" "Lcom/example/dense_bloom/densebloom/model/EntryKind;" (.ref r_DOMAIN) := f293.wr W300
      have f305 : Exa Z h299 r_DOMAIN "com/example/dense_bloom/densebloom/model/EntryKind" := f294.wr W300
      have f306 : Arj Z h299 a242 [i2] := f295.other W300 ne262
      have zs307 : Z.heap.size ≤ h299.size := W300.size ▸ zs296
      refine Go.aload 125 at_123 rfl rfl rfl ?_
      refine Go.iconst 126 (3) at_125 (by decide) rfl ?_
      refine Go.lload 128 at_126 rfl rfl ?_
      refine Go.ldc2_w 131 at_128 (tw9 hw) rfl ?_
      refine Go.lxor 132 at_131 rfl ?_
      refine Go.nameJ (fun v308 e309 => ?_)
      refine Go.lastore (3) ([i2, i3, v297, v308]) 133 at_132 A301 (by decide) (by decide) (by decide : (3 : Nat) < 4) rfl ge263 rfl (fun h310 W311 A312 => ?_)
      have f313 : Sta Z h310 "com/example/dense_bloom/densebloom/model/EntryKind" "ADDRESS" "Lcom/example/dense_bloom/densebloom/model/EntryKind;" (.ref r_ADDRESS) := f302.wr W311
      have f314 : Exa Z h310 r_ADDRESS "com/example/dense_bloom/densebloom/model/EntryKind" := f303.wr W311
      have f315 : Sta Z h310 "com/example/dense_bloom/densebloom/model/EntryKind" "DOMAIN" "Lcom/example/dense_bloom/densebloom/model/EntryKind;" (.ref r_DOMAIN) := f304.wr W311
      have f316 : Exa Z h310 r_DOMAIN "com/example/dense_bloom/densebloom/model/EntryKind" := f305.wr W311
      have f317 : Arj Z h310 a242 [i2] := f306.other W311 ne262
      have zs318 : Z.heap.size ≤ h310.size := W311.size ▸ zs307
      refine Go.iload 135 at_133 rfl rfl ?_
      refine Go.if_eq 143 138 at_135 (by decide) (by decide) rfl (fun _ => ?_) (fun c => absurd c (by decide))
      refine Go.aload 145 at_143 rfl rfl rfl ?_
      refine Go.astore 147 #[.val (.int i0), .val (.long i1), .second, .val (.long i2), .second, .val (.long i3), .second, .val (.long i4), .second, .val (.int (0 : Int32)), .val (.ref r_DOMAIN), .val (.int v228), .val (.long v230), .second, .val (.long v233), .second, .val (.long v238), .second, .val (.long v240), .second, .val (.ref a242), .val (.ref a255), .val (.ref a242), .unset, .unset, .unset, .unset, .unset, .unset] at_145 rfl rfl rfl ?_
      refine Go.iload 149 at_147 rfl rfl ?_
      refine Go.if_eq 156 152 at_149 (by decide) (by decide) rfl (fun _ => ?_) (fun c => absurd c (by decide))
      refine Go.iconst 157 (1) at_156 (by decide) rfl ?_
      refine Go.istore 159 #[.val (.int i0), .val (.long i1), .second, .val (.long i2), .second, .val (.long i3), .second, .val (.long i4), .second, .val (.int (0 : Int32)), .val (.ref r_DOMAIN), .val (.int v228), .val (.long v230), .second, .val (.long v233), .second, .val (.long v238), .second, .val (.long v240), .second, .val (.ref a242), .val (.ref a255), .val (.ref a242), .val (.int (1 : Int32)), .unset, .unset, .unset, .unset, .unset] at_157 rfl rfl ?_
      refine Go.iload 161 at_159 rfl rfl ?_
      refine Go.if_eq 173 164 at_161 (by decide) (by decide) rfl (fun _ => ?_) (fun c => absurd c (by decide))
      refine Go.lload_n 174 at_173 rfl rfl ?_
      refine Go.lstore 176 #[.val (.int i0), .val (.long i1), .second, .val (.long i2), .second, .val (.long i3), .second, .val (.long i4), .second, .val (.int (0 : Int32)), .val (.ref r_DOMAIN), .val (.int v228), .val (.long v230), .second, .val (.long v233), .second, .val (.long v238), .second, .val (.long v240), .second, .val (.ref a242), .val (.ref a255), .val (.ref a242), .val (.int (1 : Int32)), .val (.long i2), .second, .unset, .unset, .unset] at_174 rfl rfl ?_
      refine Go.new 179 at_176 (tw10 hw) (tw11 hw) (tw12 hw) (by decide) (by decide) rfl (fun a322 h323 q324 E325 A326 D327 => ?_)
      have ne328 : r_ADDRESS ≠ a322 := fun e => absurd f314.lt (by rw [e, q324]; exact Nat.lt_irrefl _)
      have ne329 : r_DOMAIN ≠ a322 := fun e => absurd f316.lt (by rw [e, q324]; exact Nat.lt_irrefl _)
      have ne330 : a242 ≠ a322 := fun e => absurd f317.lt (by rw [e, q324]; exact Nat.lt_irrefl _)
      have ne331 : a255 ≠ a322 := fun e => absurd A312.lt (by rw [e, q324]; exact Nat.lt_irrefl _)
      have ge332 : Z.heap.size ≤ a322 := (Eq.symm q324) ▸ zs318
      have f333 : Sta Z h323 "com/example/dense_bloom/densebloom/model/EntryKind" "ADDRESS" "Lcom/example/dense_bloom/densebloom/model/EntryKind;" (.ref r_ADDRESS) := f313.ext E325
      have f334 : Exa Z h323 r_ADDRESS "com/example/dense_bloom/densebloom/model/EntryKind" := f314.ext E325
      have f335 : Sta Z h323 "com/example/dense_bloom/densebloom/model/EntryKind" "DOMAIN" "Lcom/example/dense_bloom/densebloom/model/EntryKind;" (.ref r_DOMAIN) := f315.ext E325
      have f336 : Exa Z h323 r_DOMAIN "com/example/dense_bloom/densebloom/model/EntryKind" := f316.ext E325
      have f337 : Arj Z h323 a242 [i2] := f317.ext E325
      have f338 : Arj Z h323 a255 [i2, i3, v297, v308] := A312.ext E325
      have zs339 : Z.heap.size ≤ h323.size := Nat.le_trans zs318 E325.1
      have f340 : Fld Z h323 a322 "com/example/dense_bloom/densebloom/model/FilterSize" "expectedEntries" "J" (.long (0 : Int64)) := D327 (Or.inr (tw34 hw)) (ty := .long) (by decide)
      have f341 : Fld Z h323 a322 "com/example/dense_bloom/densebloom/model/FilterSize" "bits" "J" (.long (0 : Int64)) := D327 (Or.inr (tw36 hw)) (ty := .long) (by decide)
      have f342 : Fld Z h323 a322 "com/example/dense_bloom/densebloom/model/FilterSize" "hashes" "I" (.int (0 : Int32)) := D327 (Or.inr (tw38 hw)) (ty := .int) (by decide)
      refine Go.dup 180 at_179 rfl rfl ?_
      refine Go.lload 182 at_180 rfl rfl ?_
      refine Go.lload 184 at_182 rfl rfl ?_
      refine Go.iload 186 at_184 rfl rfl ?_
      refine Go.callC [.long v238, .long v233, .int v228] [.ref a322] 189 at_186 rfl (tw13 hw) (tw14 hw) (tw12 hw) (tw15 hw) pl2 (by decide) (lenOf pd2 rfl) rfl (fun m => ef_k_init m a322 v238 v233 v228) _ (k_init hw h323 zs339 a322 v238 v233 v228 A326 f340 f341 f342 oh1 oh2 oh3 oh4 ge332) 1 rfl (Nat.le_of_eq rfl) (by decide) (by decide) (by decide) (by decide) rfl ?_
      rintro h344 ⟨K345, f346, f347⟩
      have f348 : Exa Z h344 r_ADDRESS "com/example/dense_bloom/densebloom/model/EntryKind" := f334.keep K345
      have f349 : Exa Z h344 r_DOMAIN "com/example/dense_bloom/densebloom/model/EntryKind" := f336.keep K345
      have f350 : Arj Z h344 a242 [i2] := f337.keep K345 (ninS ne330 nin0)
      have f351 : Arj Z h344 a255 [i2, i3, v297, v308] := f338.keep K345 (ninS ne331 nin0)
      have zs352 : Z.heap.size ≤ h344.size := Nat.le_trans zs339 K345.1
      refine Go.astore 191 #[.val (.int i0), .val (.long i1), .second, .val (.long i2), .second, .val (.long i3), .second, .val (.long i4), .second, .val (.int (0 : Int32)), .val (.ref r_DOMAIN), .val (.int v228), .val (.long v230), .second, .val (.long v233), .second, .val (.long v238), .second, .val (.long v240), .second, .val (.ref a242), .val (.ref a255), .val (.ref a242), .val (.int (1 : Int32)), .val (.long i2), .second, .val (.ref a322), .unset, .unset] at_189 rfl rfl rfl ?_
      refine Go.aload 193 at_191 rfl rfl rfl ?_
      refine Go.aload 195 at_193 rfl rfl rfl ?_
      refine Go.lload 197 at_195 rfl rfl ?_
      refine Go.aload 199 at_197 rfl rfl rfl ?_
      refine Go.callSR [.ref a322, .ref r_DOMAIN, .long v240, .ref a242] [] 202 at_199 (tw39 hw) (tw40 hw) (tw41 hw) (tw42 hw) pl8 (by decide) (lenOf pd8 rfl) rfl (fun m => ef_k_fw1 m a322 r_DOMAIN v240 a242) _ (k_fw1 hw h344 zs352 a322 r_DOMAIN v240 a242 f346 f347 f350 oad oh2 ob3 ob4) 0 rfl (Nat.le_of_eq rfl) (by decide) (by decide) (by decide) (by decide) rfl ?_
      rintro z353 h354 ⟨a356, rfl, g357, K355, f358, f359, f360, f361, f362⟩
      have ne363 : r_ADDRESS ≠ a356 := Nat.ne_of_lt (Nat.lt_of_lt_of_le f348.lt g357)
      have ne364 : r_DOMAIN ≠ a356 := Nat.ne_of_lt (Nat.lt_of_lt_of_le f349.lt g357)
      have ne365 : a242 ≠ a356 := Nat.ne_of_lt (Nat.lt_of_lt_of_le f350.lt g357)
      have ne366 : a255 ≠ a356 := Nat.ne_of_lt (Nat.lt_of_lt_of_le f351.lt g357)
      have ne367 : a322 ≠ a356 := Nat.ne_of_lt (Nat.lt_of_lt_of_le f346.lt g357)
      have ge368 : Z.heap.size ≤ a356 := Nat.le_trans zs352 g357
      have f369 : Exa Z h354 r_ADDRESS "com/example/dense_bloom/densebloom/model/EntryKind" := f348.keep K355
      have f370 : Exa Z h354 r_DOMAIN "com/example/dense_bloom/densebloom/model/EntryKind" := f349.keep K355
      have f371 : Arj Z h354 a242 [i2] := f350.keep K355 nin0
      have f372 : Arj Z h354 a255 [i2, i3, v297, v308] := f351.keep K355 nin0
      have f373 : Exa Z h354 a322 "com/example/dense_bloom/densebloom/model/FilterSize" := f346.keep K355
      have f374 : Fld Z h354 a322 "com/example/dense_bloom/densebloom/model/FilterSize" "bits" "J" (.long v233) := f347.keep K355 nin0
      have zs375 : Z.heap.size ≤ h354.size := Nat.le_trans zs352 K355.1
      refine Go.astore 204 #[.val (.int i0), .val (.long i1), .second, .val (.long i2), .second, .val (.long i3), .second, .val (.long i4), .second, .val (.int (0 : Int32)), .val (.ref r_DOMAIN), .val (.int v228), .val (.long v230), .second, .val (.long v233), .second, .val (.long v238), .second, .val (.long v240), .second, .val (.ref a242), .val (.ref a255), .val (.ref a242), .val (.int (1 : Int32)), .val (.long i2), .second, .val (.ref a322), .val (.ref a356), .unset] at_202 rfl rfl rfl ?_
      refine Go.aload 206 at_204 rfl rfl rfl ?_
      refine Go.callVRp [] [] 209 at_206 (tw68 hw) (tw69 hw) (tw71 hw) (tw70 hw) (tw41 hw) (tw72 hw) f358 pl12 (by decide) (lenOf pd12 rfl) rfl (fun m => ef_k_gsize m a356) _ (k_gsize hw h354 zs375 a356 f359) 0 rfl (Nat.le_of_eq rfl) (by decide) (by decide) (by decide) (by decide) rfl ?_
      refine Go.aload 211 at_209 rfl rfl rfl ?_
      refine Go.acmp 214 true at_211 rfl rfl (by simp) (by decide) (by decide) ?_
      refine Go.aload 216 at_214 rfl rfl rfl ?_
      refine Go.callVRp [] [] 219 at_216 (tw73 hw) (tw74 hw) (tw76 hw) (tw75 hw) (tw41 hw) (tw77 hw) f358 pl13 (by decide) (lenOf pd13 rfl) rfl (fun m => ef_k_gkind m a356) _ (k_gkind hw h354 zs375 a356 f360) 0 rfl (Nat.le_of_eq rfl) (by decide) (by decide) (by decide) (by decide) rfl ?_
      refine Go.aload 221 at_219 rfl rfl rfl ?_
      refine Go.acmp 224 true at_221 rfl rfl (by simp) (by decide) (by decide) ?_
      refine Go.aload 226 at_224 rfl rfl rfl ?_
      refine Go.callVJp [] [] 229 at_226 (tw78 hw) (tw79 hw) (tw81 hw) (tw80 hw) (tw41 hw) (tw82 hw) f358 pl14 (by decide) (lenOf pd14 rfl) rfl (fun m => ef_k_gadded m a356) _ (k_gadded hw h354 zs375 a356 f361) 0 rfl (Nat.le_of_eq rfl) (by decide) (by decide) (by decide) (by decide) rfl ?_
      refine Go.lload 231 at_229 rfl rfl ?_
      refine Go.lcmp 232 at_231 rfl ?_
      refine Go.lcmp_ne 275 235 at_232 (by decide) (by decide) rfl (fun c385 => ?_) (fun c385 => ?_)
      ·
        refine Go.iconst 276 (0) at_275 (by decide) rfl ?_
        refine Go.istore 278 #[.val (.int i0), .val (.long i1), .second, .val (.long i2), .second, .val (.long i3), .second, .val (.long i4), .second, .val (.int (0 : Int32)), .val (.ref r_DOMAIN), .val (.int v228), .val (.long v230), .second, .val (.long v233), .second, .val (.long v238), .second, .val (.long v240), .second, .val (.ref a242), .val (.ref a255), .val (.ref a242), .val (.int (1 : Int32)), .val (.long i2), .second, .val (.ref a322), .val (.ref a356), .val (.int (0 : Int32))] at_276 rfl rfl ?_
        refine Go.aload 280 at_278 rfl rfl rfl ?_
        refine Go.iconst 281 (0) at_280 (by decide) rfl ?_
        refine Go.lload_n 282 at_281 rfl rfl ?_
        refine Go.ldc2_w 285 at_282 (tw9 hw) rfl ?_
        refine Go.lxor 286 at_285 rfl ?_
        refine Go.nameJ (fun v386 e387 => ?_)
        refine Go.lastore (0) ([v386]) 287 at_286 f371 (by decide) (by decide) (by decide : (0 : Nat) < 1) rfl ge249 rfl (fun h388 W389 A390 => ?_)
        have f391 : Exa Z h388 r_ADDRESS "com/example/dense_bloom/densebloom/model/EntryKind" := f369.wr W389
        have f392 : Exa Z h388 r_DOMAIN "com/example/dense_bloom/densebloom/model/EntryKind" := f370.wr W389
        have f393 : Arj Z h388 a255 [i2, i3, v297, v308] := f372.other W389 (Ne.symm ne262)
        have f394 : Exa Z h388 a322 "com/example/dense_bloom/densebloom/model/FilterSize" := f373.wr W389
        have f395 : Fld Z h388 a322 "com/example/dense_bloom/densebloom/model/FilterSize" "bits" "J" (.long v233) := f374.other W389 (Or.inl (Ne.symm ne330))
        have f396 : Exa Z h388 a356 "com/example/dense_bloom/densebloom/model/BloomFilter" := f358.wr W389
        have f397 : Fld Z h388 a356 "com/example/dense_bloom/densebloom/model/BloomFilter" "size" "Lcom/example/dense_bloom/densebloom/model/FilterSize;" (.ref a322) := f359.other W389 (Or.inl (Ne.symm ne365))
        have f398 : Fld Z h388 a356 "com/example/dense_bloom/densebloom/model/BloomFilter" "kind" "Lcom/example/dense_bloom/densebloom/model/EntryKind;" (.ref r_DOMAIN) := f360.other W389 (Or.inl (Ne.symm ne365))
        have f399 : Fld Z h388 a356 "com/example/dense_bloom/densebloom/model/BloomFilter" "added" "J" (.long v240) := f361.other W389 (Or.inl (Ne.symm ne365))
        have f400 : Fld Z h388 a356 "com/example/dense_bloom/densebloom/model/BloomFilter" "words" "[J" (.ref a242) := f362.other W389 (Or.inl (Ne.symm ne365))
        have zs401 : Z.heap.size ≤ h388.size := W389.size ▸ zs375
        refine Go.iload 289 at_287 rfl rfl ?_
        refine Go.if_eq 311 292 at_289 (by decide) (by decide) rfl (fun _ => ?_) (fun c => absurd c (by decide))
        refine Go.iconst 312 (0) at_311 (by decide) rfl ?_
        refine Go.nreturn (t := .boolean) (z' := (0 : Int32)) at_312 rfl (by simp) (by decide) (by decide) (by decide) ?_
        exfalso
        first | exact c385 rfl | (subst_vars; exact absurd rfl ‹¬ _›) | exact absurd rfl c385
      ·
        refine Go.aload 237 at_235 rfl rfl rfl ?_
        refine Go.callVIp [] [] 240 at_237 (tw83 hw) (tw84 hw) (tw86 hw) (tw85 hw) (tw41 hw) (tw87 hw) f358 pl15 (by decide) (lenOf pd15 rfl) rfl (fun m => ef_k_gc1 m a356) _ (k_gc1 hw h354 zs375 a356 f362 f371) 0 rfl (Nat.le_of_eq rfl) (by decide) (by decide) (by decide) (by decide) rfl ?_
        refine Go.iload 242 at_240 rfl rfl ?_
        refine Go.icmp_ne 275 245 at_242 (by decide) (by decide) rfl (fun c => absurd c (by decide)) (fun _ => ?_)
        refine Go.aload 247 at_245 rfl rfl rfl ?_
        refine Go.iconst 248 (0) at_247 (by decide) rfl ?_
        refine Go.callVJp [.int (0 : Int32)] [] 251 at_248 (tw88 hw) (tw89 hw) (tw91 hw) (tw90 hw) (tw41 hw) (tw92 hw) f358 pl16 (by decide) (lenOf pd16 rfl) rfl (fun m => ef_k_w1_0 m a356 (0 : Int32)) _ (k_w1_0 hw h354 zs375 a356 (0 : Int32) f362 f371 (by decide) (by decide)) 0 rfl (Nat.le_of_eq rfl) (by decide) (by decide) (by decide) (by decide) rfl ?_
        refine Go.lload_n 252 at_251 rfl rfl ?_
        refine Go.lcmp 253 at_252 rfl ?_
        refine Go.lcmp_ne 275 256 at_253 (by decide) (by decide) rfl (fun c410 => ?_) (fun c410 => ?_)
        ·
          refine Go.iconst 276 (0) at_275 (by decide) rfl ?_
          refine Go.istore 278 #[.val (.int i0), .val (.long i1), .second, .val (.long i2), .second, .val (.long i3), .second, .val (.long i4), .second, .val (.int (0 : Int32)), .val (.ref r_DOMAIN), .val (.int v228), .val (.long v230), .second, .val (.long v233), .second, .val (.long v238), .second, .val (.long v240), .second, .val (.ref a242), .val (.ref a255), .val (.ref a242), .val (.int (1 : Int32)), .val (.long i2), .second, .val (.ref a322), .val (.ref a356), .val (.int (0 : Int32))] at_276 rfl rfl ?_
          refine Go.aload 280 at_278 rfl rfl rfl ?_
          refine Go.iconst 281 (0) at_280 (by decide) rfl ?_
          refine Go.lload_n 282 at_281 rfl rfl ?_
          refine Go.ldc2_w 285 at_282 (tw9 hw) rfl ?_
          refine Go.lxor 286 at_285 rfl ?_
          refine Go.nameJ (fun v411 e412 => ?_)
          refine Go.lastore (0) ([v411]) 287 at_286 f371 (by decide) (by decide) (by decide : (0 : Nat) < 1) rfl ge249 rfl (fun h413 W414 A415 => ?_)
          have f416 : Exa Z h413 r_ADDRESS "com/example/dense_bloom/densebloom/model/EntryKind" := f369.wr W414
          have f417 : Exa Z h413 r_DOMAIN "com/example/dense_bloom/densebloom/model/EntryKind" := f370.wr W414
          have f418 : Arj Z h413 a255 [i2, i3, v297, v308] := f372.other W414 (Ne.symm ne262)
          have f419 : Exa Z h413 a322 "com/example/dense_bloom/densebloom/model/FilterSize" := f373.wr W414
          have f420 : Fld Z h413 a322 "com/example/dense_bloom/densebloom/model/FilterSize" "bits" "J" (.long v233) := f374.other W414 (Or.inl (Ne.symm ne330))
          have f421 : Exa Z h413 a356 "com/example/dense_bloom/densebloom/model/BloomFilter" := f358.wr W414
          have f422 : Fld Z h413 a356 "com/example/dense_bloom/densebloom/model/BloomFilter" "size" "Lcom/example/dense_bloom/densebloom/model/FilterSize;" (.ref a322) := f359.other W414 (Or.inl (Ne.symm ne365))
          have f423 : Fld Z h413 a356 "com/example/dense_bloom/densebloom/model/BloomFilter" "kind" "Lcom/example/dense_bloom/densebloom/model/EntryKind;" (.ref r_DOMAIN) := f360.other W414 (Or.inl (Ne.symm ne365))
          have f424 : Fld Z h413 a356 "com/example/dense_bloom/densebloom/model/BloomFilter" "added" "J" (.long v240) := f361.other W414 (Or.inl (Ne.symm ne365))
          have f425 : Fld Z h413 a356 "com/example/dense_bloom/densebloom/model/BloomFilter" "words" "[J" (.ref a242) := f362.other W414 (Or.inl (Ne.symm ne365))
          have zs426 : Z.heap.size ≤ h413.size := W414.size ▸ zs375
          refine Go.iload 289 at_287 rfl rfl ?_
          refine Go.if_eq 311 292 at_289 (by decide) (by decide) rfl (fun _ => ?_) (fun c => absurd c (by decide))
          refine Go.iconst 312 (0) at_311 (by decide) rfl ?_
          refine Go.nreturn (t := .boolean) (z' := (0 : Int32)) at_312 rfl (by simp) (by decide) (by decide) (by decide) ?_
          exfalso
          first | exact c410 rfl | (subst_vars; exact absurd rfl ‹¬ _›) | exact absurd rfl c410
        ·
          refine Go.aload 258 at_256 rfl rfl rfl ?_
          refine Go.iload 260 at_258 rfl rfl ?_
          refine Go.iconst 261 (1) at_260 (by decide) rfl ?_
          refine Go.isub 262 at_261 rfl ?_
          refine Go.callVJp [.int ((1 : Int32) - (1 : Int32))] [] 265 at_262 (tw88 hw) (tw89 hw) (tw91 hw) (tw90 hw) (tw41 hw) (tw92 hw) f358 pl16 (by decide) (lenOf pd16 rfl) rfl (fun m => ef_k_w1_0 m a356 ((1 : Int32) - (1 : Int32))) _ (k_w1_0 hw h354 zs375 a356 (((1 : Int32) - (1 : Int32))) f362 f371 (by decide) (by decide)) 0 rfl (Nat.le_of_eq rfl) (by decide) (by decide) (by decide) (by decide) rfl ?_
          refine Go.lload 267 at_265 rfl rfl ?_
          refine Go.lcmp 268 at_267 rfl ?_
          refine Go.lcmp_ne 275 271 at_268 (by decide) (by decide) rfl (fun c => absurd c410 c) (fun _ => ?_)
          refine Go.iconst 272 (1) at_271 (by decide) rfl ?_
          refine Go.goto 276 at_272 (by decide) (by decide) ?_
          refine Go.istore 278 #[.val (.int i0), .val (.long i1), .second, .val (.long i2), .second, .val (.long i3), .second, .val (.long i4), .second, .val (.int (0 : Int32)), .val (.ref r_DOMAIN), .val (.int v228), .val (.long v230), .second, .val (.long v233), .second, .val (.long v238), .second, .val (.long v240), .second, .val (.ref a242), .val (.ref a255), .val (.ref a242), .val (.int (1 : Int32)), .val (.long i2), .second, .val (.ref a322), .val (.ref a356), .val (.int (1 : Int32))] at_276 rfl rfl ?_
          refine Go.aload 280 at_278 rfl rfl rfl ?_
          refine Go.iconst 281 (0) at_280 (by decide) rfl ?_
          refine Go.lload_n 282 at_281 rfl rfl ?_
          refine Go.ldc2_w 285 at_282 (tw9 hw) rfl ?_
          refine Go.lxor 286 at_285 rfl ?_
          refine Go.nameJ (fun v432 e433 => ?_)
          refine Go.lastore (0) ([v432]) 287 at_286 f371 (by decide) (by decide) (by decide : (0 : Nat) < 1) rfl ge249 rfl (fun h434 W435 A436 => ?_)
          have f437 : Exa Z h434 r_ADDRESS "com/example/dense_bloom/densebloom/model/EntryKind" := f369.wr W435
          have f438 : Exa Z h434 r_DOMAIN "com/example/dense_bloom/densebloom/model/EntryKind" := f370.wr W435
          have f439 : Arj Z h434 a255 [i2, i3, v297, v308] := f372.other W435 (Ne.symm ne262)
          have f440 : Exa Z h434 a322 "com/example/dense_bloom/densebloom/model/FilterSize" := f373.wr W435
          have f441 : Fld Z h434 a322 "com/example/dense_bloom/densebloom/model/FilterSize" "bits" "J" (.long v233) := f374.other W435 (Or.inl (Ne.symm ne330))
          have f442 : Exa Z h434 a356 "com/example/dense_bloom/densebloom/model/BloomFilter" := f358.wr W435
          have f443 : Fld Z h434 a356 "com/example/dense_bloom/densebloom/model/BloomFilter" "size" "Lcom/example/dense_bloom/densebloom/model/FilterSize;" (.ref a322) := f359.other W435 (Or.inl (Ne.symm ne365))
          have f444 : Fld Z h434 a356 "com/example/dense_bloom/densebloom/model/BloomFilter" "kind" "Lcom/example/dense_bloom/densebloom/model/EntryKind;" (.ref r_DOMAIN) := f360.other W435 (Or.inl (Ne.symm ne365))
          have f445 : Fld Z h434 a356 "com/example/dense_bloom/densebloom/model/BloomFilter" "added" "J" (.long v240) := f361.other W435 (Or.inl (Ne.symm ne365))
          have f446 : Fld Z h434 a356 "com/example/dense_bloom/densebloom/model/BloomFilter" "words" "[J" (.ref a242) := f362.other W435 (Or.inl (Ne.symm ne365))
          have zs447 : Z.heap.size ≤ h434.size := W435.size ▸ zs375
          refine Go.iload 289 at_287 rfl rfl ?_
          refine Go.if_eq 311 292 at_289 (by decide) (by decide) rfl (fun c => absurd c (by decide)) (fun _ => ?_)
          refine Go.aload 294 at_292 rfl rfl rfl ?_
          refine Go.iconst 295 (0) at_294 (by decide) rfl ?_
          refine Go.callVJp [.int (0 : Int32)] [] 298 at_295 (tw88 hw) (tw89 hw) (tw91 hw) (tw90 hw) (tw41 hw) (tw92 hw) f442 pl16 (by decide) (lenOf pd16 rfl) rfl (fun m => ef_k_w1_0 m a356 (0 : Int32)) _ (k_w1_0 hw h434 zs447 a356 (0 : Int32) f446 A436 (by decide) (by decide)) 0 rfl (Nat.le_of_eq rfl) (by decide) (by decide) (by decide) (by decide) rfl ?_
          refine Go.lload_n 299 at_298 rfl rfl ?_
          refine Go.ldc2_w 302 at_299 (tw9 hw) rfl ?_
          refine Go.lxor 303 at_302 rfl ?_
          refine Go.lcmp 304 at_303 rfl ?_
          refine Go.lcmp_ne 311 307 at_304 (by decide) (by decide) rfl (fun c452 => ?_) (fun c452 => ?_)
          ·
            refine Go.iconst 312 (0) at_311 (by decide) rfl ?_
            refine Go.nreturn (t := .boolean) (z' := (0 : Int32)) at_312 rfl (by simp) (by decide) (by decide) (by decide) ?_
            exfalso
            first | exact c452 rfl | (subst_vars; exact absurd rfl ‹¬ _›) | exact absurd rfl c452
          ·
            refine Go.iconst 308 (1) at_307 (by decide) rfl ?_
            refine Go.goto 312 at_308 (by decide) (by decide) ?_
            refine Go.nreturn (t := .boolean) (z' := (1 : Int32)) at_312 rfl (by simp) (by decide) (by decide) (by decide) ?_
            rfl
  ·
    refine Go.iconst 7 (1) at_6 (by decide) rfl ?_
    refine Go.goto 11 at_7 (by decide) (by decide) ?_
    refine Go.istore 13 #[.val (.int i0), .val (.long i1), .second, .val (.long i2), .second, .val (.long i3), .second, .val (.long i4), .second, .val (.int (1 : Int32)), .unset, .unset, .unset, .unset, .unset, .unset, .unset, .unset, .unset, .unset, .unset, .unset, .unset, .unset, .unset, .unset, .unset, .unset, .unset] at_11 rfl rfl ?_
    refine Go.iload_n 14 at_13 rfl rfl ?_
    refine Go.iconst 15 (2) at_14 (by decide) rfl ?_
    refine Go.iand 16 at_15 rfl ?_
    refine Go.if_eq 25 19 at_16 (by decide) (by decide) rfl (fun c453 => ?_) (fun c453 => ?_)
    ·
      refine Go.getstatic 28 at_25 (tw0 hw) fa0 rfl ?_
      refine Go.astore 30 #[.val (.int i0), .val (.long i1), .second, .val (.long i2), .second, .val (.long i3), .second, .val (.long i4), .second, .val (.int (1 : Int32)), .val (.ref r_ADDRESS), .unset, .unset, .unset, .unset, .unset, .unset, .unset, .unset, .unset, .unset, .unset, .unset, .unset, .unset, .unset, .unset, .unset, .unset] at_28 rfl rfl rfl ?_
      refine Go.iconst 31 (1) at_30 (by decide) rfl ?_
      refine Go.iload_n 32 at_31 rfl rfl ?_
      refine Go.iconst 33 (2) at_32 (by decide) rfl ?_
      refine Go.iushr 34 at_33 rfl ?_
      refine Go.bipush 36 (63) at_34 (by decide) rfl ?_
      refine Go.iand 37 at_36 rfl ?_
      refine Go.iadd 38 at_37 rfl ?_
      refine Go.nameI (fun v454 e455 => ?_)
      refine Go.istore 40 #[.val (.int i0), .val (.long i1), .second, .val (.long i2), .second, .val (.long i3), .second, .val (.long i4), .second, .val (.int (1 : Int32)), .val (.ref r_ADDRESS), .val (.int v454), .unset, .unset, .unset, .unset, .unset, .unset, .unset, .unset, .unset, .unset, .unset, .unset, .unset, .unset, .unset, .unset, .unset] at_38 rfl rfl ?_
      refine Go.iload_n 41 at_40 rfl rfl ?_
      refine Go.bipush 43 (8) at_41 (by decide) rfl ?_
      refine Go.iushr 44 at_43 rfl ?_
      refine Go.bipush 46 (63) at_44 (by decide) rfl ?_
      refine Go.iand 47 at_46 rfl ?_
      refine Go.i2l 48 at_47 rfl ?_
      refine Go.nameJ (fun v456 e457 => ?_)
      refine Go.lstore 50 #[.val (.int i0), .val (.long i1), .second, .val (.long i2), .second, .val (.long i3), .second, .val (.long i4), .second, .val (.int (1 : Int32)), .val (.ref r_ADDRESS), .val (.int v454), .val (.long v456), .second, .unset, .unset, .unset, .unset, .unset, .unset, .unset, .unset, .unset, .unset, .unset, .unset, .unset, .unset, .unset] at_48 rfl rfl ?_
      refine Go.iload 52 at_50 rfl rfl ?_
      refine Go.if_eq 64 55 at_52 (by decide) (by decide) rfl (fun c => absurd c (by decide)) (fun _ => ?_)
      refine Go.ldc2_w 58 at_55 (tw93 hw) rfl ?_
      refine Go.lload 60 at_58 rfl rfl ?_
      refine Go.ladd 61 at_60 rfl ?_
      refine Go.goto 68 at_61 (by decide) (by decide) ?_
      refine Go.nameJ (fun v459 e460 => ?_)
      refine Go.lstore 70 #[.val (.int i0), .val (.long i1), .second, .val (.long i2), .second, .val (.long i3), .second, .val (.long i4), .second, .val (.int (1 : Int32)), .val (.ref r_ADDRESS), .val (.int v454), .val (.long v456), .second, .val (.long v459), .second, .unset, .unset, .unset, .unset, .unset, .unset, .unset, .unset, .unset, .unset, .unset, .unset, .unset] at_68 rfl rfl ?_
      refine Go.lconst 71 (1) at_70 (by decide) rfl ?_
      refine Go.lload 73 at_71 rfl rfl ?_
      refine Go.ldc2_w 76 at_73 (tw3 hw) rfl ?_
      refine Go.land 77 at_76 rfl ?_
      refine Go.callSJp [.long (1 : Int64), .long (i4 &&& (9223372036854775807 : Int64))] [] 80 at_77 (tw4 hw) (tw5 hw) (tw6 hw) (tw7 hw) pl1 (by decide) (lenOf pd1 rfl) rfl (fun m => ef_k_maxJ m (1 : Int64) (i4 &&& (9223372036854775807 : Int64))) _ (k_maxJ hw h hz (1 : Int64) ((i4 &&& (9223372036854775807 : Int64)))) 0 rfl (Nat.le_of_eq rfl) (by decide) (by decide) (by decide) (by decide) rfl ?_
      refine Go.nameJ (fun v464 e465 => ?_)
      refine Go.lstore 82 #[.val (.int i0), .val (.long i1), .second, .val (.long i2), .second, .val (.long i3), .second, .val (.long i4), .second, .val (.int (1 : Int32)), .val (.ref r_ADDRESS), .val (.int v454), .val (.long v456), .second, .val (.long v459), .second, .val (.long v464), .second, .unset, .unset, .unset, .unset, .unset, .unset, .unset, .unset, .unset, .unset, .unset] at_80 rfl rfl ?_
      refine Go.lload_n 83 at_82 rfl rfl ?_
      refine Go.ldc2_w 86 at_83 (tw3 hw) rfl ?_
      refine Go.land 87 at_86 rfl ?_
      refine Go.nameJ (fun v466 e467 => ?_)
      refine Go.lstore 89 #[.val (.int i0), .val (.long i1), .second, .val (.long i2), .second, .val (.long i3), .second, .val (.long i4), .second, .val (.int (1 : Int32)), .val (.ref r_ADDRESS), .val (.int v454), .val (.long v456), .second, .val (.long v459), .second, .val (.long v464), .second, .val (.long v466), .second, .unset, .unset, .unset, .unset, .unset, .unset, .unset, .unset, .unset] at_87 rfl rfl ?_
      obtain ⟨oh3, oh4⟩ := own_hash i0 v454 e455
      obtain ⟨oh2, ob3, ob4⟩ := own_bitsv (own_low i0 v456 e457) (Or.inl ⟨rfl, rfl⟩) e460
      have oh1 := own_exp i4 v464 e465
      have oad := own_nonneg i1 v466 e467
      refine Go.iconst 90 (1) at_89 (by decide) rfl ?_
      refine Go.newJ (cap := 1) (xs := [0]) 92 at_90 (tw8 hw) rfl (by decide) (by decide) (by decide) rfl (by decide) (by decide) rfl (fun a468 h469 q470 E471 A472 => ?_)
      have ne473 : r_ADDRESS ≠ a468 := fun e => absurd fa1.lt (by rw [e, q470]; exact Nat.lt_irrefl _)
      have ne474 : r_DOMAIN ≠ a468 := fun e => absurd fa3.lt (by rw [e, q470]; exact Nat.lt_irrefl _)
      have ge475 : Z.heap.size ≤ a468 := (Eq.symm q470) ▸ hz
      have f476 : Sta Z h469 "com/example/dense_bloom/densebloom/model/EntryKind" "ADDRESS" "Lcom/example/dense_bloom/densebloom/model/EntryKind;" (.ref r_ADDRESS) := fa0.ext E471
      have f477 : Exa Z h469 r_ADDRESS "com/example/dense_bloom/densebloom/model/EntryKind" := fa1.ext E471
      have f478 : Sta Z h469 "com/example/dense_bloom/densebloom/model/EntryKind" "DOMAIN" "Lcom/example/dense_bloom/densebloom/model/EntryKind;" (.ref r_DOMAIN) := fa2.ext E471
      have f479 : Exa Z h469 r_DOMAIN "com/example/dense_bloom/densebloom/model/EntryKind" := fa3.ext E471
      have zs480 : Z.heap.size ≤ h469.size := Nat.le_trans hz E471.1
      refine Go.astore 94 #[.val (.int i0), .val (.long i1), .second, .val (.long i2), .second, .val (.long i3), .second, .val (.long i4), .second, .val (.int (1 : Int32)), .val (.ref r_ADDRESS), .val (.int v454), .val (.long v456), .second, .val (.long v459), .second, .val (.long v464), .second, .val (.long v466), .second, .val (.ref a468), .unset, .unset, .unset, .unset, .unset, .unset, .unset, .unset] at_92 rfl rfl rfl ?_
      refine Go.iconst 95 (4) at_94 (by decide) rfl ?_
      refine Go.newJ (cap := 4) (xs := [0, 0, 0, 0]) 97 at_95 (tw8 hw) rfl (by decide) (by decide) (by decide) rfl (by decide) (by decide) rfl (fun a481 h482 q483 E484 A485 => ?_)
      have ne486 : r_ADDRESS ≠ a481 := fun e => absurd f477.lt (by rw [e, q483]; exact Nat.lt_irrefl _)
      have ne487 : r_DOMAIN ≠ a481 := fun e => absurd f479.lt (by rw [e, q483]; exact Nat.lt_irrefl _)
      have ne488 : a468 ≠ a481 := fun e => absurd A472.lt (by rw [e, q483]; exact Nat.lt_irrefl _)
      have ge489 : Z.heap.size ≤ a481 := (Eq.symm q483) ▸ zs480
      have f490 : Sta Z h482 "com/example/dense_bloom/densebloom/model/EntryKind" "ADDRESS" "Lcom/example/dense_bloom/densebloom/model/EntryKind;" (.ref r_ADDRESS) := f476.ext E484
      have f491 : Exa Z h482 r_ADDRESS "com/example/dense_bloom/densebloom/model/EntryKind" := f477.ext E484
      have f492 : Sta Z h482 "com/example/dense_bloom/densebloom/model/EntryKind" "DOMAIN" "Lcom/example/dense_bloom/densebloom/model/EntryKind;" (.ref r_DOMAIN) := f478.ext E484
      have f493 : Exa Z h482 r_DOMAIN "com/example/dense_bloom/densebloom/model/EntryKind" := f479.ext E484
      have f494 : Arj Z h482 a468 [0] := A472.ext E484
      have zs495 : Z.heap.size ≤ h482.size := Nat.le_trans zs480 E484.1
      refine Go.astore 99 #[.val (.int i0), .val (.long i1), .second, .val (.long i2), .second, .val (.long i3), .second, .val (.long i4), .second, .val (.int (1 : Int32)), .val (.ref r_ADDRESS), .val (.int v454), .val (.long v456), .second, .val (.long v459), .second, .val (.long v464), .second, .val (.long v466), .second, .val (.ref a468), .val (.ref a481), .unset, .unset, .unset, .unset, .unset, .unset, .unset] at_97 rfl rfl rfl ?_
      refine Go.aload 101 at_99 rfl rfl rfl ?_
      refine Go.iconst 102 (0) at_101 (by decide) rfl ?_
      refine Go.lload_n 103 at_102 rfl rfl ?_
      refine Go.lastore (0) ([i2]) 104 at_103 f494 (by decide) (by decide) (by decide : (0 : Nat) < 1) rfl ge475 rfl (fun h496 W497 A498 => ?_)
      have f499 : Sta Z h496 "com/example/dense_bloom/densebloom/model/EntryKind" "ADDRESS" "Lcom/example/dense_bloom/densebloom/model/EntryKind;" (.ref r_ADDRESS) := f490.wr W497
      have f500 : Exa Z h496 r_ADDRESS "com/example/dense_bloom/densebloom/model/EntryKind" := f491.wr W497
      have f501 : Sta Z h496 "com/example/dense_bloom/densebloom/model/EntryKind" "DOMAIN" "Lcom/example/dense_bloom/densebloom/model/EntryKind;" (.ref r_DOMAIN) := f492.wr W497
      have f502 : Exa Z h496 r_DOMAIN "com/example/dense_bloom/densebloom/model/EntryKind" := f493.wr W497
      have f503 : Arj Z h496 a481 [0, 0, 0, 0] := A485.other W497 (Ne.symm ne488)
      have zs504 : Z.heap.size ≤ h496.size := W497.size ▸ zs495
      refine Go.aload 106 at_104 rfl rfl rfl ?_
      refine Go.iconst 107 (0) at_106 (by decide) rfl ?_
      refine Go.lload_n 108 at_107 rfl rfl ?_
      refine Go.lastore (0) ([i2, 0, 0, 0]) 109 at_108 f503 (by decide) (by decide) (by decide : (0 : Nat) < 4) rfl ge489 rfl (fun h505 W506 A507 => ?_)
      have f508 : Sta Z h505 "com/example/dense_bloom/densebloom/model/EntryKind" "ADDRESS" "Lcom/example/dense_bloom/densebloom/model/EntryKind;" (.ref r_ADDRESS) := f499.wr W506
      have f509 : Exa Z h505 r_ADDRESS "com/example/dense_bloom/densebloom/model/EntryKind" := f500.wr W506
      have f510 : Sta Z h505 "com/example/dense_bloom/densebloom/model/EntryKind" "DOMAIN" "Lcom/example/dense_bloom/densebloom/model/EntryKind;" (.ref r_DOMAIN) := f501.wr W506
      have f511 : Exa Z h505 r_DOMAIN "com/example/dense_bloom/densebloom/model/EntryKind" := f502.wr W506
      have f512 : Arj Z h505 a468 [i2] := A498.other W506 ne488
      have zs513 : Z.heap.size ≤ h505.size := W506.size ▸ zs504
      refine Go.aload 111 at_109 rfl rfl rfl ?_
      refine Go.iconst 112 (1) at_111 (by decide) rfl ?_
      refine Go.lload 114 at_112 rfl rfl ?_
      refine Go.lastore (1) ([i2, i3, 0, 0]) 115 at_114 A507 (by decide) (by decide) (by decide : (1 : Nat) < 4) rfl ge489 rfl (fun h514 W515 A516 => ?_)
      have f517 : Sta Z h514 "com/example/dense_bloom/densebloom/model/EntryKind" "ADDRESS" "Lcom/example/dense_bloom/densebloom/model/EntryKind;" (.ref r_ADDRESS) := f508.wr W515
      have f518 : Exa Z h514 r_ADDRESS "com/example/dense_bloom/densebloom/model/EntryKind" := f509.wr W515
      have f519 : Sta Z h514 "com/example/dense_bloom/densebloom/model/EntryKind" "DOMAIN" "Lcom/example/dense_bloom/densebloom/model/EntryKind;" (.ref r_DOMAIN) := f510.wr W515
      have f520 : Exa Z h514 r_DOMAIN "com/example/dense_bloom/densebloom/model/EntryKind" := f511.wr W515
      have f521 : Arj Z h514 a468 [i2] := f512.other W515 ne488
      have zs522 : Z.heap.size ≤ h514.size := W515.size ▸ zs513
      refine Go.aload 117 at_115 rfl rfl rfl ?_
      refine Go.iconst 118 (2) at_117 (by decide) rfl ?_
      refine Go.lload_n 119 at_118 rfl rfl ?_
      refine Go.lload 121 at_119 rfl rfl ?_
      refine Go.lxor 122 at_121 rfl ?_
      refine Go.nameJ (fun v523 e524 => ?_)
      refine Go.lastore (2) ([i2, i3, v523, 0]) 123 at_122 A516 (by decide) (by decide) (by decide : (2 : Nat) < 4) rfl ge489 rfl (fun h525 W526 A527 => ?_)
      have f528 : Sta Z h525 "com/example/dense_bloom/densebloom/model/EntryKind" "ADDRESS" "Lcom/example/dense_bloom/densebloom/model/EntryKind;" (.ref r_ADDRESS) := f517.wr W526
      have f529 : Exa Z h525 r_ADDRESS "com/example/dense_bloom/densebloom/model/EntryKind" := f518.wr W526
      have f530 : Sta Z h525 "com/example/dense_bloom/densebloom/model/EntryKind" "DOMAIN" "Lcom/example/dense_bloom/densebloom/model/EntryKind;" (.ref r_DOMAIN) := f519.wr W526
      have f531 : Exa Z h525 r_DOMAIN "com/example/dense_bloom/densebloom/model/EntryKind" := f520.wr W526
      have f532 : Arj Z h525 a468 [i2] := f521.other W526 ne488
      have zs533 : Z.heap.size ≤ h525.size := W526.size ▸ zs522
      refine Go.aload 125 at_123 rfl rfl rfl ?_
      refine Go.iconst 126 (3) at_125 (by decide) rfl ?_
      refine Go.lload 128 at_126 rfl rfl ?_
      refine Go.ldc2_w 131 at_128 (tw9 hw) rfl ?_
      refine Go.lxor 132 at_131 rfl ?_
      refine Go.nameJ (fun v534 e535 => ?_)
      refine Go.lastore (3) ([i2, i3, v523, v534]) 133 at_132 A527 (by decide) (by decide) (by decide : (3 : Nat) < 4) rfl ge489 rfl (fun h536 W537 A538 => ?_)
      have f539 : Sta Z h536 "com/example/dense_bloom/densebloom/model/EntryKind" "ADDRESS" "Lcom/example/dense_bloom/densebloom/model/EntryKind;" (.ref r_ADDRESS) := f528.wr W537
      have f540 : Exa Z h536 r_ADDRESS "com/example/dense_bloom/densebloom/model/EntryKind" := f529.wr W537
      have f541 : Sta Z h536 "com/example/dense_bloom/densebloom/model/EntryKind" "DOMAIN" "Lcom/example/dense_bloom/densebloom/model/EntryKind;" (.ref r_DOMAIN) := f530.wr W537
      have f542 : Exa Z h536 r_DOMAIN "com/example/dense_bloom/densebloom/model/EntryKind" := f531.wr W537
      have f543 : Arj Z h536 a468 [i2] := f532.other W537 ne488
      have zs544 : Z.heap.size ≤ h536.size := W537.size ▸ zs533
      refine Go.iload 135 at_133 rfl rfl ?_
      refine Go.if_eq 143 138 at_135 (by decide) (by decide) rfl (fun c => absurd c (by decide)) (fun _ => ?_)
      refine Go.aload 140 at_138 rfl rfl rfl ?_
      refine Go.goto 145 at_140 (by decide) (by decide) ?_
      refine Go.astore 147 #[.val (.int i0), .val (.long i1), .second, .val (.long i2), .second, .val (.long i3), .second, .val (.long i4), .second, .val (.int (1 : Int32)), .val (.ref r_ADDRESS), .val (.int v454), .val (.long v456), .second, .val (.long v459), .second, .val (.long v464), .second, .val (.long v466), .second, .val (.ref a468), .val (.ref a481), .val (.ref a481), .unset, .unset, .unset, .unset, .unset, .unset] at_145 rfl rfl rfl ?_
      refine Go.iload 149 at_147 rfl rfl ?_
      refine Go.if_eq 156 152 at_149 (by decide) (by decide) rfl (fun c => absurd c (by decide)) (fun _ => ?_)
      refine Go.iconst 153 (4) at_152 (by decide) rfl ?_
      refine Go.goto 157 at_153 (by decide) (by decide) ?_
      refine Go.istore 159 #[.val (.int i0), .val (.long i1), .second, .val (.long i2), .second, .val (.long i3), .second, .val (.long i4), .second, .val (.int (1 : Int32)), .val (.ref r_ADDRESS), .val (.int v454), .val (.long v456), .second, .val (.long v459), .second, .val (.long v464), .second, .val (.long v466), .second, .val (.ref a468), .val (.ref a481), .val (.ref a481), .val (.int (4 : Int32)), .unset, .unset, .unset, .unset, .unset] at_157 rfl rfl ?_
      refine Go.iload 161 at_159 rfl rfl ?_
      refine Go.if_eq 173 164 at_161 (by decide) (by decide) rfl (fun c => absurd c (by decide)) (fun _ => ?_)
      refine Go.lload 166 at_164 rfl rfl ?_
      refine Go.ldc2_w 169 at_166 (tw9 hw) rfl ?_
      refine Go.lxor 170 at_169 rfl ?_
      refine Go.goto 174 at_170 (by decide) (by decide) ?_
      refine Go.nameJ (fun v548 e549 => ?_)
      refine Go.lstore 176 #[.val (.int i0), .val (.long i1), .second, .val (.long i2), .second, .val (.long i3), .second, .val (.long i4), .second, .val (.int (1 : Int32)), .val (.ref r_ADDRESS), .val (.int v454), .val (.long v456), .second, .val (.long v459), .second, .val (.long v464), .second, .val (.long v466), .second, .val (.ref a468), .val (.ref a481), .val (.ref a481), .val (.int (4 : Int32)), .val (.long v548), .second, .unset, .unset, .unset] at_174 rfl rfl ?_
      refine Go.new 179 at_176 (tw10 hw) (tw11 hw) (tw12 hw) (by decide) (by decide) rfl (fun a550 h551 q552 E553 A554 D555 => ?_)
      have ne556 : r_ADDRESS ≠ a550 := fun e => absurd f540.lt (by rw [e, q552]; exact Nat.lt_irrefl _)
      have ne557 : r_DOMAIN ≠ a550 := fun e => absurd f542.lt (by rw [e, q552]; exact Nat.lt_irrefl _)
      have ne558 : a468 ≠ a550 := fun e => absurd f543.lt (by rw [e, q552]; exact Nat.lt_irrefl _)
      have ne559 : a481 ≠ a550 := fun e => absurd A538.lt (by rw [e, q552]; exact Nat.lt_irrefl _)
      have ge560 : Z.heap.size ≤ a550 := (Eq.symm q552) ▸ zs544
      have f561 : Sta Z h551 "com/example/dense_bloom/densebloom/model/EntryKind" "ADDRESS" "Lcom/example/dense_bloom/densebloom/model/EntryKind;" (.ref r_ADDRESS) := f539.ext E553
      have f562 : Exa Z h551 r_ADDRESS "com/example/dense_bloom/densebloom/model/EntryKind" := f540.ext E553
      have f563 : Sta Z h551 "com/example/dense_bloom/densebloom/model/EntryKind" "DOMAIN" "Lcom/example/dense_bloom/densebloom/model/EntryKind;" (.ref r_DOMAIN) := f541.ext E553
      have f564 : Exa Z h551 r_DOMAIN "com/example/dense_bloom/densebloom/model/EntryKind" := f542.ext E553
      have f565 : Arj Z h551 a468 [i2] := f543.ext E553
      have f566 : Arj Z h551 a481 [i2, i3, v523, v534] := A538.ext E553
      have zs567 : Z.heap.size ≤ h551.size := Nat.le_trans zs544 E553.1
      have f568 : Fld Z h551 a550 "com/example/dense_bloom/densebloom/model/FilterSize" "expectedEntries" "J" (.long (0 : Int64)) := D555 (Or.inr (tw34 hw)) (ty := .long) (by decide)
      have f569 : Fld Z h551 a550 "com/example/dense_bloom/densebloom/model/FilterSize" "bits" "J" (.long (0 : Int64)) := D555 (Or.inr (tw36 hw)) (ty := .long) (by decide)
      have f570 : Fld Z h551 a550 "com/example/dense_bloom/densebloom/model/FilterSize" "hashes" "I" (.int (0 : Int32)) := D555 (Or.inr (tw38 hw)) (ty := .int) (by decide)
      refine Go.dup 180 at_179 rfl rfl ?_
      refine Go.lload 182 at_180 rfl rfl ?_
      refine Go.lload 184 at_182 rfl rfl ?_
      refine Go.iload 186 at_184 rfl rfl ?_
      refine Go.callC [.long v464, .long v459, .int v454] [.ref a550] 189 at_186 rfl (tw13 hw) (tw14 hw) (tw12 hw) (tw15 hw) pl2 (by decide) (lenOf pd2 rfl) rfl (fun m => ef_k_init m a550 v464 v459 v454) _ (k_init hw h551 zs567 a550 v464 v459 v454 A554 f568 f569 f570 oh1 oh2 oh3 oh4 ge560) 1 rfl (Nat.le_of_eq rfl) (by decide) (by decide) (by decide) (by decide) rfl ?_
      rintro h572 ⟨K573, f574, f575⟩
      have f576 : Exa Z h572 r_ADDRESS "com/example/dense_bloom/densebloom/model/EntryKind" := f562.keep K573
      have f577 : Exa Z h572 r_DOMAIN "com/example/dense_bloom/densebloom/model/EntryKind" := f564.keep K573
      have f578 : Arj Z h572 a468 [i2] := f565.keep K573 (ninS ne558 nin0)
      have f579 : Arj Z h572 a481 [i2, i3, v523, v534] := f566.keep K573 (ninS ne559 nin0)
      have zs580 : Z.heap.size ≤ h572.size := Nat.le_trans zs567 K573.1
      refine Go.astore 191 #[.val (.int i0), .val (.long i1), .second, .val (.long i2), .second, .val (.long i3), .second, .val (.long i4), .second, .val (.int (1 : Int32)), .val (.ref r_ADDRESS), .val (.int v454), .val (.long v456), .second, .val (.long v459), .second, .val (.long v464), .second, .val (.long v466), .second, .val (.ref a468), .val (.ref a481), .val (.ref a481), .val (.int (4 : Int32)), .val (.long v548), .second, .val (.ref a550), .unset, .unset] at_189 rfl rfl rfl ?_
      refine Go.aload 193 at_191 rfl rfl rfl ?_
      refine Go.aload 195 at_193 rfl rfl rfl ?_
      refine Go.lload 197 at_195 rfl rfl ?_
      refine Go.aload 199 at_197 rfl rfl rfl ?_
      refine Go.callSR [.ref a550, .ref r_ADDRESS, .long v466, .ref a481] [] 202 at_199 (tw39 hw) (tw40 hw) (tw41 hw) (tw42 hw) pl8 (by decide) (lenOf pd8 rfl) rfl (fun m => ef_k_fw4 m a550 r_ADDRESS v466 a481) _ (k_fw4 hw h572 zs580 a550 r_ADDRESS v466 a481 f574 f575 f579 oad oh2 ob3 ob4) 0 rfl (Nat.le_of_eq rfl) (by decide) (by decide) (by decide) (by decide) rfl ?_
      rintro z581 h582 ⟨a584, rfl, g585, K583, f586, f587, f588, f589, f590⟩
      have ne591 : r_ADDRESS ≠ a584 := Nat.ne_of_lt (Nat.lt_of_lt_of_le f576.lt g585)
      have ne592 : r_DOMAIN ≠ a584 := Nat.ne_of_lt (Nat.lt_of_lt_of_le f577.lt g585)
      have ne593 : a468 ≠ a584 := Nat.ne_of_lt (Nat.lt_of_lt_of_le f578.lt g585)
      have ne594 : a481 ≠ a584 := Nat.ne_of_lt (Nat.lt_of_lt_of_le f579.lt g585)
      have ne595 : a550 ≠ a584 := Nat.ne_of_lt (Nat.lt_of_lt_of_le f574.lt g585)
      have ge596 : Z.heap.size ≤ a584 := Nat.le_trans zs580 g585
      have f597 : Exa Z h582 r_ADDRESS "com/example/dense_bloom/densebloom/model/EntryKind" := f576.keep K583
      have f598 : Exa Z h582 r_DOMAIN "com/example/dense_bloom/densebloom/model/EntryKind" := f577.keep K583
      have f599 : Arj Z h582 a468 [i2] := f578.keep K583 nin0
      have f600 : Arj Z h582 a481 [i2, i3, v523, v534] := f579.keep K583 nin0
      have f601 : Exa Z h582 a550 "com/example/dense_bloom/densebloom/model/FilterSize" := f574.keep K583
      have f602 : Fld Z h582 a550 "com/example/dense_bloom/densebloom/model/FilterSize" "bits" "J" (.long v459) := f575.keep K583 nin0
      have zs603 : Z.heap.size ≤ h582.size := Nat.le_trans zs580 K583.1
      refine Go.astore 204 #[.val (.int i0), .val (.long i1), .second, .val (.long i2), .second, .val (.long i3), .second, .val (.long i4), .second, .val (.int (1 : Int32)), .val (.ref r_ADDRESS), .val (.int v454), .val (.long v456), .second, .val (.long v459), .second, .val (.long v464), .second, .val (.long v466), .second, .val (.ref a468), .val (.ref a481), .val (.ref a481), .val (.int (4 : Int32)), .val (.long v548), .second, .val (.ref a550), .val (.ref a584), .unset] at_202 rfl rfl rfl ?_
      refine Go.aload 206 at_204 rfl rfl rfl ?_
      refine Go.callVRp [] [] 209 at_206 (tw68 hw) (tw69 hw) (tw71 hw) (tw70 hw) (tw41 hw) (tw72 hw) f586 pl12 (by decide) (lenOf pd12 rfl) rfl (fun m => ef_k_gsize m a584) _ (k_gsize hw h582 zs603 a584 f587) 0 rfl (Nat.le_of_eq rfl) (by decide) (by decide) (by decide) (by decide) rfl ?_
      refine Go.aload 211 at_209 rfl rfl rfl ?_
      refine Go.acmp 214 true at_211 rfl rfl (by simp) (by decide) (by decide) ?_
      refine Go.aload 216 at_214 rfl rfl rfl ?_
      refine Go.callVRp [] [] 219 at_216 (tw73 hw) (tw74 hw) (tw76 hw) (tw75 hw) (tw41 hw) (tw77 hw) f586 pl13 (by decide) (lenOf pd13 rfl) rfl (fun m => ef_k_gkind m a584) _ (k_gkind hw h582 zs603 a584 f588) 0 rfl (Nat.le_of_eq rfl) (by decide) (by decide) (by decide) (by decide) rfl ?_
      refine Go.aload 221 at_219 rfl rfl rfl ?_
      refine Go.acmp 224 true at_221 rfl rfl (by simp) (by decide) (by decide) ?_
      refine Go.aload 226 at_224 rfl rfl rfl ?_
      refine Go.callVJp [] [] 229 at_226 (tw78 hw) (tw79 hw) (tw81 hw) (tw80 hw) (tw41 hw) (tw82 hw) f586 pl14 (by decide) (lenOf pd14 rfl) rfl (fun m => ef_k_gadded m a584) _ (k_gadded hw h582 zs603 a584 f589) 0 rfl (Nat.le_of_eq rfl) (by decide) (by decide) (by decide) (by decide) rfl ?_
      refine Go.lload 231 at_229 rfl rfl ?_
      refine Go.lcmp 232 at_231 rfl ?_
      refine Go.lcmp_ne 275 235 at_232 (by decide) (by decide) rfl (fun c613 => ?_) (fun c613 => ?_)
      ·
        refine Go.iconst 276 (0) at_275 (by decide) rfl ?_
        refine Go.istore 278 #[.val (.int i0), .val (.long i1), .second, .val (.long i2), .second, .val (.long i3), .second, .val (.long i4), .second, .val (.int (1 : Int32)), .val (.ref r_ADDRESS), .val (.int v454), .val (.long v456), .second, .val (.long v459), .second, .val (.long v464), .second, .val (.long v466), .second, .val (.ref a468), .val (.ref a481), .val (.ref a481), .val (.int (4 : Int32)), .val (.long v548), .second, .val (.ref a550), .val (.ref a584), .val (.int (0 : Int32))] at_276 rfl rfl ?_
        refine Go.aload 280 at_278 rfl rfl rfl ?_
        refine Go.iconst 281 (0) at_280 (by decide) rfl ?_
        refine Go.lload_n 282 at_281 rfl rfl ?_
        refine Go.ldc2_w 285 at_282 (tw9 hw) rfl ?_
        refine Go.lxor 286 at_285 rfl ?_
        refine Go.nameJ (fun v614 e615 => ?_)
        refine Go.lastore (0) ([v614, i3, v523, v534]) 287 at_286 f600 (by decide) (by decide) (by decide : (0 : Nat) < 4) rfl ge489 rfl (fun h616 W617 A618 => ?_)
        have f619 : Exa Z h616 r_ADDRESS "com/example/dense_bloom/densebloom/model/EntryKind" := f597.wr W617
        have f620 : Exa Z h616 r_DOMAIN "com/example/dense_bloom/densebloom/model/EntryKind" := f598.wr W617
        have f621 : Arj Z h616 a468 [i2] := f599.other W617 ne488
        have f622 : Exa Z h616 a550 "com/example/dense_bloom/densebloom/model/FilterSize" := f601.wr W617
        have f623 : Fld Z h616 a550 "com/example/dense_bloom/densebloom/model/FilterSize" "bits" "J" (.long v459) := f602.other W617 (Or.inl (Ne.symm ne559))
        have f624 : Exa Z h616 a584 "com/example/dense_bloom/densebloom/model/BloomFilter" := f586.wr W617
        have f625 : Fld Z h616 a584 "com/example/dense_bloom/densebloom/model/BloomFilter" "size" "Lcom/example/dense_bloom/densebloom/model/FilterSize;" (.ref a550) := f587.other W617 (Or.inl (Ne.symm ne594))
        have f626 : Fld Z h616 a584 "com/example/dense_bloom/densebloom/model/BloomFilter" "kind" "Lcom/example/dense_bloom/densebloom/model/EntryKind;" (.ref r_ADDRESS) := f588.other W617 (Or.inl (Ne.symm ne594))
        have f627 : Fld Z h616 a584 "com/example/dense_bloom/densebloom/model/BloomFilter" "added" "J" (.long v466) := f589.other W617 (Or.inl (Ne.symm ne594))
        have f628 : Fld Z h616 a584 "com/example/dense_bloom/densebloom/model/BloomFilter" "words" "[J" (.ref a481) := f590.other W617 (Or.inl (Ne.symm ne594))
        have zs629 : Z.heap.size ≤ h616.size := W617.size ▸ zs603
        refine Go.iload 289 at_287 rfl rfl ?_
        refine Go.if_eq 311 292 at_289 (by decide) (by decide) rfl (fun _ => ?_) (fun c => absurd c (by decide))
        refine Go.iconst 312 (0) at_311 (by decide) rfl ?_
        refine Go.nreturn (t := .boolean) (z' := (0 : Int32)) at_312 rfl (by simp) (by decide) (by decide) (by decide) ?_
        exfalso
        first | exact c613 rfl | (subst_vars; exact absurd rfl ‹¬ _›) | exact absurd rfl c613
      ·
        refine Go.aload 237 at_235 rfl rfl rfl ?_
        refine Go.callVIp [] [] 240 at_237 (tw83 hw) (tw84 hw) (tw86 hw) (tw85 hw) (tw41 hw) (tw87 hw) f586 pl15 (by decide) (lenOf pd15 rfl) rfl (fun m => ef_k_gc4 m a584) _ (k_gc4 hw h582 zs603 a584 f590 f600) 0 rfl (Nat.le_of_eq rfl) (by decide) (by decide) (by decide) (by decide) rfl ?_
        refine Go.iload 242 at_240 rfl rfl ?_
        refine Go.icmp_ne 275 245 at_242 (by decide) (by decide) rfl (fun c => absurd c (by decide)) (fun _ => ?_)
        refine Go.aload 247 at_245 rfl rfl rfl ?_
        refine Go.iconst 248 (0) at_247 (by decide) rfl ?_
        refine Go.callVJp [.int (0 : Int32)] [] 251 at_248 (tw88 hw) (tw89 hw) (tw91 hw) (tw90 hw) (tw41 hw) (tw92 hw) f586 pl16 (by decide) (lenOf pd16 rfl) rfl (fun m => ef_k_w4_0 m a584 (0 : Int32)) _ (k_w4_0 hw h582 zs603 a584 (0 : Int32) f590 f600 (by decide) (by decide)) 0 rfl (Nat.le_of_eq rfl) (by decide) (by decide) (by decide) (by decide) rfl ?_
        refine Go.lload_n 252 at_251 rfl rfl ?_
        refine Go.lcmp 253 at_252 rfl ?_
        refine Go.lcmp_ne 275 256 at_253 (by decide) (by decide) rfl (fun c638 => ?_) (fun c638 => ?_)
        ·
          refine Go.iconst 276 (0) at_275 (by decide) rfl ?_
          refine Go.istore 278 #[.val (.int i0), .val (.long i1), .second, .val (.long i2), .second, .val (.long i3), .second, .val (.long i4), .second, .val (.int (1 : Int32)), .val (.ref r_ADDRESS), .val (.int v454), .val (.long v456), .second, .val (.long v459), .second, .val (.long v464), .second, .val (.long v466), .second, .val (.ref a468), .val (.ref a481), .val (.ref a481), .val (.int (4 : Int32)), .val (.long v548), .second, .val (.ref a550), .val (.ref a584), .val (.int (0 : Int32))] at_276 rfl rfl ?_
          refine Go.aload 280 at_278 rfl rfl rfl ?_
          refine Go.iconst 281 (0) at_280 (by decide) rfl ?_
          refine Go.lload_n 282 at_281 rfl rfl ?_
          refine Go.ldc2_w 285 at_282 (tw9 hw) rfl ?_
          refine Go.lxor 286 at_285 rfl ?_
          refine Go.nameJ (fun v639 e640 => ?_)
          refine Go.lastore (0) ([v639, i3, v523, v534]) 287 at_286 f600 (by decide) (by decide) (by decide : (0 : Nat) < 4) rfl ge489 rfl (fun h641 W642 A643 => ?_)
          have f644 : Exa Z h641 r_ADDRESS "com/example/dense_bloom/densebloom/model/EntryKind" := f597.wr W642
          have f645 : Exa Z h641 r_DOMAIN "com/example/dense_bloom/densebloom/model/EntryKind" := f598.wr W642
          have f646 : Arj Z h641 a468 [i2] := f599.other W642 ne488
          have f647 : Exa Z h641 a550 "com/example/dense_bloom/densebloom/model/FilterSize" := f601.wr W642
          have f648 : Fld Z h641 a550 "com/example/dense_bloom/densebloom/model/FilterSize" "bits" "J" (.long v459) := f602.other W642 (Or.inl (Ne.symm ne559))
          have f649 : Exa Z h641 a584 "com/example/dense_bloom/densebloom/model/BloomFilter" := f586.wr W642
          have f650 : Fld Z h641 a584 "com/example/dense_bloom/densebloom/model/BloomFilter" "size" "Lcom/example/dense_bloom/densebloom/model/FilterSize;" (.ref a550) := f587.other W642 (Or.inl (Ne.symm ne594))
          have f651 : Fld Z h641 a584 "com/example/dense_bloom/densebloom/model/BloomFilter" "kind" "Lcom/example/dense_bloom/densebloom/model/EntryKind;" (.ref r_ADDRESS) := f588.other W642 (Or.inl (Ne.symm ne594))
          have f652 : Fld Z h641 a584 "com/example/dense_bloom/densebloom/model/BloomFilter" "added" "J" (.long v466) := f589.other W642 (Or.inl (Ne.symm ne594))
          have f653 : Fld Z h641 a584 "com/example/dense_bloom/densebloom/model/BloomFilter" "words" "[J" (.ref a481) := f590.other W642 (Or.inl (Ne.symm ne594))
          have zs654 : Z.heap.size ≤ h641.size := W642.size ▸ zs603
          refine Go.iload 289 at_287 rfl rfl ?_
          refine Go.if_eq 311 292 at_289 (by decide) (by decide) rfl (fun _ => ?_) (fun c => absurd c (by decide))
          refine Go.iconst 312 (0) at_311 (by decide) rfl ?_
          refine Go.nreturn (t := .boolean) (z' := (0 : Int32)) at_312 rfl (by simp) (by decide) (by decide) (by decide) ?_
          exfalso
          first | exact c638 rfl | (subst_vars; exact absurd rfl ‹¬ _›) | exact absurd rfl c638
        ·
          refine Go.aload 258 at_256 rfl rfl rfl ?_
          refine Go.iload 260 at_258 rfl rfl ?_
          refine Go.iconst 261 (1) at_260 (by decide) rfl ?_
          refine Go.isub 262 at_261 rfl ?_
          refine Go.callVJp [.int ((4 : Int32) - (1 : Int32))] [] 265 at_262 (tw88 hw) (tw89 hw) (tw91 hw) (tw90 hw) (tw41 hw) (tw92 hw) f586 pl16 (by decide) (lenOf pd16 rfl) rfl (fun m => ef_k_w4_3 m a584 ((4 : Int32) - (1 : Int32))) _ (k_w4_3 hw h582 zs603 a584 (((4 : Int32) - (1 : Int32))) f590 f600 (by decide) (by decide)) 0 rfl (Nat.le_of_eq rfl) (by decide) (by decide) (by decide) (by decide) rfl ?_
          refine Go.lload 267 at_265 rfl rfl ?_
          refine Go.lcmp 268 at_267 rfl ?_
          refine Go.lcmp_ne 275 271 at_268 (by decide) (by decide) rfl (fun c659 => ?_) (fun c659 => ?_)
          ·
            refine Go.iconst 276 (0) at_275 (by decide) rfl ?_
            refine Go.istore 278 #[.val (.int i0), .val (.long i1), .second, .val (.long i2), .second, .val (.long i3), .second, .val (.long i4), .second, .val (.int (1 : Int32)), .val (.ref r_ADDRESS), .val (.int v454), .val (.long v456), .second, .val (.long v459), .second, .val (.long v464), .second, .val (.long v466), .second, .val (.ref a468), .val (.ref a481), .val (.ref a481), .val (.int (4 : Int32)), .val (.long v548), .second, .val (.ref a550), .val (.ref a584), .val (.int (0 : Int32))] at_276 rfl rfl ?_
            refine Go.aload 280 at_278 rfl rfl rfl ?_
            refine Go.iconst 281 (0) at_280 (by decide) rfl ?_
            refine Go.lload_n 282 at_281 rfl rfl ?_
            refine Go.ldc2_w 285 at_282 (tw9 hw) rfl ?_
            refine Go.lxor 286 at_285 rfl ?_
            refine Go.nameJ (fun v660 e661 => ?_)
            refine Go.lastore (0) ([v660, i3, v523, v534]) 287 at_286 f600 (by decide) (by decide) (by decide : (0 : Nat) < 4) rfl ge489 rfl (fun h662 W663 A664 => ?_)
            have f665 : Exa Z h662 r_ADDRESS "com/example/dense_bloom/densebloom/model/EntryKind" := f597.wr W663
            have f666 : Exa Z h662 r_DOMAIN "com/example/dense_bloom/densebloom/model/EntryKind" := f598.wr W663
            have f667 : Arj Z h662 a468 [i2] := f599.other W663 ne488
            have f668 : Exa Z h662 a550 "com/example/dense_bloom/densebloom/model/FilterSize" := f601.wr W663
            have f669 : Fld Z h662 a550 "com/example/dense_bloom/densebloom/model/FilterSize" "bits" "J" (.long v459) := f602.other W663 (Or.inl (Ne.symm ne559))
            have f670 : Exa Z h662 a584 "com/example/dense_bloom/densebloom/model/BloomFilter" := f586.wr W663
            have f671 : Fld Z h662 a584 "com/example/dense_bloom/densebloom/model/BloomFilter" "size" "Lcom/example/dense_bloom/densebloom/model/FilterSize;" (.ref a550) := f587.other W663 (Or.inl (Ne.symm ne594))
            have f672 : Fld Z h662 a584 "com/example/dense_bloom/densebloom/model/BloomFilter" "kind" "Lcom/example/dense_bloom/densebloom/model/EntryKind;" (.ref r_ADDRESS) := f588.other W663 (Or.inl (Ne.symm ne594))
            have f673 : Fld Z h662 a584 "com/example/dense_bloom/densebloom/model/BloomFilter" "added" "J" (.long v466) := f589.other W663 (Or.inl (Ne.symm ne594))
            have f674 : Fld Z h662 a584 "com/example/dense_bloom/densebloom/model/BloomFilter" "words" "[J" (.ref a481) := f590.other W663 (Or.inl (Ne.symm ne594))
            have zs675 : Z.heap.size ≤ h662.size := W663.size ▸ zs603
            refine Go.iload 289 at_287 rfl rfl ?_
            refine Go.if_eq 311 292 at_289 (by decide) (by decide) rfl (fun _ => ?_) (fun c => absurd c (by decide))
            refine Go.iconst 312 (0) at_311 (by decide) rfl ?_
            refine Go.nreturn (t := .boolean) (z' := (0 : Int32)) at_312 rfl (by simp) (by decide) (by decide) (by decide) ?_
            exfalso
            first | exact c659 rfl | (subst_vars; exact absurd rfl ‹¬ _›) | exact absurd rfl c659
          ·
            refine Go.iconst 272 (1) at_271 (by decide) rfl ?_
            refine Go.goto 276 at_272 (by decide) (by decide) ?_
            refine Go.istore 278 #[.val (.int i0), .val (.long i1), .second, .val (.long i2), .second, .val (.long i3), .second, .val (.long i4), .second, .val (.int (1 : Int32)), .val (.ref r_ADDRESS), .val (.int v454), .val (.long v456), .second, .val (.long v459), .second, .val (.long v464), .second, .val (.long v466), .second, .val (.ref a468), .val (.ref a481), .val (.ref a481), .val (.int (4 : Int32)), .val (.long v548), .second, .val (.ref a550), .val (.ref a584), .val (.int (1 : Int32))] at_276 rfl rfl ?_
            refine Go.aload 280 at_278 rfl rfl rfl ?_
            refine Go.iconst 281 (0) at_280 (by decide) rfl ?_
            refine Go.lload_n 282 at_281 rfl rfl ?_
            refine Go.ldc2_w 285 at_282 (tw9 hw) rfl ?_
            refine Go.lxor 286 at_285 rfl ?_
            refine Go.nameJ (fun v677 e678 => ?_)
            refine Go.lastore (0) ([v677, i3, v523, v534]) 287 at_286 f600 (by decide) (by decide) (by decide : (0 : Nat) < 4) rfl ge489 rfl (fun h679 W680 A681 => ?_)
            have f682 : Exa Z h679 r_ADDRESS "com/example/dense_bloom/densebloom/model/EntryKind" := f597.wr W680
            have f683 : Exa Z h679 r_DOMAIN "com/example/dense_bloom/densebloom/model/EntryKind" := f598.wr W680
            have f684 : Arj Z h679 a468 [i2] := f599.other W680 ne488
            have f685 : Exa Z h679 a550 "com/example/dense_bloom/densebloom/model/FilterSize" := f601.wr W680
            have f686 : Fld Z h679 a550 "com/example/dense_bloom/densebloom/model/FilterSize" "bits" "J" (.long v459) := f602.other W680 (Or.inl (Ne.symm ne559))
            have f687 : Exa Z h679 a584 "com/example/dense_bloom/densebloom/model/BloomFilter" := f586.wr W680
            have f688 : Fld Z h679 a584 "com/example/dense_bloom/densebloom/model/BloomFilter" "size" "Lcom/example/dense_bloom/densebloom/model/FilterSize;" (.ref a550) := f587.other W680 (Or.inl (Ne.symm ne594))
            have f689 : Fld Z h679 a584 "com/example/dense_bloom/densebloom/model/BloomFilter" "kind" "Lcom/example/dense_bloom/densebloom/model/EntryKind;" (.ref r_ADDRESS) := f588.other W680 (Or.inl (Ne.symm ne594))
            have f690 : Fld Z h679 a584 "com/example/dense_bloom/densebloom/model/BloomFilter" "added" "J" (.long v466) := f589.other W680 (Or.inl (Ne.symm ne594))
            have f691 : Fld Z h679 a584 "com/example/dense_bloom/densebloom/model/BloomFilter" "words" "[J" (.ref a481) := f590.other W680 (Or.inl (Ne.symm ne594))
            have zs692 : Z.heap.size ≤ h679.size := W680.size ▸ zs603
            refine Go.iload 289 at_287 rfl rfl ?_
            refine Go.if_eq 311 292 at_289 (by decide) (by decide) rfl (fun c => absurd c (by decide)) (fun _ => ?_)
            refine Go.aload 294 at_292 rfl rfl rfl ?_
            refine Go.iconst 295 (0) at_294 (by decide) rfl ?_
            refine Go.callVJp [.int (0 : Int32)] [] 298 at_295 (tw88 hw) (tw89 hw) (tw91 hw) (tw90 hw) (tw41 hw) (tw92 hw) f687 pl16 (by decide) (lenOf pd16 rfl) rfl (fun m => ef_k_w4_0 m a584 (0 : Int32)) _ (k_w4_0 hw h679 zs692 a584 (0 : Int32) f691 A681 (by decide) (by decide)) 0 rfl (Nat.le_of_eq rfl) (by decide) (by decide) (by decide) (by decide) rfl ?_
            refine Go.lload_n 299 at_298 rfl rfl ?_
            refine Go.ldc2_w 302 at_299 (tw9 hw) rfl ?_
            refine Go.lxor 303 at_302 rfl ?_
            refine Go.lcmp 304 at_303 rfl ?_
            refine Go.lcmp_ne 311 307 at_304 (by decide) (by decide) rfl (fun c697 => ?_) (fun c697 => ?_)
            ·
              refine Go.iconst 312 (0) at_311 (by decide) rfl ?_
              refine Go.nreturn (t := .boolean) (z' := (0 : Int32)) at_312 rfl (by simp) (by decide) (by decide) (by decide) ?_
              exfalso
              first | exact c697 rfl | (subst_vars; exact absurd rfl ‹¬ _›) | exact absurd rfl c697
            ·
              refine Go.iconst 308 (1) at_307 (by decide) rfl ?_
              refine Go.goto 312 at_308 (by decide) (by decide) ?_
              refine Go.nreturn (t := .boolean) (z' := (1 : Int32)) at_312 rfl (by simp) (by decide) (by decide) (by decide) ?_
              rfl
    ·
      refine Go.getstatic 22 at_19 (tw94 hw) fa2 rfl ?_
      refine Go.goto 28 at_22 (by decide) (by decide) ?_
      refine Go.astore 30 #[.val (.int i0), .val (.long i1), .second, .val (.long i2), .second, .val (.long i3), .second, .val (.long i4), .second, .val (.int (1 : Int32)), .val (.ref r_DOMAIN), .unset, .unset, .unset, .unset, .unset, .unset, .unset, .unset, .unset, .unset, .unset, .unset, .unset, .unset, .unset, .unset, .unset, .unset] at_28 rfl rfl rfl ?_
      refine Go.iconst 31 (1) at_30 (by decide) rfl ?_
      refine Go.iload_n 32 at_31 rfl rfl ?_
      refine Go.iconst 33 (2) at_32 (by decide) rfl ?_
      refine Go.iushr 34 at_33 rfl ?_
      refine Go.bipush 36 (63) at_34 (by decide) rfl ?_
      refine Go.iand 37 at_36 rfl ?_
      refine Go.iadd 38 at_37 rfl ?_
      refine Go.nameI (fun v698 e699 => ?_)
      refine Go.istore 40 #[.val (.int i0), .val (.long i1), .second, .val (.long i2), .second, .val (.long i3), .second, .val (.long i4), .second, .val (.int (1 : Int32)), .val (.ref r_DOMAIN), .val (.int v698), .unset, .unset, .unset, .unset, .unset, .unset, .unset, .unset, .unset, .unset, .unset, .unset, .unset, .unset, .unset, .unset, .unset] at_38 rfl rfl ?_
      refine Go.iload_n 41 at_40 rfl rfl ?_
      refine Go.bipush 43 (8) at_41 (by decide) rfl ?_
      refine Go.iushr 44 at_43 rfl ?_
      refine Go.bipush 46 (63) at_44 (by decide) rfl ?_
      refine Go.iand 47 at_46 rfl ?_
      refine Go.i2l 48 at_47 rfl ?_
      refine Go.nameJ (fun v700 e701 => ?_)
      refine Go.lstore 50 #[.val (.int i0), .val (.long i1), .second, .val (.long i2), .second, .val (.long i3), .second, .val (.long i4), .second, .val (.int (1 : Int32)), .val (.ref r_DOMAIN), .val (.int v698), .val (.long v700), .second, .unset, .unset, .unset, .unset, .unset, .unset, .unset, .unset, .unset, .unset, .unset, .unset, .unset, .unset, .unset] at_48 rfl rfl ?_
      refine Go.iload 52 at_50 rfl rfl ?_
      refine Go.if_eq 64 55 at_52 (by decide) (by decide) rfl (fun c => absurd c (by decide)) (fun _ => ?_)
      refine Go.ldc2_w 58 at_55 (tw93 hw) rfl ?_
      refine Go.lload 60 at_58 rfl rfl ?_
      refine Go.ladd 61 at_60 rfl ?_
      refine Go.goto 68 at_61 (by decide) (by decide) ?_
      refine Go.nameJ (fun v703 e704 => ?_)
      refine Go.lstore 70 #[.val (.int i0), .val (.long i1), .second, .val (.long i2), .second, .val (.long i3), .second, .val (.long i4), .second, .val (.int (1 : Int32)), .val (.ref r_DOMAIN), .val (.int v698), .val (.long v700), .second, .val (.long v703), .second, .unset, .unset, .unset, .unset, .unset, .unset, .unset, .unset, .unset, .unset, .unset, .unset, .unset] at_68 rfl rfl ?_
      refine Go.lconst 71 (1) at_70 (by decide) rfl ?_
      refine Go.lload 73 at_71 rfl rfl ?_
      refine Go.ldc2_w 76 at_73 (tw3 hw) rfl ?_
      refine Go.land 77 at_76 rfl ?_
      refine Go.callSJp [.long (1 : Int64), .long (i4 &&& (9223372036854775807 : Int64))] [] 80 at_77 (tw4 hw) (tw5 hw) (tw6 hw) (tw7 hw) pl1 (by decide) (lenOf pd1 rfl) rfl (fun m => ef_k_maxJ m (1 : Int64) (i4 &&& (9223372036854775807 : Int64))) _ (k_maxJ hw h hz (1 : Int64) ((i4 &&& (9223372036854775807 : Int64)))) 0 rfl (Nat.le_of_eq rfl) (by decide) (by decide) (by decide) (by decide) rfl ?_
      refine Go.nameJ (fun v708 e709 => ?_)
      refine Go.lstore 82 #[.val (.int i0), .val (.long i1), .second, .val (.long i2), .second, .val (.long i3), .second, .val (.long i4), .second, .val (.int (1 : Int32)), .val (.ref r_DOMAIN), .val (.int v698), .val (.long v700), .second, .val (.long v703), .second, .val (.long v708), .second, .unset, .unset, .unset, .unset, .unset, .unset, .unset, .unset, .unset, .unset, .unset] at_80 rfl rfl ?_
      refine Go.lload_n 83 at_82 rfl rfl ?_
      refine Go.ldc2_w 86 at_83 (tw3 hw) rfl ?_
      refine Go.land 87 at_86 rfl ?_
      refine Go.nameJ (fun v710 e711 => ?_)
      refine Go.lstore 89 #[.val (.int i0), .val (.long i1), .second, .val (.long i2), .second, .val (.long i3), .second, .val (.long i4), .second, .val (.int (1 : Int32)), .val (.ref r_DOMAIN), .val (.int v698), .val (.long v700), .second, .val (.long v703), .second, .val (.long v708), .second, .val (.long v710), .second, .unset, .unset, .unset, .unset, .unset, .unset, .unset, .unset, .unset] at_87 rfl rfl ?_
      obtain ⟨oh3, oh4⟩ := own_hash i0 v698 e699
      obtain ⟨oh2, ob3, ob4⟩ := own_bitsv (own_low i0 v700 e701) (Or.inl ⟨rfl, rfl⟩) e704
      have oh1 := own_exp i4 v708 e709
      have oad := own_nonneg i1 v710 e711
      refine Go.iconst 90 (1) at_89 (by decide) rfl ?_
      refine Go.newJ (cap := 1) (xs := [0]) 92 at_90 (tw8 hw) rfl (by decide) (by decide) (by decide) rfl (by decide) (by decide) rfl (fun a712 h713 q714 E715 A716 => ?_)
      have ne717 : r_ADDRESS ≠ a712 := fun e => absurd fa1.lt (by rw [e, q714]; exact Nat.lt_irrefl _)
      have ne718 : r_DOMAIN ≠ a712 := fun e => absurd fa3.lt (by rw [e, q714]; exact Nat.lt_irrefl _)
      have ge719 : Z.heap.size ≤ a712 := (Eq.symm q714) ▸ hz
      have f720 : Sta Z h713 "com/example/dense_bloom/densebloom/model/EntryKind" "ADDRESS" "Lcom/example/dense_bloom/densebloom/model/EntryKind;" (.ref r_ADDRESS) := fa0.ext E715
      have f721 : Exa Z h713 r_ADDRESS "com/example/dense_bloom/densebloom/model/EntryKind" := fa1.ext E715
      have f722 : Sta Z h713 "com/example/dense_bloom/densebloom/model/EntryKind" "DOMAIN" "Lcom/example/dense_bloom/densebloom/model/EntryKind;" (.ref r_DOMAIN) := fa2.ext E715
      have f723 : Exa Z h713 r_DOMAIN "com/example/dense_bloom/densebloom/model/EntryKind" := fa3.ext E715
      have zs724 : Z.heap.size ≤ h713.size := Nat.le_trans hz E715.1
      refine Go.astore 94 #[.val (.int i0), .val (.long i1), .second, .val (.long i2), .second, .val (.long i3), .second, .val (.long i4), .second, .val (.int (1 : Int32)), .val (.ref r_DOMAIN), .val (.int v698), .val (.long v700), .second, .val (.long v703), .second, .val (.long v708), .second, .val (.long v710), .second, .val (.ref a712), .unset, .unset, .unset, .unset, .unset, .unset, .unset, .unset] at_92 rfl rfl rfl ?_
      refine Go.iconst 95 (4) at_94 (by decide) rfl ?_
      refine Go.newJ (cap := 4) (xs := [0, 0, 0, 0]) 97 at_95 (tw8 hw) rfl (by decide) (by decide) (by decide) rfl (by decide) (by decide) rfl (fun a725 h726 q727 E728 A729 => ?_)
      have ne730 : r_ADDRESS ≠ a725 := fun e => absurd f721.lt (by rw [e, q727]; exact Nat.lt_irrefl _)
      have ne731 : r_DOMAIN ≠ a725 := fun e => absurd f723.lt (by rw [e, q727]; exact Nat.lt_irrefl _)
      have ne732 : a712 ≠ a725 := fun e => absurd A716.lt (by rw [e, q727]; exact Nat.lt_irrefl _)
      have ge733 : Z.heap.size ≤ a725 := (Eq.symm q727) ▸ zs724
      have f734 : Sta Z h726 "com/example/dense_bloom/densebloom/model/EntryKind" "ADDRESS" "Lcom/example/dense_bloom/densebloom/model/EntryKind;" (.ref r_ADDRESS) := f720.ext E728
      have f735 : Exa Z h726 r_ADDRESS "com/example/dense_bloom/densebloom/model/EntryKind" := f721.ext E728
      have f736 : Sta Z h726 "com/example/dense_bloom/densebloom/model/EntryKind" "DOMAIN" "Lcom/example/dense_bloom/densebloom/model/EntryKind;" (.ref r_DOMAIN) := f722.ext E728
      have f737 : Exa Z h726 r_DOMAIN "com/example/dense_bloom/densebloom/model/EntryKind" := f723.ext E728
      have f738 : Arj Z h726 a712 [0] := A716.ext E728
      have zs739 : Z.heap.size ≤ h726.size := Nat.le_trans zs724 E728.1
      refine Go.astore 99 #[.val (.int i0), .val (.long i1), .second, .val (.long i2), .second, .val (.long i3), .second, .val (.long i4), .second, .val (.int (1 : Int32)), .val (.ref r_DOMAIN), .val (.int v698), .val (.long v700), .second, .val (.long v703), .second, .val (.long v708), .second, .val (.long v710), .second, .val (.ref a712), .val (.ref a725), .unset, .unset, .unset, .unset, .unset, .unset, .unset] at_97 rfl rfl rfl ?_
      refine Go.aload 101 at_99 rfl rfl rfl ?_
      refine Go.iconst 102 (0) at_101 (by decide) rfl ?_
      refine Go.lload_n 103 at_102 rfl rfl ?_
      refine Go.lastore (0) ([i2]) 104 at_103 f738 (by decide) (by decide) (by decide : (0 : Nat) < 1) rfl ge719 rfl (fun h740 W741 A742 => ?_)
      have f743 : Sta Z h740 "com/example/dense_bloom/densebloom/model/EntryKind" "ADDRESS" "Lcom/example/dense_bloom/densebloom/model/EntryKind;" (.ref r_ADDRESS) := f734.wr W741
      have f744 : Exa Z h740 r_ADDRESS "com/example/dense_bloom/densebloom/model/EntryKind" := f735.wr W741
      have f745 : Sta Z h740 "com/example/dense_bloom/densebloom/model/EntryKind" "DOMAIN" "Lcom/example/dense_bloom/densebloom/model/EntryKind;" (.ref r_DOMAIN) := f736.wr W741
      have f746 : Exa Z h740 r_DOMAIN "com/example/dense_bloom/densebloom/model/EntryKind" := f737.wr W741
      have f747 : Arj Z h740 a725 [0, 0, 0, 0] := A729.other W741 (Ne.symm ne732)
      have zs748 : Z.heap.size ≤ h740.size := W741.size ▸ zs739
      refine Go.aload 106 at_104 rfl rfl rfl ?_
      refine Go.iconst 107 (0) at_106 (by decide) rfl ?_
      refine Go.lload_n 108 at_107 rfl rfl ?_
      refine Go.lastore (0) ([i2, 0, 0, 0]) 109 at_108 f747 (by decide) (by decide) (by decide : (0 : Nat) < 4) rfl ge733 rfl (fun h749 W750 A751 => ?_)
      have f752 : Sta Z h749 "com/example/dense_bloom/densebloom/model/EntryKind" "ADDRESS" "Lcom/example/dense_bloom/densebloom/model/EntryKind;" (.ref r_ADDRESS) := f743.wr W750
      have f753 : Exa Z h749 r_ADDRESS "com/example/dense_bloom/densebloom/model/EntryKind" := f744.wr W750
      have f754 : Sta Z h749 "com/example/dense_bloom/densebloom/model/EntryKind" "DOMAIN" "Lcom/example/dense_bloom/densebloom/model/EntryKind;" (.ref r_DOMAIN) := f745.wr W750
      have f755 : Exa Z h749 r_DOMAIN "com/example/dense_bloom/densebloom/model/EntryKind" := f746.wr W750
      have f756 : Arj Z h749 a712 [i2] := A742.other W750 ne732
      have zs757 : Z.heap.size ≤ h749.size := W750.size ▸ zs748
      refine Go.aload 111 at_109 rfl rfl rfl ?_
      refine Go.iconst 112 (1) at_111 (by decide) rfl ?_
      refine Go.lload 114 at_112 rfl rfl ?_
      refine Go.lastore (1) ([i2, i3, 0, 0]) 115 at_114 A751 (by decide) (by decide) (by decide : (1 : Nat) < 4) rfl ge733 rfl (fun h758 W759 A760 => ?_)
      have f761 : Sta Z h758 "com/example/dense_bloom/densebloom/model/EntryKind" "ADDRESS" "Lcom/example/dense_bloom/densebloom/model/EntryKind;" (.ref r_ADDRESS) := f752.wr W759
      have f762 : Exa Z h758 r_ADDRESS "com/example/dense_bloom/densebloom/model/EntryKind" := f753.wr W759
      have f763 : Sta Z h758 "com/example/dense_bloom/densebloom/model/EntryKind" "DOMAIN" "Lcom/example/dense_bloom/densebloom/model/EntryKind;" (.ref r_DOMAIN) := f754.wr W759
      have f764 : Exa Z h758 r_DOMAIN "com/example/dense_bloom/densebloom/model/EntryKind" := f755.wr W759
      have f765 : Arj Z h758 a712 [i2] := f756.other W759 ne732
      have zs766 : Z.heap.size ≤ h758.size := W759.size ▸ zs757
      refine Go.aload 117 at_115 rfl rfl rfl ?_
      refine Go.iconst 118 (2) at_117 (by decide) rfl ?_
      refine Go.lload_n 119 at_118 rfl rfl ?_
      refine Go.lload 121 at_119 rfl rfl ?_
      refine Go.lxor 122 at_121 rfl ?_
      refine Go.nameJ (fun v767 e768 => ?_)
      refine Go.lastore (2) ([i2, i3, v767, 0]) 123 at_122 A760 (by decide) (by decide) (by decide : (2 : Nat) < 4) rfl ge733 rfl (fun h769 W770 A771 => ?_)
      have f772 : Sta Z h769 "com/example/dense_bloom/densebloom/model/EntryKind" "ADDRESS" "Lcom/example/dense_bloom/densebloom/model/EntryKind;" (.ref r_ADDRESS) := f761.wr W770
      have f773 : Exa Z h769 r_ADDRESS "com/example/dense_bloom/densebloom/model/EntryKind" := f762.wr W770
      have f774 : Sta Z h769 "com/example/dense_bloom/densebloom/model/EntryKind" "DOMAIN" "Lcom/example/dense_bloom/densebloom/model/EntryKind;" (.ref r_DOMAIN) := f763.wr W770
      have f775 : Exa Z h769 r_DOMAIN "com/example/dense_bloom/densebloom/model/EntryKind" := f764.wr W770
      have f776 : Arj Z h769 a712 [i2] := f765.other W770 ne732
      have zs777 : Z.heap.size ≤ h769.size := W770.size ▸ zs766
      refine Go.aload 125 at_123 rfl rfl rfl ?_
      refine Go.iconst 126 (3) at_125 (by decide) rfl ?_
      refine Go.lload 128 at_126 rfl rfl ?_
      refine Go.ldc2_w 131 at_128 (tw9 hw) rfl ?_
      refine Go.lxor 132 at_131 rfl ?_
      refine Go.nameJ (fun v778 e779 => ?_)
      refine Go.lastore (3) ([i2, i3, v767, v778]) 133 at_132 A771 (by decide) (by decide) (by decide : (3 : Nat) < 4) rfl ge733 rfl (fun h780 W781 A782 => ?_)
      have f783 : Sta Z h780 "com/example/dense_bloom/densebloom/model/EntryKind" "ADDRESS" "Lcom/example/dense_bloom/densebloom/model/EntryKind;" (.ref r_ADDRESS) := f772.wr W781
      have f784 : Exa Z h780 r_ADDRESS "com/example/dense_bloom/densebloom/model/EntryKind" := f773.wr W781
      have f785 : Sta Z h780 "com/example/dense_bloom/densebloom/model/EntryKind" "DOMAIN" "Lcom/example/dense_bloom/densebloom/model/EntryKind;" (.ref r_DOMAIN) := f774.wr W781
      have f786 : Exa Z h780 r_DOMAIN "com/example/dense_bloom/densebloom/model/EntryKind" := f775.wr W781
      have f787 : Arj Z h780 a712 [i2] := f776.other W781 ne732
      have zs788 : Z.heap.size ≤ h780.size := W781.size ▸ zs777
      refine Go.iload 135 at_133 rfl rfl ?_
      refine Go.if_eq 143 138 at_135 (by decide) (by decide) rfl (fun c => absurd c (by decide)) (fun _ => ?_)
      refine Go.aload 140 at_138 rfl rfl rfl ?_
      refine Go.goto 145 at_140 (by decide) (by decide) ?_
      refine Go.astore 147 #[.val (.int i0), .val (.long i1), .second, .val (.long i2), .second, .val (.long i3), .second, .val (.long i4), .second, .val (.int (1 : Int32)), .val (.ref r_DOMAIN), .val (.int v698), .val (.long v700), .second, .val (.long v703), .second, .val (.long v708), .second, .val (.long v710), .second, .val (.ref a712), .val (.ref a725), .val (.ref a725), .unset, .unset, .unset, .unset, .unset, .unset] at_145 rfl rfl rfl ?_
      refine Go.iload 149 at_147 rfl rfl ?_
      refine Go.if_eq 156 152 at_149 (by decide) (by decide) rfl (fun c => absurd c (by decide)) (fun _ => ?_)
      refine Go.iconst 153 (4) at_152 (by decide) rfl ?_
      refine Go.goto 157 at_153 (by decide) (by decide) ?_
      refine Go.istore 159 #[.val (.int i0), .val (.long i1), .second, .val (.long i2), .second, .val (.long i3), .second, .val (.long i4), .second, .val (.int (1 : Int32)), .val (.ref r_DOMAIN), .val (.int v698), .val (.long v700), .second, .val (.long v703), .second, .val (.long v708), .second, .val (.long v710), .second, .val (.ref a712), .val (.ref a725), .val (.ref a725), .val (.int (4 : Int32)), .unset, .unset, .unset, .unset, .unset] at_157 rfl rfl ?_
      refine Go.iload 161 at_159 rfl rfl ?_
      refine Go.if_eq 173 164 at_161 (by decide) (by decide) rfl (fun c => absurd c (by decide)) (fun _ => ?_)
      refine Go.lload 166 at_164 rfl rfl ?_
      refine Go.ldc2_w 169 at_166 (tw9 hw) rfl ?_
      refine Go.lxor 170 at_169 rfl ?_
      refine Go.goto 174 at_170 (by decide) (by decide) ?_
      refine Go.nameJ (fun v792 e793 => ?_)
      refine Go.lstore 176 #[.val (.int i0), .val (.long i1), .second, .val (.long i2), .second, .val (.long i3), .second, .val (.long i4), .second, .val (.int (1 : Int32)), .val (.ref r_DOMAIN), .val (.int v698), .val (.long v700), .second, .val (.long v703), .second, .val (.long v708), .second, .val (.long v710), .second, .val (.ref a712), .val (.ref a725), .val (.ref a725), .val (.int (4 : Int32)), .val (.long v792), .second, .unset, .unset, .unset] at_174 rfl rfl ?_
      refine Go.new 179 at_176 (tw10 hw) (tw11 hw) (tw12 hw) (by decide) (by decide) rfl (fun a794 h795 q796 E797 A798 D799 => ?_)
      have ne800 : r_ADDRESS ≠ a794 := fun e => absurd f784.lt (by rw [e, q796]; exact Nat.lt_irrefl _)
      have ne801 : r_DOMAIN ≠ a794 := fun e => absurd f786.lt (by rw [e, q796]; exact Nat.lt_irrefl _)
      have ne802 : a712 ≠ a794 := fun e => absurd f787.lt (by rw [e, q796]; exact Nat.lt_irrefl _)
      have ne803 : a725 ≠ a794 := fun e => absurd A782.lt (by rw [e, q796]; exact Nat.lt_irrefl _)
      have ge804 : Z.heap.size ≤ a794 := (Eq.symm q796) ▸ zs788
      have f805 : Sta Z h795 "com/example/dense_bloom/densebloom/model/EntryKind" "ADDRESS" "Lcom/example/dense_bloom/densebloom/model/EntryKind;" (.ref r_ADDRESS) := f783.ext E797
      have f806 : Exa Z h795 r_ADDRESS "com/example/dense_bloom/densebloom/model/EntryKind" := f784.ext E797
      have f807 : Sta Z h795 "com/example/dense_bloom/densebloom/model/EntryKind" "DOMAIN" "Lcom/example/dense_bloom/densebloom/model/EntryKind;" (.ref r_DOMAIN) := f785.ext E797
      have f808 : Exa Z h795 r_DOMAIN "com/example/dense_bloom/densebloom/model/EntryKind" := f786.ext E797
      have f809 : Arj Z h795 a712 [i2] := f787.ext E797
      have f810 : Arj Z h795 a725 [i2, i3, v767, v778] := A782.ext E797
      have zs811 : Z.heap.size ≤ h795.size := Nat.le_trans zs788 E797.1
      have f812 : Fld Z h795 a794 "com/example/dense_bloom/densebloom/model/FilterSize" "expectedEntries" "J" (.long (0 : Int64)) := D799 (Or.inr (tw34 hw)) (ty := .long) (by decide)
      have f813 : Fld Z h795 a794 "com/example/dense_bloom/densebloom/model/FilterSize" "bits" "J" (.long (0 : Int64)) := D799 (Or.inr (tw36 hw)) (ty := .long) (by decide)
      have f814 : Fld Z h795 a794 "com/example/dense_bloom/densebloom/model/FilterSize" "hashes" "I" (.int (0 : Int32)) := D799 (Or.inr (tw38 hw)) (ty := .int) (by decide)
      refine Go.dup 180 at_179 rfl rfl ?_
      refine Go.lload 182 at_180 rfl rfl ?_
      refine Go.lload 184 at_182 rfl rfl ?_
      refine Go.iload 186 at_184 rfl rfl ?_
      refine Go.callC [.long v708, .long v703, .int v698] [.ref a794] 189 at_186 rfl (tw13 hw) (tw14 hw) (tw12 hw) (tw15 hw) pl2 (by decide) (lenOf pd2 rfl) rfl (fun m => ef_k_init m a794 v708 v703 v698) _ (k_init hw h795 zs811 a794 v708 v703 v698 A798 f812 f813 f814 oh1 oh2 oh3 oh4 ge804) 1 rfl (Nat.le_of_eq rfl) (by decide) (by decide) (by decide) (by decide) rfl ?_
      rintro h816 ⟨K817, f818, f819⟩
      have f820 : Exa Z h816 r_ADDRESS "com/example/dense_bloom/densebloom/model/EntryKind" := f806.keep K817
      have f821 : Exa Z h816 r_DOMAIN "com/example/dense_bloom/densebloom/model/EntryKind" := f808.keep K817
      have f822 : Arj Z h816 a712 [i2] := f809.keep K817 (ninS ne802 nin0)
      have f823 : Arj Z h816 a725 [i2, i3, v767, v778] := f810.keep K817 (ninS ne803 nin0)
      have zs824 : Z.heap.size ≤ h816.size := Nat.le_trans zs811 K817.1
      refine Go.astore 191 #[.val (.int i0), .val (.long i1), .second, .val (.long i2), .second, .val (.long i3), .second, .val (.long i4), .second, .val (.int (1 : Int32)), .val (.ref r_DOMAIN), .val (.int v698), .val (.long v700), .second, .val (.long v703), .second, .val (.long v708), .second, .val (.long v710), .second, .val (.ref a712), .val (.ref a725), .val (.ref a725), .val (.int (4 : Int32)), .val (.long v792), .second, .val (.ref a794), .unset, .unset] at_189 rfl rfl rfl ?_
      refine Go.aload 193 at_191 rfl rfl rfl ?_
      refine Go.aload 195 at_193 rfl rfl rfl ?_
      refine Go.lload 197 at_195 rfl rfl ?_
      refine Go.aload 199 at_197 rfl rfl rfl ?_
      refine Go.callSR [.ref a794, .ref r_DOMAIN, .long v710, .ref a725] [] 202 at_199 (tw39 hw) (tw40 hw) (tw41 hw) (tw42 hw) pl8 (by decide) (lenOf pd8 rfl) rfl (fun m => ef_k_fw4 m a794 r_DOMAIN v710 a725) _ (k_fw4 hw h816 zs824 a794 r_DOMAIN v710 a725 f818 f819 f823 oad oh2 ob3 ob4) 0 rfl (Nat.le_of_eq rfl) (by decide) (by decide) (by decide) (by decide) rfl ?_
      rintro z825 h826 ⟨a828, rfl, g829, K827, f830, f831, f832, f833, f834⟩
      have ne835 : r_ADDRESS ≠ a828 := Nat.ne_of_lt (Nat.lt_of_lt_of_le f820.lt g829)
      have ne836 : r_DOMAIN ≠ a828 := Nat.ne_of_lt (Nat.lt_of_lt_of_le f821.lt g829)
      have ne837 : a712 ≠ a828 := Nat.ne_of_lt (Nat.lt_of_lt_of_le f822.lt g829)
      have ne838 : a725 ≠ a828 := Nat.ne_of_lt (Nat.lt_of_lt_of_le f823.lt g829)
      have ne839 : a794 ≠ a828 := Nat.ne_of_lt (Nat.lt_of_lt_of_le f818.lt g829)
      have ge840 : Z.heap.size ≤ a828 := Nat.le_trans zs824 g829
      have f841 : Exa Z h826 r_ADDRESS "com/example/dense_bloom/densebloom/model/EntryKind" := f820.keep K827
      have f842 : Exa Z h826 r_DOMAIN "com/example/dense_bloom/densebloom/model/EntryKind" := f821.keep K827
      have f843 : Arj Z h826 a712 [i2] := f822.keep K827 nin0
      have f844 : Arj Z h826 a725 [i2, i3, v767, v778] := f823.keep K827 nin0
      have f845 : Exa Z h826 a794 "com/example/dense_bloom/densebloom/model/FilterSize" := f818.keep K827
      have f846 : Fld Z h826 a794 "com/example/dense_bloom/densebloom/model/FilterSize" "bits" "J" (.long v703) := f819.keep K827 nin0
      have zs847 : Z.heap.size ≤ h826.size := Nat.le_trans zs824 K827.1
      refine Go.astore 204 #[.val (.int i0), .val (.long i1), .second, .val (.long i2), .second, .val (.long i3), .second, .val (.long i4), .second, .val (.int (1 : Int32)), .val (.ref r_DOMAIN), .val (.int v698), .val (.long v700), .second, .val (.long v703), .second, .val (.long v708), .second, .val (.long v710), .second, .val (.ref a712), .val (.ref a725), .val (.ref a725), .val (.int (4 : Int32)), .val (.long v792), .second, .val (.ref a794), .val (.ref a828), .unset] at_202 rfl rfl rfl ?_
      refine Go.aload 206 at_204 rfl rfl rfl ?_
      refine Go.callVRp [] [] 209 at_206 (tw68 hw) (tw69 hw) (tw71 hw) (tw70 hw) (tw41 hw) (tw72 hw) f830 pl12 (by decide) (lenOf pd12 rfl) rfl (fun m => ef_k_gsize m a828) _ (k_gsize hw h826 zs847 a828 f831) 0 rfl (Nat.le_of_eq rfl) (by decide) (by decide) (by decide) (by decide) rfl ?_
      refine Go.aload 211 at_209 rfl rfl rfl ?_
      refine Go.acmp 214 true at_211 rfl rfl (by simp) (by decide) (by decide) ?_
      refine Go.aload 216 at_214 rfl rfl rfl ?_
      refine Go.callVRp [] [] 219 at_216 (tw73 hw) (tw74 hw) (tw76 hw) (tw75 hw) (tw41 hw) (tw77 hw) f830 pl13 (by decide) (lenOf pd13 rfl) rfl (fun m => ef_k_gkind m a828) _ (k_gkind hw h826 zs847 a828 f832) 0 rfl (Nat.le_of_eq rfl) (by decide) (by decide) (by decide) (by decide) rfl ?_
      refine Go.aload 221 at_219 rfl rfl rfl ?_
      refine Go.acmp 224 true at_221 rfl rfl (by simp) (by decide) (by decide) ?_
      refine Go.aload 226 at_224 rfl rfl rfl ?_
      refine Go.callVJp [] [] 229 at_226 (tw78 hw) (tw79 hw) (tw81 hw) (tw80 hw) (tw41 hw) (tw82 hw) f830 pl14 (by decide) (lenOf pd14 rfl) rfl (fun m => ef_k_gadded m a828) _ (k_gadded hw h826 zs847 a828 f833) 0 rfl (Nat.le_of_eq rfl) (by decide) (by decide) (by decide) (by decide) rfl ?_
      refine Go.lload 231 at_229 rfl rfl ?_
      refine Go.lcmp 232 at_231 rfl ?_
      refine Go.lcmp_ne 275 235 at_232 (by decide) (by decide) rfl (fun c857 => ?_) (fun c857 => ?_)
      ·
        refine Go.iconst 276 (0) at_275 (by decide) rfl ?_
        refine Go.istore 278 #[.val (.int i0), .val (.long i1), .second, .val (.long i2), .second, .val (.long i3), .second, .val (.long i4), .second, .val (.int (1 : Int32)), .val (.ref r_DOMAIN), .val (.int v698), .val (.long v700), .second, .val (.long v703), .second, .val (.long v708), .second, .val (.long v710), .second, .val (.ref a712), .val (.ref a725), .val (.ref a725), .val (.int (4 : Int32)), .val (.long v792), .second, .val (.ref a794), .val (.ref a828), .val (.int (0 : Int32))] at_276 rfl rfl ?_
        refine Go.aload 280 at_278 rfl rfl rfl ?_
        refine Go.iconst 281 (0) at_280 (by decide) rfl ?_
        refine Go.lload_n 282 at_281 rfl rfl ?_
        refine Go.ldc2_w 285 at_282 (tw9 hw) rfl ?_
        refine Go.lxor 286 at_285 rfl ?_
        refine Go.nameJ (fun v858 e859 => ?_)
        refine Go.lastore (0) ([v858, i3, v767, v778]) 287 at_286 f844 (by decide) (by decide) (by decide : (0 : Nat) < 4) rfl ge733 rfl (fun h860 W861 A862 => ?_)
        have f863 : Exa Z h860 r_ADDRESS "com/example/dense_bloom/densebloom/model/EntryKind" := f841.wr W861
        have f864 : Exa Z h860 r_DOMAIN "com/example/dense_bloom/densebloom/model/EntryKind" := f842.wr W861
        have f865 : Arj Z h860 a712 [i2] := f843.other W861 ne732
        have f866 : Exa Z h860 a794 "com/example/dense_bloom/densebloom/model/FilterSize" := f845.wr W861
        have f867 : Fld Z h860 a794 "com/example/dense_bloom/densebloom/model/FilterSize" "bits" "J" (.long v703) := f846.other W861 (Or.inl (Ne.symm ne803))
        have f868 : Exa Z h860 a828 "com/example/dense_bloom/densebloom/model/BloomFilter" := f830.wr W861
        have f869 : Fld Z h860 a828 "com/example/dense_bloom/densebloom/model/BloomFilter" "size" "Lcom/example/dense_bloom/densebloom/model/FilterSize;" (.ref a794) := f831.other W861 (Or.inl (Ne.symm ne838))
        have f870 : Fld Z h860 a828 "com/example/dense_bloom/densebloom/model/BloomFilter" "kind" "Lcom/example/dense_bloom/densebloom/model/EntryKind;" (.ref r_DOMAIN) := f832.other W861 (Or.inl (Ne.symm ne838))
        have f871 : Fld Z h860 a828 "com/example/dense_bloom/densebloom/model/BloomFilter" "added" "J" (.long v710) := f833.other W861 (Or.inl (Ne.symm ne838))
        have f872 : Fld Z h860 a828 "com/example/dense_bloom/densebloom/model/BloomFilter" "words" "[J" (.ref a725) := f834.other W861 (Or.inl (Ne.symm ne838))
        have zs873 : Z.heap.size ≤ h860.size := W861.size ▸ zs847
        refine Go.iload 289 at_287 rfl rfl ?_
        refine Go.if_eq 311 292 at_289 (by decide) (by decide) rfl (fun _ => ?_) (fun c => absurd c (by decide))
        refine Go.iconst 312 (0) at_311 (by decide) rfl ?_
        refine Go.nreturn (t := .boolean) (z' := (0 : Int32)) at_312 rfl (by simp) (by decide) (by decide) (by decide) ?_
        exfalso
        first | exact c857 rfl | (subst_vars; exact absurd rfl ‹¬ _›) | exact absurd rfl c857
      ·
        refine Go.aload 237 at_235 rfl rfl rfl ?_
        refine Go.callVIp [] [] 240 at_237 (tw83 hw) (tw84 hw) (tw86 hw) (tw85 hw) (tw41 hw) (tw87 hw) f830 pl15 (by decide) (lenOf pd15 rfl) rfl (fun m => ef_k_gc4 m a828) _ (k_gc4 hw h826 zs847 a828 f834 f844) 0 rfl (Nat.le_of_eq rfl) (by decide) (by decide) (by decide) (by decide) rfl ?_
        refine Go.iload 242 at_240 rfl rfl ?_
        refine Go.icmp_ne 275 245 at_242 (by decide) (by decide) rfl (fun c => absurd c (by decide)) (fun _ => ?_)
        refine Go.aload 247 at_245 rfl rfl rfl ?_
        refine Go.iconst 248 (0) at_247 (by decide) rfl ?_
        refine Go.callVJp [.int (0 : Int32)] [] 251 at_248 (tw88 hw) (tw89 hw) (tw91 hw) (tw90 hw) (tw41 hw) (tw92 hw) f830 pl16 (by decide) (lenOf pd16 rfl) rfl (fun m => ef_k_w4_0 m a828 (0 : Int32)) _ (k_w4_0 hw h826 zs847 a828 (0 : Int32) f834 f844 (by decide) (by decide)) 0 rfl (Nat.le_of_eq rfl) (by decide) (by decide) (by decide) (by decide) rfl ?_
        refine Go.lload_n 252 at_251 rfl rfl ?_
        refine Go.lcmp 253 at_252 rfl ?_
        refine Go.lcmp_ne 275 256 at_253 (by decide) (by decide) rfl (fun c882 => ?_) (fun c882 => ?_)
        ·
          refine Go.iconst 276 (0) at_275 (by decide) rfl ?_
          refine Go.istore 278 #[.val (.int i0), .val (.long i1), .second, .val (.long i2), .second, .val (.long i3), .second, .val (.long i4), .second, .val (.int (1 : Int32)), .val (.ref r_DOMAIN), .val (.int v698), .val (.long v700), .second, .val (.long v703), .second, .val (.long v708), .second, .val (.long v710), .second, .val (.ref a712), .val (.ref a725), .val (.ref a725), .val (.int (4 : Int32)), .val (.long v792), .second, .val (.ref a794), .val (.ref a828), .val (.int (0 : Int32))] at_276 rfl rfl ?_
          refine Go.aload 280 at_278 rfl rfl rfl ?_
          refine Go.iconst 281 (0) at_280 (by decide) rfl ?_
          refine Go.lload_n 282 at_281 rfl rfl ?_
          refine Go.ldc2_w 285 at_282 (tw9 hw) rfl ?_
          refine Go.lxor 286 at_285 rfl ?_
          refine Go.nameJ (fun v883 e884 => ?_)
          refine Go.lastore (0) ([v883, i3, v767, v778]) 287 at_286 f844 (by decide) (by decide) (by decide : (0 : Nat) < 4) rfl ge733 rfl (fun h885 W886 A887 => ?_)
          have f888 : Exa Z h885 r_ADDRESS "com/example/dense_bloom/densebloom/model/EntryKind" := f841.wr W886
          have f889 : Exa Z h885 r_DOMAIN "com/example/dense_bloom/densebloom/model/EntryKind" := f842.wr W886
          have f890 : Arj Z h885 a712 [i2] := f843.other W886 ne732
          have f891 : Exa Z h885 a794 "com/example/dense_bloom/densebloom/model/FilterSize" := f845.wr W886
          have f892 : Fld Z h885 a794 "com/example/dense_bloom/densebloom/model/FilterSize" "bits" "J" (.long v703) := f846.other W886 (Or.inl (Ne.symm ne803))
          have f893 : Exa Z h885 a828 "com/example/dense_bloom/densebloom/model/BloomFilter" := f830.wr W886
          have f894 : Fld Z h885 a828 "com/example/dense_bloom/densebloom/model/BloomFilter" "size" "Lcom/example/dense_bloom/densebloom/model/FilterSize;" (.ref a794) := f831.other W886 (Or.inl (Ne.symm ne838))
          have f895 : Fld Z h885 a828 "com/example/dense_bloom/densebloom/model/BloomFilter" "kind" "Lcom/example/dense_bloom/densebloom/model/EntryKind;" (.ref r_DOMAIN) := f832.other W886 (Or.inl (Ne.symm ne838))
          have f896 : Fld Z h885 a828 "com/example/dense_bloom/densebloom/model/BloomFilter" "added" "J" (.long v710) := f833.other W886 (Or.inl (Ne.symm ne838))
          have f897 : Fld Z h885 a828 "com/example/dense_bloom/densebloom/model/BloomFilter" "words" "[J" (.ref a725) := f834.other W886 (Or.inl (Ne.symm ne838))
          have zs898 : Z.heap.size ≤ h885.size := W886.size ▸ zs847
          refine Go.iload 289 at_287 rfl rfl ?_
          refine Go.if_eq 311 292 at_289 (by decide) (by decide) rfl (fun _ => ?_) (fun c => absurd c (by decide))
          refine Go.iconst 312 (0) at_311 (by decide) rfl ?_
          refine Go.nreturn (t := .boolean) (z' := (0 : Int32)) at_312 rfl (by simp) (by decide) (by decide) (by decide) ?_
          exfalso
          first | exact c882 rfl | (subst_vars; exact absurd rfl ‹¬ _›) | exact absurd rfl c882
        ·
          refine Go.aload 258 at_256 rfl rfl rfl ?_
          refine Go.iload 260 at_258 rfl rfl ?_
          refine Go.iconst 261 (1) at_260 (by decide) rfl ?_
          refine Go.isub 262 at_261 rfl ?_
          refine Go.callVJp [.int ((4 : Int32) - (1 : Int32))] [] 265 at_262 (tw88 hw) (tw89 hw) (tw91 hw) (tw90 hw) (tw41 hw) (tw92 hw) f830 pl16 (by decide) (lenOf pd16 rfl) rfl (fun m => ef_k_w4_3 m a828 ((4 : Int32) - (1 : Int32))) _ (k_w4_3 hw h826 zs847 a828 (((4 : Int32) - (1 : Int32))) f834 f844 (by decide) (by decide)) 0 rfl (Nat.le_of_eq rfl) (by decide) (by decide) (by decide) (by decide) rfl ?_
          refine Go.lload 267 at_265 rfl rfl ?_
          refine Go.lcmp 268 at_267 rfl ?_
          refine Go.lcmp_ne 275 271 at_268 (by decide) (by decide) rfl (fun c903 => ?_) (fun c903 => ?_)
          ·
            refine Go.iconst 276 (0) at_275 (by decide) rfl ?_
            refine Go.istore 278 #[.val (.int i0), .val (.long i1), .second, .val (.long i2), .second, .val (.long i3), .second, .val (.long i4), .second, .val (.int (1 : Int32)), .val (.ref r_DOMAIN), .val (.int v698), .val (.long v700), .second, .val (.long v703), .second, .val (.long v708), .second, .val (.long v710), .second, .val (.ref a712), .val (.ref a725), .val (.ref a725), .val (.int (4 : Int32)), .val (.long v792), .second, .val (.ref a794), .val (.ref a828), .val (.int (0 : Int32))] at_276 rfl rfl ?_
            refine Go.aload 280 at_278 rfl rfl rfl ?_
            refine Go.iconst 281 (0) at_280 (by decide) rfl ?_
            refine Go.lload_n 282 at_281 rfl rfl ?_
            refine Go.ldc2_w 285 at_282 (tw9 hw) rfl ?_
            refine Go.lxor 286 at_285 rfl ?_
            refine Go.nameJ (fun v904 e905 => ?_)
            refine Go.lastore (0) ([v904, i3, v767, v778]) 287 at_286 f844 (by decide) (by decide) (by decide : (0 : Nat) < 4) rfl ge733 rfl (fun h906 W907 A908 => ?_)
            have f909 : Exa Z h906 r_ADDRESS "com/example/dense_bloom/densebloom/model/EntryKind" := f841.wr W907
            have f910 : Exa Z h906 r_DOMAIN "com/example/dense_bloom/densebloom/model/EntryKind" := f842.wr W907
            have f911 : Arj Z h906 a712 [i2] := f843.other W907 ne732
            have f912 : Exa Z h906 a794 "com/example/dense_bloom/densebloom/model/FilterSize" := f845.wr W907
            have f913 : Fld Z h906 a794 "com/example/dense_bloom/densebloom/model/FilterSize" "bits" "J" (.long v703) := f846.other W907 (Or.inl (Ne.symm ne803))
            have f914 : Exa Z h906 a828 "com/example/dense_bloom/densebloom/model/BloomFilter" := f830.wr W907
            have f915 : Fld Z h906 a828 "com/example/dense_bloom/densebloom/model/BloomFilter" "size" "Lcom/example/dense_bloom/densebloom/model/FilterSize;" (.ref a794) := f831.other W907 (Or.inl (Ne.symm ne838))
            have f916 : Fld Z h906 a828 "com/example/dense_bloom/densebloom/model/BloomFilter" "kind" "Lcom/example/dense_bloom/densebloom/model/EntryKind;" (.ref r_DOMAIN) := f832.other W907 (Or.inl (Ne.symm ne838))
            have f917 : Fld Z h906 a828 "com/example/dense_bloom/densebloom/model/BloomFilter" "added" "J" (.long v710) := f833.other W907 (Or.inl (Ne.symm ne838))
            have f918 : Fld Z h906 a828 "com/example/dense_bloom/densebloom/model/BloomFilter" "words" "[J" (.ref a725) := f834.other W907 (Or.inl (Ne.symm ne838))
            have zs919 : Z.heap.size ≤ h906.size := W907.size ▸ zs847
            refine Go.iload 289 at_287 rfl rfl ?_
            refine Go.if_eq 311 292 at_289 (by decide) (by decide) rfl (fun _ => ?_) (fun c => absurd c (by decide))
            refine Go.iconst 312 (0) at_311 (by decide) rfl ?_
            refine Go.nreturn (t := .boolean) (z' := (0 : Int32)) at_312 rfl (by simp) (by decide) (by decide) (by decide) ?_
            exfalso
            first | exact c903 rfl | (subst_vars; exact absurd rfl ‹¬ _›) | exact absurd rfl c903
          ·
            refine Go.iconst 272 (1) at_271 (by decide) rfl ?_
            refine Go.goto 276 at_272 (by decide) (by decide) ?_
            refine Go.istore 278 #[.val (.int i0), .val (.long i1), .second, .val (.long i2), .second, .val (.long i3), .second, .val (.long i4), .second, .val (.int (1 : Int32)), .val (.ref r_DOMAIN), .val (.int v698), .val (.long v700), .second, .val (.long v703), .second, .val (.long v708), .second, .val (.long v710), .second, .val (.ref a712), .val (.ref a725), .val (.ref a725), .val (.int (4 : Int32)), .val (.long v792), .second, .val (.ref a794), .val (.ref a828), .val (.int (1 : Int32))] at_276 rfl rfl ?_
            refine Go.aload 280 at_278 rfl rfl rfl ?_
            refine Go.iconst 281 (0) at_280 (by decide) rfl ?_
            refine Go.lload_n 282 at_281 rfl rfl ?_
            refine Go.ldc2_w 285 at_282 (tw9 hw) rfl ?_
            refine Go.lxor 286 at_285 rfl ?_
            refine Go.nameJ (fun v921 e922 => ?_)
            refine Go.lastore (0) ([v921, i3, v767, v778]) 287 at_286 f844 (by decide) (by decide) (by decide : (0 : Nat) < 4) rfl ge733 rfl (fun h923 W924 A925 => ?_)
            have f926 : Exa Z h923 r_ADDRESS "com/example/dense_bloom/densebloom/model/EntryKind" := f841.wr W924
            have f927 : Exa Z h923 r_DOMAIN "com/example/dense_bloom/densebloom/model/EntryKind" := f842.wr W924
            have f928 : Arj Z h923 a712 [i2] := f843.other W924 ne732
            have f929 : Exa Z h923 a794 "com/example/dense_bloom/densebloom/model/FilterSize" := f845.wr W924
            have f930 : Fld Z h923 a794 "com/example/dense_bloom/densebloom/model/FilterSize" "bits" "J" (.long v703) := f846.other W924 (Or.inl (Ne.symm ne803))
            have f931 : Exa Z h923 a828 "com/example/dense_bloom/densebloom/model/BloomFilter" := f830.wr W924
            have f932 : Fld Z h923 a828 "com/example/dense_bloom/densebloom/model/BloomFilter" "size" "Lcom/example/dense_bloom/densebloom/model/FilterSize;" (.ref a794) := f831.other W924 (Or.inl (Ne.symm ne838))
            have f933 : Fld Z h923 a828 "com/example/dense_bloom/densebloom/model/BloomFilter" "kind" "Lcom/example/dense_bloom/densebloom/model/EntryKind;" (.ref r_DOMAIN) := f832.other W924 (Or.inl (Ne.symm ne838))
            have f934 : Fld Z h923 a828 "com/example/dense_bloom/densebloom/model/BloomFilter" "added" "J" (.long v710) := f833.other W924 (Or.inl (Ne.symm ne838))
            have f935 : Fld Z h923 a828 "com/example/dense_bloom/densebloom/model/BloomFilter" "words" "[J" (.ref a725) := f834.other W924 (Or.inl (Ne.symm ne838))
            have zs936 : Z.heap.size ≤ h923.size := W924.size ▸ zs847
            refine Go.iload 289 at_287 rfl rfl ?_
            refine Go.if_eq 311 292 at_289 (by decide) (by decide) rfl (fun c => absurd c (by decide)) (fun _ => ?_)
            refine Go.aload 294 at_292 rfl rfl rfl ?_
            refine Go.iconst 295 (0) at_294 (by decide) rfl ?_
            refine Go.callVJp [.int (0 : Int32)] [] 298 at_295 (tw88 hw) (tw89 hw) (tw91 hw) (tw90 hw) (tw41 hw) (tw92 hw) f931 pl16 (by decide) (lenOf pd16 rfl) rfl (fun m => ef_k_w4_0 m a828 (0 : Int32)) _ (k_w4_0 hw h923 zs936 a828 (0 : Int32) f935 A925 (by decide) (by decide)) 0 rfl (Nat.le_of_eq rfl) (by decide) (by decide) (by decide) (by decide) rfl ?_
            refine Go.lload_n 299 at_298 rfl rfl ?_
            refine Go.ldc2_w 302 at_299 (tw9 hw) rfl ?_
            refine Go.lxor 303 at_302 rfl ?_
            refine Go.lcmp 304 at_303 rfl ?_
            refine Go.lcmp_ne 311 307 at_304 (by decide) (by decide) rfl (fun c941 => ?_) (fun c941 => ?_)
            ·
              refine Go.iconst 312 (0) at_311 (by decide) rfl ?_
              refine Go.nreturn (t := .boolean) (z' := (0 : Int32)) at_312 rfl (by simp) (by decide) (by decide) (by decide) ?_
              exfalso
              first | exact c941 rfl | (subst_vars; exact absurd rfl ‹¬ _›) | exact absurd rfl c941
            ·
              refine Go.iconst 308 (1) at_307 (by decide) rfl ?_
              refine Go.goto 312 at_308 (by decide) (by decide) ?_
              refine Go.nreturn (t := .boolean) (z' := (1 : Int32)) at_312 rfl (by simp) (by decide) (by decide) (by decide) ?_
              rfl
set_option maxRecDepth 65536 in
set_option maxHeartbeats 40000000 in
theorem comes_1 {Post : Tables → Env → Array Value → State → Outcome → State → Prop} (hpost : ∀ tb e args s v u, (limb_1_1.after args s (.returned v) u = true ∧ limb_1_2.after args s (.returned v) u = true ∧ True) → FrameEnd s (.returned v) u (Jvm.fieldLocs frame_1_writes args s ++ Jvm.arrayLocs frame_1_arrays args s ++ Jvm.staticLocs frame_1_statics s) 16 128 → Post tb e args s (.returned v) u) :
    ArmFor flags0 classFile x code maxLocals ret World_1 tables_1 room_1 Calls_1 rest_1 Pre_1 Post := by
  intro l hfl _ _ p e ha hc hk s m args below hf hA hF happ hP
  obtain ⟨hcalls, hrest, hpre⟩ := hP
  obtain ⟨-, -, -, hnamed, -, -, -, hat⟩ := (Spec.applies_iff hf).mp happ
  obtain ⟨hg, hn⟩ := and_e (Cond.before_iff.mp (show (Jvm.Cond.and given_1 narrow_1).before args s = true from hpre))
  obtain ⟨h1, g0⟩ := and_e hg
  obtain ⟨w0, w1, w2, w3, w4, rfl⟩ : ∃ w0 w1 w2 w3 w4 : Value, args = #[w0, w1, w2, w3, w4] := by
    have hs : args.size = 5 := by simpa [Cond.value, given_1] using h1
    obtain ⟨L⟩ := args
    match L, hs with
    | [w0, w1, w2, w3, w4], _ => exact ⟨w0, w1, w2, w3, w4, rfl⟩
  have hw := fun d (hd : d ∈ tables_1) => atoms_spec (ws := Jvm.Cond.code x code maxLocals ret :: tables_1) hat d (List.mem_cons_of_mem _ hd)
  obtain ⟨b0, g1⟩ := and_e g0
  obtain ⟨i0, ei0⟩ := is_v b0
  obtain rfl : w0 = (.int i0) := Option.some.inj ei0
  obtain ⟨b1, g2⟩ := and_e g1
  obtain ⟨i1, ei1⟩ := isL_v b1
  obtain rfl : w1 = (.long i1) := Option.some.inj ei1
  obtain ⟨b2, g3⟩ := and_e g2
  obtain ⟨i2, ei2⟩ := isL_v b2
  obtain rfl : w2 = (.long i2) := Option.some.inj ei2
  obtain ⟨b3, g4⟩ := and_e g3
  obtain ⟨i3, ei3⟩ := isL_v b3
  obtain rfl : w3 = (.long i3) := Option.some.inj ei3
  have b4 := g4
  obtain ⟨i4, ei4⟩ := isL_v b4
  obtain rfl : w4 = (.long i4) := Option.some.inj ei4
  obtain ⟨na0, hn0⟩ := and_e hn
  have na1 := hn0
  obtain ⟨r_ADDRESS, ev_r_ADDRESS⟩ := exa_v na0
  obtain ⟨r_DOMAIN, ev_r_DOMAIN⟩ := exa_v na1
  have G := law0 (l := l) hw s.heap (Nat.le_refl _) i0 i1 i2 i3 i4 (Sta.start ev_r_ADDRESS (Or.inr ⟨(tw1 hw), (tw2 hw)⟩)) (Exa.start ev_r_ADDRESS na0) (Sta.start ev_r_DOMAIN (Or.inr ⟨(tw1 hw), (tw95 hw)⟩)) (Exa.start ev_r_DOMAIN na1)
  obtain ⟨n, o, h1, h2, h3, _, L, rfl, ⟨⟨z, rfl, rfl⟩, N⟩, hq⟩ := Go.met (as' := #[.int i0, .long i1, .long i2, .long i3, .long i4]) (plainFor_of_name pnx) (fun m => ef_law0 m i0 i1 i2 i3 i4) G tables_1 p e ha hc hk s m _ below hf ((Spec.applies_iff_loose hf).mp happ).1 ⟨rfl, State.Warmed39.refl s, rfl⟩ trivial
  refine ⟨n, _, h1, h2, h3, hpost _ _ _ _ _ _ ⟨Cond.after_iff.mpr rfl, Cond.after_iff.mpr (eq_i res_at (Term.int_eval (1)) rfl), trivial⟩ ⟨hq.1, hq.2.1, (hq.2.2.sift fun y hy => Or.inr (N y hy)).mono (by decide) (by decide)⟩⟩
theorem main_1_1 : Claimed_1_1 := comes_1 fun _ _ _ _ _ _ h hF => ⟨h.1, hF⟩
theorem main_1_2 : Claimed_1_2 := comes_1 fun _ _ _ _ _ _ h hF => ⟨h.2.1, hF⟩
end Jvm.Pilot.@@N@@
namespace Jvm.Pilot.@@N@@
open Jvm Jvm.ClassFile Sem Op Lib Jvm.Free Jvm.Stand Jvm.Pilot.@@N@@.Jvm.D
/-! MADE BY PROGRAM (witnessworld.py) out of the Statement's table words and the real class files: 18 classes; the members and pool entries that the words name. The judged class is class 1, her method 1. -/
namespace start1
open Jvm.ClassFile
def u (s : String) : CpInfo := .utf8 (stringToUtf16 s)
/-- a pool by its gaps: so many unusable entries, then the entry; so many at the end -/
def gap : Nat → List CpInfo → List CpInfo
  | 0, r => r
  | n + 1, r => .unusable :: gap n r
def poolList (es : List (Nat × CpInfo)) (last : Nat) : List CpInfo := es.foldr (fun e r => gap e.1 (e.2 :: r)) (gap last [])
def pool (es : List (Nat × CpInfo)) (last : Nat) : Array CpInfo := ⟨poolList es last⟩
def fileOf (pool : Array CpInfo) (this : Nat) (attrs : Array Attribute := #[]) (ms : Array MethodInfo := #[]) (fl : Nat := 33) (sup : Nat := 0) (ifs : Array Nat := #[]) (fds : Array FieldInfo := #[]) : ClassFile where
  minorVersion := 0
  majorVersion := 65
  constantPool := pool
  accessFlags := fl
  thisClass := this
  superClass := sup
  interfaces := ifs
  fields := fds
  methods := ms
  attributes := attrs
def plain (name : String) (sup : Option ClassId) : Class where
  name := name
  kind := .ordinary
  loader := none
  accessFlags := 33
  super := sup
  interfaces := #[]
  cf := none
  fields := #[]
  methods := #[]
  instanceTypes := #[]
  staticTypes := #[]
  resolved := #[]
  callSites := []
  init := .initialized
  statics := none
  mirror := none

def pool0 : Array CpInfo := pool [(5, u "<init>"), (0, u "()V"), (1, .class_ 10), (1, u "java/lang/Object")] 113

def k0c0 : Code := { maxStack := 0, maxLocals := 1, code := object_method_1_code, exceptionTable := #[], attributes := #[] }
def k0m0 : Method := { name := "<init>", desc := "()V", sig := { parameters := [], returnType := none }, accessFlags := 1, code := some k0c0 }
/-- java/lang/Object -/
def k0 : Class := { plain "java/lang/Object" none with
  accessFlags := 33
  interfaces := #[]
  cf := some (fileOf pool0 8 #[] #[{ accessFlags := 1, nameIndex := 5, descriptorIndex := 6, attributes := #[] }] 33 0 #[] #[])
  fields := #[]
  methods := #[k0m0]
  instanceTypes := #[]
  staticTypes := #[]
  resolved := Array.replicate 124 none
  statics := none }

def pool1 : Array CpInfo := pool [(2, .class_ 4), (1, u "java/lang/Object"), (0, u "<init>"), (0, u "()V"), (0, .fieldref 8 9), (0, .class_ 10), (0, .nameAndType 11 12), (0, u "com/example/dense_bloom/densebloom/model/EntryKind"), (0, u "DOMAIN"), (0, u "Lcom/example/dense_bloom/densebloom/model/EntryKind;"), (0, .fieldref 8 14), (0, .nameAndType 15 12), (0, u "ADDRESS"), (0, .long 193), (3, .long 9223372036854775807), (1, .methodref 23 24), (0, .class_ 25), (0, .nameAndType 26 27), (0, u "java/lang/Math"), (0, u "max"), (0, u "(JJ)J"), (0, .long 18446744073709551615), (1, .class_ 31), (0, u "com/example/dense_bloom/densebloom/model/FilterSize"), (0, .methodref 30 33), (0, .nameAndType 5 34), (0, u "(JJI)V"), (0, .methodref 36 37), (0, .class_ 38), (0, .nameAndType 39 40), (0, u "com/example/dense_bloom/densebloom/model/BloomFilter"), (0, u "fromWords"), (0, u "(Lcom/example/dense_bloom/densebloom/model/FilterSize;Lcom/example/dense_bloom/densebloom/model/EntryKind;J[J)Lcom/example/dense_bloom/densebloom/model/BloomFilter;"), (0, .methodref 36 42), (0, .nameAndType 43 44), (0, u "size"), (0, u "()Lcom/example/dense_bloom/densebloom/model/FilterSize;"), (0, .methodref 36 46), (0, .nameAndType 47 48), (0, u "kind"), (0, u "()Lcom/example/dense_bloom/densebloom/model/EntryKind;"), (0, .methodref 36 50), (0, .nameAndType 51 52), (0, u "added"), (0, u "()J"), (0, .methodref 36 54), (0, .nameAndType 55 56), (0, u "wordCount"), (0, u "()I"), (0, .methodref 36 58), (0, .nameAndType 59 60), (0, u "word"), (0, u "(I)J"), (0, .class_ 62), (0, u "com/example/dense_bloom/densebloom/model/BloomFilterFromWordsPinLaw"), (2, u "law"), (0, u "(IJJJJ)Z")] 5

def k1m0 : Method := { name := "<init>", desc := "()V", sig := { parameters := [], returnType := none }, accessFlags := 1, code := none }
def k1c1 : Code := { maxStack := 7, maxLocals := 29, code := code, exceptionTable := #[], attributes := #[] }
def k1m1 : Method := { name := "law", desc := "(IJJJJ)Z", sig := { parameters := [.int, .long, .long, .long, .long], returnType := some .boolean }, accessFlags := 9, code := some k1c1 }
/-- com/example/dense_bloom/densebloom/model/BloomFilterFromWordsPinLaw -/
def k1 : Class := { plain "com/example/dense_bloom/densebloom/model/BloomFilterFromWordsPinLaw" (some 0) with
  accessFlags := 49
  interfaces := #[]
  cf := some (fileOf pool1 61 #[] #[{ accessFlags := 1, nameIndex := 5, descriptorIndex := 6, attributes := #[] }, { accessFlags := 9, nameIndex := 65, descriptorIndex := 66, attributes := #[] }] 49 2 #[] #[])
  fields := #[]
  methods := #[k1m0, k1m1]
  instanceTypes := #[]
  staticTypes := #[]
  resolved := Array.replicate 72 none
  statics := none }

def pool2 : Array CpInfo := pool [(1, .class_ 2), (0, u "java/lang/constant/Constable"), (0, .class_ 4), (0, u "java/lang/Object")] 6

/-- java/lang/constant/Constable -/
def k2 : Class := { plain "java/lang/constant/Constable" (some 0) with
  accessFlags := 1537
  interfaces := #[]
  cf := some (fileOf pool2 1 #[] #[] 1537 3 #[] #[])
  fields := #[]
  methods := #[]
  instanceTypes := #[]
  staticTypes := #[]
  resolved := Array.replicate 11 none
  statics := none }

def pool3 : Array CpInfo := pool [(1, .class_ 2), (0, u "java/lang/Comparable"), (0, .class_ 4), (0, u "java/lang/Object")] 7

/-- java/lang/Comparable -/
def k3 : Class := { plain "java/lang/Comparable" (some 0) with
  accessFlags := 1537
  interfaces := #[]
  cf := some (fileOf pool3 1 #[] #[] 1537 3 #[] #[])
  fields := #[]
  methods := #[]
  instanceTypes := #[]
  staticTypes := #[]
  resolved := Array.replicate 12 none
  statics := none }

def pool4 : Array CpInfo := pool [(1, .class_ 2), (0, u "java/io/Serializable"), (0, .class_ 4), (0, u "java/lang/Object")] 2

/-- java/io/Serializable -/
def k4 : Class := { plain "java/io/Serializable" (some 0) with
  accessFlags := 1537
  interfaces := #[]
  cf := some (fileOf pool4 1 #[] #[] 1537 3 #[] #[])
  fields := #[]
  methods := #[]
  instanceTypes := #[]
  staticTypes := #[]
  resolved := Array.replicate 7 none
  statics := none }

def pool5 : Array CpInfo := pool [(2, .class_ 4), (1, u "java/lang/Enum"), (0, u "name"), (0, u "Ljava/lang/String;"), (2, u "ordinal"), (0, u "I"), (1, .class_ 14), (1, u "java/lang/Object"), (4, u "hash"), (86, .class_ 108), (1, u "java/lang/Enum$EnumDesc"), (2, .class_ 112), (0, u "java/lang/constant/Constable"), (0, .class_ 114), (0, u "java/lang/Comparable"), (0, .class_ 116), (0, u "java/io/Serializable")] 87

/-- java/lang/Enum -/
def k5 : Class := { plain "java/lang/Enum" (some 0) with
  accessFlags := 1057
  interfaces := #[2, 3, 4]
  cf := some (fileOf pool5 2 #[.nestMembers #[106]] #[] 1057 12 #[111, 113, 115] #[{ accessFlags := 18, nameIndex := 5, descriptorIndex := 6, attributes := #[] }, { accessFlags := 18, nameIndex := 9, descriptorIndex := 10, attributes := #[] }, { accessFlags := 2, nameIndex := 19, descriptorIndex := 10, attributes := #[] }])
  fields := #[{ name := "name", type := (.object "java/lang/String"), accessFlags := 18, slot := 0, constantValue := 0 }, { name := "ordinal", type := .int, accessFlags := 18, slot := 1, constantValue := 0 }, { name := "hash", type := .int, accessFlags := 2, slot := 2, constantValue := 0 }]
  methods := #[]
  instanceTypes := #[(.object "java/lang/String"), .int, .int]
  staticTypes := #[]
  resolved := Array.replicate 204 none
  statics := none }

def pool6 : Array CpInfo := pool [(1, .class_ 2), (0, u "com/example/dense_bloom/densebloom/model/EntryKind"), (2, u "ADDRESS"), (0, u "Lcom/example/dense_bloom/densebloom/model/EntryKind;"), (2, u "DOMAIN"), (2, u "$VALUES"), (0, u "[Lcom/example/dense_bloom/densebloom/model/EntryKind;"), (6, .class_ 22), (1, u "java/lang/Enum")] 24

/-- com/example/dense_bloom/densebloom/model/EntryKind -/
def k6 : Class := { plain "com/example/dense_bloom/densebloom/model/EntryKind" (some 5) with
  accessFlags := 16433
  interfaces := #[]
  cf := some (fileOf pool6 1 #[] #[] 16433 20 #[] #[{ accessFlags := 16409, nameIndex := 5, descriptorIndex := 6, attributes := #[] }, { accessFlags := 16409, nameIndex := 9, descriptorIndex := 6, attributes := #[] }, { accessFlags := 4122, nameIndex := 12, descriptorIndex := 13, attributes := #[] }])
  fields := #[{ name := "ADDRESS", type := (.object "com/example/dense_bloom/densebloom/model/EntryKind"), accessFlags := 16409, slot := 0, constantValue := 0 }, { name := "DOMAIN", type := (.object "com/example/dense_bloom/densebloom/model/EntryKind"), accessFlags := 16409, slot := 1, constantValue := 0 }, { name := "$VALUES", type := (.array (.object "com/example/dense_bloom/densebloom/model/EntryKind")), accessFlags := 4122, slot := 2, constantValue := 0 }]
  methods := #[]
  instanceTypes := #[(.object "java/lang/String"), .int, .int]
  staticTypes := #[(.object "com/example/dense_bloom/densebloom/model/EntryKind"), (.object "com/example/dense_bloom/densebloom/model/EntryKind"), (.array (.object "com/example/dense_bloom/densebloom/model/EntryKind"))]
  resolved := Array.replicate 47 none
  statics := some 0 }

def pool7 : Array CpInfo := pool [(1, .class_ 2), (0, u "java/lang/Math"), (1, .class_ 6), (1, u "java/lang/Object"), (0, u "<init>"), (0, u "()V"), (89, .class_ 100), (1, u "java/lang/Math$RandomNumberGeneratorHolder"), (20, u "(JJ)J"), (50, u "negativeZeroFloatBits"), (0, u "J"), (2, u "negativeZeroDoubleBits"), (21, u "max"), (46, u "$assertionsDisabled"), (0, u "Z"), (91, u "twoToTheDoubleScaleDown"), (0, u "D"), (4, u "twoToTheDoubleScaleUp"), (9, u "E"), (3, u "PI"), (2, u "TAU"), (2, u "DEGREES_TO_RADIANS"), (0, u "RADIANS_TO_DEGREES")] 94

def k7m0 : Method := { name := "<init>", desc := "()V", sig := { parameters := [], returnType := none }, accessFlags := 2, code := none }
def k7c1 : Code := { maxStack := 4, maxLocals := 4, code := jdk_29_method_66_code, exceptionTable := #[], attributes := #[] }
def k7m1 : Method := { name := "max", desc := "(JJ)J", sig := { parameters := [.long, .long], returnType := some .long }, accessFlags := 9, code := some k7c1 }
/-- java/lang/Math -/
def k7 : Class := { plain "java/lang/Math" (some 0) with
  accessFlags := 49
  interfaces := #[]
  cf := some (fileOf pool7 1 #[.nestMembers #[98]] #[{ accessFlags := 2, nameIndex := 7, descriptorIndex := 8, attributes := #[] }, { accessFlags := 9, nameIndex := 198, descriptorIndex := 121, attributes := #[] }] 49 4 #[] #[{ accessFlags := 25, nameIndex := 354, descriptorIndex := 339, attributes := #[] }, { accessFlags := 25, nameIndex := 358, descriptorIndex := 339, attributes := #[] }, { accessFlags := 25, nameIndex := 361, descriptorIndex := 339, attributes := #[] }, { accessFlags := 26, nameIndex := 364, descriptorIndex := 339, attributes := #[] }, { accessFlags := 26, nameIndex := 365, descriptorIndex := 339, attributes := #[] }, { accessFlags := 26, nameIndex := 172, descriptorIndex := 173, attributes := #[] }, { accessFlags := 26, nameIndex := 176, descriptorIndex := 173, attributes := #[] }, { accessFlags := 8, nameIndex := 344, descriptorIndex := 339, attributes := #[] }, { accessFlags := 8, nameIndex := 338, descriptorIndex := 339, attributes := #[] }, { accessFlags := 4120, nameIndex := 245, descriptorIndex := 246, attributes := #[] }])
  fields := #[{ name := "E", type := .double, accessFlags := 25, slot := 0, constantValue := 0 }, { name := "PI", type := .double, accessFlags := 25, slot := 1, constantValue := 0 }, { name := "TAU", type := .double, accessFlags := 25, slot := 2, constantValue := 0 }, { name := "DEGREES_TO_RADIANS", type := .double, accessFlags := 26, slot := 3, constantValue := 0 }, { name := "RADIANS_TO_DEGREES", type := .double, accessFlags := 26, slot := 4, constantValue := 0 }, { name := "negativeZeroFloatBits", type := .long, accessFlags := 26, slot := 5, constantValue := 0 }, { name := "negativeZeroDoubleBits", type := .long, accessFlags := 26, slot := 6, constantValue := 0 }, { name := "twoToTheDoubleScaleUp", type := .double, accessFlags := 8, slot := 7, constantValue := 0 }, { name := "twoToTheDoubleScaleDown", type := .double, accessFlags := 8, slot := 8, constantValue := 0 }, { name := "$assertionsDisabled", type := .boolean, accessFlags := 4120, slot := 9, constantValue := 0 }]
  methods := #[k7m0, k7m1]
  instanceTypes := #[]
  staticTypes := #[.double, .double, .double, .double, .double, .long, .long, .double, .double, .boolean]
  resolved := Array.replicate 460 none
  statics := none }

def pool8 : Array CpInfo := pool [(1, .methodref 2 3), (0, .class_ 4), (0, .nameAndType 5 6), (0, u "java/lang/Object"), (0, u "<init>"), (0, u "()V"), (0, .class_ 8), (0, u "java/lang/Record")] 13

def k8c0 : Code := { maxStack := 1, maxLocals := 1, code := jdk_30_method_1_code, exceptionTable := #[], attributes := #[] }
def k8m0 : Method := { name := "<init>", desc := "()V", sig := { parameters := [], returnType := none }, accessFlags := 4, code := some k8c0 }
/-- java/lang/Record -/
def k8 : Class := { plain "java/lang/Record" (some 0) with
  accessFlags := 1057
  interfaces := #[]
  cf := some (fileOf pool8 7 #[] #[{ accessFlags := 4, nameIndex := 5, descriptorIndex := 6, attributes := #[] }] 1057 2 #[] #[])
  fields := #[]
  methods := #[k8m0]
  instanceTypes := #[]
  staticTypes := #[]
  resolved := Array.replicate 22 none
  statics := none }

def pool9 : Array CpInfo := pool [(1, .methodref 2 3), (0, .class_ 4), (0, .nameAndType 5 6), (0, u "java/lang/Record"), (0, u "<init>"), (0, u "()V"), (0, .methodref 8 9), (0, .class_ 10), (0, .nameAndType 11 12), (0, u "com/example/dense_bloom/densebloom/model/FilterSize"), (0, u "requireEntries"), (0, u "(J)V"), (0, .methodref 8 14), (0, .nameAndType 15 12), (0, u "requireBits"), (0, .methodref 8 17), (0, .nameAndType 18 19), (0, u "requireHashes"), (0, u "(I)V"), (0, .fieldref 8 21), (0, .nameAndType 22 23), (0, u "expectedEntries"), (0, u "J"), (0, .fieldref 8 25), (0, .nameAndType 26 23), (0, u "bits"), (0, .fieldref 8 28), (0, .nameAndType 29 30), (0, u "hashes"), (0, u "I"), (16, u "(JJI)V"), (75, u "MAX_HASHES"), (12, u "()J")] 48

def k9c0 : Code := { maxStack := 3, maxLocals := 6, code := prog_27_method_1_code, exceptionTable := #[], attributes := #[] }
def k9m0 : Method := { name := "<init>", desc := "(JJI)V", sig := { parameters := [.long, .long, .int], returnType := none }, accessFlags := 1, code := some k9c0 }
def k9c1 : Code := { maxStack := 4, maxLocals := 2, code := prog_27_method_5_code, exceptionTable := #[], attributes := #[] }
def k9m1 : Method := { name := "requireEntries", desc := "(J)V", sig := { parameters := [.long], returnType := none }, accessFlags := 10, code := some k9c1 }
def k9c2 : Code := { maxStack := 4, maxLocals := 2, code := prog_27_method_6_code, exceptionTable := #[], attributes := #[] }
def k9m2 : Method := { name := "requireBits", desc := "(J)V", sig := { parameters := [.long], returnType := none }, accessFlags := 10, code := some k9c2 }
def k9c3 : Code := { maxStack := 3, maxLocals := 1, code := prog_27_method_7_code, exceptionTable := #[], attributes := #[] }
def k9m3 : Method := { name := "requireHashes", desc := "(I)V", sig := { parameters := [.int], returnType := none }, accessFlags := 10, code := some k9c3 }
def k9c4 : Code := { maxStack := 2, maxLocals := 1, code := prog_27_method_22_code, exceptionTable := #[], attributes := #[] }
def k9m4 : Method := { name := "bits", desc := "()J", sig := { parameters := [], returnType := some .long }, accessFlags := 1, code := some k9c4 }
/-- com/example/dense_bloom/densebloom/model/FilterSize -/
def k9 : Class := { plain "com/example/dense_bloom/densebloom/model/FilterSize" (some 8) with
  accessFlags := 49
  interfaces := #[]
  cf := some (fileOf pool9 8 #[] #[{ accessFlags := 1, nameIndex := 5, descriptorIndex := 47, attributes := #[] }, { accessFlags := 10, nameIndex := 11, descriptorIndex := 12, attributes := #[] }, { accessFlags := 10, nameIndex := 15, descriptorIndex := 12, attributes := #[] }, { accessFlags := 10, nameIndex := 18, descriptorIndex := 19, attributes := #[] }, { accessFlags := 1, nameIndex := 26, descriptorIndex := 136, attributes := #[] }] 49 2 #[] #[{ accessFlags := 18, nameIndex := 22, descriptorIndex := 23, attributes := #[] }, { accessFlags := 18, nameIndex := 26, descriptorIndex := 23, attributes := #[] }, { accessFlags := 18, nameIndex := 29, descriptorIndex := 30, attributes := #[] }, { accessFlags := 25, nameIndex := 123, descriptorIndex := 30, attributes := #[] }])
  fields := #[{ name := "expectedEntries", type := .long, accessFlags := 18, slot := 0, constantValue := 0 }, { name := "bits", type := .long, accessFlags := 18, slot := 1, constantValue := 0 }, { name := "hashes", type := .int, accessFlags := 18, slot := 2, constantValue := 0 }, { name := "MAX_HASHES", type := .int, accessFlags := 25, slot := 0, constantValue := 0 }]
  methods := #[k9m0, k9m1, k9m2, k9m3, k9m4]
  instanceTypes := #[.long, .long, .int]
  staticTypes := #[.int]
  resolved := Array.replicate 185 none
  statics := none }

def pool10 : Array CpInfo := pool [(3, .class_ 4), (0, u "com/example/dense_bloom/densebloom/model/BloomFilter"), (4, .methodref 3 10), (0, .nameAndType 11 12), (0, u "<init>"), (0, u "(Lcom/example/dense_bloom/densebloom/model/FilterSize;Lcom/example/dense_bloom/densebloom/model/EntryKind;J[J)V"), (0, .methodref 14 15), (0, .class_ 16), (0, .nameAndType 11 17), (0, u "java/lang/Object"), (0, u "()V"), (0, .fieldref 3 19), (0, .nameAndType 20 21), (0, u "size"), (0, u "Lcom/example/dense_bloom/densebloom/model/FilterSize;"), (0, .fieldref 3 23), (0, .nameAndType 24 25), (0, u "kind"), (0, u "Lcom/example/dense_bloom/densebloom/model/EntryKind;"), (0, .fieldref 3 27), (0, .nameAndType 28 29), (0, u "added"), (0, u "J"), (0, .fieldref 3 31), (0, .nameAndType 32 33), (0, u "words"), (0, u "[J"), (9, .methodref 44 45), (0, .class_ 46), (0, .nameAndType 47 48), (0, u "com/example/dense_bloom/densebloom/model/FilterSize"), (0, u "bits"), (0, u "()J"), (0, .methodref 3 50), (0, .nameAndType 51 52), (0, u "wordCount"), (0, u "(J)I"), (3, .long 137438952896), (10, u "()Lcom/example/dense_bloom/densebloom/model/FilterSize;"), (1, .class_ 71), (1, u "com/example/dense_bloom/densebloom/model/BloomFilter$Work"), (3, .long 63), (1, .long 64), (31, u "()I"), (15, u "LITTLE_ENDIAN_LONG"), (0, u "Ljava/lang/invoke/VarHandle;"), (23, u "MAX_WORDS"), (0, u "I"), (2, u "MAX_BITS"), (0, u "SEED"), (0, u "GOLDEN_GAMMA"), (3, u "fromWords"), (0, u "(Lcom/example/dense_bloom/densebloom/model/FilterSize;Lcom/example/dense_bloom/densebloom/model/EntryKind;J[J)Lcom/example/dense_bloom/densebloom/model/BloomFilter;"), (8, u "()Lcom/example/dense_bloom/densebloom/model/EntryKind;"), (4, u "word"), (0, u "(I)J")] 26

def k10c0 : Code := { maxStack := 3, maxLocals := 6, code := prog_17_method_2_code, exceptionTable := #[], attributes := #[] }
def k10m0 : Method := { name := "<init>", desc := "(Lcom/example/dense_bloom/densebloom/model/FilterSize;Lcom/example/dense_bloom/densebloom/model/EntryKind;J[J)V", sig := { parameters := [(.object "com/example/dense_bloom/densebloom/model/FilterSize"), (.object "com/example/dense_bloom/densebloom/model/EntryKind"), .long, (.array .long)], returnType := none }, accessFlags := 2, code := some k10c0 }
def k10c1 : Code := { maxStack := 7, maxLocals := 6, code := prog_17_method_3_code, exceptionTable := #[], attributes := #[] }
def k10m1 : Method := { name := "fromWords", desc := "(Lcom/example/dense_bloom/densebloom/model/FilterSize;Lcom/example/dense_bloom/densebloom/model/EntryKind;J[J)Lcom/example/dense_bloom/densebloom/model/BloomFilter;", sig := { parameters := [(.object "com/example/dense_bloom/densebloom/model/FilterSize"), (.object "com/example/dense_bloom/densebloom/model/EntryKind"), .long, (.array .long)], returnType := some (.object "com/example/dense_bloom/densebloom/model/BloomFilter") }, accessFlags := 9, code := some k10c1 }
def k10c2 : Code := { maxStack := 4, maxLocals := 2, code := prog_17_method_6_code, exceptionTable := #[], attributes := #[] }
def k10m2 : Method := { name := "wordCount", desc := "(J)I", sig := { parameters := [.long], returnType := some .int }, accessFlags := 9, code := some k10c2 }
def k10c3 : Code := { maxStack := 1, maxLocals := 1, code := prog_17_method_7_code, exceptionTable := #[], attributes := #[] }
def k10m3 : Method := { name := "size", desc := "()Lcom/example/dense_bloom/densebloom/model/FilterSize;", sig := { parameters := [], returnType := some (.object "com/example/dense_bloom/densebloom/model/FilterSize") }, accessFlags := 1, code := some k10c3 }
def k10c4 : Code := { maxStack := 1, maxLocals := 1, code := prog_17_method_8_code, exceptionTable := #[], attributes := #[] }
def k10m4 : Method := { name := "kind", desc := "()Lcom/example/dense_bloom/densebloom/model/EntryKind;", sig := { parameters := [], returnType := some (.object "com/example/dense_bloom/densebloom/model/EntryKind") }, accessFlags := 1, code := some k10c4 }
def k10c5 : Code := { maxStack := 2, maxLocals := 1, code := prog_17_method_9_code, exceptionTable := #[], attributes := #[] }
def k10m5 : Method := { name := "added", desc := "()J", sig := { parameters := [], returnType := some .long }, accessFlags := 1, code := some k10c5 }
def k10c6 : Code := { maxStack := 1, maxLocals := 1, code := prog_17_method_12_code, exceptionTable := #[], attributes := #[] }
def k10m6 : Method := { name := "wordCount", desc := "()I", sig := { parameters := [], returnType := some .int }, accessFlags := 1, code := some k10c6 }
def k10c7 : Code := { maxStack := 2, maxLocals := 2, code := prog_17_method_13_code, exceptionTable := #[], attributes := #[] }
def k10m7 : Method := { name := "word", desc := "(I)J", sig := { parameters := [.int], returnType := some .long }, accessFlags := 1, code := some k10c7 }
/-- com/example/dense_bloom/densebloom/model/BloomFilter -/
def k10 : Class := { plain "com/example/dense_bloom/densebloom/model/BloomFilter" (some 0) with
  accessFlags := 49
  interfaces := #[]
  cf := some (fileOf pool10 3 #[.nestMembers #[69]] #[{ accessFlags := 2, nameIndex := 11, descriptorIndex := 12, attributes := #[] }, { accessFlags := 9, nameIndex := 160, descriptorIndex := 161, attributes := #[] }, { accessFlags := 9, nameIndex := 51, descriptorIndex := 52, attributes := #[] }, { accessFlags := 1, nameIndex := 20, descriptorIndex := 67, attributes := #[] }, { accessFlags := 1, nameIndex := 24, descriptorIndex := 170, attributes := #[] }, { accessFlags := 1, nameIndex := 28, descriptorIndex := 48, attributes := #[] }, { accessFlags := 1, nameIndex := 51, descriptorIndex := 109, attributes := #[] }, { accessFlags := 1, nameIndex := 175, descriptorIndex := 176, attributes := #[] }] 49 14 #[] #[{ accessFlags := 26, nameIndex := 150, descriptorIndex := 151, attributes := #[] }, { accessFlags := 25, nameIndex := 154, descriptorIndex := 29, attributes := #[] }, { accessFlags := 26, nameIndex := 125, descriptorIndex := 126, attributes := #[] }, { accessFlags := 26, nameIndex := 155, descriptorIndex := 29, attributes := #[] }, { accessFlags := 26, nameIndex := 156, descriptorIndex := 29, attributes := #[] }, { accessFlags := 18, nameIndex := 20, descriptorIndex := 21, attributes := #[] }, { accessFlags := 18, nameIndex := 24, descriptorIndex := 25, attributes := #[] }, { accessFlags := 18, nameIndex := 32, descriptorIndex := 33, attributes := #[] }, { accessFlags := 2, nameIndex := 28, descriptorIndex := 29, attributes := #[] }])
  fields := #[{ name := "MAX_WORDS", type := .int, accessFlags := 26, slot := 0, constantValue := 0 }, { name := "MAX_BITS", type := .long, accessFlags := 25, slot := 1, constantValue := 0 }, { name := "LITTLE_ENDIAN_LONG", type := (.object "java/lang/invoke/VarHandle"), accessFlags := 26, slot := 2, constantValue := 0 }, { name := "SEED", type := .long, accessFlags := 26, slot := 3, constantValue := 0 }, { name := "GOLDEN_GAMMA", type := .long, accessFlags := 26, slot := 4, constantValue := 0 }, { name := "size", type := (.object "com/example/dense_bloom/densebloom/model/FilterSize"), accessFlags := 18, slot := 0, constantValue := 0 }, { name := "kind", type := (.object "com/example/dense_bloom/densebloom/model/EntryKind"), accessFlags := 18, slot := 1, constantValue := 0 }, { name := "words", type := (.array .long), accessFlags := 18, slot := 2, constantValue := 0 }, { name := "added", type := .long, accessFlags := 2, slot := 3, constantValue := 0 }]
  methods := #[k10m0, k10m1, k10m2, k10m3, k10m4, k10m5, k10m6, k10m7]
  instanceTypes := #[(.object "com/example/dense_bloom/densebloom/model/FilterSize"), (.object "com/example/dense_bloom/densebloom/model/EntryKind"), (.array .long), .long]
  staticTypes := #[.int, .long, (.object "java/lang/invoke/VarHandle"), .long, .long]
  resolved := Array.replicate 203 none
  statics := none }

def pool11 : Array CpInfo := pool [(1, u "java/lang/Cloneable"), (0, .class_ 1), (0, u "java/lang/Object"), (0, .class_ 3)] 3

/-- java/lang/Cloneable -/
def k11 : Class := { plain "java/lang/Cloneable" (some 0) with
  accessFlags := 1537
  interfaces := #[]
  cf := some (fileOf pool11 2 #[] #[] 1537 4 #[] #[])
  fields := #[]
  methods := #[]
  instanceTypes := #[]
  staticTypes := #[]
  resolved := Array.replicate 8 none
  statics := none }

/-- the primitive byte -/
def k12 : Class := { plain "byte" none with kind := .primitive 'B', accessFlags := 0x411 }
/-- [B -/
def k13 : Class := { plain "[B" (some 0) with kind := .array 12 .byte, interfaces := #[11, 4], accessFlags := 1041 }

/-- the primitive int -/
def k14 : Class := { plain "int" none with kind := .primitive 'I', accessFlags := 0x411 }
/-- [I -/
def k15 : Class := { plain "[I" (some 0) with kind := .array 14 .int, interfaces := #[11, 4], accessFlags := 1041 }

/-- the primitive long -/
def k16 : Class := { plain "long" none with kind := .primitive 'J', accessFlags := 0x411 }
/-- [J -/
def k17 : Class := { plain "[J" (some 0) with kind := .array 16 .long, interfaces := #[11, 4], accessFlags := 1041 }

def heap : Heap := #[{ cls := 6, slots := #[.ref 1, .ref 2, .null], vm := .statics 6 },
  { cls := 6, slots := #[.null, .int 0, .int 0], vm := .none },
  { cls := 6, slots := #[.null, .int 0, .int 0], vm := .none }]
def classes : Array Class := #[k0, k1, k2, k3, k4, k5, k6, k7, k8, k9, k10, k11, k12, k13, k14, k15, k16, k17]
def interned : List (Array UInt16 × Addr) := []
def slotsUsed : Nat := 9
def theMethod : MethodId := ⟨1, 1⟩
def args0 : Array Value := #[.int 5, .long 7, .long 7, .long 7, .long 7]
def aboutOver (below : List Frame) : State where
  vm := { classes := classes, interned := interned.toArray }
  heap := heap
  slotsUsed := slotsUsed
  threads := #[{ frames := .invoking theMethod args0 :: below }]
def below0 : List Frame := [.native { method := ⟨0, 0⟩, args := #[] }]
def about1 : State := aboutOver below0
def p0 : Program := .bare "" "" ""
def e0 : Env := launch0.env 0 0 0
theorem w_frames : about1.frames = Frame.invoking theMethod args0 :: below0 := rfl
set_option maxRecDepth 65536 in
theorem w_args : argsFit about1.vm theMethod args0 = true := by decide +kernel
set_option maxRecDepth 65536 in
theorem w_heap : heapFits about1 = true := by decide +kernel
set_option maxRecDepth 65536 in
theorem w_runnable : about1.curStatus? = some .runnable := by decide +kernel
set_option maxRecDepth 65536 in
theorem w_alone : about1.alone = true := by decide +kernel
set_option maxRecDepth 65536 in
theorem w_named : about1.methodNamed? x = some theMethod := by decide +kernel
set_option maxRecDepth 65536 in
theorem w_hears : about1.hears theMethod below0 = true := by decide +kernel
set_option maxRecDepth 65536 in
theorem w_ripe : about1.ripe theMethod args0 below0 = true := by decide +kernel
theorem w_running : about1.status = .running := rfl
set_option maxRecDepth 65536 in
theorem w_room : about1.hasRoom e0.platform room_1 = true :=
  launch0.hasRoom_least _ room_1 (by decide +kernel) (by decide +kernel) (by decide +kernel) (by decide +kernel) (by decide +kernel) (by decide +kernel)
theorem allAtoms_all (ts : List Jvm.Cond) (a : Array Jvm.Value) (st : Jvm.State) : (allAtoms ts).before a st = ts.all (fun c => c.before a st) := by
  induction ts with
  | nil => rfl
  | cons c t ih =>
    show (Jvm.Cond.and c (allAtoms t)).before a st = _
    rw [Jvm.Cond.before_and, ih, List.all_cons]
def words1 : List Jvm.Cond := Jvm.Cond.code x code maxLocals ret :: tables_1
/-- a 'code' word, met by the world's own term for the bytes: nothing is compared byte by byte -/
theorem code_word {y : MethodName} {bytes : ByteArray} {mx : Nat} {rt : Option FieldType} {a : Array Value} {s : State} {m : MethodId} {meth : Method} {c : Code} (h1 : s.methodNamed? y = some m) (h2 : s.vm.method? m = some meth) (h3 : meth.code = some c) (h4 : c.code = bytes)
    (h5 : (c.maxLocals == mx && c.exceptionTable.isEmpty && decide (c.maxStack ≤ mostOperands) && decide (meth.sig.returnType = rt) && !meth.locks && decide (parseMethodDescriptor y.desc = some meth.sig)) = true) : (Jvm.Cond.code y bytes mx rt).before a s = true := by
  simp only [Bool.and_eq_true, beq_iff_eq, Bool.not_eq_true', decide_eq_true_eq] at h5
  obtain ⟨⟨⟨⟨⟨g1, g2⟩, g3⟩, g4⟩, g5⟩, g6⟩ := h5
  simp [Cond.before, Cond.holds, Cond.value, h1, h2, h3, h4, g1, g2, g3, g4, g5, g6]
def isCode : Jvm.Cond → Bool
  | .code _ _ _ _ => true
  | _ => false
theorem all_split {L : List Jvm.Cond} {P : Jvm.Cond → Bool} (h1 : L.all (fun c => isCode c || P c) = true) (h2 : ∀ c ∈ L.filter isCode, P c = true) : L.all P = true := by
  refine List.all_eq_true.mpr fun c hc => ?_
  have h := List.all_eq_true.mp h1 c hc
  rcases Bool.eq_false_or_eq_true (isCode c) with hi | hi
  · exact h2 c (List.mem_filter.mpr ⟨hc, hi⟩)
  · simpa [hi] using h
set_option maxRecDepth 65536 in
theorem w_c0 : (Jvm.Cond.code x code maxLocals ret).before args0 about1 = true := code_word (m := ⟨1, 1⟩) (meth := k1m1) (c := k1c1) (by decide +kernel) rfl rfl rfl (by decide +kernel)
set_option maxRecDepth 65536 in
theorem w_c1 : (Jvm.Cond.code ({ cls := "java/lang/Math", name := "max", desc := "(JJ)J" } : Jvm.MethodName) jdk_29_method_66_code (4 : Nat) (Option.some Jvm.ClassFile.FieldType.long)).before args0 about1 = true := code_word (m := ⟨7, 1⟩) (meth := k7m1) (c := k7c1) (by decide +kernel) rfl rfl rfl (by decide +kernel)
set_option maxRecDepth 65536 in
theorem w_c2 : (Jvm.Cond.code ({ cls := "com/example/dense_bloom/densebloom/model/FilterSize", name := "<init>", desc := "(JJI)V" } : Jvm.MethodName) prog_27_method_1_code (6 : Nat) (Option.none : Option Jvm.ClassFile.FieldType)).before args0 about1 = true := code_word (m := ⟨9, 0⟩) (meth := k9m0) (c := k9c0) (by decide +kernel) rfl rfl rfl (by decide +kernel)
set_option maxRecDepth 65536 in
theorem w_c3 : (Jvm.Cond.code ({ cls := "java/lang/Record", name := "<init>", desc := "()V" } : Jvm.MethodName) jdk_30_method_1_code (1 : Nat) (Option.none : Option Jvm.ClassFile.FieldType)).before args0 about1 = true := code_word (m := ⟨8, 0⟩) (meth := k8m0) (c := k8c0) (by decide +kernel) rfl rfl rfl (by decide +kernel)
set_option maxRecDepth 65536 in
theorem w_c4 : (Jvm.Cond.code ({ cls := "java/lang/Object", name := "<init>", desc := "()V" } : Jvm.MethodName) object_method_1_code (1 : Nat) (Option.none : Option Jvm.ClassFile.FieldType)).before args0 about1 = true := code_word (m := ⟨0, 0⟩) (meth := k0m0) (c := k0c0) (by decide +kernel) rfl rfl rfl (by decide +kernel)
set_option maxRecDepth 65536 in
theorem w_c5 : (Jvm.Cond.code ({ cls := "com/example/dense_bloom/densebloom/model/FilterSize", name := "requireEntries", desc := "(J)V" } : Jvm.MethodName) prog_27_method_5_code (2 : Nat) (Option.none : Option Jvm.ClassFile.FieldType)).before args0 about1 = true := code_word (m := ⟨9, 1⟩) (meth := k9m1) (c := k9c1) (by decide +kernel) rfl rfl rfl (by decide +kernel)
set_option maxRecDepth 65536 in
theorem w_c6 : (Jvm.Cond.code ({ cls := "com/example/dense_bloom/densebloom/model/FilterSize", name := "requireBits", desc := "(J)V" } : Jvm.MethodName) prog_27_method_6_code (2 : Nat) (Option.none : Option Jvm.ClassFile.FieldType)).before args0 about1 = true := code_word (m := ⟨9, 2⟩) (meth := k9m2) (c := k9c2) (by decide +kernel) rfl rfl rfl (by decide +kernel)
set_option maxRecDepth 65536 in
theorem w_c7 : (Jvm.Cond.code ({ cls := "com/example/dense_bloom/densebloom/model/FilterSize", name := "requireHashes", desc := "(I)V" } : Jvm.MethodName) prog_27_method_7_code (1 : Nat) (Option.none : Option Jvm.ClassFile.FieldType)).before args0 about1 = true := code_word (m := ⟨9, 3⟩) (meth := k9m3) (c := k9c3) (by decide +kernel) rfl rfl rfl (by decide +kernel)
set_option maxRecDepth 65536 in
theorem w_c8 : (Jvm.Cond.code ({ cls := "com/example/dense_bloom/densebloom/model/BloomFilter", name := "fromWords", desc := "(Lcom/example/dense_bloom/densebloom/model/FilterSize;Lcom/example/dense_bloom/densebloom/model/EntryKind;J[J)Lcom/example/dense_bloom/densebloom/model/BloomFilter;" } : Jvm.MethodName) prog_17_method_3_code (6 : Nat) (Option.some (Jvm.ClassFile.FieldType.object "com/example/dense_bloom/densebloom/model/BloomFilter"))).before args0 about1 = true := code_word (m := ⟨10, 1⟩) (meth := k10m1) (c := k10c1) (by decide +kernel) rfl rfl rfl (by decide +kernel)
set_option maxRecDepth 65536 in
theorem w_c9 : (Jvm.Cond.code ({ cls := "com/example/dense_bloom/densebloom/model/FilterSize", name := "bits", desc := "()J" } : Jvm.MethodName) prog_27_method_22_code (1 : Nat) (Option.some Jvm.ClassFile.FieldType.long)).before args0 about1 = true := code_word (m := ⟨9, 4⟩) (meth := k9m4) (c := k9c4) (by decide +kernel) rfl rfl rfl (by decide +kernel)
set_option maxRecDepth 65536 in
theorem w_c10 : (Jvm.Cond.code ({ cls := "com/example/dense_bloom/densebloom/model/BloomFilter", name := "wordCount", desc := "(J)I" } : Jvm.MethodName) prog_17_method_6_code (2 : Nat) (Option.some Jvm.ClassFile.FieldType.int)).before args0 about1 = true := code_word (m := ⟨10, 2⟩) (meth := k10m2) (c := k10c2) (by decide +kernel) rfl rfl rfl (by decide +kernel)
set_option maxRecDepth 65536 in
theorem w_c11 : (Jvm.Cond.code ({ cls := "com/example/dense_bloom/densebloom/model/BloomFilter", name := "<init>", desc := "(Lcom/example/dense_bloom/densebloom/model/FilterSize;Lcom/example/dense_bloom/densebloom/model/EntryKind;J[J)V" } : Jvm.MethodName) prog_17_method_2_code (6 : Nat) (Option.none : Option Jvm.ClassFile.FieldType)).before args0 about1 = true := code_word (m := ⟨10, 0⟩) (meth := k10m0) (c := k10c0) (by decide +kernel) rfl rfl rfl (by decide +kernel)
set_option maxRecDepth 65536 in
theorem w_c12 : (Jvm.Cond.code ({ cls := "com/example/dense_bloom/densebloom/model/BloomFilter", name := "size", desc := "()Lcom/example/dense_bloom/densebloom/model/FilterSize;" } : Jvm.MethodName) prog_17_method_7_code (1 : Nat) (Option.some (Jvm.ClassFile.FieldType.object "com/example/dense_bloom/densebloom/model/FilterSize"))).before args0 about1 = true := code_word (m := ⟨10, 3⟩) (meth := k10m3) (c := k10c3) (by decide +kernel) rfl rfl rfl (by decide +kernel)
set_option maxRecDepth 65536 in
theorem w_c13 : (Jvm.Cond.code ({ cls := "com/example/dense_bloom/densebloom/model/BloomFilter", name := "kind", desc := "()Lcom/example/dense_bloom/densebloom/model/EntryKind;" } : Jvm.MethodName) prog_17_method_8_code (1 : Nat) (Option.some (Jvm.ClassFile.FieldType.object "com/example/dense_bloom/densebloom/model/EntryKind"))).before args0 about1 = true := code_word (m := ⟨10, 4⟩) (meth := k10m4) (c := k10c4) (by decide +kernel) rfl rfl rfl (by decide +kernel)
set_option maxRecDepth 65536 in
theorem w_c14 : (Jvm.Cond.code ({ cls := "com/example/dense_bloom/densebloom/model/BloomFilter", name := "added", desc := "()J" } : Jvm.MethodName) prog_17_method_9_code (1 : Nat) (Option.some Jvm.ClassFile.FieldType.long)).before args0 about1 = true := code_word (m := ⟨10, 5⟩) (meth := k10m5) (c := k10c5) (by decide +kernel) rfl rfl rfl (by decide +kernel)
set_option maxRecDepth 65536 in
theorem w_c15 : (Jvm.Cond.code ({ cls := "com/example/dense_bloom/densebloom/model/BloomFilter", name := "wordCount", desc := "()I" } : Jvm.MethodName) prog_17_method_12_code (1 : Nat) (Option.some Jvm.ClassFile.FieldType.int)).before args0 about1 = true := code_word (m := ⟨10, 6⟩) (meth := k10m6) (c := k10c6) (by decide +kernel) rfl rfl rfl (by decide +kernel)
set_option maxRecDepth 65536 in
theorem w_c16 : (Jvm.Cond.code ({ cls := "com/example/dense_bloom/densebloom/model/BloomFilter", name := "word", desc := "(I)J" } : Jvm.MethodName) prog_17_method_13_code (2 : Nat) (Option.some Jvm.ClassFile.FieldType.long)).before args0 about1 = true := code_word (m := ⟨10, 7⟩) (meth := k10m7) (c := k10c7) (by decide +kernel) rfl rfl rfl (by decide +kernel)
def codes1 : List Jvm.Cond := [Jvm.Cond.code x code maxLocals ret, Jvm.Cond.code ({ cls := "java/lang/Math", name := "max", desc := "(JJ)J" } : Jvm.MethodName) jdk_29_method_66_code (4 : Nat) (Option.some Jvm.ClassFile.FieldType.long), Jvm.Cond.code ({ cls := "com/example/dense_bloom/densebloom/model/FilterSize", name := "<init>", desc := "(JJI)V" } : Jvm.MethodName) prog_27_method_1_code (6 : Nat) (Option.none : Option Jvm.ClassFile.FieldType), Jvm.Cond.code ({ cls := "java/lang/Record", name := "<init>", desc := "()V" } : Jvm.MethodName) jdk_30_method_1_code (1 : Nat) (Option.none : Option Jvm.ClassFile.FieldType), Jvm.Cond.code ({ cls := "java/lang/Object", name := "<init>", desc := "()V" } : Jvm.MethodName) object_method_1_code (1 : Nat) (Option.none : Option Jvm.ClassFile.FieldType), Jvm.Cond.code ({ cls := "com/example/dense_bloom/densebloom/model/FilterSize", name := "requireEntries", desc := "(J)V" } : Jvm.MethodName) prog_27_method_5_code (2 : Nat) (Option.none : Option Jvm.ClassFile.FieldType), Jvm.Cond.code ({ cls := "com/example/dense_bloom/densebloom/model/FilterSize", name := "requireBits", desc := "(J)V" } : Jvm.MethodName) prog_27_method_6_code (2 : Nat) (Option.none : Option Jvm.ClassFile.FieldType), Jvm.Cond.code ({ cls := "com/example/dense_bloom/densebloom/model/FilterSize", name := "requireHashes", desc := "(I)V" } : Jvm.MethodName) prog_27_method_7_code (1 : Nat) (Option.none : Option Jvm.ClassFile.FieldType), Jvm.Cond.code ({ cls := "com/example/dense_bloom/densebloom/model/BloomFilter", name := "fromWords", desc := "(Lcom/example/dense_bloom/densebloom/model/FilterSize;Lcom/example/dense_bloom/densebloom/model/EntryKind;J[J)Lcom/example/dense_bloom/densebloom/model/BloomFilter;" } : Jvm.MethodName) prog_17_method_3_code (6 : Nat) (Option.some (Jvm.ClassFile.FieldType.object "com/example/dense_bloom/densebloom/model/BloomFilter")), Jvm.Cond.code ({ cls := "com/example/dense_bloom/densebloom/model/FilterSize", name := "bits", desc := "()J" } : Jvm.MethodName) prog_27_method_22_code (1 : Nat) (Option.some Jvm.ClassFile.FieldType.long), Jvm.Cond.code ({ cls := "com/example/dense_bloom/densebloom/model/BloomFilter", name := "wordCount", desc := "(J)I" } : Jvm.MethodName) prog_17_method_6_code (2 : Nat) (Option.some Jvm.ClassFile.FieldType.int), Jvm.Cond.code ({ cls := "com/example/dense_bloom/densebloom/model/BloomFilter", name := "<init>", desc := "(Lcom/example/dense_bloom/densebloom/model/FilterSize;Lcom/example/dense_bloom/densebloom/model/EntryKind;J[J)V" } : Jvm.MethodName) prog_17_method_2_code (6 : Nat) (Option.none : Option Jvm.ClassFile.FieldType), Jvm.Cond.code ({ cls := "com/example/dense_bloom/densebloom/model/BloomFilter", name := "size", desc := "()Lcom/example/dense_bloom/densebloom/model/FilterSize;" } : Jvm.MethodName) prog_17_method_7_code (1 : Nat) (Option.some (Jvm.ClassFile.FieldType.object "com/example/dense_bloom/densebloom/model/FilterSize")), Jvm.Cond.code ({ cls := "com/example/dense_bloom/densebloom/model/BloomFilter", name := "kind", desc := "()Lcom/example/dense_bloom/densebloom/model/EntryKind;" } : Jvm.MethodName) prog_17_method_8_code (1 : Nat) (Option.some (Jvm.ClassFile.FieldType.object "com/example/dense_bloom/densebloom/model/EntryKind")), Jvm.Cond.code ({ cls := "com/example/dense_bloom/densebloom/model/BloomFilter", name := "added", desc := "()J" } : Jvm.MethodName) prog_17_method_9_code (1 : Nat) (Option.some Jvm.ClassFile.FieldType.long), Jvm.Cond.code ({ cls := "com/example/dense_bloom/densebloom/model/BloomFilter", name := "wordCount", desc := "()I" } : Jvm.MethodName) prog_17_method_12_code (1 : Nat) (Option.some Jvm.ClassFile.FieldType.int), Jvm.Cond.code ({ cls := "com/example/dense_bloom/densebloom/model/BloomFilter", name := "word", desc := "(I)J" } : Jvm.MethodName) prog_17_method_13_code (2 : Nat) (Option.some Jvm.ClassFile.FieldType.long)]
set_option maxRecDepth 65536 in
theorem codes_eq : words1.filter isCode = codes1 := rfl
theorem w_codes : ∀ c ∈ words1.filter isCode, c.before args0 about1 = true := by
  rw [codes_eq]
  intro c hc
  simp only [codes1, List.mem_cons, List.not_mem_nil, or_false] at hc
  rcases hc with rfl | rfl | rfl | rfl | rfl | rfl | rfl | rfl | rfl | rfl | rfl | rfl | rfl | rfl | rfl | rfl | rfl
  · exact w_c0
  · exact w_c1
  · exact w_c2
  · exact w_c3
  · exact w_c4
  · exact w_c5
  · exact w_c6
  · exact w_c7
  · exact w_c8
  · exact w_c9
  · exact w_c10
  · exact w_c11
  · exact w_c12
  · exact w_c13
  · exact w_c14
  · exact w_c15
  · exact w_c16
set_option maxRecDepth 65536 in
theorem w_t1 : (words1.take 24).all (fun c => isCode c || c.before args0 about1) = true := by decide +kernel
set_option maxRecDepth 65536 in
theorem w_t2 : ((words1.drop 24).take 24).all (fun c => isCode c || c.before args0 about1) = true := by decide +kernel
set_option maxRecDepth 65536 in
theorem w_t3 : (((words1.drop 24).drop 24).take 24).all (fun c => isCode c || c.before args0 about1) = true := by decide +kernel
set_option maxRecDepth 65536 in
theorem w_t4 : ((((words1.drop 24).drop 24).drop 24).take 24).all (fun c => isCode c || c.before args0 about1) = true := by decide +kernel
set_option maxRecDepth 65536 in
theorem w_t5 : ((((words1.drop 24).drop 24).drop 24).drop 24).all (fun c => isCode c || c.before args0 about1) = true := by decide +kernel
theorem w_tables : (allAtoms (Jvm.Cond.code x code maxLocals ret :: tables_1)).before args0 about1 = true := by
  rw [allAtoms_all]
  show words1.all (fun c => c.before args0 about1) = true
  refine all_split ?_ w_codes
  rw [← List.take_append_drop 24 words1, List.all_append, w_t1, ← List.take_append_drop 24 (words1.drop 24), List.all_append, w_t2, ← List.take_append_drop 24 ((words1.drop 24).drop 24), List.all_append, w_t3, ← List.take_append_drop 24 (((words1.drop 24).drop 24).drop 24), List.all_append, w_t4, w_t5]
  rfl
set_option maxRecDepth 65536 in
theorem w_case : (Jvm.Cond.and given_1 narrow_1).before args0 about1 = true := by decide +kernel
theorem w_applies : (headSpec (Jvm.Cond.code x code maxLocals ret :: tables_1) room_1).applies x e0.platform about1 = true :=
  (Spec.applies_iff w_frames).mpr ⟨w_running, w_runnable, w_alone, w_named, w_hears, w_ripe, w_room, w_tables⟩
theorem atStart : AtStart classFile x code maxLocals ret World_1 tables_1 room_1 Calls_1 rest_1 Pre_1 launch0 p0 e0 about1 theMethod args0 below0 :=
  ⟨lists_1, trivial, launch0.admits_env _ _ _, launch0.least_env, fairChoices_fair.cas, fairChoices_fair.clock, w_frames, w_args, w_heap, w_applies, trivial, trivial, w_case⟩
end start1
theorem witness_1 : WitnessClaimed_1 := ⟨start1.p0, start1.e0, start1.about1, start1.theMethod, start1.args0, start1.below0, start1.atStart⟩
end Jvm.Pilot.@@N@@
