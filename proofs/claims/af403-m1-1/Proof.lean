import JvmDerived
import JvmDerived.Pilot.@@N@@Statement
import JvmDerived.Pilot.@@N@@Code
set_option linter.unusedVariables false
set_option linter.unusedSimpArgs false

namespace Jvm.OwnGo
open Sem ClassFile Op Lib Jvm.Stand Jvm.Free Jvm.LawKit Jvm.RoadKit
/-- what is known of a body while it is walked -/
def Cx (Z : State) (y : MethodName) (code : ByteArray) (ml : Nat) (ret : Option FieldType) (p : Program) (s : State) (m : MethodId) (meth : Method) (c : Code) : Prop :=
  p.tables.exec = Jvm.exec ∧ c.code = code ∧ Z.Warmed39 s.vm ∧ s.vm.findClass y.cls = some m.cls ∧ c.maxLocals = ml ∧ meth.sig.returnType = ret ∧ meth.locks = false ∧ meth.name = y.name
/-- from the frame (pc, Ls, st) over the heap h, with at most k cells and n slots made so far, the body of y returns with Q -/
def Go (l : Launch) (Z : State) (y : MethodName) (code : ByteArray) (ml : Nat) (ret : Option FieldType) (R : Room) (Q : Option Value → Heap → Prop) (k n : Nat) (h : Heap) (pc : Nat) (Ls : Array Slot) (st : List Value) : Prop :=
  ∀ (p : Program) (e : Env) (s : State) (m : MethodId) (args : Array Value) (below : List Frame) (meth : Method) (c : Code), Cx Z y code ml ret p s m meth c →
  ∀ (T : State) (L : List Loc) (k' n' : Nat), Stand p l e R s m args below meth c T L k' n' → k' ≤ k → n' ≤ n → Fr Z.heap.size L → T.heap = h →
  ∃ (v : Option Value) (T' : State) (L' : List Loc) (k'' n'' : Nat), Stand p l e R s m args below meth c T' L' k'' n'' ∧ k'' ≤ R.cells ∧ n'' ≤ R.slots ∧ Fr Z.heap.size L' ∧ Q v T'.heap ∧ (ret = none → v = none) ∧
    ∀ fs, (∀ (f : JFrame) (acts : List Action), f.method = m → f.locked = none → f.entered = [] → (doReturn e (T'.setTop f) acts v).1 = T'.setFrames fs) → Steps p.tables e below (T.setTop (mkF m pc Ls st)) (T'.setFrames fs)
/-- the shapes of an answer -/
def QI (P : Int32 → Heap → Prop) (v : Option Value) (h : Heap) : Prop := ∃ z : Int32, v = some (.int z) ∧ P z h
def QJ (P : Int64 → Heap → Prop) (v : Option Value) (h : Heap) : Prop := ∃ z : Int64, v = some (.long z) ∧ P z h
def QR (P : Value → Heap → Prop) (v : Option Value) (h : Heap) : Prop := ∃ z : Value, v = some z ∧ P z h
def QV (P : Heap → Prop) (v : Option Value) (h : Heap) : Prop := v = none ∧ P h
section Laws
variable {l : Launch} {Z : State} {y : MethodName} {code : ByteArray} {ml : Nat} {ret : Option FieldType} {R : Room} {Q : Option Value → Heap → Prop} {k n : Nat} {h : Heap} {pc : Nat} {Ls : Array Slot} {st : List Value} {a0 : Array Value}
theorem Go.pure {pc' : Nat} {Ls' : Array Slot} {st' : List Value} (g : Go l Z y code ml ret R Q k n h pc' Ls' st')
    (f : ∀ (p : Program) (e : Env) (s : State) (m : MethodId) (args : Array Value) (below : List Frame) (meth : Method) (c : Code), Cx Z y code ml ret p s m meth c → ∀ (T : State) (L : List Loc) (k' n' : Nat), Stand p l e R s m args below meth c T L k' n' → T.heap = h → ∀ target, Steps p.tables e below (T.setTop (mkF m pc' Ls' st')) target → Steps p.tables e below (T.setTop (mkF m pc Ls st)) target) :
    Go l Z y code ml ret R Q k n h pc Ls st := by
  intro p e s m args below meth c K T L k' n' X h1 h2 N hT
  obtain ⟨v, T', L', k'', n'', X', b1, b2, N', q, hv, stp⟩ := g p e s m args below meth c K T L k' n' X h1 h2 N hT
  exact ⟨v, T', L', k'', n'', X', b1, b2, N', q, hv, fun fs hl => f p e s m args below meth c K T L k' n' X hT _ (stp fs hl)⟩
/-- a step that moves the state: by a law that hands out the new Stand -/
theorem Go.move {pc' : Nat} {Ls' : Array Slot} {st' : List Value} {kk nn : Nat} {P : Heap → Prop} (g : ∀ h', P h' → Go l Z y code ml ret R Q kk nn h' pc' Ls' st')
    (f : ∀ (p : Program) (e : Env) (s : State) (m : MethodId) (args : Array Value) (below : List Frame) (meth : Method) (c : Code), Cx Z y code ml ret p s m meth c → ∀ (T : State) (L : List Loc) (k' n' : Nat), Stand p l e R s m args below meth c T L k' n' → k' ≤ k → n' ≤ n → Fr Z.heap.size L → T.heap = h →
      ∃ (T' : State) (L' : List Loc) (k'' n'' : Nat), Stand p l e R s m args below meth c T' L' k'' n'' ∧ k'' ≤ kk ∧ n'' ≤ nn ∧ Fr Z.heap.size L' ∧ P T'.heap ∧ ∀ target, Steps p.tables e below (T'.setTop (mkF m pc' Ls' st')) target → Steps p.tables e below (T.setTop (mkF m pc Ls st)) target) :
    Go l Z y code ml ret R Q k n h pc Ls st := by
  intro p e s m args below meth c K T L k' n' X h1 h2 N hT
  obtain ⟨T1, L1, k1, n1, X1, c1, c2, N1, p1, s1⟩ := f p e s m args below meth c K T L k' n' X h1 h2 N hT
  obtain ⟨v, T', L', k'', n'', X', b1, b2, N', q, hv, stp⟩ := g _ p1 p e s m args below meth c K T1 L1 k1 n1 X1 c1 c2 N1 rfl
  exact ⟨v, T', L', k'', n'', X', b1, b2, N', q, hv, fun fs hl => s1 _ (stp fs hl)⟩
theorem Go.le {k₀ n₀ : Nat} (g : Go l Z y code ml ret R Q k n h pc Ls st) (hk : k₀ ≤ k) (hn : n₀ ≤ n) : Go l Z y code ml ret R Q k₀ n₀ h pc Ls st :=
  fun p e s m args below meth c K T L k' n' X h1 h2 N hT => g p e s m args below meth c K T L k' n' X (Nat.le_trans h1 hk) (Nat.le_trans h2 hn) N hT
theorem Go.mono {Q' : Option Value → Heap → Prop} (g : Go l Z y code ml ret R Q k n h pc Ls st) (hq : ∀ v h', Q v h' → Q' v h') : Go l Z y code ml ret R Q' k n h pc Ls st := by
  intro p e s m args below meth c K T L k' n' X h1 h2 N hT
  obtain ⟨v, T', L', k'', n'', X', b1, b2, N', q, r⟩ := g p e s m args below meth c K T L k' n' X h1 h2 N hT
  exact ⟨v, T', L', k'', n'', X', b1, b2, N', hq _ _ q, r⟩
theorem Go.nameI {x : Int32} (g : ∀ v : Int32, v = x → Go l Z y code ml ret R Q k n h pc Ls (.int v :: st)) : Go l Z y code ml ret R Q k n h pc Ls (.int x :: st) := g x rfl
theorem Go.nameJ {x : Int64} (g : ∀ v : Int64, v = x → Go l Z y code ml ret R Q k n h pc Ls (.long v :: st)) : Go l Z y code ml ret R Q k n h pc Ls (.long x :: st) := g x rfl

theorem Go.iadd {x z : Int32} (q : Nat) (hd : decode code pc = .ok (.iadd, 1))  (hq : pc + 1 = q) (g : Go l Z y code ml ret R Q k n h q Ls (.int (x + z) :: st)) : Go l Z y code ml ret R Q k n h pc Ls (.int z :: .int x :: st) := by
  subst hq; exact g.pure fun p e s m args below meth c K T L k' n' X hT t r => XS.iadd X.here K.1 rfl (hb K.2.1 hd) rfl  r
theorem Go.isub {x z : Int32} (q : Nat) (hd : decode code pc = .ok (.isub, 1))  (hq : pc + 1 = q) (g : Go l Z y code ml ret R Q k n h q Ls (.int (x - z) :: st)) : Go l Z y code ml ret R Q k n h pc Ls (.int z :: .int x :: st) := by
  subst hq; exact g.pure fun p e s m args below meth c K T L k' n' X hT t r => XS.isub X.here K.1 rfl (hb K.2.1 hd) rfl  r
theorem Go.iand {x z : Int32} (q : Nat) (hd : decode code pc = .ok (.iand, 1))  (hq : pc + 1 = q) (g : Go l Z y code ml ret R Q k n h q Ls (.int (x &&& z) :: st)) : Go l Z y code ml ret R Q k n h pc Ls (.int z :: .int x :: st) := by
  subst hq; exact g.pure fun p e s m args below meth c K T L k' n' X hT t r => XS.iand X.here K.1 rfl (hb K.2.1 hd) rfl  r
theorem Go.imul {x z : Int32} (q : Nat) (hd : decode code pc = .ok (.imul, 1))  (hq : pc + 1 = q) (g : Go l Z y code ml ret R Q k n h q Ls (.int (x * z) :: st)) : Go l Z y code ml ret R Q k n h pc Ls (.int z :: .int x :: st) := by
  subst hq; exact g.pure fun p e s m args below meth c K T L k' n' X hT t r => XS.imul X.here K.1 rfl (hb K.2.1 hd) rfl  r
theorem Go.ixor {x z : Int32} (q : Nat) (hd : decode code pc = .ok (.ixor, 1))  (hq : pc + 1 = q) (g : Go l Z y code ml ret R Q k n h q Ls (.int (x ^^^ z) :: st)) : Go l Z y code ml ret R Q k n h pc Ls (.int z :: .int x :: st) := by
  subst hq; exact g.pure fun p e s m args below meth c K T L k' n' X hT t r => XT.ixor X.here K.1 rfl (hb K.2.1 hd) rfl  r
theorem Go.ior {x z : Int32} (q : Nat) (hd : decode code pc = .ok (.ior, 1))  (hq : pc + 1 = q) (g : Go l Z y code ml ret R Q k n h q Ls (.int (x ||| z) :: st)) : Go l Z y code ml ret R Q k n h pc Ls (.int z :: .int x :: st) := by
  subst hq; exact g.pure fun p e s m args below meth c K T L k' n' X hT t r => XT.ior X.here K.1 rfl (hb K.2.1 hd) rfl  r
theorem Go.ishl {x z : Int32} (q : Nat) (hd : decode code pc = .ok (.ishl, 1))  (hq : pc + 1 = q) (g : Go l Z y code ml ret R Q k n h q Ls (.int (x <<< (z &&& 31)) :: st)) : Go l Z y code ml ret R Q k n h pc Ls (.int z :: .int x :: st) := by
  subst hq; exact g.pure fun p e s m args below meth c K T L k' n' X hT t r => XT.ishl X.here K.1 rfl (hb K.2.1 hd) rfl  r
theorem Go.ishr {x z : Int32} (q : Nat) (hd : decode code pc = .ok (.ishr, 1))  (hq : pc + 1 = q) (g : Go l Z y code ml ret R Q k n h q Ls (.int (x >>> (z &&& 31)) :: st)) : Go l Z y code ml ret R Q k n h pc Ls (.int z :: .int x :: st) := by
  subst hq; exact g.pure fun p e s m args below meth c K T L k' n' X hT t r => XT.ishr X.here K.1 rfl (hb K.2.1 hd) rfl  r
theorem Go.iushr {x z : Int32} (q : Nat) (hd : decode code pc = .ok (.iushr, 1))  (hq : pc + 1 = q) (g : Go l Z y code ml ret R Q k n h q Ls (.int (XT.ushr x z) :: st)) : Go l Z y code ml ret R Q k n h pc Ls (.int z :: .int x :: st) := by
  subst hq; exact g.pure fun p e s m args below meth c K T L k' n' X hT t r => XT.iushr X.here K.1 rfl (hb K.2.1 hd) rfl  r
theorem Go.idiv {x z : Int32} (q : Nat) (hd : decode code pc = .ok (.idiv, 1)) (hz : z ≠ 0) (hq : pc + 1 = q) (g : Go l Z y code ml ret R Q k n h q Ls (.int (x / z) :: st)) : Go l Z y code ml ret R Q k n h pc Ls (.int z :: .int x :: st) := by
  subst hq; exact g.pure fun p e s m args below meth c K T L k' n' X hT t r => XS.idiv X.here K.1 rfl (hb K.2.1 hd) rfl hz r
theorem Go.irem {x z : Int32} (q : Nat) (hd : decode code pc = .ok (.irem, 1)) (hz : z ≠ 0) (hq : pc + 1 = q) (g : Go l Z y code ml ret R Q k n h q Ls (.int (x % z) :: st)) : Go l Z y code ml ret R Q k n h pc Ls (.int z :: .int x :: st) := by
  subst hq; exact g.pure fun p e s m args below meth c K T L k' n' X hT t r => iremM X K.1 rfl (hb K.2.1 hd) rfl hz r
theorem Go.ineg {x : Int32} (q : Nat) (hd : decode code pc = .ok (.ineg, 1))  (hq : pc + 1 = q) (g : Go l Z y code ml ret R Q k n h q Ls (.int (-x) :: st)) : Go l Z y code ml ret R Q k n h pc Ls (.int x :: st) := by
  subst hq; exact g.pure fun p e s m args below meth c K T L k' n' X hT t r => XS.ineg X.here K.1 rfl (hb K.2.1 hd) rfl  r
theorem Go.ladd {x z : Int64} (q : Nat) (hd : decode code pc = .ok (.ladd, 1))  (hq : pc + 1 = q) (g : Go l Z y code ml ret R Q k n h q Ls (.long (x + z) :: st)) : Go l Z y code ml ret R Q k n h pc Ls (.long z :: .long x :: st) := by
  subst hq; exact g.pure fun p e s m args below meth c K T L k' n' X hT t r => XT.ladd X.here K.1 rfl (hb K.2.1 hd) rfl  r
theorem Go.lsub {x z : Int64} (q : Nat) (hd : decode code pc = .ok (.lsub, 1))  (hq : pc + 1 = q) (g : Go l Z y code ml ret R Q k n h q Ls (.long (x - z) :: st)) : Go l Z y code ml ret R Q k n h pc Ls (.long z :: .long x :: st) := by
  subst hq; exact g.pure fun p e s m args below meth c K T L k' n' X hT t r => XT.lsub X.here K.1 rfl (hb K.2.1 hd) rfl  r
theorem Go.lmul {x z : Int64} (q : Nat) (hd : decode code pc = .ok (.lmul, 1))  (hq : pc + 1 = q) (g : Go l Z y code ml ret R Q k n h q Ls (.long (x * z) :: st)) : Go l Z y code ml ret R Q k n h pc Ls (.long z :: .long x :: st) := by
  subst hq; exact g.pure fun p e s m args below meth c K T L k' n' X hT t r => XT.lmul X.here K.1 rfl (hb K.2.1 hd) rfl  r
theorem Go.land {x z : Int64} (q : Nat) (hd : decode code pc = .ok (.land, 1))  (hq : pc + 1 = q) (g : Go l Z y code ml ret R Q k n h q Ls (.long (x &&& z) :: st)) : Go l Z y code ml ret R Q k n h pc Ls (.long z :: .long x :: st) := by
  subst hq; exact g.pure fun p e s m args below meth c K T L k' n' X hT t r => XT.land X.here K.1 rfl (hb K.2.1 hd) rfl  r
theorem Go.lor {x z : Int64} (q : Nat) (hd : decode code pc = .ok (.lor, 1))  (hq : pc + 1 = q) (g : Go l Z y code ml ret R Q k n h q Ls (.long (x ||| z) :: st)) : Go l Z y code ml ret R Q k n h pc Ls (.long z :: .long x :: st) := by
  subst hq; exact g.pure fun p e s m args below meth c K T L k' n' X hT t r => XT.lor X.here K.1 rfl (hb K.2.1 hd) rfl  r
theorem Go.lxor {x z : Int64} (q : Nat) (hd : decode code pc = .ok (.lxor, 1))  (hq : pc + 1 = q) (g : Go l Z y code ml ret R Q k n h q Ls (.long (x ^^^ z) :: st)) : Go l Z y code ml ret R Q k n h pc Ls (.long z :: .long x :: st) := by
  subst hq; exact g.pure fun p e s m args below meth c K T L k' n' X hT t r => XT.lxor X.here K.1 rfl (hb K.2.1 hd) rfl  r
theorem Go.ldiv {x z : Int64} (q : Nat) (hd : decode code pc = .ok (.ldiv, 1)) (hz : z ≠ 0) (hq : pc + 1 = q) (g : Go l Z y code ml ret R Q k n h q Ls (.long (x / z) :: st)) : Go l Z y code ml ret R Q k n h pc Ls (.long z :: .long x :: st) := by
  subst hq; exact g.pure fun p e s m args below meth c K T L k' n' X hT t r => XT.ldiv X.here K.1 rfl (hb K.2.1 hd) rfl hz r
theorem Go.lrem {x z : Int64} (q : Nat) (hd : decode code pc = .ok (.lrem, 1)) (hz : z ≠ 0) (hq : pc + 1 = q) (g : Go l Z y code ml ret R Q k n h q Ls (.long (x - (x / z) * z) :: st)) : Go l Z y code ml ret R Q k n h pc Ls (.long z :: .long x :: st) := by
  subst hq; exact g.pure fun p e s m args below meth c K T L k' n' X hT t r => XT.lrem X.here K.1 rfl (hb K.2.1 hd) rfl hz r
theorem Go.lneg {x : Int64} (q : Nat) (hd : decode code pc = .ok (.lneg, 1))  (hq : pc + 1 = q) (g : Go l Z y code ml ret R Q k n h q Ls (.long (-x) :: st)) : Go l Z y code ml ret R Q k n h pc Ls (.long x :: st) := by
  subst hq; exact g.pure fun p e s m args below meth c K T L k' n' X hT t r => XT.lneg X.here K.1 rfl (hb K.2.1 hd) rfl  r
theorem Go.lshl {x : Int64} {z : Int32} (q : Nat) (hd : decode code pc = .ok (.lshl, 1))  (hq : pc + 1 = q) (g : Go l Z y code ml ret R Q k n h q Ls (.long (x <<< (z.toInt64 &&& 63)) :: st)) : Go l Z y code ml ret R Q k n h pc Ls (.int z :: .long x :: st) := by
  subst hq; exact g.pure fun p e s m args below meth c K T L k' n' X hT t r => XT.lshl X.here K.1 rfl (hb K.2.1 hd) rfl  r
theorem Go.lshr {x : Int64} {z : Int32} (q : Nat) (hd : decode code pc = .ok (.lshr, 1))  (hq : pc + 1 = q) (g : Go l Z y code ml ret R Q k n h q Ls (.long (x >>> (z.toInt64 &&& 63)) :: st)) : Go l Z y code ml ret R Q k n h pc Ls (.int z :: .long x :: st) := by
  subst hq; exact g.pure fun p e s m args below meth c K T L k' n' X hT t r => XT.lshr X.here K.1 rfl (hb K.2.1 hd) rfl  r
theorem Go.lushr {x : Int64} {z : Int32} (q : Nat) (hd : decode code pc = .ok (.lushr, 1))  (hq : pc + 1 = q) (g : Go l Z y code ml ret R Q k n h q Ls (.long (XT.ushrL x z) :: st)) : Go l Z y code ml ret R Q k n h pc Ls (.int z :: .long x :: st) := by
  subst hq; exact g.pure fun p e s m args below meth c K T L k' n' X hT t r => XT.lushr X.here K.1 rfl (hb K.2.1 hd) rfl  r
theorem Go.lcmp {x z : Int64} (q : Nat) (hd : decode code pc = .ok (.lcmp, 1))  (hq : pc + 1 = q) (g : Go l Z y code ml ret R Q k n h q Ls (.int (XT.cmpL x z) :: st)) : Go l Z y code ml ret R Q k n h pc Ls (.long z :: .long x :: st) := by
  subst hq; exact g.pure fun p e s m args below meth c K T L k' n' X hT t r => XT.lcmp X.here K.1 rfl (hb K.2.1 hd) rfl  r
theorem Go.i2l {x : Int32} (q : Nat) (hd : decode code pc = .ok (.i2l, 1))  (hq : pc + 1 = q) (g : Go l Z y code ml ret R Q k n h q Ls (.long x.toInt64 :: st)) : Go l Z y code ml ret R Q k n h pc Ls (.int x :: st) := by
  subst hq; exact g.pure fun p e s m args below meth c K T L k' n' X hT t r => XT.i2l X.here K.1 rfl (hb K.2.1 hd) rfl  r
theorem Go.l2i {x : Int64} (q : Nat) (hd : decode code pc = .ok (.l2i, 1))  (hq : pc + 1 = q) (g : Go l Z y code ml ret R Q k n h q Ls (.int x.toInt32 :: st)) : Go l Z y code ml ret R Q k n h pc Ls (.long x :: st) := by
  subst hq; exact g.pure fun p e s m args below meth c K T L k' n' X hT t r => XT.l2i X.here K.1 rfl (hb K.2.1 hd) rfl  r
theorem Go.i2b {x : Int32} (q : Nat) (hd : decode code pc = .ok (.i2b, 1))  (hq : pc + 1 = q) (g : Go l Z y code ml ret R Q k n h q Ls (.int x.toInt8.toInt32 :: st)) : Go l Z y code ml ret R Q k n h pc Ls (.int x :: st) := by
  subst hq; exact g.pure fun p e s m args below meth c K T L k' n' X hT t r => XT.i2b X.here K.1 rfl (hb K.2.1 hd) rfl  r
theorem Go.i2c {x : Int32} (q : Nat) (hd : decode code pc = .ok (.i2c, 1))  (hq : pc + 1 = q) (g : Go l Z y code ml ret R Q k n h q Ls (.int x.toUInt32.toUInt16.toUInt32.toInt32 :: st)) : Go l Z y code ml ret R Q k n h pc Ls (.int x :: st) := by
  subst hq; exact g.pure fun p e s m args below meth c K T L k' n' X hT t r => XT.i2c X.here K.1 rfl (hb K.2.1 hd) rfl  r
theorem Go.i2s {x : Int32} (q : Nat) (hd : decode code pc = .ok (.i2s, 1))  (hq : pc + 1 = q) (g : Go l Z y code ml ret R Q k n h q Ls (.int x.toInt16.toInt32 :: st)) : Go l Z y code ml ret R Q k n h pc Ls (.int x :: st) := by
  subst hq; exact g.pure fun p e s m args below meth c K T L k' n' X hT t r => XT.i2s X.here K.1 rfl (hb K.2.1 hd) rfl  r
theorem Go.pop {x : Value} (q : Nat) (hd : decode code pc = .ok (.pop, 1)) (hc : x.category = 1) (hq : pc + 1 = q) (g : Go l Z y code ml ret R Q k n h q Ls (st)) : Go l Z y code ml ret R Q k n h pc Ls (x :: st) := by
  subst hq; exact g.pure fun p e s m args below meth c K T L k' n' X hT t r => XT.pop X.here K.1 rfl (hb K.2.1 hd) rfl hc r
theorem Go.dup {x : Value} (q : Nat) (hd : decode code pc = .ok (.dup, 1)) (hc : x.category = 1) (hq : pc + 1 = q) (g : Go l Z y code ml ret R Q k n h q Ls (x :: x :: st)) : Go l Z y code ml ret R Q k n h pc Ls (x :: st) := by
  subst hq; exact g.pure fun p e s m args below meth c K T L k' n' X hT t r => XS.dup X.here K.1 rfl (hb K.2.1 hd) rfl hc r
theorem Go.dupX1 {x z : Value} (q : Nat) (hd : decode code pc = .ok (.dup_x1, 1)) (hc : x.category = 1) (hc' : z.category = 1) (hq : pc + 1 = q) (g : Go l Z y code ml ret R Q k n h q Ls (x :: z :: x :: st)) : Go l Z y code ml ret R Q k n h pc Ls (x :: z :: st) := by
  subst hq; exact g.pure fun p e s m args below meth c K T L k' n' X hT t r => XT.dupX1 X.here K.1 rfl (hb K.2.1 hd) rfl hc hc' r
theorem Go.dup2 {x z : Value} (q : Nat) (hd : decode code pc = .ok (.dup2, 1)) (hc : x.category = 1) (hc' : z.category = 1) (hq : pc + 1 = q) (g : Go l Z y code ml ret R Q k n h q Ls (x :: z :: x :: z :: st)) : Go l Z y code ml ret R Q k n h pc Ls (x :: z :: st) := by
  subst hq; exact g.pure fun p e s m args below meth c K T L k' n' X hT t r => XT.dup2 X.here K.1 rfl (hb K.2.1 hd) rfl hc hc' r
theorem Go.dup2L {x : Int64} (q : Nat) (hd : decode code pc = .ok (.dup2, 1))  (hq : pc + 1 = q) (g : Go l Z y code ml ret R Q k n h q Ls (.long x :: .long x :: st)) : Go l Z y code ml ret R Q k n h pc Ls (.long x :: st) := by
  subst hq; exact g.pure fun p e s m args below meth c K T L k' n' X hT t r => XT.dup2L X.here K.1 rfl (hb K.2.1 hd) rfl  r
theorem Go.iconst {i : Int} (q : Nat) (v : Int32) (hd : decode code pc = .ok (.iconst i, 1)) (hv : Int32.ofInt i = v) (hq : pc + 1 = q) (g : Go l Z y code ml ret R Q k n h q Ls (.int v :: st)) : Go l Z y code ml ret R Q k n h pc Ls st := by
  subst hq; exact g.pure fun p e s m args below meth c K T L k' n' X hT t r => XT.iconstV X.here K.1 rfl v (hb K.2.1 hd) hv r
theorem Go.bipush {i : Int} (q : Nat) (v : Int32) (hd : decode code pc = .ok (.bipush i, 2)) (hv : (Int8.ofInt i).toInt32 = v) (hq : pc + 2 = q) (g : Go l Z y code ml ret R Q k n h q Ls (.int v :: st)) : Go l Z y code ml ret R Q k n h pc Ls st := by
  subst hq; exact g.pure fun p e s m args below meth c K T L k' n' X hT t r => XT.bipushV X.here K.1 rfl v (hb K.2.1 hd) hv r
theorem Go.sipush {i : Int} (q : Nat) (v : Int32) (hd : decode code pc = .ok (.sipush i, 3)) (hv : (Int16.ofInt i).toInt32 = v) (hq : pc + 3 = q) (g : Go l Z y code ml ret R Q k n h q Ls (.int v :: st)) : Go l Z y code ml ret R Q k n h pc Ls st := by
  subst hq; exact g.pure fun p e s m args below meth c K T L k' n' X hT t r => XT.sipushV X.here K.1 rfl v (hb K.2.1 hd) hv r
theorem Go.lconst {i : Fin 2} (q : Nat) (v : Int64) (hd : decode code pc = .ok (.lconst i, 1)) (hv : Int64.ofNat i = v) (hq : pc + 1 = q) (g : Go l Z y code ml ret R Q k n h q Ls (.long v :: st)) : Go l Z y code ml ret R Q k n h pc Ls st := by
  subst hq; exact g.pure fun p e s m args below meth c K T L k' n' X hT t r => XT.lconstV X.here K.1 rfl v (hb K.2.1 hd) hv r
theorem Go.aconst_null (q : Nat) (hd : decode code pc = .ok (.aconst_null, 1)) (hq : pc + 1 = q) (g : Go l Z y code ml ret R Q k n h q Ls (.null :: st)) : Go l Z y code ml ret R Q k n h pc Ls st := by
  subst hq; exact g.pure fun p e s m args below meth c K T L k' n' X hT t r => XS.aconstNull X.here K.1 rfl (hb K.2.1 hd) r
theorem Go.ldc {i : Nat} {v : Int32} (q : Nat) (hd : decode code pc = .ok (.ldc i, 2)) (w : (Cond.constant y.cls i v).before a0 Z = true) (hq : pc + 2 = q) (g : Go l Z y code ml ret R Q k n h q Ls (.int v :: st)) : Go l Z y code ml ret R Q k n h pc Ls st := by
  subst hq; exact g.pure fun p e s m args below meth c K T L k' n' X hT t r => X.ldcI K.1 K.2.2.2.1 (mvT K.2.2.1 w) rfl (hb K.2.1 hd) r
theorem Go.ldc_w {i : Nat} {v : Int32} (q : Nat) (hd : decode code pc = .ok (.ldc_w i, 3)) (w : (Cond.constant y.cls i v).before a0 Z = true) (hq : pc + 3 = q) (g : Go l Z y code ml ret R Q k n h q Ls (.int v :: st)) : Go l Z y code ml ret R Q k n h pc Ls st := by
  subst hq; exact g.pure fun p e s m args below meth c K T L k' n' X hT t r => X.ldcWI K.1 K.2.2.2.1 (mvT K.2.2.1 w) rfl (hb K.2.1 hd) r
theorem Go.ldc2_w {i : Nat} {v : Int64} (q : Nat) (hd : decode code pc = .ok (.ldc2_w i, 3)) (w : (Cond.constantLong y.cls i v).before a0 Z = true) (hq : pc + 3 = q) (g : Go l Z y code ml ret R Q k n h q Ls (.long v :: st)) : Go l Z y code ml ret R Q k n h pc Ls st := by
  subst hq; exact g.pure fun p e s m args below meth c K T L k' n' X hT t r => X.ldc2J K.1 K.2.2.2.1 (mvT K.2.2.1 w) rfl (hb K.2.1 hd) r
theorem Go.iload {i : Nat} {v : Int32} (q : Nat) (hd : decode code pc = .ok (.iload i, 2)) (hl : Ls[i]? = some (.val (.int v))) (hq : pc + 2 = q) (g : Go l Z y code ml ret R Q k n h q Ls (.int v :: st)) : Go l Z y code ml ret R Q k n h pc Ls st := by
  subst hq; exact g.pure fun p e s m args below meth c K T L k' n' X hT t r => XS.iload X.here K.1 rfl (hb K.2.1 hd) hl r
theorem Go.iload_n {i : Fin 4} {v : Int32} (q : Nat) (hd : decode code pc = .ok (.iload_n i, 1)) (hl : Ls[i.val]? = some (.val (.int v))) (hq : pc + 1 = q) (g : Go l Z y code ml ret R Q k n h q Ls (.int v :: st)) : Go l Z y code ml ret R Q k n h pc Ls st := by
  subst hq; exact g.pure fun p e s m args below meth c K T L k' n' X hT t r => XS.iloadN X.here K.1 rfl (hb K.2.1 hd) hl r
theorem Go.lload {i : Nat} {v : Int64} (q : Nat) (hd : decode code pc = .ok (.lload i, 2)) (hl : Ls[i]? = some (.val (.long v))) (hq : pc + 2 = q) (g : Go l Z y code ml ret R Q k n h q Ls (.long v :: st)) : Go l Z y code ml ret R Q k n h pc Ls st := by
  subst hq; exact g.pure fun p e s m args below meth c K T L k' n' X hT t r => XT.lload X.here K.1 rfl (hb K.2.1 hd) hl r
theorem Go.lload_n {i : Fin 4} {v : Int64} (q : Nat) (hd : decode code pc = .ok (.lload_n i, 1)) (hl : Ls[i.val]? = some (.val (.long v))) (hq : pc + 1 = q) (g : Go l Z y code ml ret R Q k n h q Ls (.long v :: st)) : Go l Z y code ml ret R Q k n h pc Ls st := by
  subst hq; exact g.pure fun p e s m args below meth c K T L k' n' X hT t r => XT.lloadN X.here K.1 rfl (hb K.2.1 hd) hl r
theorem Go.aload {i : Nat} {v : Value} (q : Nat) (hd : decode code pc = .ok (.aload i, 2)) (hl : Ls[i]? = some (.val v)) (hv : v.isRef = true) (hq : pc + 2 = q) (g : Go l Z y code ml ret R Q k n h q Ls (v :: st)) : Go l Z y code ml ret R Q k n h pc Ls st := by
  subst hq; exact g.pure fun p e s m args below meth c K T L k' n' X hT t r => XS.aload X.here K.1 rfl (hb K.2.1 hd) hl hv r
theorem Go.aload_n {i : Fin 4} {v : Value} (q : Nat) (hd : decode code pc = .ok (.aload_n i, 1)) (hl : Ls[i.val]? = some (.val v)) (hv : v.isRef = true) (hq : pc + 1 = q) (g : Go l Z y code ml ret R Q k n h q Ls (v :: st)) : Go l Z y code ml ret R Q k n h pc Ls st := by
  subst hq; exact g.pure fun p e s m args below meth c K T L k' n' X hT t r => XS.aloadN X.here K.1 rfl (hb K.2.1 hd) hl hv r
theorem Go.istore {i : Nat} {v : Int32} (q : Nat) (Ls' : Array Slot) (hd : decode code pc = .ok (.istore i, 2)) (hl : storeLocals Ls i (.int v) = some Ls') (hq : pc + 2 = q) (g : Go l Z y code ml ret R Q k n h q Ls' st) : Go l Z y code ml ret R Q k n h pc Ls (.int v :: st) := by
  subst hq; exact g.pure fun p e s m args below meth c K T L k' n' X hT t r => XS.istore X.here K.1 rfl (hb K.2.1 hd) rfl hl r
theorem Go.istore_n {i : Fin 4} {v : Int32} (q : Nat) (Ls' : Array Slot) (hd : decode code pc = .ok (.istore_n i, 1)) (hl : storeLocals Ls i.val (.int v) = some Ls') (hq : pc + 1 = q) (g : Go l Z y code ml ret R Q k n h q Ls' st) : Go l Z y code ml ret R Q k n h pc Ls (.int v :: st) := by
  subst hq; exact g.pure fun p e s m args below meth c K T L k' n' X hT t r => XS.istoreN X.here K.1 rfl (hb K.2.1 hd) rfl hl r
theorem Go.lstore {i : Nat} {v : Int64} (q : Nat) (Ls' : Array Slot) (hd : decode code pc = .ok (.lstore i, 2)) (hl : storeLocals Ls i (.long v) = some Ls') (hq : pc + 2 = q) (g : Go l Z y code ml ret R Q k n h q Ls' st) : Go l Z y code ml ret R Q k n h pc Ls (.long v :: st) := by
  subst hq; exact g.pure fun p e s m args below meth c K T L k' n' X hT t r => XT.lstore X.here K.1 rfl (hb K.2.1 hd) rfl hl r
theorem Go.lstore_n {i : Fin 4} {v : Int64} (q : Nat) (Ls' : Array Slot) (hd : decode code pc = .ok (.lstore_n i, 1)) (hl : storeLocals Ls i.val (.long v) = some Ls') (hq : pc + 1 = q) (g : Go l Z y code ml ret R Q k n h q Ls' st) : Go l Z y code ml ret R Q k n h pc Ls (.long v :: st) := by
  subst hq; exact g.pure fun p e s m args below meth c K T L k' n' X hT t r => XT.lstoreN X.here K.1 rfl (hb K.2.1 hd) rfl hl r
theorem Go.astore {i : Nat} {v : Value} (q : Nat) (Ls' : Array Slot) (hd : decode code pc = .ok (.astore i, 2)) (hv : v.isRef = true) (hl : storeLocals Ls i v = some Ls') (hq : pc + 2 = q) (g : Go l Z y code ml ret R Q k n h q Ls' st) : Go l Z y code ml ret R Q k n h pc Ls (v :: st) := by
  subst hq; exact g.pure fun p e s m args below meth c K T L k' n' X hT t r => XS.astore X.here K.1 rfl (hb K.2.1 hd) rfl hv hl r
theorem Go.astore_n {i : Fin 4} {v : Value} (q : Nat) (Ls' : Array Slot) (hd : decode code pc = .ok (.astore_n i, 1)) (hv : v.isRef = true) (hl : storeLocals Ls i.val v = some Ls') (hq : pc + 1 = q) (g : Go l Z y code ml ret R Q k n h q Ls' st) : Go l Z y code ml ret R Q k n h pc Ls (v :: st) := by
  subst hq; exact g.pure fun p e s m args below meth c K T L k' n' X hT t r => XS.astoreN X.here K.1 rfl (hb K.2.1 hd) rfl hv hl r
theorem Go.iinc {i : Nat} {cst : Int} {x : Int32} (q : Nat) (v : Int32) (Ls' : Array Slot) (hd : decode code pc = .ok (.iinc i cst, 3)) (hv : Int32.ofInt cst = v) (hl : Ls[i]? = some (.val (.int x))) (hl' : storeLocals Ls i (.int (x + v)) = some Ls') (hq : pc + 3 = q) (g : Go l Z y code ml ret R Q k n h q Ls' st) : Go l Z y code ml ret R Q k n h pc Ls st := by
  subst hq; exact g.pure fun p e s m args below meth c K T L k' n' X hT t r => XT.iincV X.here K.1 rfl v (hb K.2.1 hd) hv hl hl' r
theorem Go.goto {o : Int} (q : Nat) (hd : decode code pc = .ok (.goto o, 3)) (ho : 0 ≤ (pc : Int) + o) (hq : ((pc : Int) + o).toNat = q) (g : Go l Z y code ml ret R Q k n h q Ls st) : Go l Z y code ml ret R Q k n h pc Ls st :=
  g.pure fun p e s m args below meth c K T L k' n' X hT t r => XS.goto X.here K.1 rfl rfl (hb K.2.1 hd) ho hq r
theorem Go.icmp_eq {o : Int} {x z : Int32} (q1 q2 : Nat) (hd : decode code pc = .ok (.if_icmp .eq o, 3)) (ho : 0 ≤ (pc : Int) + o) (h1 : ((pc : Int) + o).toNat = q1) (h2 : pc + 3 = q2) (g1 : x = z → Go l Z y code ml ret R Q k n h q1 Ls st) (g2 : ¬ x = z → Go l Z y code ml ret R Q k n h q2 Ls st) : Go l Z y code ml ret R Q k n h pc Ls (.int z :: .int x :: st) := by
  subst h2
  by_cases hc : x = z
  · exact (g1 hc).pure fun p e s m args below meth c K T L k' n' X hT t r => XS.icmpYes X.here K.1 rfl rfl (hb K.2.1 hd) rfl (XT.ii_eq_t hc) ho h1 r
  · exact (g2 (by first | exact hc | exact Decidable.not_not.mp hc)).pure fun p e s m args below meth c K T L k' n' X hT t r => XS.icmpNo X.here K.1 rfl (hb K.2.1 hd) rfl (XT.ii_eq_f (by first | exact hc | exact Decidable.not_not.mp hc)) r
theorem Go.lcmp_eq {o : Int} {x z : Int64} (q1 q2 : Nat) (hd : decode code pc = .ok (.ifCond .eq o, 3)) (ho : 0 ≤ (pc : Int) + o) (h1 : ((pc : Int) + o).toNat = q1) (h2 : pc + 3 = q2) (g1 : x = z → Go l Z y code ml ret R Q k n h q1 Ls st) (g2 : ¬ x = z → Go l Z y code ml ret R Q k n h q2 Ls st) : Go l Z y code ml ret R Q k n h pc Ls (.int (XT.cmpL x z) :: st) := by
  subst h2
  by_cases hc : x = z
  · exact (g1 hc).pure fun p e s m args below meth c K T L k' n' X hT t r => XS.ifYes X.here K.1 rfl rfl (hb K.2.1 hd) rfl (XT.ll_eq_t hc) ho h1 r
  · exact (g2 (by first | exact hc | exact Decidable.not_not.mp hc)).pure fun p e s m args below meth c K T L k' n' X hT t r => XS.ifNo X.here K.1 rfl (hb K.2.1 hd) rfl (XT.ll_eq_f (by first | exact hc | exact Decidable.not_not.mp hc)) r
theorem Go.icmp_ne {o : Int} {x z : Int32} (q1 q2 : Nat) (hd : decode code pc = .ok (.if_icmp .ne o, 3)) (ho : 0 ≤ (pc : Int) + o) (h1 : ((pc : Int) + o).toNat = q1) (h2 : pc + 3 = q2) (g1 : ¬ x = z → Go l Z y code ml ret R Q k n h q1 Ls st) (g2 : x = z → Go l Z y code ml ret R Q k n h q2 Ls st) : Go l Z y code ml ret R Q k n h pc Ls (.int z :: .int x :: st) := by
  subst h2
  by_cases hc : ¬ x = z
  · exact (g1 hc).pure fun p e s m args below meth c K T L k' n' X hT t r => XS.icmpYes X.here K.1 rfl rfl (hb K.2.1 hd) rfl (XT.ii_ne_t hc) ho h1 r
  · exact (g2 (by first | exact hc | exact Decidable.not_not.mp hc)).pure fun p e s m args below meth c K T L k' n' X hT t r => XS.icmpNo X.here K.1 rfl (hb K.2.1 hd) rfl (XT.ii_ne_f (by first | exact hc | exact Decidable.not_not.mp hc)) r
theorem Go.lcmp_ne {o : Int} {x z : Int64} (q1 q2 : Nat) (hd : decode code pc = .ok (.ifCond .ne o, 3)) (ho : 0 ≤ (pc : Int) + o) (h1 : ((pc : Int) + o).toNat = q1) (h2 : pc + 3 = q2) (g1 : ¬ x = z → Go l Z y code ml ret R Q k n h q1 Ls st) (g2 : x = z → Go l Z y code ml ret R Q k n h q2 Ls st) : Go l Z y code ml ret R Q k n h pc Ls (.int (XT.cmpL x z) :: st) := by
  subst h2
  by_cases hc : ¬ x = z
  · exact (g1 hc).pure fun p e s m args below meth c K T L k' n' X hT t r => XS.ifYes X.here K.1 rfl rfl (hb K.2.1 hd) rfl (XT.ll_ne_t hc) ho h1 r
  · exact (g2 (by first | exact hc | exact Decidable.not_not.mp hc)).pure fun p e s m args below meth c K T L k' n' X hT t r => XS.ifNo X.here K.1 rfl (hb K.2.1 hd) rfl (XT.ll_ne_f (by first | exact hc | exact Decidable.not_not.mp hc)) r
theorem Go.icmp_lt {o : Int} {x z : Int32} (q1 q2 : Nat) (hd : decode code pc = .ok (.if_icmp .lt o, 3)) (ho : 0 ≤ (pc : Int) + o) (h1 : ((pc : Int) + o).toNat = q1) (h2 : pc + 3 = q2) (g1 : x < z → Go l Z y code ml ret R Q k n h q1 Ls st) (g2 : ¬ x < z → Go l Z y code ml ret R Q k n h q2 Ls st) : Go l Z y code ml ret R Q k n h pc Ls (.int z :: .int x :: st) := by
  subst h2
  by_cases hc : x < z
  · exact (g1 hc).pure fun p e s m args below meth c K T L k' n' X hT t r => XS.icmpYes X.here K.1 rfl rfl (hb K.2.1 hd) rfl (XT.ii_lt_t hc) ho h1 r
  · exact (g2 (by first | exact hc | exact Decidable.not_not.mp hc)).pure fun p e s m args below meth c K T L k' n' X hT t r => XS.icmpNo X.here K.1 rfl (hb K.2.1 hd) rfl (XT.ii_lt_f (by first | exact hc | exact Decidable.not_not.mp hc)) r
theorem Go.lcmp_lt {o : Int} {x z : Int64} (q1 q2 : Nat) (hd : decode code pc = .ok (.ifCond .lt o, 3)) (ho : 0 ≤ (pc : Int) + o) (h1 : ((pc : Int) + o).toNat = q1) (h2 : pc + 3 = q2) (g1 : x < z → Go l Z y code ml ret R Q k n h q1 Ls st) (g2 : ¬ x < z → Go l Z y code ml ret R Q k n h q2 Ls st) : Go l Z y code ml ret R Q k n h pc Ls (.int (XT.cmpL x z) :: st) := by
  subst h2
  by_cases hc : x < z
  · exact (g1 hc).pure fun p e s m args below meth c K T L k' n' X hT t r => XS.ifYes X.here K.1 rfl rfl (hb K.2.1 hd) rfl (XT.ll_lt_t hc) ho h1 r
  · exact (g2 (by first | exact hc | exact Decidable.not_not.mp hc)).pure fun p e s m args below meth c K T L k' n' X hT t r => XS.ifNo X.here K.1 rfl (hb K.2.1 hd) rfl (XT.ll_lt_f (by first | exact hc | exact Decidable.not_not.mp hc)) r
theorem Go.icmp_ge {o : Int} {x z : Int32} (q1 q2 : Nat) (hd : decode code pc = .ok (.if_icmp .ge o, 3)) (ho : 0 ≤ (pc : Int) + o) (h1 : ((pc : Int) + o).toNat = q1) (h2 : pc + 3 = q2) (g1 : ¬ x < z → Go l Z y code ml ret R Q k n h q1 Ls st) (g2 : x < z → Go l Z y code ml ret R Q k n h q2 Ls st) : Go l Z y code ml ret R Q k n h pc Ls (.int z :: .int x :: st) := by
  subst h2
  by_cases hc : ¬ x < z
  · exact (g1 hc).pure fun p e s m args below meth c K T L k' n' X hT t r => XS.icmpYes X.here K.1 rfl rfl (hb K.2.1 hd) rfl (XT.ii_ge_t hc) ho h1 r
  · exact (g2 (by first | exact hc | exact Decidable.not_not.mp hc)).pure fun p e s m args below meth c K T L k' n' X hT t r => XS.icmpNo X.here K.1 rfl (hb K.2.1 hd) rfl (XT.ii_ge_f (by first | exact hc | exact Decidable.not_not.mp hc)) r
theorem Go.lcmp_ge {o : Int} {x z : Int64} (q1 q2 : Nat) (hd : decode code pc = .ok (.ifCond .ge o, 3)) (ho : 0 ≤ (pc : Int) + o) (h1 : ((pc : Int) + o).toNat = q1) (h2 : pc + 3 = q2) (g1 : ¬ x < z → Go l Z y code ml ret R Q k n h q1 Ls st) (g2 : x < z → Go l Z y code ml ret R Q k n h q2 Ls st) : Go l Z y code ml ret R Q k n h pc Ls (.int (XT.cmpL x z) :: st) := by
  subst h2
  by_cases hc : ¬ x < z
  · exact (g1 hc).pure fun p e s m args below meth c K T L k' n' X hT t r => XS.ifYes X.here K.1 rfl rfl (hb K.2.1 hd) rfl (XT.ll_ge_t hc) ho h1 r
  · exact (g2 (by first | exact hc | exact Decidable.not_not.mp hc)).pure fun p e s m args below meth c K T L k' n' X hT t r => XS.ifNo X.here K.1 rfl (hb K.2.1 hd) rfl (XT.ll_ge_f (by first | exact hc | exact Decidable.not_not.mp hc)) r
theorem Go.icmp_gt {o : Int} {x z : Int32} (q1 q2 : Nat) (hd : decode code pc = .ok (.if_icmp .gt o, 3)) (ho : 0 ≤ (pc : Int) + o) (h1 : ((pc : Int) + o).toNat = q1) (h2 : pc + 3 = q2) (g1 : z < x → Go l Z y code ml ret R Q k n h q1 Ls st) (g2 : ¬ z < x → Go l Z y code ml ret R Q k n h q2 Ls st) : Go l Z y code ml ret R Q k n h pc Ls (.int z :: .int x :: st) := by
  subst h2
  by_cases hc : z < x
  · exact (g1 hc).pure fun p e s m args below meth c K T L k' n' X hT t r => XS.icmpYes X.here K.1 rfl rfl (hb K.2.1 hd) rfl (XT.ii_gt_t hc) ho h1 r
  · exact (g2 (by first | exact hc | exact Decidable.not_not.mp hc)).pure fun p e s m args below meth c K T L k' n' X hT t r => XS.icmpNo X.here K.1 rfl (hb K.2.1 hd) rfl (XT.ii_gt_f (by first | exact hc | exact Decidable.not_not.mp hc)) r
theorem Go.lcmp_gt {o : Int} {x z : Int64} (q1 q2 : Nat) (hd : decode code pc = .ok (.ifCond .gt o, 3)) (ho : 0 ≤ (pc : Int) + o) (h1 : ((pc : Int) + o).toNat = q1) (h2 : pc + 3 = q2) (g1 : z < x → Go l Z y code ml ret R Q k n h q1 Ls st) (g2 : ¬ z < x → Go l Z y code ml ret R Q k n h q2 Ls st) : Go l Z y code ml ret R Q k n h pc Ls (.int (XT.cmpL x z) :: st) := by
  subst h2
  by_cases hc : z < x
  · exact (g1 hc).pure fun p e s m args below meth c K T L k' n' X hT t r => XS.ifYes X.here K.1 rfl rfl (hb K.2.1 hd) rfl (XT.ll_gt_t hc) ho h1 r
  · exact (g2 (by first | exact hc | exact Decidable.not_not.mp hc)).pure fun p e s m args below meth c K T L k' n' X hT t r => XS.ifNo X.here K.1 rfl (hb K.2.1 hd) rfl (XT.ll_gt_f (by first | exact hc | exact Decidable.not_not.mp hc)) r
theorem Go.icmp_le {o : Int} {x z : Int32} (q1 q2 : Nat) (hd : decode code pc = .ok (.if_icmp .le o, 3)) (ho : 0 ≤ (pc : Int) + o) (h1 : ((pc : Int) + o).toNat = q1) (h2 : pc + 3 = q2) (g1 : ¬ z < x → Go l Z y code ml ret R Q k n h q1 Ls st) (g2 : z < x → Go l Z y code ml ret R Q k n h q2 Ls st) : Go l Z y code ml ret R Q k n h pc Ls (.int z :: .int x :: st) := by
  subst h2
  by_cases hc : ¬ z < x
  · exact (g1 hc).pure fun p e s m args below meth c K T L k' n' X hT t r => XS.icmpYes X.here K.1 rfl rfl (hb K.2.1 hd) rfl (XT.ii_le_t hc) ho h1 r
  · exact (g2 (by first | exact hc | exact Decidable.not_not.mp hc)).pure fun p e s m args below meth c K T L k' n' X hT t r => XS.icmpNo X.here K.1 rfl (hb K.2.1 hd) rfl (XT.ii_le_f (by first | exact hc | exact Decidable.not_not.mp hc)) r
theorem Go.lcmp_le {o : Int} {x z : Int64} (q1 q2 : Nat) (hd : decode code pc = .ok (.ifCond .le o, 3)) (ho : 0 ≤ (pc : Int) + o) (h1 : ((pc : Int) + o).toNat = q1) (h2 : pc + 3 = q2) (g1 : ¬ z < x → Go l Z y code ml ret R Q k n h q1 Ls st) (g2 : z < x → Go l Z y code ml ret R Q k n h q2 Ls st) : Go l Z y code ml ret R Q k n h pc Ls (.int (XT.cmpL x z) :: st) := by
  subst h2
  by_cases hc : ¬ z < x
  · exact (g1 hc).pure fun p e s m args below meth c K T L k' n' X hT t r => XS.ifYes X.here K.1 rfl rfl (hb K.2.1 hd) rfl (XT.ll_le_t hc) ho h1 r
  · exact (g2 (by first | exact hc | exact Decidable.not_not.mp hc)).pure fun p e s m args below meth c K T L k' n' X hT t r => XS.ifNo X.here K.1 rfl (hb K.2.1 hd) rfl (XT.ll_le_f (by first | exact hc | exact Decidable.not_not.mp hc)) r
theorem if0_eq_t {x : Int32} (h : x = 0) : ifCond.holds .eq x = true := by
  have e : ifCond.holds .eq x = if_icmp.holds .eq x 0 := rfl
  rw [e]; exact XT.ii_eq_t h
theorem if0_eq_f {x : Int32} (h : ¬ x = 0) : ifCond.holds .eq x = false := by
  have e : ifCond.holds .eq x = if_icmp.holds .eq x 0 := rfl
  rw [e]; exact XT.ii_eq_f h
theorem Go.if_eq {o : Int} {x : Int32} (q1 q2 : Nat) (hd : decode code pc = .ok (.ifCond .eq o, 3)) (ho : 0 ≤ (pc : Int) + o) (h1 : ((pc : Int) + o).toNat = q1) (h2 : pc + 3 = q2) (g1 : x = 0 → Go l Z y code ml ret R Q k n h q1 Ls st) (g2 : ¬ x = 0 → Go l Z y code ml ret R Q k n h q2 Ls st) : Go l Z y code ml ret R Q k n h pc Ls (.int x :: st) := by
  subst h2
  by_cases hc : x = 0
  · exact (g1 hc).pure fun p e s m args below meth c K T L k' n' X hT t r => XS.ifYes X.here K.1 rfl rfl (hb K.2.1 hd) rfl (if0_eq_t hc) ho h1 r
  · exact (g2 (by first | exact hc | exact Decidable.not_not.mp hc)).pure fun p e s m args below meth c K T L k' n' X hT t r => XS.ifNo X.here K.1 rfl (hb K.2.1 hd) rfl (if0_eq_f (by first | exact hc | exact Decidable.not_not.mp hc)) r
theorem if0_ne_t {x : Int32} (h : ¬ x = 0) : ifCond.holds .ne x = true := by
  have e : ifCond.holds .ne x = if_icmp.holds .ne x 0 := rfl
  rw [e]; exact XT.ii_ne_t h
theorem if0_ne_f {x : Int32} (h : x = 0) : ifCond.holds .ne x = false := by
  have e : ifCond.holds .ne x = if_icmp.holds .ne x 0 := rfl
  rw [e]; exact XT.ii_ne_f h
theorem Go.if_ne {o : Int} {x : Int32} (q1 q2 : Nat) (hd : decode code pc = .ok (.ifCond .ne o, 3)) (ho : 0 ≤ (pc : Int) + o) (h1 : ((pc : Int) + o).toNat = q1) (h2 : pc + 3 = q2) (g1 : ¬ x = 0 → Go l Z y code ml ret R Q k n h q1 Ls st) (g2 : x = 0 → Go l Z y code ml ret R Q k n h q2 Ls st) : Go l Z y code ml ret R Q k n h pc Ls (.int x :: st) := by
  subst h2
  by_cases hc : ¬ x = 0
  · exact (g1 hc).pure fun p e s m args below meth c K T L k' n' X hT t r => XS.ifYes X.here K.1 rfl rfl (hb K.2.1 hd) rfl (if0_ne_t hc) ho h1 r
  · exact (g2 (by first | exact hc | exact Decidable.not_not.mp hc)).pure fun p e s m args below meth c K T L k' n' X hT t r => XS.ifNo X.here K.1 rfl (hb K.2.1 hd) rfl (if0_ne_f (by first | exact hc | exact Decidable.not_not.mp hc)) r
theorem if0_lt_t {x : Int32} (h : x < 0) : ifCond.holds .lt x = true := by
  have e : ifCond.holds .lt x = if_icmp.holds .lt x 0 := rfl
  rw [e]; exact XT.ii_lt_t h
theorem if0_lt_f {x : Int32} (h : ¬ x < 0) : ifCond.holds .lt x = false := by
  have e : ifCond.holds .lt x = if_icmp.holds .lt x 0 := rfl
  rw [e]; exact XT.ii_lt_f h
theorem Go.if_lt {o : Int} {x : Int32} (q1 q2 : Nat) (hd : decode code pc = .ok (.ifCond .lt o, 3)) (ho : 0 ≤ (pc : Int) + o) (h1 : ((pc : Int) + o).toNat = q1) (h2 : pc + 3 = q2) (g1 : x < 0 → Go l Z y code ml ret R Q k n h q1 Ls st) (g2 : ¬ x < 0 → Go l Z y code ml ret R Q k n h q2 Ls st) : Go l Z y code ml ret R Q k n h pc Ls (.int x :: st) := by
  subst h2
  by_cases hc : x < 0
  · exact (g1 hc).pure fun p e s m args below meth c K T L k' n' X hT t r => XS.ifYes X.here K.1 rfl rfl (hb K.2.1 hd) rfl (if0_lt_t hc) ho h1 r
  · exact (g2 (by first | exact hc | exact Decidable.not_not.mp hc)).pure fun p e s m args below meth c K T L k' n' X hT t r => XS.ifNo X.here K.1 rfl (hb K.2.1 hd) rfl (if0_lt_f (by first | exact hc | exact Decidable.not_not.mp hc)) r
theorem if0_ge_t {x : Int32} (h : ¬ x < 0) : ifCond.holds .ge x = true := by
  have e : ifCond.holds .ge x = if_icmp.holds .ge x 0 := rfl
  rw [e]; exact XT.ii_ge_t h
theorem if0_ge_f {x : Int32} (h : x < 0) : ifCond.holds .ge x = false := by
  have e : ifCond.holds .ge x = if_icmp.holds .ge x 0 := rfl
  rw [e]; exact XT.ii_ge_f h
theorem Go.if_ge {o : Int} {x : Int32} (q1 q2 : Nat) (hd : decode code pc = .ok (.ifCond .ge o, 3)) (ho : 0 ≤ (pc : Int) + o) (h1 : ((pc : Int) + o).toNat = q1) (h2 : pc + 3 = q2) (g1 : ¬ x < 0 → Go l Z y code ml ret R Q k n h q1 Ls st) (g2 : x < 0 → Go l Z y code ml ret R Q k n h q2 Ls st) : Go l Z y code ml ret R Q k n h pc Ls (.int x :: st) := by
  subst h2
  by_cases hc : ¬ x < 0
  · exact (g1 hc).pure fun p e s m args below meth c K T L k' n' X hT t r => XS.ifYes X.here K.1 rfl rfl (hb K.2.1 hd) rfl (if0_ge_t hc) ho h1 r
  · exact (g2 (by first | exact hc | exact Decidable.not_not.mp hc)).pure fun p e s m args below meth c K T L k' n' X hT t r => XS.ifNo X.here K.1 rfl (hb K.2.1 hd) rfl (if0_ge_f (by first | exact hc | exact Decidable.not_not.mp hc)) r
theorem if0_gt_t {x : Int32} (h : 0 < x) : ifCond.holds .gt x = true := by
  have e : ifCond.holds .gt x = if_icmp.holds .gt x 0 := rfl
  rw [e]; exact XT.ii_gt_t h
theorem if0_gt_f {x : Int32} (h : ¬ 0 < x) : ifCond.holds .gt x = false := by
  have e : ifCond.holds .gt x = if_icmp.holds .gt x 0 := rfl
  rw [e]; exact XT.ii_gt_f h
theorem Go.if_gt {o : Int} {x : Int32} (q1 q2 : Nat) (hd : decode code pc = .ok (.ifCond .gt o, 3)) (ho : 0 ≤ (pc : Int) + o) (h1 : ((pc : Int) + o).toNat = q1) (h2 : pc + 3 = q2) (g1 : 0 < x → Go l Z y code ml ret R Q k n h q1 Ls st) (g2 : ¬ 0 < x → Go l Z y code ml ret R Q k n h q2 Ls st) : Go l Z y code ml ret R Q k n h pc Ls (.int x :: st) := by
  subst h2
  by_cases hc : 0 < x
  · exact (g1 hc).pure fun p e s m args below meth c K T L k' n' X hT t r => XS.ifYes X.here K.1 rfl rfl (hb K.2.1 hd) rfl (if0_gt_t hc) ho h1 r
  · exact (g2 (by first | exact hc | exact Decidable.not_not.mp hc)).pure fun p e s m args below meth c K T L k' n' X hT t r => XS.ifNo X.here K.1 rfl (hb K.2.1 hd) rfl (if0_gt_f (by first | exact hc | exact Decidable.not_not.mp hc)) r
theorem if0_le_t {x : Int32} (h : ¬ 0 < x) : ifCond.holds .le x = true := by
  have e : ifCond.holds .le x = if_icmp.holds .le x 0 := rfl
  rw [e]; exact XT.ii_le_t h
theorem if0_le_f {x : Int32} (h : 0 < x) : ifCond.holds .le x = false := by
  have e : ifCond.holds .le x = if_icmp.holds .le x 0 := rfl
  rw [e]; exact XT.ii_le_f h
theorem Go.if_le {o : Int} {x : Int32} (q1 q2 : Nat) (hd : decode code pc = .ok (.ifCond .le o, 3)) (ho : 0 ≤ (pc : Int) + o) (h1 : ((pc : Int) + o).toNat = q1) (h2 : pc + 3 = q2) (g1 : ¬ 0 < x → Go l Z y code ml ret R Q k n h q1 Ls st) (g2 : 0 < x → Go l Z y code ml ret R Q k n h q2 Ls st) : Go l Z y code ml ret R Q k n h pc Ls (.int x :: st) := by
  subst h2
  by_cases hc : ¬ 0 < x
  · exact (g1 hc).pure fun p e s m args below meth c K T L k' n' X hT t r => XS.ifYes X.here K.1 rfl rfl (hb K.2.1 hd) rfl (if0_le_t hc) ho h1 r
  · exact (g2 (by first | exact hc | exact Decidable.not_not.mp hc)).pure fun p e s m args below meth c K T L k' n' X hT t r => XS.ifNo X.here K.1 rfl (hb K.2.1 hd) rfl (if0_le_f (by first | exact hc | exact Decidable.not_not.mp hc)) r
theorem Go.ifnull_no {o : Int} {b : Addr} (q : Nat) (hd : decode code pc = .ok (.ifnull o, 3)) (hq : pc + 3 = q) (g : Go l Z y code ml ret R Q k n h q Ls st) : Go l Z y code ml ret R Q k n h pc Ls (.ref b :: st) := by
  subst hq; exact g.pure fun p e s m args below meth c K T L k' n' X hT t r => XS.ifnullNo X.here K.1 rfl (hb K.2.1 hd) rfl r
theorem Go.ifnull_yes {o : Int} (q : Nat) (hd : decode code pc = .ok (.ifnull o, 3)) (ho : 0 ≤ (pc : Int) + o) (hq : ((pc : Int) + o).toNat = q) (g : Go l Z y code ml ret R Q k n h q Ls st) : Go l Z y code ml ret R Q k n h pc Ls (.null :: st) :=
  g.pure fun p e s m args below meth c K T L k' n' X hT t r => XS.ifnullYes X.here K.1 rfl rfl (hb K.2.1 hd) rfl ho hq r
theorem Go.ifnonnull_yes {o : Int} {b : Addr} (q : Nat) (hd : decode code pc = .ok (.ifnonnull o, 3)) (ho : 0 ≤ (pc : Int) + o) (hq : ((pc : Int) + o).toNat = q) (g : Go l Z y code ml ret R Q k n h q Ls st) : Go l Z y code ml ret R Q k n h pc Ls (.ref b :: st) :=
  g.pure fun p e s m args below meth c K T L k' n' X hT t r => XT.ifnonnullYes X.here K.1 rfl rfl (hb K.2.1 hd) rfl ho hq r
theorem Go.ifnonnull_no {o : Int} (q : Nat) (hd : decode code pc = .ok (.ifnonnull o, 3)) (hq : pc + 3 = q) (g : Go l Z y code ml ret R Q k n h q Ls st) : Go l Z y code ml ret R Q k n h pc Ls (.null :: st) := by
  subst hq; exact g.pure fun p e s m args below meth c K T L k' n' X hT t r => XT.ifnonnullNo X.here K.1 rfl (hb K.2.1 hd) rfl r
theorem Go.acmp {cd : ACond} {o : Int} {x z : Value} (q : Nat) (same : Bool) (hd : decode code pc = .ok (.if_acmp cd o, 3)) (h1 : x.isRef = true) (h2 : z.isRef = true) (hs : decide (x = z) = same) (ho : 0 ≤ (pc : Int) + o) (hq : q = if acV cd same = true then ((pc : Int) + o).toNat else pc + 3) (g : Go l Z y code ml ret R Q k n h q Ls st) : Go l Z y code ml ret R Q k n h pc Ls (z :: x :: st) :=
  g.pure fun p e s m args below meth c K T L k' n' X hT t r => Jvm.RoadKit.acmp X K.1 rfl h1 h2 rfl (hb K.2.1 hd) rfl hs ho hq r
theorem Go.acmp_eq {o : Int} {x z : Addr} (q1 q2 : Nat) (hd : decode code pc = .ok (.if_acmp .eq o, 3)) (ho : 0 ≤ (pc : Int) + o) (h1 : ((pc : Int) + o).toNat = q1) (h2 : pc + 3 = q2) (g1 : x = z → Go l Z y code ml ret R Q k n h q1 Ls st) (g2 : ¬ x = z → Go l Z y code ml ret R Q k n h q2 Ls st) : Go l Z y code ml ret R Q k n h pc Ls (.ref z :: .ref x :: st) := by
  subst h1 h2
  by_cases hc : x = z
  · exact Go.acmp _ true hd rfl rfl (by simp [hc]) ho rfl (by simpa [acV] using g1 hc)
  · exact Go.acmp _ false hd rfl rfl (by simp [hc]) ho rfl (by simpa [acV] using g2 hc)
theorem Go.acmp_ne {o : Int} {x z : Addr} (q1 q2 : Nat) (hd : decode code pc = .ok (.if_acmp .ne o, 3)) (ho : 0 ≤ (pc : Int) + o) (h1 : ((pc : Int) + o).toNat = q1) (h2 : pc + 3 = q2) (g1 : ¬ x = z → Go l Z y code ml ret R Q k n h q1 Ls st) (g2 : x = z → Go l Z y code ml ret R Q k n h q2 Ls st) : Go l Z y code ml ret R Q k n h pc Ls (.ref z :: .ref x :: st) := by
  subst h1 h2
  by_cases hc : x = z
  · exact Go.acmp _ true hd rfl rfl (by simp [hc]) ho rfl (by simpa [acV] using g2 hc)
  · exact Go.acmp _ false hd rfl rfl (by simp [hc]) ho rfl (by simpa [acV] using g1 hc)

theorem Go.retV {w : Value} {t : FieldType} {i : Instr} (hd : decode code pc = .ok (i, 1)) (hret : ret = some t) (hn : narrow t w = w)
    (hi : (i = .ireturn ∧ (t = .int ∨ t = .boolean ∨ t = .byte ∨ t = .char ∨ t = .short) ∧ ∃ z, w = .int z) ∨ (i = .lreturn ∧ t = .long ∧ ∃ z, w = .long z) ∨ (i = .dreturn ∧ t = .double ∧ ∃ z, w = .double z) ∨ (i = .freturn ∧ t = .float ∧ ∃ z, w = .float z) ∨ (i = .areturn ∧ t.isReference = true ∧ w.isRef = true))
    (hk : k ≤ R.cells) (hN : n ≤ R.slots) (hQ : Q (some w) h) : Go l Z y code ml ret R Q k n h pc Ls (w :: st) := by
  intro p e s m args below meth c K T L k' n' X h1 h2 N hT
  refine ⟨some w, T, L, k', n', X, Nat.le_trans h1 hk, Nat.le_trans h2 hN, N, hT ▸ hQ, fun e => ?_, fun fs hl => ?_⟩
  · rw [hret] at e; cases e
  · exact retOut X K.1 (K.2.2.2.2.2.1.trans hret) hn hi (hb K.2.1 hd) hl
theorem Go.ireturn {z : Int32} {P : Int32 → Heap → Prop} (hd : decode code pc = .ok (.ireturn, 1)) (hret : ret = some .int) (hk : k ≤ R.cells) (hN : n ≤ R.slots) (hP : P z h) : Go l Z y code ml ret R (QI P) k n h pc Ls (.int z :: st) :=
  Go.retV hd hret rfl (Or.inl ⟨rfl, Or.inl rfl, z, rfl⟩) hk hN ⟨z, rfl, hP⟩
theorem Go.lreturn {z : Int64} {P : Int64 → Heap → Prop} (hd : decode code pc = .ok (.lreturn, 1)) (hret : ret = some .long) (hk : k ≤ R.cells) (hN : n ≤ R.slots) (hP : P z h) : Go l Z y code ml ret R (QJ P) k n h pc Ls (.long z :: st) :=
  Go.retV hd hret rfl (Or.inr (Or.inl ⟨rfl, rfl, z, rfl⟩)) hk hN ⟨z, rfl, hP⟩
theorem Go.areturn {z : Value} {t : FieldType} {P : Value → Heap → Prop} (hd : decode code pc = .ok (.areturn, 1)) (hret : ret = some t) (ht : t.isReference = true) (hz : z.isRef = true) (hk : k ≤ R.cells) (hN : n ≤ R.slots) (hP : P z h) : Go l Z y code ml ret R (QR P) k n h pc Ls (z :: st) := by
  refine Go.retV hd hret ?_ (Or.inr (Or.inr (Or.inr (Or.inr ⟨rfl, ht, hz⟩)))) hk hN ⟨z, rfl, hP⟩
  cases t <;> cases z <;> first | rfl | (simp [Value.isRef] at hz)
/-- a boolean, byte, char or short: narrowed -/
theorem Go.nreturn {z z' : Int32} {t : FieldType} {P : Int32 → Heap → Prop} (hd : decode code pc = .ok (.ireturn, 1)) (hret : ret = some t) (ht : t = .boolean ∨ t = .byte ∨ t = .char ∨ t = .short) (hz : nar t z = z') (hk : k ≤ R.cells) (hN : n ≤ R.slots) (hP : P z' h) : Go l Z y code ml ret R (QI P) k n h pc Ls (.int z :: st) := by
  subst hz
  intro p e s m args below meth c K T L k' n' X h1 h2 N hT
  refine ⟨some (.int (nar t z)), T, L, k', n', X, Nat.le_trans h1 hk, Nat.le_trans h2 hN, N, ⟨_, rfl, hT ▸ hP⟩, fun e => ?_, fun fs hl => ?_⟩
  · rw [hret] at e; cases e
  · exact retN X K.1 (K.2.2.2.2.2.1.trans hret) ht (hb K.2.1 hd) hl
theorem Go.vreturn {P : Heap → Prop} (hd : decode code pc = .ok (.return_, 1)) (hret : ret = none) (hk : k ≤ R.cells) (hN : n ≤ R.slots) (hP : P h) : Go l Z y code ml ret R (QV P) k n h pc Ls [] := by
  intro p e s m args below meth c K T L k' n' X h1 h2 N hT
  exact ⟨none, T, L, k', n', X, Nat.le_trans h1 hk, Nat.le_trans h2 hN, N, ⟨rfl, hT ▸ hP⟩, fun _ => rfl, fun fs hl => X.returnOut K.1 (K.2.2.2.2.2.1.trans hret) (hb K.2.1 hd) hl⟩
/-- the whole body, as a contract -/
theorem Go.met {as' : Array Value} (hx : plainFor y = true) (hent : ∀ m, entryFrame m as' ml = mkF m 0 Ls []) (G : Go l Z y code ml ret R Q 0 0 h 0 Ls []) (ws : List Jvm.Cond) :
    MetFree l y (head1 (Jvm.Cond.code y code ml ret :: ws) R) (fun a U => a = as' ∧ Z.Warmed39 U.vm ∧ U.heap = h) (fun _ _ _ _ _ => True) (fun _ U o U' => ∃ v L, o = .returned v ∧ (Q v U'.heap ∧ Fr Z.heap.size L) ∧ FrameEnd U o U' L R.cells R.slots) := by
  refine MetFree.of_bodySF hx hisR ?_
  intro p e s m args below meth c s₁ Bd hml hP hK
  obtain ⟨rfl, hZ, hh⟩ := hP
  have X0 : Stand p l e R s m args below meth c s₁ [] 0 0 := Stand.of_body Bd
  have e0 : s₁.heap = h := by rw [← hh, Bd.state]; rfl
  have hnm := (name_of_methodNamed Bd.named Bd.method).1
  obtain ⟨v, T', L', k'', n'', X', b1, b2, N', q, hv, stp⟩ := G p e s m args below meth c ⟨Bd.exec, Bd.bytes, hZ, findClass_of_methodNamed Bd.named, hml, Bd.returns, Bd.notSynchronized, hnm⟩ s₁ [] 0 0 X0 (Nat.le_refl _) (Nat.le_refl _) (Fr.nil _) e0
  obtain ⟨fs, hr, hrun, hended, hW, hsame⟩ := X'.leave (v := v) (fun hh => hv (by rw [← Bd.returns]; exact hh))
  refine ⟨_, _, castTop (hent m) (stp fs hr), hrun, hended, v, L', rfl, ⟨q, N'⟩, ⟨_, rfl⟩, hW, hsame.mono b1 b2⟩


theorem Go.getfield {i : Nat} {O nm d : String} {a : Addr} {v : Value} (q : Nat) (hd : decode code pc = .ok (.getfield i, 3)) (w : (Cond.fieldLink y.cls i O nm d).before a0 Z = true) (F : Fld Z h a O nm d v) (hq : pc + 3 = q) (g : Go l Z y code ml ret R Q k n h q Ls (v :: st)) : Go l Z y code ml ret R Q k n h pc Ls (.ref a :: st) := by
  subst hq
  refine Go.move (P := fun h' => h' = h) (kk := k) (nn := n) (fun h' e => e ▸ g) ?_
  intro p e s m args below meth c K T L k' n' X h1 h2 N hT
  obtain ⟨T', X', e', s'⟩ := getF X K.1 K.2.2.1 K.2.2.2.1 (host := "") (Or.inl w) Via.refl hT F (g := mkF m pc Ls (.ref a :: st)) rfl rfl (hb K.2.1 hd)
  exact ⟨T', L, k', n', X', h1, h2, N, e', s'⟩
theorem Go.getfieldN {i : Nat} {O nm d host : String} {a : Addr} {v : Value} (q : Nat) (hd : decode code pc = .ok (.getfield i, 3)) (w : (Cond.fieldLinkNest y.cls i O nm d host).before a0 Z = true) (F : Fld Z h a O nm d v) (hq : pc + 3 = q) (g : Go l Z y code ml ret R Q k n h q Ls (v :: st)) : Go l Z y code ml ret R Q k n h pc Ls (.ref a :: st) := by
  subst hq
  refine Go.move (P := fun h' => h' = h) (kk := k) (nn := n) (fun h' e => e ▸ g) ?_
  intro p e s m args below meth c K T L k' n' X h1 h2 N hT
  obtain ⟨T', X', e', s'⟩ := getF X K.1 K.2.2.1 K.2.2.2.1 (host := host) (Or.inr w) Via.refl hT F (g := mkF m pc Ls (.ref a :: st)) rfl rfl (hb K.2.1 hd)
  exact ⟨T', L, k', n', X', h1, h2, N, e', s'⟩
theorem Go.getfieldU {i : Nat} {R0 O nm d : String} {a : Addr} {v : Value} (q : Nat) (hd : decode code pc = .ok (.getfield i, 3)) (w : (Cond.fieldLink y.cls i R0 nm d).before a0 Z = true) (via : Via Z R0 O nm d) (F : Fld Z h a O nm d v) (hq : pc + 3 = q) (g : Go l Z y code ml ret R Q k n h q Ls (v :: st)) : Go l Z y code ml ret R Q k n h pc Ls (.ref a :: st) := by
  subst hq
  refine Go.move (P := fun h' => h' = h) (kk := k) (nn := n) (fun h' e => e ▸ g) ?_
  intro p e s m args below meth c K T L k' n' X h1 h2 N hT
  obtain ⟨T', X', e', s'⟩ := getF X K.1 K.2.2.1 K.2.2.2.1 (host := "") (Or.inl w) via hT F (g := mkF m pc Ls (.ref a :: st)) rfl rfl (hb K.2.1 hd)
  exact ⟨T', L, k', n', X', h1, h2, N, e', s'⟩
theorem Go.getstatic {i : Nat} {O nm d : String} {v : Value} (q : Nat) (hd : decode code pc = .ok (.getstatic i, 3)) (w : (Cond.fieldLink y.cls i O nm d).before a0 Z = true) (F : Sta Z h O nm d v) (hq : pc + 3 = q) (g : Go l Z y code ml ret R Q k n h q Ls (v :: st)) : Go l Z y code ml ret R Q k n h pc Ls st := by
  subst hq
  refine Go.move (P := fun h' => h' = h) (kk := k) (nn := n) (fun h' e => e ▸ g) ?_
  intro p e s m args below meth c K T L k' n' X h1 h2 N hT
  obtain ⟨T', X', e', s'⟩ := getS X K.1 K.2.2.1 (host := "") K.2.2.2.1 w Via.refl hT F (g := mkF m pc Ls st) rfl (hb K.2.1 hd)
  exact ⟨T', L, k', n', X', h1, h2, N, e', s'⟩
theorem Go.putfield {i kk : Nat} {C O nm d : String} {ty : FieldType} {a : Addr} {v old : Value} (q : Nat) (hd : decode code pc = .ok (.putfield i, 3)) (w : (Cond.fieldLink y.cls i O nm d).before a0 Z = true) (F : Fld Z h a O nm d old) (E : Exa Z h a C) (hL : (Cond.lays C O nm d).before a0 Z = true ∨ ((Cond.laysFinal C O nm d).before a0 Z = true ∧ y.cls = O ∧ y.name = "<init>"))
    (wi : (Cond.instantiable C kk).before a0 Z = true) (hty : parseFieldDescriptor d = some ty) (hn : narrow ty v = v) (hf : fits ty v = true) (hge : Z.heap.size ≤ a) (hq : pc + 3 = q)
    (g : ∀ h', Wr h h' a (Jvm.RoadKit.slotOf Z O nm d) v → Go l Z y code ml ret R Q k n h' q Ls st) : Go l Z y code ml ret R Q k n h pc Ls (v :: .ref a :: st) := by
  subst hq
  refine Go.move (P := fun h' => Wr h h' a (Jvm.RoadKit.slotOf Z O nm d) v) (kk := k) (nn := n) g ?_
  intro p e s m args below meth c K T L k' n' X h1 h2 N hT
  obtain ⟨T', h', X', e', W', s'⟩ := putF X K.1 K.2.2.1 K.2.2.2.1 (host := "") (Or.inl w) Via.refl hT F E (hL.imp id fun ⟨a1, a2, a3⟩ => ⟨a1, a2, K.2.2.2.2.2.2.2.trans a3⟩) wi hty hn hf (g := mkF m pc Ls (v :: .ref a :: st)) rfl rfl (hb K.2.1 hd)
  exact ⟨T', _, k', n', X', h1, h2, Fr.snoc X' N hge, e' ▸ W', s'⟩
theorem Go.putfieldU {i kk : Nat} {R0 C O nm d : String} {ty : FieldType} {a : Addr} {v old : Value} (q : Nat) (hd : decode code pc = .ok (.putfield i, 3)) (w : (Cond.fieldLink y.cls i R0 nm d).before a0 Z = true) (via : Via Z R0 O nm d) (F : Fld Z h a O nm d old) (E : Exa Z h a C) (hL : (Cond.lays C O nm d).before a0 Z = true ∨ ((Cond.laysFinal C O nm d).before a0 Z = true ∧ y.cls = O ∧ y.name = "<init>"))
    (wi : (Cond.instantiable C kk).before a0 Z = true) (hty : parseFieldDescriptor d = some ty) (hn : narrow ty v = v) (hf : fits ty v = true) (hge : Z.heap.size ≤ a) (hq : pc + 3 = q)
    (g : ∀ h', Wr h h' a (Jvm.RoadKit.slotOf Z O nm d) v → Go l Z y code ml ret R Q k n h' q Ls st) : Go l Z y code ml ret R Q k n h pc Ls (v :: .ref a :: st) := by
  subst hq
  refine Go.move (P := fun h' => Wr h h' a (Jvm.RoadKit.slotOf Z O nm d) v) (kk := k) (nn := n) g ?_
  intro p e s m args below meth c K T L k' n' X h1 h2 N hT
  obtain ⟨T', h', X', e', W', s'⟩ := putF X K.1 K.2.2.1 K.2.2.2.1 (host := "") (Or.inl w) via hT F E (hL.imp id fun ⟨a1, a2, a3⟩ => ⟨a1, a2, K.2.2.2.2.2.2.2.trans a3⟩) wi hty hn hf (g := mkF m pc Ls (v :: .ref a :: st)) rfl rfl (hb K.2.1 hd)
  exact ⟨T', _, k', n', X', h1, h2, Fr.snoc X' N hge, e' ▸ W', s'⟩
/-- a field that narrows (boolean, byte, char, short) -/
theorem Go.putfieldN {i kk : Nat} {C O nm d : String} {ty : FieldType} {a : Addr} {v v' old : Value} (q : Nat) (hd : decode code pc = .ok (.putfield i, 3)) (w : (Cond.fieldLink y.cls i O nm d).before a0 Z = true) (F : Fld Z h a O nm d old) (E : Exa Z h a C) (hL : (Cond.lays C O nm d).before a0 Z = true ∨ ((Cond.laysFinal C O nm d).before a0 Z = true ∧ y.cls = O ∧ y.name = "<init>"))
    (wi : (Cond.instantiable C kk).before a0 Z = true) (hty : parseFieldDescriptor d = some ty) (hn : narrow ty v = v') (hf : fits ty v' = true) (hge : Z.heap.size ≤ a) (hq : pc + 3 = q)
    (g : ∀ h', Wr h h' a (Jvm.RoadKit.slotOf Z O nm d) v' → Go l Z y code ml ret R Q k n h' q Ls st) : Go l Z y code ml ret R Q k n h pc Ls (v :: .ref a :: st) := by
  subst hq
  refine Go.move (P := fun h' => Wr h h' a (Jvm.RoadKit.slotOf Z O nm d) v') (kk := k) (nn := n) g ?_
  intro p e s m args below meth c K T L k' n' X h1 h2 N hT
  obtain ⟨T', h', X', e', W', s'⟩ := putFN X K.1 K.2.2.1 K.2.2.2.1 w Via.refl hT F E (hL.imp id fun ⟨a1, a2, a3⟩ => ⟨a1, a2, K.2.2.2.2.2.2.2.trans a3⟩) wi hty hn hf (g := mkF m pc Ls (v :: .ref a :: st)) rfl rfl (hb K.2.1 hd)
  exact ⟨T', _, k', n', X', h1, h2, Fr.snoc X' N hge, e' ▸ W', s'⟩
theorem Go.new {i sz : Nat} {C : String} (q : Nat) (hd : decode code pc = .ok (.new i, 3)) (w : (Cond.classLink y.cls i C).before a0 Z = true) (wi : (Cond.instantiable C sz).before a0 Z = true) (wz : (Cond.initialized C).before a0 Z = true) (hk : k + 1 ≤ R.cells) (hN : n + sz ≤ R.slots) (hq : pc + 3 = q)
    (g : ∀ (a : Addr) h', a = h.size → Ext h h' → Exa Z h' a C → (∀ {O nm d : String} {ty : FieldType}, Laid Z a0 C O nm d → parseFieldDescriptor d = some ty → Fld Z h' a O nm d (defaultValue ty)) → Go l Z y code ml ret R Q (k + 1) (n + sz) h' q Ls (.ref a :: st)) : Go l Z y code ml ret R Q k n h pc Ls st := by
  subst hq
  refine Go.move (P := fun h' => Ext h h' ∧ Exa Z h' h.size C ∧ (∀ {O nm d : String} {ty : FieldType}, Laid Z a0 C O nm d → parseFieldDescriptor d = some ty → Fld Z h' h.size O nm d (defaultValue ty))) (kk := k + 1) (nn := n + sz) (fun h' p => g h.size h' rfl p.1 p.2.1 p.2.2) ?_
  intro p e s m args below meth c K T L k' n' X h1 h2 N hT
  obtain ⟨T', h', X', e', E', A', D', -, s'⟩ := newO X K.1 K.2.2.1 K.2.2.2.1 w wi wz hT (g := mkF m pc Ls st) rfl (hb K.2.1 hd) (Nat.le_trans (Nat.add_le_add_right h1 1) hk) (Nat.le_trans (Nat.add_le_add_right h2 sz) hN)
  subst e'
  exact ⟨T', L, k' + 1, n' + sz, X', Nat.add_le_add_right h1 1, Nat.add_le_add_right h2 sz, N, ⟨E', A', D'⟩, s'⟩
theorem Go.initO {i : Nat} {a : Addr} (W : Nat) (q : Nat) (hd : decode code pc = .ok (.invokespecial i, 3)) (w1 : (Cond.methodLink y.cls i Lib.objectInit).before a0 Z = true) (w2 : (Cond.instanceMethod Lib.objectInit).before a0 Z = true) (w3 : (Cond.code Lib.objectInit ⟨#[0xb1]⟩ 1 none).before a0 Z = true)
    (hsz : Ls.size = ml) (hf : 1 ≤ R.frames) (hW : (st.map fun v => v.category).sum ≤ W) (hl : W + 12 ≤ R.locals) (hq : pc + 3 = q) (g : Go l Z y code ml ret R Q k n h q Ls st) : Go l Z y code ml ret R Q k n h pc Ls (.ref a :: st) := by
  subst hq
  refine Go.move (P := fun h' => h' = h) (kk := k) (nn := n) (fun h' e => e ▸ g) ?_
  intro p e s m args below meth c K T L k' n' X h1 h2 N hT
  obtain ⟨T', X', e', s'⟩ := Jvm.RoadKit.initO X K.1 K.2.2.1 K.2.2.2.1 w1 w2 w3 hT (g := mkF m pc Ls (.ref a :: st)) rfl (hsz.trans K.2.2.2.2.1.symm) rfl (hb K.2.1 hd) hf (W := W) (by show 2 * 0 + _ ≤ _; rw [Nat.mul_zero, Nat.zero_add]; exact hW) hl
  exact ⟨T', L, k', n', X', h1, h2, N, e', s'⟩


section Calls
variable {y' : MethodName} {code' : ByteArray} {ml' : Nat} {ret' : Option FieldType} {R' : Room} {Q' : Option Value → Heap → Prop} {Ls' : Array Slot} {i W : Nat}
theorem Go.callS (argsL : List Value) (rest : List Value) (q : Nat) (hd : decode code pc = .ok (.invokestatic i, 3)) (w1 : (Cond.methodLink y.cls i y').before a0 Z = true) (w2 : (Cond.static y').before a0 Z = true) (w3 : (Cond.initialized y'.cls).before a0 Z = true) (w4 : (Cond.code y' code' ml' ret').before a0 Z = true)
    (hpl : plainFor y' = true) (hy : y'.cls ≠ "java/lang/invoke/MethodHandle" ∧ y'.cls ≠ "java/lang/invoke/VarHandle") (hlen : ∀ sig, parseMethodDescriptor y'.desc = some sig → argsL.length = sig.parameters.length) (hst : st = argsL.reverse ++ rest) (hent : ∀ m, entryFrame m argsL.toArray ml' = mkF m 0 Ls' [])
    (G : Go l Z y' code' ml' ret' R' Q' 0 0 h 0 Ls' []) (W : Nat) (hsz : Ls.size = ml) (hW : (rest.map fun v => v.category).sum ≤ W) (hf : R'.frames + 1 ≤ R.frames) (hl : W + (ml' + 11) + R'.locals ≤ R.locals) (hk : k + R'.cells ≤ R.cells) (hN : n + R'.slots ≤ R.slots) (hq : pc + 3 = q)
    (g : ∀ v h', Q' v h' → Go l Z y code ml ret R Q (k + R'.cells) (n + R'.slots) h' q Ls (v.toList ++ rest)) : Go l Z y code ml ret R Q k n h pc Ls st := by
  subst hq
  intro p e s m args below meth c K T L k' n' X h1 h2 N hT
  obtain ⟨v, vm₁, ⟨T', L', k'', n''⟩, -, X', ⟨Lc, ⟨hQ, N'⟩, e1, e2, e3⟩, s'⟩ := Jvm.LawKit.callS X K.1 K.2.2.2.1 (mvT K.2.2.1 w1) (mvT K.2.2.1 w2) (mvT K.2.2.1 w3) (mvT K.2.2.1 w4) hy (backOf (W := W) (Q := fun v h L => Q' v h ∧ Fr Z.heap.size L) (Go.met hpl hent G []) K.2.2.1 w4 w3 hf hl) (g := mkF m pc Ls st) rfl (hsz.trans K.2.2.2.2.1.symm) (argsL := argsL) (rest := rest) hlen hst (by show 2 * 0 + _ ≤ _; rw [Nat.mul_zero, Nat.zero_add]; exact hW) (hb K.2.1 hd) (fun _ _ => ⟨rfl, hT, Nat.le_trans (Nat.add_le_add_right h1 _) hk, Nat.le_trans (Nat.add_le_add_right h2 _) hN⟩)
  dsimp only [Pt.U, Pt.locs, Pt.cells, Pt.slots] at X' e1 e2 e3 s' hQ
  subst e1 e2 e3
  obtain ⟨v2, T2, L2, k2, n2, X2, b1, b2, N2, q2, hv, stp⟩ := g v _ hQ p e s m args below meth c K T' _ _ _ X' (Nat.add_le_add_right h1 _) (Nat.add_le_add_right h2 _) (Fr.app N N') rfl
  exact ⟨v2, T2, L2, k2, n2, X2, b1, b2, N2, q2, hv, fun fs hl => s' _ (stp fs hl)⟩
theorem Go.callC {a : Addr} (argsL : List Value) (rest : List Value) (q : Nat) (hd : decode code pc = .ok (.invokespecial i, 3)) (hy1 : y'.name = "<init>") (w1 : (Cond.methodLink y.cls i y').before a0 Z = true) (w2 : (Cond.instanceMethod y').before a0 Z = true) (w3 : (Cond.initialized y'.cls).before a0 Z = true) (w4 : (Cond.code y' code' ml' none).before a0 Z = true)
    (hpl : plainFor y' = true) (hy : y'.cls ≠ "java/lang/invoke/MethodHandle" ∧ y'.cls ≠ "java/lang/invoke/VarHandle") (hlen : ∀ sig, parseMethodDescriptor y'.desc = some sig → argsL.length = sig.parameters.length) (hst : st = argsL.reverse ++ .ref a :: rest) (hent : ∀ m, entryFrame m (.ref a :: argsL).toArray ml' = mkF m 0 Ls' [])
    (P' : Heap → Prop) (G : Go l Z y' code' ml' none R' (QV P') 0 0 h 0 Ls' []) (W : Nat) (hsz : Ls.size = ml) (hW : (rest.map fun v => v.category).sum ≤ W) (hf : R'.frames + 1 ≤ R.frames) (hl : W + (ml' + 11) + R'.locals ≤ R.locals) (hk : k + R'.cells ≤ R.cells) (hN : n + R'.slots ≤ R.slots) (hq : pc + 3 = q)
    (g : ∀ h', P' h' → Go l Z y code ml ret R Q (k + R'.cells) (n + R'.slots) h' q Ls rest) : Go l Z y code ml ret R Q k n h pc Ls st := by
  subst hq
  intro p e s m args below meth c K T L k' n' X h1 h2 N hT
  obtain ⟨v, vm₁, ⟨T', L', k'', n''⟩, -, X', ⟨Lc, ⟨⟨rfl, hQ⟩, N'⟩, e1, e2, e3⟩, s'⟩ := X.specialBack K.1 hy1 K.2.2.2.1 (mvT K.2.2.1 w1) (mvT K.2.2.1 w2) (mvT K.2.2.1 w4) hy (backOf (W := W) (Q := fun v h L => QV P' v h ∧ Fr Z.heap.size L) (Go.met hpl hent G []) K.2.2.1 w4 w3 hf hl) (g := mkF m pc Ls st) rfl (hsz.trans K.2.2.2.2.1.symm) (Steps.refl _) (a := a) (argsL := argsL) (rest := rest) hlen hst (by show 2 * 0 + _ ≤ _; rw [Nat.mul_zero, Nat.zero_add]; exact hW) (hb K.2.1 hd) (fun _ _ => ⟨rfl, hT, Nat.le_trans (Nat.add_le_add_right h1 _) hk, Nat.le_trans (Nat.add_le_add_right h2 _) hN⟩)
  dsimp only [Pt.U, Pt.locs, Pt.cells, Pt.slots] at X' e1 e2 e3 s' hQ
  subst e1 e2 e3
  obtain ⟨v2, T2, L2, k2, n2, X2, b1, b2, N2, q2, hv, stp⟩ := g _ hQ p e s m args below meth c K T' _ _ _ X' (Nat.add_le_add_right h1 _) (Nat.add_le_add_right h2 _) (Fr.app N N') rfl
  exact ⟨v2, T2, L2, k2, n2, X2, b1, b2, N2, q2, hv, fun fs hl => s'.trans (stp fs hl)⟩
theorem Go.callV {a : Addr} {C : String} (argsL : List Value) (rest : List Value) (q : Nat) (hd : decode code pc = .ok (.invokevirtual i, 3)) (w1 : (Cond.methodLink y.cls i y').before a0 Z = true) (w1' : (Cond.declares y').before a0 Z = true) (w1s : (Cond.selects C y' y').before a0 Z = true) (w2 : (Cond.instanceMethod y').before a0 Z = true) (w3 : (Cond.initialized y'.cls).before a0 Z = true) (w4 : (Cond.code y' code' ml' ret').before a0 Z = true) (E : Exa Z h a C)
    (hpl : plainFor y' = true) (hy : y'.cls ≠ "java/lang/invoke/MethodHandle" ∧ y'.cls ≠ "java/lang/invoke/VarHandle") (hlen : ∀ sig, parseMethodDescriptor y'.desc = some sig → argsL.length = sig.parameters.length) (hst : st = argsL.reverse ++ .ref a :: rest) (hent : ∀ m, entryFrame m (.ref a :: argsL).toArray ml' = mkF m 0 Ls' [])
    (G : Go l Z y' code' ml' ret' R' Q' 0 0 h 0 Ls' []) (W : Nat) (hsz : Ls.size = ml) (hW : (rest.map fun v => v.category).sum ≤ W) (hf : R'.frames + 1 ≤ R.frames) (hl : W + (ml' + 11) + R'.locals ≤ R.locals) (hk : k + R'.cells ≤ R.cells) (hN : n + R'.slots ≤ R.slots) (hq : pc + 3 = q)
    (g : ∀ v h', Q' v h' → Go l Z y code ml ret R Q (k + R'.cells) (n + R'.slots) h' q Ls (v.toList ++ rest)) : Go l Z y code ml ret R Q k n h pc Ls st := by
  subst hq
  intro p e s m args below meth c K T L k' n' X h1 h2 N hT
  obtain ⟨cq, kq, qa, qb, qc⟩ := isOf K.2.2.1 hT E
  obtain ⟨v, vm₁, ⟨T', L', k'', n''⟩, -, X', ⟨Lc, ⟨hQ, N'⟩, e1, e2, e3⟩, s'⟩ := X.virtualBack K.1 K.2.2.2.1 (mvT K.2.2.1 w1) (mvT K.2.2.1 w1') (notFace_of_selects (args := #[]) (mvT K.2.2.1 w1s)) (mvT K.2.2.1 w1s) (mvT K.2.2.1 w2) hy (backOf (W := W) (Q := fun v h L => Q' v h ∧ Fr Z.heap.size L) (Go.met hpl hent G []) K.2.2.1 w4 w3 hf hl) qa qc (g := mkF m pc Ls st) rfl (hsz.trans K.2.2.2.2.1.symm) (Steps.refl _) (argsL := argsL) (rest := rest) hlen hst (by show 2 * 0 + _ ≤ _; rw [Nat.mul_zero, Nat.zero_add]; exact hW) (hb K.2.1 hd) (fun _ _ => ⟨rfl, hT, Nat.le_trans (Nat.add_le_add_right h1 _) hk, Nat.le_trans (Nat.add_le_add_right h2 _) hN⟩)
  dsimp only [Pt.U, Pt.locs, Pt.cells, Pt.slots] at X' e1 e2 e3 s' hQ
  subst e1 e2 e3
  obtain ⟨v2, T2, L2, k2, n2, X2, b1, b2, N2, q2, hv, stp⟩ := g v _ hQ p e s m args below meth c K T' _ _ _ X' (Nat.add_le_add_right h1 _) (Nat.add_le_add_right h2 _) (Fr.app N N') rfl
  exact ⟨v2, T2, L2, k2, n2, X2, b1, b2, N2, q2, hv, fun fs hl => s'.trans (stp fs hl)⟩
theorem Go.callCp {a : Addr} (argsL : List Value) (rest : List Value) (q : Nat) (hd : decode code pc = .ok (.invokespecial i, 3)) (hy1 : y'.name = "<init>") (w1 : (Cond.methodLink y.cls i y').before a0 Z = true) (w2 : (Cond.instanceMethod y').before a0 Z = true) (w3 : (Cond.initialized y'.cls).before a0 Z = true) (w4 : (Cond.code y' code' ml' none).before a0 Z = true)
    (hpl : plainFor y' = true) (hy : y'.cls ≠ "java/lang/invoke/MethodHandle" ∧ y'.cls ≠ "java/lang/invoke/VarHandle") (hlen : ∀ sig, parseMethodDescriptor y'.desc = some sig → argsL.length = sig.parameters.length) (hst : st = argsL.reverse ++ .ref a :: rest) (hent : ∀ m, entryFrame m (.ref a :: argsL).toArray ml' = mkF m 0 Ls' [])
    (G : Go l Z y' code' ml' none R' (QV fun h' => h' = h) 0 0 h 0 Ls' []) (W : Nat) (hsz : Ls.size = ml) (hW : (rest.map fun v => v.category).sum ≤ W) (hf : R'.frames + 1 ≤ R.frames) (hl : W + (ml' + 11) + R'.locals ≤ R.locals) (hk : k + R'.cells ≤ R.cells) (hN : n + R'.slots ≤ R.slots) (hq : pc + 3 = q)
    (g : Go l Z y code ml ret R Q (k + R'.cells) (n + R'.slots) h q Ls rest) : Go l Z y code ml ret R Q k n h pc Ls st :=
  Go.callC argsL rest q hd hy1 w1 w2 w3 w4 hpl hy hlen hst hent _ G W hsz hW hf hl hk hN hq (fun h' e => by subst e; exact g)
end Calls

section
variable {y' : MethodName} {code' : ByteArray} {ml' : Nat} {ret' : Option FieldType} {R' : Room} {Ls' : Array Slot} {i : Nat}
theorem Go.callSI (argsL : List Value) (rest : List Value) (q : Nat) (hd : decode code pc = .ok (.invokestatic i, 3)) (w1 : (Cond.methodLink y.cls i y').before a0 Z = true) (w2 : (Cond.static y').before a0 Z = true) (w3 : (Cond.initialized y'.cls).before a0 Z = true) (w4 : (Cond.code y' code' ml' ret').before a0 Z = true)
    (hpl : plainFor y' = true) (hy : y'.cls ≠ "java/lang/invoke/MethodHandle" ∧ y'.cls ≠ "java/lang/invoke/VarHandle") (hlen : ∀ sig, parseMethodDescriptor y'.desc = some sig → argsL.length = sig.parameters.length) (hst : st = argsL.reverse ++ rest) (hent : ∀ m, entryFrame m argsL.toArray ml' = mkF m 0 Ls' [])
    (P' : Int32 → Heap → Prop) (G : Go l Z y' code' ml' ret' R' (QI P') 0 0 h 0 Ls' []) (W : Nat) (hsz : Ls.size = ml) (hW : (rest.map fun v => v.category).sum ≤ W) (hf : R'.frames + 1 ≤ R.frames) (hl : W + (ml' + 11) + R'.locals ≤ R.locals) (hk : k + R'.cells ≤ R.cells) (hN : n + R'.slots ≤ R.slots) (hq : pc + 3 = q)
    (g : ∀ (z : Int32) h', P' z h' → Go l Z y code ml ret R Q (k + R'.cells) (n + R'.slots) h' q Ls (.int z :: rest)) : Go l Z y code ml ret R Q k n h pc Ls st := by
  exact Go.callS argsL rest q hd w1 w2 w3 w4 hpl hy hlen hst hent G W hsz hW hf hl hk hN hq (fun v h' hq' => by obtain ⟨z, e, hp⟩ := hq'; subst e; exact g z h' hp)
end
section
variable {y' : MethodName} {code' : ByteArray} {ml' : Nat} {ret' : Option FieldType} {R' : Room} {Ls' : Array Slot} {i : Nat}
theorem Go.callSIp (argsL : List Value) (rest : List Value) (q : Nat) (hd : decode code pc = .ok (.invokestatic i, 3)) (w1 : (Cond.methodLink y.cls i y').before a0 Z = true) (w2 : (Cond.static y').before a0 Z = true) (w3 : (Cond.initialized y'.cls).before a0 Z = true) (w4 : (Cond.code y' code' ml' ret').before a0 Z = true)
    (hpl : plainFor y' = true) (hy : y'.cls ≠ "java/lang/invoke/MethodHandle" ∧ y'.cls ≠ "java/lang/invoke/VarHandle") (hlen : ∀ sig, parseMethodDescriptor y'.desc = some sig → argsL.length = sig.parameters.length) (hst : st = argsL.reverse ++ rest) (hent : ∀ m, entryFrame m argsL.toArray ml' = mkF m 0 Ls' [])
    (F : Int32) (G : Go l Z y' code' ml' ret' R' (QI fun z h' => z = F ∧ h' = h) 0 0 h 0 Ls' []) (W : Nat) (hsz : Ls.size = ml) (hW : (rest.map fun v => v.category).sum ≤ W) (hf : R'.frames + 1 ≤ R.frames) (hl : W + (ml' + 11) + R'.locals ≤ R.locals) (hk : k + R'.cells ≤ R.cells) (hN : n + R'.slots ≤ R.slots) (hq : pc + 3 = q)
    (g : Go l Z y code ml ret R Q (k + R'.cells) (n + R'.slots) h q Ls (.int F :: rest)) : Go l Z y code ml ret R Q k n h pc Ls st := by
  exact Go.callS argsL rest q hd w1 w2 w3 w4 hpl hy hlen hst hent G W hsz hW hf hl hk hN hq (fun v h' hq' => by obtain ⟨z, e, hp, hh⟩ := hq'; subst e; subst hh; rw [hp]; exact g)
end
section
variable {y' : MethodName} {code' : ByteArray} {ml' : Nat} {ret' : Option FieldType} {R' : Room} {Ls' : Array Slot} {i : Nat}
theorem Go.callSIe (argsL : List Value) (rest : List Value) (q : Nat) (hd : decode code pc = .ok (.invokestatic i, 3)) (w1 : (Cond.methodLink y.cls i y').before a0 Z = true) (w2 : (Cond.static y').before a0 Z = true) (w3 : (Cond.initialized y'.cls).before a0 Z = true) (w4 : (Cond.code y' code' ml' ret').before a0 Z = true)
    (hpl : plainFor y' = true) (hy : y'.cls ≠ "java/lang/invoke/MethodHandle" ∧ y'.cls ≠ "java/lang/invoke/VarHandle") (hlen : ∀ sig, parseMethodDescriptor y'.desc = some sig → argsL.length = sig.parameters.length) (hst : st = argsL.reverse ++ rest) (hent : ∀ m, entryFrame m argsL.toArray ml' = mkF m 0 Ls' [])
    (F : Int32) (P' : Heap → Prop) (G : Go l Z y' code' ml' ret' R' (QI fun z h' => z = F ∧ P' h') 0 0 h 0 Ls' []) (W : Nat) (hsz : Ls.size = ml) (hW : (rest.map fun v => v.category).sum ≤ W) (hf : R'.frames + 1 ≤ R.frames) (hl : W + (ml' + 11) + R'.locals ≤ R.locals) (hk : k + R'.cells ≤ R.cells) (hN : n + R'.slots ≤ R.slots) (hq : pc + 3 = q)
    (g : ∀ h', P' h' → Go l Z y code ml ret R Q (k + R'.cells) (n + R'.slots) h' q Ls (.int F :: rest)) : Go l Z y code ml ret R Q k n h pc Ls st := by
  exact Go.callS argsL rest q hd w1 w2 w3 w4 hpl hy hlen hst hent G W hsz hW hf hl hk hN hq (fun v h' hq' => by obtain ⟨z, e, hp, hh⟩ := hq'; subst e; rw [hp]; exact g h' hh)
end
section
variable {y' : MethodName} {code' : ByteArray} {ml' : Nat} {ret' : Option FieldType} {R' : Room} {Ls' : Array Slot} {i : Nat}
theorem Go.callSJ (argsL : List Value) (rest : List Value) (q : Nat) (hd : decode code pc = .ok (.invokestatic i, 3)) (w1 : (Cond.methodLink y.cls i y').before a0 Z = true) (w2 : (Cond.static y').before a0 Z = true) (w3 : (Cond.initialized y'.cls).before a0 Z = true) (w4 : (Cond.code y' code' ml' ret').before a0 Z = true)
    (hpl : plainFor y' = true) (hy : y'.cls ≠ "java/lang/invoke/MethodHandle" ∧ y'.cls ≠ "java/lang/invoke/VarHandle") (hlen : ∀ sig, parseMethodDescriptor y'.desc = some sig → argsL.length = sig.parameters.length) (hst : st = argsL.reverse ++ rest) (hent : ∀ m, entryFrame m argsL.toArray ml' = mkF m 0 Ls' [])
    (P' : Int64 → Heap → Prop) (G : Go l Z y' code' ml' ret' R' (QJ P') 0 0 h 0 Ls' []) (W : Nat) (hsz : Ls.size = ml) (hW : (rest.map fun v => v.category).sum ≤ W) (hf : R'.frames + 1 ≤ R.frames) (hl : W + (ml' + 11) + R'.locals ≤ R.locals) (hk : k + R'.cells ≤ R.cells) (hN : n + R'.slots ≤ R.slots) (hq : pc + 3 = q)
    (g : ∀ (z : Int64) h', P' z h' → Go l Z y code ml ret R Q (k + R'.cells) (n + R'.slots) h' q Ls (.long z :: rest)) : Go l Z y code ml ret R Q k n h pc Ls st := by
  exact Go.callS argsL rest q hd w1 w2 w3 w4 hpl hy hlen hst hent G W hsz hW hf hl hk hN hq (fun v h' hq' => by obtain ⟨z, e, hp⟩ := hq'; subst e; exact g z h' hp)
end
section
variable {y' : MethodName} {code' : ByteArray} {ml' : Nat} {ret' : Option FieldType} {R' : Room} {Ls' : Array Slot} {i : Nat}
theorem Go.callSJp (argsL : List Value) (rest : List Value) (q : Nat) (hd : decode code pc = .ok (.invokestatic i, 3)) (w1 : (Cond.methodLink y.cls i y').before a0 Z = true) (w2 : (Cond.static y').before a0 Z = true) (w3 : (Cond.initialized y'.cls).before a0 Z = true) (w4 : (Cond.code y' code' ml' ret').before a0 Z = true)
    (hpl : plainFor y' = true) (hy : y'.cls ≠ "java/lang/invoke/MethodHandle" ∧ y'.cls ≠ "java/lang/invoke/VarHandle") (hlen : ∀ sig, parseMethodDescriptor y'.desc = some sig → argsL.length = sig.parameters.length) (hst : st = argsL.reverse ++ rest) (hent : ∀ m, entryFrame m argsL.toArray ml' = mkF m 0 Ls' [])
    (F : Int64) (G : Go l Z y' code' ml' ret' R' (QJ fun z h' => z = F ∧ h' = h) 0 0 h 0 Ls' []) (W : Nat) (hsz : Ls.size = ml) (hW : (rest.map fun v => v.category).sum ≤ W) (hf : R'.frames + 1 ≤ R.frames) (hl : W + (ml' + 11) + R'.locals ≤ R.locals) (hk : k + R'.cells ≤ R.cells) (hN : n + R'.slots ≤ R.slots) (hq : pc + 3 = q)
    (g : Go l Z y code ml ret R Q (k + R'.cells) (n + R'.slots) h q Ls (.long F :: rest)) : Go l Z y code ml ret R Q k n h pc Ls st := by
  exact Go.callS argsL rest q hd w1 w2 w3 w4 hpl hy hlen hst hent G W hsz hW hf hl hk hN hq (fun v h' hq' => by obtain ⟨z, e, hp, hh⟩ := hq'; subst e; subst hh; rw [hp]; exact g)
end
section
variable {y' : MethodName} {code' : ByteArray} {ml' : Nat} {ret' : Option FieldType} {R' : Room} {Ls' : Array Slot} {i : Nat}
theorem Go.callSJe (argsL : List Value) (rest : List Value) (q : Nat) (hd : decode code pc = .ok (.invokestatic i, 3)) (w1 : (Cond.methodLink y.cls i y').before a0 Z = true) (w2 : (Cond.static y').before a0 Z = true) (w3 : (Cond.initialized y'.cls).before a0 Z = true) (w4 : (Cond.code y' code' ml' ret').before a0 Z = true)
    (hpl : plainFor y' = true) (hy : y'.cls ≠ "java/lang/invoke/MethodHandle" ∧ y'.cls ≠ "java/lang/invoke/VarHandle") (hlen : ∀ sig, parseMethodDescriptor y'.desc = some sig → argsL.length = sig.parameters.length) (hst : st = argsL.reverse ++ rest) (hent : ∀ m, entryFrame m argsL.toArray ml' = mkF m 0 Ls' [])
    (F : Int64) (P' : Heap → Prop) (G : Go l Z y' code' ml' ret' R' (QJ fun z h' => z = F ∧ P' h') 0 0 h 0 Ls' []) (W : Nat) (hsz : Ls.size = ml) (hW : (rest.map fun v => v.category).sum ≤ W) (hf : R'.frames + 1 ≤ R.frames) (hl : W + (ml' + 11) + R'.locals ≤ R.locals) (hk : k + R'.cells ≤ R.cells) (hN : n + R'.slots ≤ R.slots) (hq : pc + 3 = q)
    (g : ∀ h', P' h' → Go l Z y code ml ret R Q (k + R'.cells) (n + R'.slots) h' q Ls (.long F :: rest)) : Go l Z y code ml ret R Q k n h pc Ls st := by
  exact Go.callS argsL rest q hd w1 w2 w3 w4 hpl hy hlen hst hent G W hsz hW hf hl hk hN hq (fun v h' hq' => by obtain ⟨z, e, hp, hh⟩ := hq'; subst e; rw [hp]; exact g h' hh)
end
section
variable {y' : MethodName} {code' : ByteArray} {ml' : Nat} {ret' : Option FieldType} {R' : Room} {Ls' : Array Slot} {i : Nat}
theorem Go.callSR (argsL : List Value) (rest : List Value) (q : Nat) (hd : decode code pc = .ok (.invokestatic i, 3)) (w1 : (Cond.methodLink y.cls i y').before a0 Z = true) (w2 : (Cond.static y').before a0 Z = true) (w3 : (Cond.initialized y'.cls).before a0 Z = true) (w4 : (Cond.code y' code' ml' ret').before a0 Z = true)
    (hpl : plainFor y' = true) (hy : y'.cls ≠ "java/lang/invoke/MethodHandle" ∧ y'.cls ≠ "java/lang/invoke/VarHandle") (hlen : ∀ sig, parseMethodDescriptor y'.desc = some sig → argsL.length = sig.parameters.length) (hst : st = argsL.reverse ++ rest) (hent : ∀ m, entryFrame m argsL.toArray ml' = mkF m 0 Ls' [])
    (P' : Value → Heap → Prop) (G : Go l Z y' code' ml' ret' R' (QR P') 0 0 h 0 Ls' []) (W : Nat) (hsz : Ls.size = ml) (hW : (rest.map fun v => v.category).sum ≤ W) (hf : R'.frames + 1 ≤ R.frames) (hl : W + (ml' + 11) + R'.locals ≤ R.locals) (hk : k + R'.cells ≤ R.cells) (hN : n + R'.slots ≤ R.slots) (hq : pc + 3 = q)
    (g : ∀ (z : Value) h', P' z h' → Go l Z y code ml ret R Q (k + R'.cells) (n + R'.slots) h' q Ls ( z :: rest)) : Go l Z y code ml ret R Q k n h pc Ls st := by
  exact Go.callS argsL rest q hd w1 w2 w3 w4 hpl hy hlen hst hent G W hsz hW hf hl hk hN hq (fun v h' hq' => by obtain ⟨z, e, hp⟩ := hq'; subst e; exact g z h' hp)
end
section
variable {y' : MethodName} {code' : ByteArray} {ml' : Nat} {ret' : Option FieldType} {R' : Room} {Ls' : Array Slot} {i : Nat}
theorem Go.callSRp (argsL : List Value) (rest : List Value) (q : Nat) (hd : decode code pc = .ok (.invokestatic i, 3)) (w1 : (Cond.methodLink y.cls i y').before a0 Z = true) (w2 : (Cond.static y').before a0 Z = true) (w3 : (Cond.initialized y'.cls).before a0 Z = true) (w4 : (Cond.code y' code' ml' ret').before a0 Z = true)
    (hpl : plainFor y' = true) (hy : y'.cls ≠ "java/lang/invoke/MethodHandle" ∧ y'.cls ≠ "java/lang/invoke/VarHandle") (hlen : ∀ sig, parseMethodDescriptor y'.desc = some sig → argsL.length = sig.parameters.length) (hst : st = argsL.reverse ++ rest) (hent : ∀ m, entryFrame m argsL.toArray ml' = mkF m 0 Ls' [])
    (F : Value) (G : Go l Z y' code' ml' ret' R' (QR fun z h' => z = F ∧ h' = h) 0 0 h 0 Ls' []) (W : Nat) (hsz : Ls.size = ml) (hW : (rest.map fun v => v.category).sum ≤ W) (hf : R'.frames + 1 ≤ R.frames) (hl : W + (ml' + 11) + R'.locals ≤ R.locals) (hk : k + R'.cells ≤ R.cells) (hN : n + R'.slots ≤ R.slots) (hq : pc + 3 = q)
    (g : Go l Z y code ml ret R Q (k + R'.cells) (n + R'.slots) h q Ls ( F :: rest)) : Go l Z y code ml ret R Q k n h pc Ls st := by
  exact Go.callS argsL rest q hd w1 w2 w3 w4 hpl hy hlen hst hent G W hsz hW hf hl hk hN hq (fun v h' hq' => by obtain ⟨z, e, hp, hh⟩ := hq'; subst e; subst hh; rw [hp]; exact g)
end
section
variable {y' : MethodName} {code' : ByteArray} {ml' : Nat} {ret' : Option FieldType} {R' : Room} {Ls' : Array Slot} {i : Nat}
theorem Go.callSRe (argsL : List Value) (rest : List Value) (q : Nat) (hd : decode code pc = .ok (.invokestatic i, 3)) (w1 : (Cond.methodLink y.cls i y').before a0 Z = true) (w2 : (Cond.static y').before a0 Z = true) (w3 : (Cond.initialized y'.cls).before a0 Z = true) (w4 : (Cond.code y' code' ml' ret').before a0 Z = true)
    (hpl : plainFor y' = true) (hy : y'.cls ≠ "java/lang/invoke/MethodHandle" ∧ y'.cls ≠ "java/lang/invoke/VarHandle") (hlen : ∀ sig, parseMethodDescriptor y'.desc = some sig → argsL.length = sig.parameters.length) (hst : st = argsL.reverse ++ rest) (hent : ∀ m, entryFrame m argsL.toArray ml' = mkF m 0 Ls' [])
    (F : Value) (P' : Heap → Prop) (G : Go l Z y' code' ml' ret' R' (QR fun z h' => z = F ∧ P' h') 0 0 h 0 Ls' []) (W : Nat) (hsz : Ls.size = ml) (hW : (rest.map fun v => v.category).sum ≤ W) (hf : R'.frames + 1 ≤ R.frames) (hl : W + (ml' + 11) + R'.locals ≤ R.locals) (hk : k + R'.cells ≤ R.cells) (hN : n + R'.slots ≤ R.slots) (hq : pc + 3 = q)
    (g : ∀ h', P' h' → Go l Z y code ml ret R Q (k + R'.cells) (n + R'.slots) h' q Ls ( F :: rest)) : Go l Z y code ml ret R Q k n h pc Ls st := by
  exact Go.callS argsL rest q hd w1 w2 w3 w4 hpl hy hlen hst hent G W hsz hW hf hl hk hN hq (fun v h' hq' => by obtain ⟨z, e, hp, hh⟩ := hq'; subst e; rw [hp]; exact g h' hh)
end
section
variable {y' : MethodName} {code' : ByteArray} {ml' : Nat} {ret' : Option FieldType} {R' : Room} {Ls' : Array Slot} {i : Nat}
theorem Go.callSV (argsL : List Value) (rest : List Value) (q : Nat) (hd : decode code pc = .ok (.invokestatic i, 3)) (w1 : (Cond.methodLink y.cls i y').before a0 Z = true) (w2 : (Cond.static y').before a0 Z = true) (w3 : (Cond.initialized y'.cls).before a0 Z = true) (w4 : (Cond.code y' code' ml' ret').before a0 Z = true)
    (hpl : plainFor y' = true) (hy : y'.cls ≠ "java/lang/invoke/MethodHandle" ∧ y'.cls ≠ "java/lang/invoke/VarHandle") (hlen : ∀ sig, parseMethodDescriptor y'.desc = some sig → argsL.length = sig.parameters.length) (hst : st = argsL.reverse ++ rest) (hent : ∀ m, entryFrame m argsL.toArray ml' = mkF m 0 Ls' [])
    (P' : Heap → Prop) (G : Go l Z y' code' ml' ret' R' (QV P') 0 0 h 0 Ls' []) (W : Nat) (hsz : Ls.size = ml) (hW : (rest.map fun v => v.category).sum ≤ W) (hf : R'.frames + 1 ≤ R.frames) (hl : W + (ml' + 11) + R'.locals ≤ R.locals) (hk : k + R'.cells ≤ R.cells) (hN : n + R'.slots ≤ R.slots) (hq : pc + 3 = q)
    (g : ∀ h', P' h' → Go l Z y code ml ret R Q (k + R'.cells) (n + R'.slots) h' q Ls rest) : Go l Z y code ml ret R Q k n h pc Ls st := by
  exact Go.callS argsL rest q hd w1 w2 w3 w4 hpl hy hlen hst hent G W hsz hW hf hl hk hN hq (fun v h' hq' => by obtain ⟨e, hp⟩ := hq'; subst e; exact g h' hp)
end
section
variable {y' : MethodName} {code' : ByteArray} {ml' : Nat} {ret' : Option FieldType} {R' : Room} {Ls' : Array Slot} {i : Nat}
theorem Go.callSVp (argsL : List Value) (rest : List Value) (q : Nat) (hd : decode code pc = .ok (.invokestatic i, 3)) (w1 : (Cond.methodLink y.cls i y').before a0 Z = true) (w2 : (Cond.static y').before a0 Z = true) (w3 : (Cond.initialized y'.cls).before a0 Z = true) (w4 : (Cond.code y' code' ml' ret').before a0 Z = true)
    (hpl : plainFor y' = true) (hy : y'.cls ≠ "java/lang/invoke/MethodHandle" ∧ y'.cls ≠ "java/lang/invoke/VarHandle") (hlen : ∀ sig, parseMethodDescriptor y'.desc = some sig → argsL.length = sig.parameters.length) (hst : st = argsL.reverse ++ rest) (hent : ∀ m, entryFrame m argsL.toArray ml' = mkF m 0 Ls' [])
    (G : Go l Z y' code' ml' ret' R' (QV fun h' => h' = h) 0 0 h 0 Ls' []) (W : Nat) (hsz : Ls.size = ml) (hW : (rest.map fun v => v.category).sum ≤ W) (hf : R'.frames + 1 ≤ R.frames) (hl : W + (ml' + 11) + R'.locals ≤ R.locals) (hk : k + R'.cells ≤ R.cells) (hN : n + R'.slots ≤ R.slots) (hq : pc + 3 = q)
    (g : Go l Z y code ml ret R Q (k + R'.cells) (n + R'.slots) h q Ls rest) : Go l Z y code ml ret R Q k n h pc Ls st := by
  exact Go.callS argsL rest q hd w1 w2 w3 w4 hpl hy hlen hst hent G W hsz hW hf hl hk hN hq (fun v h' hq' => by obtain ⟨e, hp⟩ := hq'; subst e; subst hp; exact g)
end
section
variable {y' : MethodName} {code' : ByteArray} {ml' : Nat} {ret' : Option FieldType} {R' : Room} {Ls' : Array Slot} {i : Nat}
theorem Go.callVI {a : Addr} {C : String} (argsL : List Value) (rest : List Value) (q : Nat) (hd : decode code pc = .ok (.invokevirtual i, 3)) (w1 : (Cond.methodLink y.cls i y').before a0 Z = true) (w1' : (Cond.declares y').before a0 Z = true) (w1s : (Cond.selects C y' y').before a0 Z = true) (w2 : (Cond.instanceMethod y').before a0 Z = true) (w3 : (Cond.initialized y'.cls).before a0 Z = true) (w4 : (Cond.code y' code' ml' ret').before a0 Z = true) (E : Exa Z h a C)
    (hpl : plainFor y' = true) (hy : y'.cls ≠ "java/lang/invoke/MethodHandle" ∧ y'.cls ≠ "java/lang/invoke/VarHandle") (hlen : ∀ sig, parseMethodDescriptor y'.desc = some sig → argsL.length = sig.parameters.length) (hst : st = argsL.reverse ++ .ref a :: rest) (hent : ∀ m, entryFrame m (.ref a :: argsL).toArray ml' = mkF m 0 Ls' [])
    (P' : Int32 → Heap → Prop) (G : Go l Z y' code' ml' ret' R' (QI P') 0 0 h 0 Ls' []) (W : Nat) (hsz : Ls.size = ml) (hW : (rest.map fun v => v.category).sum ≤ W) (hf : R'.frames + 1 ≤ R.frames) (hl : W + (ml' + 11) + R'.locals ≤ R.locals) (hk : k + R'.cells ≤ R.cells) (hN : n + R'.slots ≤ R.slots) (hq : pc + 3 = q)
    (g : ∀ (z : Int32) h', P' z h' → Go l Z y code ml ret R Q (k + R'.cells) (n + R'.slots) h' q Ls (.int z :: rest)) : Go l Z y code ml ret R Q k n h pc Ls st := by
  exact Go.callV argsL rest q hd w1 w1' w1s w2 w3 w4 E hpl hy hlen hst hent G W hsz hW hf hl hk hN hq (fun v h' hq' => by obtain ⟨z, e, hp⟩ := hq'; subst e; exact g z h' hp)
end
section
variable {y' : MethodName} {code' : ByteArray} {ml' : Nat} {ret' : Option FieldType} {R' : Room} {Ls' : Array Slot} {i : Nat}
theorem Go.callVIp {a : Addr} {C : String} (argsL : List Value) (rest : List Value) (q : Nat) (hd : decode code pc = .ok (.invokevirtual i, 3)) (w1 : (Cond.methodLink y.cls i y').before a0 Z = true) (w1' : (Cond.declares y').before a0 Z = true) (w1s : (Cond.selects C y' y').before a0 Z = true) (w2 : (Cond.instanceMethod y').before a0 Z = true) (w3 : (Cond.initialized y'.cls).before a0 Z = true) (w4 : (Cond.code y' code' ml' ret').before a0 Z = true) (E : Exa Z h a C)
    (hpl : plainFor y' = true) (hy : y'.cls ≠ "java/lang/invoke/MethodHandle" ∧ y'.cls ≠ "java/lang/invoke/VarHandle") (hlen : ∀ sig, parseMethodDescriptor y'.desc = some sig → argsL.length = sig.parameters.length) (hst : st = argsL.reverse ++ .ref a :: rest) (hent : ∀ m, entryFrame m (.ref a :: argsL).toArray ml' = mkF m 0 Ls' [])
    (F : Int32) (G : Go l Z y' code' ml' ret' R' (QI fun z h' => z = F ∧ h' = h) 0 0 h 0 Ls' []) (W : Nat) (hsz : Ls.size = ml) (hW : (rest.map fun v => v.category).sum ≤ W) (hf : R'.frames + 1 ≤ R.frames) (hl : W + (ml' + 11) + R'.locals ≤ R.locals) (hk : k + R'.cells ≤ R.cells) (hN : n + R'.slots ≤ R.slots) (hq : pc + 3 = q)
    (g : Go l Z y code ml ret R Q (k + R'.cells) (n + R'.slots) h q Ls (.int F :: rest)) : Go l Z y code ml ret R Q k n h pc Ls st := by
  exact Go.callV argsL rest q hd w1 w1' w1s w2 w3 w4 E hpl hy hlen hst hent G W hsz hW hf hl hk hN hq (fun v h' hq' => by obtain ⟨z, e, hp, hh⟩ := hq'; subst e; subst hh; rw [hp]; exact g)
end
section
variable {y' : MethodName} {code' : ByteArray} {ml' : Nat} {ret' : Option FieldType} {R' : Room} {Ls' : Array Slot} {i : Nat}
theorem Go.callVIe {a : Addr} {C : String} (argsL : List Value) (rest : List Value) (q : Nat) (hd : decode code pc = .ok (.invokevirtual i, 3)) (w1 : (Cond.methodLink y.cls i y').before a0 Z = true) (w1' : (Cond.declares y').before a0 Z = true) (w1s : (Cond.selects C y' y').before a0 Z = true) (w2 : (Cond.instanceMethod y').before a0 Z = true) (w3 : (Cond.initialized y'.cls).before a0 Z = true) (w4 : (Cond.code y' code' ml' ret').before a0 Z = true) (E : Exa Z h a C)
    (hpl : plainFor y' = true) (hy : y'.cls ≠ "java/lang/invoke/MethodHandle" ∧ y'.cls ≠ "java/lang/invoke/VarHandle") (hlen : ∀ sig, parseMethodDescriptor y'.desc = some sig → argsL.length = sig.parameters.length) (hst : st = argsL.reverse ++ .ref a :: rest) (hent : ∀ m, entryFrame m (.ref a :: argsL).toArray ml' = mkF m 0 Ls' [])
    (F : Int32) (P' : Heap → Prop) (G : Go l Z y' code' ml' ret' R' (QI fun z h' => z = F ∧ P' h') 0 0 h 0 Ls' []) (W : Nat) (hsz : Ls.size = ml) (hW : (rest.map fun v => v.category).sum ≤ W) (hf : R'.frames + 1 ≤ R.frames) (hl : W + (ml' + 11) + R'.locals ≤ R.locals) (hk : k + R'.cells ≤ R.cells) (hN : n + R'.slots ≤ R.slots) (hq : pc + 3 = q)
    (g : ∀ h', P' h' → Go l Z y code ml ret R Q (k + R'.cells) (n + R'.slots) h' q Ls (.int F :: rest)) : Go l Z y code ml ret R Q k n h pc Ls st := by
  exact Go.callV argsL rest q hd w1 w1' w1s w2 w3 w4 E hpl hy hlen hst hent G W hsz hW hf hl hk hN hq (fun v h' hq' => by obtain ⟨z, e, hp, hh⟩ := hq'; subst e; rw [hp]; exact g h' hh)
end
section
variable {y' : MethodName} {code' : ByteArray} {ml' : Nat} {ret' : Option FieldType} {R' : Room} {Ls' : Array Slot} {i : Nat}
theorem Go.callVJ {a : Addr} {C : String} (argsL : List Value) (rest : List Value) (q : Nat) (hd : decode code pc = .ok (.invokevirtual i, 3)) (w1 : (Cond.methodLink y.cls i y').before a0 Z = true) (w1' : (Cond.declares y').before a0 Z = true) (w1s : (Cond.selects C y' y').before a0 Z = true) (w2 : (Cond.instanceMethod y').before a0 Z = true) (w3 : (Cond.initialized y'.cls).before a0 Z = true) (w4 : (Cond.code y' code' ml' ret').before a0 Z = true) (E : Exa Z h a C)
    (hpl : plainFor y' = true) (hy : y'.cls ≠ "java/lang/invoke/MethodHandle" ∧ y'.cls ≠ "java/lang/invoke/VarHandle") (hlen : ∀ sig, parseMethodDescriptor y'.desc = some sig → argsL.length = sig.parameters.length) (hst : st = argsL.reverse ++ .ref a :: rest) (hent : ∀ m, entryFrame m (.ref a :: argsL).toArray ml' = mkF m 0 Ls' [])
    (P' : Int64 → Heap → Prop) (G : Go l Z y' code' ml' ret' R' (QJ P') 0 0 h 0 Ls' []) (W : Nat) (hsz : Ls.size = ml) (hW : (rest.map fun v => v.category).sum ≤ W) (hf : R'.frames + 1 ≤ R.frames) (hl : W + (ml' + 11) + R'.locals ≤ R.locals) (hk : k + R'.cells ≤ R.cells) (hN : n + R'.slots ≤ R.slots) (hq : pc + 3 = q)
    (g : ∀ (z : Int64) h', P' z h' → Go l Z y code ml ret R Q (k + R'.cells) (n + R'.slots) h' q Ls (.long z :: rest)) : Go l Z y code ml ret R Q k n h pc Ls st := by
  exact Go.callV argsL rest q hd w1 w1' w1s w2 w3 w4 E hpl hy hlen hst hent G W hsz hW hf hl hk hN hq (fun v h' hq' => by obtain ⟨z, e, hp⟩ := hq'; subst e; exact g z h' hp)
end
section
variable {y' : MethodName} {code' : ByteArray} {ml' : Nat} {ret' : Option FieldType} {R' : Room} {Ls' : Array Slot} {i : Nat}
theorem Go.callVJp {a : Addr} {C : String} (argsL : List Value) (rest : List Value) (q : Nat) (hd : decode code pc = .ok (.invokevirtual i, 3)) (w1 : (Cond.methodLink y.cls i y').before a0 Z = true) (w1' : (Cond.declares y').before a0 Z = true) (w1s : (Cond.selects C y' y').before a0 Z = true) (w2 : (Cond.instanceMethod y').before a0 Z = true) (w3 : (Cond.initialized y'.cls).before a0 Z = true) (w4 : (Cond.code y' code' ml' ret').before a0 Z = true) (E : Exa Z h a C)
    (hpl : plainFor y' = true) (hy : y'.cls ≠ "java/lang/invoke/MethodHandle" ∧ y'.cls ≠ "java/lang/invoke/VarHandle") (hlen : ∀ sig, parseMethodDescriptor y'.desc = some sig → argsL.length = sig.parameters.length) (hst : st = argsL.reverse ++ .ref a :: rest) (hent : ∀ m, entryFrame m (.ref a :: argsL).toArray ml' = mkF m 0 Ls' [])
    (F : Int64) (G : Go l Z y' code' ml' ret' R' (QJ fun z h' => z = F ∧ h' = h) 0 0 h 0 Ls' []) (W : Nat) (hsz : Ls.size = ml) (hW : (rest.map fun v => v.category).sum ≤ W) (hf : R'.frames + 1 ≤ R.frames) (hl : W + (ml' + 11) + R'.locals ≤ R.locals) (hk : k + R'.cells ≤ R.cells) (hN : n + R'.slots ≤ R.slots) (hq : pc + 3 = q)
    (g : Go l Z y code ml ret R Q (k + R'.cells) (n + R'.slots) h q Ls (.long F :: rest)) : Go l Z y code ml ret R Q k n h pc Ls st := by
  exact Go.callV argsL rest q hd w1 w1' w1s w2 w3 w4 E hpl hy hlen hst hent G W hsz hW hf hl hk hN hq (fun v h' hq' => by obtain ⟨z, e, hp, hh⟩ := hq'; subst e; subst hh; rw [hp]; exact g)
end
section
variable {y' : MethodName} {code' : ByteArray} {ml' : Nat} {ret' : Option FieldType} {R' : Room} {Ls' : Array Slot} {i : Nat}
theorem Go.callVJe {a : Addr} {C : String} (argsL : List Value) (rest : List Value) (q : Nat) (hd : decode code pc = .ok (.invokevirtual i, 3)) (w1 : (Cond.methodLink y.cls i y').before a0 Z = true) (w1' : (Cond.declares y').before a0 Z = true) (w1s : (Cond.selects C y' y').before a0 Z = true) (w2 : (Cond.instanceMethod y').before a0 Z = true) (w3 : (Cond.initialized y'.cls).before a0 Z = true) (w4 : (Cond.code y' code' ml' ret').before a0 Z = true) (E : Exa Z h a C)
    (hpl : plainFor y' = true) (hy : y'.cls ≠ "java/lang/invoke/MethodHandle" ∧ y'.cls ≠ "java/lang/invoke/VarHandle") (hlen : ∀ sig, parseMethodDescriptor y'.desc = some sig → argsL.length = sig.parameters.length) (hst : st = argsL.reverse ++ .ref a :: rest) (hent : ∀ m, entryFrame m (.ref a :: argsL).toArray ml' = mkF m 0 Ls' [])
    (F : Int64) (P' : Heap → Prop) (G : Go l Z y' code' ml' ret' R' (QJ fun z h' => z = F ∧ P' h') 0 0 h 0 Ls' []) (W : Nat) (hsz : Ls.size = ml) (hW : (rest.map fun v => v.category).sum ≤ W) (hf : R'.frames + 1 ≤ R.frames) (hl : W + (ml' + 11) + R'.locals ≤ R.locals) (hk : k + R'.cells ≤ R.cells) (hN : n + R'.slots ≤ R.slots) (hq : pc + 3 = q)
    (g : ∀ h', P' h' → Go l Z y code ml ret R Q (k + R'.cells) (n + R'.slots) h' q Ls (.long F :: rest)) : Go l Z y code ml ret R Q k n h pc Ls st := by
  exact Go.callV argsL rest q hd w1 w1' w1s w2 w3 w4 E hpl hy hlen hst hent G W hsz hW hf hl hk hN hq (fun v h' hq' => by obtain ⟨z, e, hp, hh⟩ := hq'; subst e; rw [hp]; exact g h' hh)
end
section
variable {y' : MethodName} {code' : ByteArray} {ml' : Nat} {ret' : Option FieldType} {R' : Room} {Ls' : Array Slot} {i : Nat}
theorem Go.callVR {a : Addr} {C : String} (argsL : List Value) (rest : List Value) (q : Nat) (hd : decode code pc = .ok (.invokevirtual i, 3)) (w1 : (Cond.methodLink y.cls i y').before a0 Z = true) (w1' : (Cond.declares y').before a0 Z = true) (w1s : (Cond.selects C y' y').before a0 Z = true) (w2 : (Cond.instanceMethod y').before a0 Z = true) (w3 : (Cond.initialized y'.cls).before a0 Z = true) (w4 : (Cond.code y' code' ml' ret').before a0 Z = true) (E : Exa Z h a C)
    (hpl : plainFor y' = true) (hy : y'.cls ≠ "java/lang/invoke/MethodHandle" ∧ y'.cls ≠ "java/lang/invoke/VarHandle") (hlen : ∀ sig, parseMethodDescriptor y'.desc = some sig → argsL.length = sig.parameters.length) (hst : st = argsL.reverse ++ .ref a :: rest) (hent : ∀ m, entryFrame m (.ref a :: argsL).toArray ml' = mkF m 0 Ls' [])
    (P' : Value → Heap → Prop) (G : Go l Z y' code' ml' ret' R' (QR P') 0 0 h 0 Ls' []) (W : Nat) (hsz : Ls.size = ml) (hW : (rest.map fun v => v.category).sum ≤ W) (hf : R'.frames + 1 ≤ R.frames) (hl : W + (ml' + 11) + R'.locals ≤ R.locals) (hk : k + R'.cells ≤ R.cells) (hN : n + R'.slots ≤ R.slots) (hq : pc + 3 = q)
    (g : ∀ (z : Value) h', P' z h' → Go l Z y code ml ret R Q (k + R'.cells) (n + R'.slots) h' q Ls ( z :: rest)) : Go l Z y code ml ret R Q k n h pc Ls st := by
  exact Go.callV argsL rest q hd w1 w1' w1s w2 w3 w4 E hpl hy hlen hst hent G W hsz hW hf hl hk hN hq (fun v h' hq' => by obtain ⟨z, e, hp⟩ := hq'; subst e; exact g z h' hp)
end
section
variable {y' : MethodName} {code' : ByteArray} {ml' : Nat} {ret' : Option FieldType} {R' : Room} {Ls' : Array Slot} {i : Nat}
theorem Go.callVRp {a : Addr} {C : String} (argsL : List Value) (rest : List Value) (q : Nat) (hd : decode code pc = .ok (.invokevirtual i, 3)) (w1 : (Cond.methodLink y.cls i y').before a0 Z = true) (w1' : (Cond.declares y').before a0 Z = true) (w1s : (Cond.selects C y' y').before a0 Z = true) (w2 : (Cond.instanceMethod y').before a0 Z = true) (w3 : (Cond.initialized y'.cls).before a0 Z = true) (w4 : (Cond.code y' code' ml' ret').before a0 Z = true) (E : Exa Z h a C)
    (hpl : plainFor y' = true) (hy : y'.cls ≠ "java/lang/invoke/MethodHandle" ∧ y'.cls ≠ "java/lang/invoke/VarHandle") (hlen : ∀ sig, parseMethodDescriptor y'.desc = some sig → argsL.length = sig.parameters.length) (hst : st = argsL.reverse ++ .ref a :: rest) (hent : ∀ m, entryFrame m (.ref a :: argsL).toArray ml' = mkF m 0 Ls' [])
    (F : Value) (G : Go l Z y' code' ml' ret' R' (QR fun z h' => z = F ∧ h' = h) 0 0 h 0 Ls' []) (W : Nat) (hsz : Ls.size = ml) (hW : (rest.map fun v => v.category).sum ≤ W) (hf : R'.frames + 1 ≤ R.frames) (hl : W + (ml' + 11) + R'.locals ≤ R.locals) (hk : k + R'.cells ≤ R.cells) (hN : n + R'.slots ≤ R.slots) (hq : pc + 3 = q)
    (g : Go l Z y code ml ret R Q (k + R'.cells) (n + R'.slots) h q Ls ( F :: rest)) : Go l Z y code ml ret R Q k n h pc Ls st := by
  exact Go.callV argsL rest q hd w1 w1' w1s w2 w3 w4 E hpl hy hlen hst hent G W hsz hW hf hl hk hN hq (fun v h' hq' => by obtain ⟨z, e, hp, hh⟩ := hq'; subst e; subst hh; rw [hp]; exact g)
end
section
variable {y' : MethodName} {code' : ByteArray} {ml' : Nat} {ret' : Option FieldType} {R' : Room} {Ls' : Array Slot} {i : Nat}
theorem Go.callVRe {a : Addr} {C : String} (argsL : List Value) (rest : List Value) (q : Nat) (hd : decode code pc = .ok (.invokevirtual i, 3)) (w1 : (Cond.methodLink y.cls i y').before a0 Z = true) (w1' : (Cond.declares y').before a0 Z = true) (w1s : (Cond.selects C y' y').before a0 Z = true) (w2 : (Cond.instanceMethod y').before a0 Z = true) (w3 : (Cond.initialized y'.cls).before a0 Z = true) (w4 : (Cond.code y' code' ml' ret').before a0 Z = true) (E : Exa Z h a C)
    (hpl : plainFor y' = true) (hy : y'.cls ≠ "java/lang/invoke/MethodHandle" ∧ y'.cls ≠ "java/lang/invoke/VarHandle") (hlen : ∀ sig, parseMethodDescriptor y'.desc = some sig → argsL.length = sig.parameters.length) (hst : st = argsL.reverse ++ .ref a :: rest) (hent : ∀ m, entryFrame m (.ref a :: argsL).toArray ml' = mkF m 0 Ls' [])
    (F : Value) (P' : Heap → Prop) (G : Go l Z y' code' ml' ret' R' (QR fun z h' => z = F ∧ P' h') 0 0 h 0 Ls' []) (W : Nat) (hsz : Ls.size = ml) (hW : (rest.map fun v => v.category).sum ≤ W) (hf : R'.frames + 1 ≤ R.frames) (hl : W + (ml' + 11) + R'.locals ≤ R.locals) (hk : k + R'.cells ≤ R.cells) (hN : n + R'.slots ≤ R.slots) (hq : pc + 3 = q)
    (g : ∀ h', P' h' → Go l Z y code ml ret R Q (k + R'.cells) (n + R'.slots) h' q Ls ( F :: rest)) : Go l Z y code ml ret R Q k n h pc Ls st := by
  exact Go.callV argsL rest q hd w1 w1' w1s w2 w3 w4 E hpl hy hlen hst hent G W hsz hW hf hl hk hN hq (fun v h' hq' => by obtain ⟨z, e, hp, hh⟩ := hq'; subst e; rw [hp]; exact g h' hh)
end
section
variable {y' : MethodName} {code' : ByteArray} {ml' : Nat} {ret' : Option FieldType} {R' : Room} {Ls' : Array Slot} {i : Nat}
theorem Go.callVV {a : Addr} {C : String} (argsL : List Value) (rest : List Value) (q : Nat) (hd : decode code pc = .ok (.invokevirtual i, 3)) (w1 : (Cond.methodLink y.cls i y').before a0 Z = true) (w1' : (Cond.declares y').before a0 Z = true) (w1s : (Cond.selects C y' y').before a0 Z = true) (w2 : (Cond.instanceMethod y').before a0 Z = true) (w3 : (Cond.initialized y'.cls).before a0 Z = true) (w4 : (Cond.code y' code' ml' ret').before a0 Z = true) (E : Exa Z h a C)
    (hpl : plainFor y' = true) (hy : y'.cls ≠ "java/lang/invoke/MethodHandle" ∧ y'.cls ≠ "java/lang/invoke/VarHandle") (hlen : ∀ sig, parseMethodDescriptor y'.desc = some sig → argsL.length = sig.parameters.length) (hst : st = argsL.reverse ++ .ref a :: rest) (hent : ∀ m, entryFrame m (.ref a :: argsL).toArray ml' = mkF m 0 Ls' [])
    (P' : Heap → Prop) (G : Go l Z y' code' ml' ret' R' (QV P') 0 0 h 0 Ls' []) (W : Nat) (hsz : Ls.size = ml) (hW : (rest.map fun v => v.category).sum ≤ W) (hf : R'.frames + 1 ≤ R.frames) (hl : W + (ml' + 11) + R'.locals ≤ R.locals) (hk : k + R'.cells ≤ R.cells) (hN : n + R'.slots ≤ R.slots) (hq : pc + 3 = q)
    (g : ∀ h', P' h' → Go l Z y code ml ret R Q (k + R'.cells) (n + R'.slots) h' q Ls rest) : Go l Z y code ml ret R Q k n h pc Ls st := by
  exact Go.callV argsL rest q hd w1 w1' w1s w2 w3 w4 E hpl hy hlen hst hent G W hsz hW hf hl hk hN hq (fun v h' hq' => by obtain ⟨e, hp⟩ := hq'; subst e; exact g h' hp)
end
section
variable {y' : MethodName} {code' : ByteArray} {ml' : Nat} {ret' : Option FieldType} {R' : Room} {Ls' : Array Slot} {i : Nat}
theorem Go.callVVp {a : Addr} {C : String} (argsL : List Value) (rest : List Value) (q : Nat) (hd : decode code pc = .ok (.invokevirtual i, 3)) (w1 : (Cond.methodLink y.cls i y').before a0 Z = true) (w1' : (Cond.declares y').before a0 Z = true) (w1s : (Cond.selects C y' y').before a0 Z = true) (w2 : (Cond.instanceMethod y').before a0 Z = true) (w3 : (Cond.initialized y'.cls).before a0 Z = true) (w4 : (Cond.code y' code' ml' ret').before a0 Z = true) (E : Exa Z h a C)
    (hpl : plainFor y' = true) (hy : y'.cls ≠ "java/lang/invoke/MethodHandle" ∧ y'.cls ≠ "java/lang/invoke/VarHandle") (hlen : ∀ sig, parseMethodDescriptor y'.desc = some sig → argsL.length = sig.parameters.length) (hst : st = argsL.reverse ++ .ref a :: rest) (hent : ∀ m, entryFrame m (.ref a :: argsL).toArray ml' = mkF m 0 Ls' [])
    (G : Go l Z y' code' ml' ret' R' (QV fun h' => h' = h) 0 0 h 0 Ls' []) (W : Nat) (hsz : Ls.size = ml) (hW : (rest.map fun v => v.category).sum ≤ W) (hf : R'.frames + 1 ≤ R.frames) (hl : W + (ml' + 11) + R'.locals ≤ R.locals) (hk : k + R'.cells ≤ R.cells) (hN : n + R'.slots ≤ R.slots) (hq : pc + 3 = q)
    (g : Go l Z y code ml ret R Q (k + R'.cells) (n + R'.slots) h q Ls rest) : Go l Z y code ml ret R Q k n h pc Ls st := by
  exact Go.callV argsL rest q hd w1 w1' w1s w2 w3 w4 E hpl hy hlen hst hent G W hsz hW hf hl hk hN hq (fun v h' hq' => by obtain ⟨e, hp⟩ := hq'; subst e; subst hp; exact g)
end



theorem own_eqf {args : Array Value} {s : State} {t : Term} {O n d : String} {v : Int32} {x : Addr} (ht : t.eval args s none [] s = some (.ref x)) (h : (Jvm.Cond.eq (Term.field t O n d) (Term.int v)).value args s none s [] = some true) : Fld s s.heap x O n d (.int v) := by
  apply Fld.start
  have e := fld_at (C := O) (n := n) (dd := d) ht
  have i : (Term.int v).eval args s none [] s = some (.int v) := Term.int_eval v
  simp only [Jvm.Cond.value, e, i] at h
  cases q : s.fieldOf? x O n d with
  | none => rw [q] at h; simp at h
  | some w =>
    rw [q] at h
    cases w <;> simp at h
    rw [h]
/-- an array of ints, shorts, chars, bytes or booleans, with its elements -/
def Ari (Z : State) (h : Heap) (a : Addr) (ty : FieldType) (xs : List Int32) : Prop := ∃ c : Cell, Arr Z h a c ty ∧ c.slots.toList = xs.map Value.int ∧ xs.length < 2147483648
def Arj (Z : State) (h : Heap) (a : Addr) (xs : List Int64) : Prop := ∃ c : Cell, Arr Z h a c .long ∧ c.slots.toList = xs.map Value.long ∧ xs.length < 2147483648
theorem Ari.lt {a : Addr} {ty : FieldType} {xs : List Int32} (F : Ari Z h a ty xs) : a < h.size := by obtain ⟨c, A, -⟩ := F; exact A.lt
theorem Arj.lt {a : Addr} {xs : List Int64} (F : Arj Z h a xs) : a < h.size := by obtain ⟨c, A, -⟩ := F; exact A.lt
theorem Ari.ext {h' : Heap} {a : Addr} {ty : FieldType} {xs : List Int32} (F : Ari Z h a ty xs) (E : Ext h h') : Ari Z h' a ty xs := by obtain ⟨c, A, r⟩ := F; exact ⟨c, A.ext E, r⟩
theorem Arj.ext {h' : Heap} {a : Addr} {xs : List Int64} (F : Arj Z h a xs) (E : Ext h h') : Arj Z h' a xs := by obtain ⟨c, A, r⟩ := F; exact ⟨c, A.ext E, r⟩
theorem Ari.other {h' : Heap} {a b : Addr} {sl : Nat} {v : Value} {ty : FieldType} {xs : List Int32} (F : Ari Z h b ty xs) (W : Wr h h' a sl v) (q : b ≠ a) : Ari Z h' b ty xs := by obtain ⟨c, A, r⟩ := F; exact ⟨c, A.other W q, r⟩
theorem Arj.other {h' : Heap} {a b : Addr} {sl : Nat} {v : Value} {xs : List Int64} (F : Arj Z h b xs) (W : Wr h h' a sl v) (q : b ≠ a) : Arj Z h' b xs := by obtain ⟨c, A, r⟩ := F; exact ⟨c, A.other W q, r⟩
theorem Ari.keep {h' : Heap} {a : Addr} {ws : List Addr} {ty : FieldType} {xs : List Int32} (F : Ari Z h a ty xs) (K : Keep h h' ws) (q : a ∉ ws) : Ari Z h' a ty xs := by obtain ⟨c, A, r⟩ := F; exact ⟨c, ⟨K.2.1 _ _ A.1 q, A.2⟩, r⟩
theorem Arj.keep {h' : Heap} {a : Addr} {ws : List Addr} {xs : List Int64} (F : Arj Z h a xs) (K : Keep h h' ws) (q : a ∉ ws) : Arj Z h' a xs := by obtain ⟨c, A, r⟩ := F; exact ⟨c, ⟨K.2.1 _ _ A.1 q, A.2⟩, r⟩
theorem own_size {c : Cell} {α : Type} {f : α → Value} {xs : List α} (e : c.slots.toList = xs.map f) : c.slots.size = xs.length := by
  have q := congrArg List.length e
  simpa using q
theorem own_at {c : Cell} {α : Type} {f : α → Value} {xs : List α} (e : c.slots.toList = xs.map f) {i : Nat} {x : α} (hx : xs[i]? = some x) : c.slots[i]? = some (f x) := by
  have q : c.slots.toList[i]? = some (f x) := by rw [e, List.getElem?_map, hx]; rfl
  simpa using q
theorem own_in {c : Cell} {α : Type} {f : α → Value} {xs : List α} (e : c.slots.toList = xs.map f) {i : Nat} {j : Int32} (hj : ¬ j < 0) (hi : j.toNatClampNeg = i) (hx : i < xs.length) : ¬ (j < 0 ∨ c.slots.size ≤ j.toNatClampNeg) := by
  rw [own_size e, hi]; intro q; rcases q with q | q
  · exact hj q
  · exact absurd hx (Nat.not_lt.mpr q)
theorem own_set {c : Cell} {α : Type} {f : α → Value} {xs : List α} (e : c.slots.toList = xs.map f) (i : Nat) (x : α) : (c.setSlot i (f x)).slots.toList = (xs.set i x).map f := by
  show (c.slots.setIfInBounds i (f x)).toList = _
  rw [Array.toList_setIfInBounds, e, List.map_set]
theorem Ari.set {h' : Heap} {a : Addr} {ty : FieldType} {xs xs' : List Int32} {i : Nat} {x : Int32} (F : Ari Z h a ty xs) (W : Wr h h' a i (.int x)) (e : xs.set i x = xs') : Ari Z h' a ty xs' := by
  subst e
  obtain ⟨c, A, r, r2⟩ := F
  exact ⟨_, A.same W, own_set r i x, by rw [List.length_set]; exact r2⟩
theorem Arj.set {h' : Heap} {a : Addr} {xs xs' : List Int64} {i : Nat} {x : Int64} (F : Arj Z h a xs) (W : Wr h h' a i (.long x)) (e : xs.set i x = xs') : Arj Z h' a xs' := by
  subst e
  obtain ⟨c, A, r, r2⟩ := F
  exact ⟨_, A.same W, own_set r i x, by rw [List.length_set]; exact r2⟩

theorem Go.iaload {a : Addr} {j x : Int32} {xs : List Int32} (i : Nat) (q : Nat) (hd : decode code pc = .ok (.iaload, 1)) (A : Ari Z h a .int xs) (hj : ¬ j < 0) (hi : j.toNatClampNeg = i) (hx : xs[i]? = some x) (hq : pc + 1 = q) (g : Go l Z y code ml ret R Q k n h q Ls (.int x :: st)) : Go l Z y code ml ret R Q k n h pc Ls (.int j :: .ref a :: st) := by
  subst hq hi
  obtain ⟨cl, A, r, r2⟩ := A
  have hv := own_at r hx
  have hin := own_in r hj rfl (List.getElem?_eq_some_iff.mp hx).1
  exact g.pure fun p e s m args below meth c K T L k' n' X hT t rr => X.iaload K.1 (cell := cl) (v := .int x) (by rw [hT]; exact A.1) (State.isArrayOf_alike K.2.2.1.alike A.2.1) A.2.2 hin hv (g := mkF m pc Ls (.int j :: .ref a :: st)) rfl rfl (hb K.2.1 hd) t rr
theorem Go.baload {a : Addr} {j x : Int32} {xs : List Int32} (i : Nat) (q : Nat) (hd : decode code pc = .ok (.baload, 1)) (A : Ari Z h a .byte xs) (hj : ¬ j < 0) (hi : j.toNatClampNeg = i) (hx : xs[i]? = some x) (hq : pc + 1 = q) (g : Go l Z y code ml ret R Q k n h q Ls (.int x :: st)) : Go l Z y code ml ret R Q k n h pc Ls (.int j :: .ref a :: st) := by
  subst hq hi
  obtain ⟨cl, A, r, r2⟩ := A
  have hv := own_at r hx
  have hin := own_in r hj rfl (List.getElem?_eq_some_iff.mp hx).1
  exact g.pure fun p e s m args below meth c K T L k' n' X hT t rr => X.baloadBytes K.1 (cell := cl) (v := .int x) (by rw [hT]; exact A.1) (State.isArrayOf_alike K.2.2.1.alike A.2.1) A.2.2 hin hv (g := mkF m pc Ls (.int j :: .ref a :: st)) rfl rfl (hb K.2.1 hd) t rr
theorem Go.zaload {a : Addr} {j x : Int32} {xs : List Int32} (i : Nat) (q : Nat) (hd : decode code pc = .ok (.baload, 1)) (A : Ari Z h a .boolean xs) (hj : ¬ j < 0) (hi : j.toNatClampNeg = i) (hx : xs[i]? = some x) (hq : pc + 1 = q) (g : Go l Z y code ml ret R Q k n h q Ls (.int x :: st)) : Go l Z y code ml ret R Q k n h pc Ls (.int j :: .ref a :: st) := by
  subst hq hi
  obtain ⟨cl, A, r, r2⟩ := A
  have hv := own_at r hx
  have hin := own_in r hj rfl (List.getElem?_eq_some_iff.mp hx).1
  exact g.pure fun p e s m args below meth c K T L k' n' X hT t rr => X.baloadBooleans K.1 (cell := cl) (v := .int x) (by rw [hT]; exact A.1) (State.isArrayOf_alike K.2.2.1.alike A.2.1) A.2.2 hin hv (g := mkF m pc Ls (.int j :: .ref a :: st)) rfl rfl (hb K.2.1 hd) t rr
theorem Go.caload {a : Addr} {j x : Int32} {xs : List Int32} (i : Nat) (q : Nat) (hd : decode code pc = .ok (.caload, 1)) (A : Ari Z h a .char xs) (hj : ¬ j < 0) (hi : j.toNatClampNeg = i) (hx : xs[i]? = some x) (hq : pc + 1 = q) (g : Go l Z y code ml ret R Q k n h q Ls (.int x :: st)) : Go l Z y code ml ret R Q k n h pc Ls (.int j :: .ref a :: st) := by
  subst hq hi
  obtain ⟨cl, A, r, r2⟩ := A
  have hv := own_at r hx
  have hin := own_in r hj rfl (List.getElem?_eq_some_iff.mp hx).1
  exact g.pure fun p e s m args below meth c K T L k' n' X hT t rr => X.caload K.1 (cell := cl) (v := .int x) (by rw [hT]; exact A.1) (State.isArrayOf_alike K.2.2.1.alike A.2.1) A.2.2 hin hv (g := mkF m pc Ls (.int j :: .ref a :: st)) rfl rfl (hb K.2.1 hd) t rr
theorem Go.laload {a : Addr} {j : Int32} {x : Int64} {xs : List Int64} (i : Nat) (q : Nat) (hd : decode code pc = .ok (.laload, 1)) (A : Arj Z h a xs) (hj : ¬ j < 0) (hi : j.toNatClampNeg = i) (hx : xs[i]? = some x) (hq : pc + 1 = q) (g : Go l Z y code ml ret R Q k n h q Ls (.long x :: st)) : Go l Z y code ml ret R Q k n h pc Ls (.int j :: .ref a :: st) := by
  subst hq hi
  obtain ⟨cl, A, r, r2⟩ := A
  have hv := own_at r hx
  have hin := own_in r hj rfl (List.getElem?_eq_some_iff.mp hx).1
  exact g.pure fun p e s m args below meth c K T L k' n' X hT t rr => X.laload K.1 (cell := cl) (v := .long x) (by rw [hT]; exact A.1) (State.isArrayOf_alike K.2.2.1.alike A.2.1) A.2.2 hin hv (g := mkF m pc Ls (.int j :: .ref a :: st)) rfl rfl (hb K.2.1 hd) t rr
theorem Go.arraylength {a : Addr} {ty : FieldType} {xs : List Int32} {z : Int32} (q : Nat) (hd : decode code pc = .ok (.arraylength, 1)) (A : Ari Z h a ty xs) (hz : xs.length.toInt32 = z) (hq : pc + 1 = q) (g : Go l Z y code ml ret R Q k n h q Ls (.int z :: st)) : Go l Z y code ml ret R Q k n h pc Ls (.ref a :: st) := by
  subst hq
  obtain ⟨cl, A, r, r2⟩ := A
  subst hz
  exact g.pure fun p e s m args below meth c K T L k' n' X hT t rr => X.arraylength K.1 (cell := cl) (by rw [hT]; exact A.1) (State.isArrayOf_alike K.2.2.1.alike A.2.1) (g := mkF m pc Ls (.ref a :: st)) rfl rfl (hb K.2.1 hd) t (by rw [own_size r]; exact rr)
theorem Go.arraylengthJ {a : Addr} {xs : List Int64} {z : Int32} (q : Nat) (hd : decode code pc = .ok (.arraylength, 1)) (A : Arj Z h a xs) (hz : xs.length.toInt32 = z) (hq : pc + 1 = q) (g : Go l Z y code ml ret R Q k n h q Ls (.int z :: st)) : Go l Z y code ml ret R Q k n h pc Ls (.ref a :: st) := by
  subst hq
  obtain ⟨cl, A, r, r2⟩ := A
  subst hz
  exact g.pure fun p e s m args below meth c K T L k' n' X hT t rr => X.arraylength K.1 (cell := cl) (by rw [hT]; exact A.1) (State.isArrayOf_alike K.2.2.1.alike A.2.1) (g := mkF m pc Ls (.ref a :: st)) rfl rfl (hb K.2.1 hd) t (by rw [own_size r]; exact rr)
theorem Go.iastore {a : Addr} {j x : Int32} {xs : List Int32} (i : Nat) (xs' : List Int32) (q : Nat) (hd : decode code pc = .ok (.iastore, 1)) (A : Ari Z h a .int xs) (hj : ¬ j < 0) (hi : j.toNatClampNeg = i) (hx : i < xs.length) (he : xs.set i (x) = xs') (hge : Z.heap.size ≤ a) (hq : pc + 1 = q)
    (g : ∀ h', Wr h h' a i (.int (x)) → Ari Z h' a .int xs' → Go l Z y code ml ret R Q k n h' q Ls st) : Go l Z y code ml ret R Q k n h pc Ls (.int x :: .int j :: .ref a :: st) := by
  subst hq hi
  refine Go.move (P := fun h' => Wr h h' a j.toNatClampNeg (.int (x))) (kk := k) (nn := n) (fun h' W => g h' W (A.set W he)) ?_
  obtain ⟨cl, A, r, r2⟩ := A
  intro p e s m args below meth c K T L k' n' X h1 h2 N hT
  obtain ⟨T', h', X', e', W', s'⟩ := stI X K.1 K.2.2.1 hT A (own_in r hj rfl hx) (g := mkF m pc Ls (.int x :: .int j :: .ref a :: st)) rfl rfl (hb K.2.1 hd)
  exact ⟨T', _, k', n', X', h1, h2, Fr.snoc X' N hge, e' ▸ W', s'⟩
theorem Go.bastore {a : Addr} {j x : Int32} {xs : List Int32} (i : Nat) (xs' : List Int32) (q : Nat) (hd : decode code pc = .ok (.bastore, 1)) (A : Ari Z h a .byte xs) (hj : ¬ j < 0) (hi : j.toNatClampNeg = i) (hx : i < xs.length) (he : xs.set i (nar .byte x) = xs') (hge : Z.heap.size ≤ a) (hq : pc + 1 = q)
    (g : ∀ h', Wr h h' a i (.int (nar .byte x)) → Ari Z h' a .byte xs' → Go l Z y code ml ret R Q k n h' q Ls st) : Go l Z y code ml ret R Q k n h pc Ls (.int x :: .int j :: .ref a :: st) := by
  subst hq hi
  refine Go.move (P := fun h' => Wr h h' a j.toNatClampNeg (.int (nar .byte x))) (kk := k) (nn := n) (fun h' W => g h' W (A.set W he)) ?_
  obtain ⟨cl, A, r, r2⟩ := A
  intro p e s m args below meth c K T L k' n' X h1 h2 N hT
  obtain ⟨T', h', X', e', W', s'⟩ := stB X K.1 K.2.2.1 hT A (own_in r hj rfl hx) (g := mkF m pc Ls (.int x :: .int j :: .ref a :: st)) rfl rfl (hb K.2.1 hd)
  exact ⟨T', _, k', n', X', h1, h2, Fr.snoc X' N hge, e' ▸ W', s'⟩
theorem Go.zastore {a : Addr} {j x : Int32} {xs : List Int32} (i : Nat) (xs' : List Int32) (q : Nat) (hd : decode code pc = .ok (.bastore, 1)) (A : Ari Z h a .boolean xs) (hj : ¬ j < 0) (hi : j.toNatClampNeg = i) (hx : i < xs.length) (he : xs.set i (nar .boolean x) = xs') (hge : Z.heap.size ≤ a) (hq : pc + 1 = q)
    (g : ∀ h', Wr h h' a i (.int (nar .boolean x)) → Ari Z h' a .boolean xs' → Go l Z y code ml ret R Q k n h' q Ls st) : Go l Z y code ml ret R Q k n h pc Ls (.int x :: .int j :: .ref a :: st) := by
  subst hq hi
  refine Go.move (P := fun h' => Wr h h' a j.toNatClampNeg (.int (nar .boolean x))) (kk := k) (nn := n) (fun h' W => g h' W (A.set W he)) ?_
  obtain ⟨cl, A, r, r2⟩ := A
  intro p e s m args below meth c K T L k' n' X h1 h2 N hT
  obtain ⟨T', h', X', e', W', s'⟩ := stZ X K.1 K.2.2.1 hT A (own_in r hj rfl hx) (g := mkF m pc Ls (.int x :: .int j :: .ref a :: st)) rfl rfl (hb K.2.1 hd)
  exact ⟨T', _, k', n', X', h1, h2, Fr.snoc X' N hge, e' ▸ W', s'⟩
theorem Go.castore {a : Addr} {j x : Int32} {xs : List Int32} (i : Nat) (xs' : List Int32) (q : Nat) (hd : decode code pc = .ok (.castore, 1)) (A : Ari Z h a .char xs) (hj : ¬ j < 0) (hi : j.toNatClampNeg = i) (hx : i < xs.length) (he : xs.set i (nar .char x) = xs') (hge : Z.heap.size ≤ a) (hq : pc + 1 = q)
    (g : ∀ h', Wr h h' a i (.int (nar .char x)) → Ari Z h' a .char xs' → Go l Z y code ml ret R Q k n h' q Ls st) : Go l Z y code ml ret R Q k n h pc Ls (.int x :: .int j :: .ref a :: st) := by
  subst hq hi
  refine Go.move (P := fun h' => Wr h h' a j.toNatClampNeg (.int (nar .char x))) (kk := k) (nn := n) (fun h' W => g h' W (A.set W he)) ?_
  obtain ⟨cl, A, r, r2⟩ := A
  intro p e s m args below meth c K T L k' n' X h1 h2 N hT
  obtain ⟨T', h', X', e', W', s'⟩ := stC X K.1 K.2.2.1 hT A (own_in r hj rfl hx) (g := mkF m pc Ls (.int x :: .int j :: .ref a :: st)) rfl rfl (hb K.2.1 hd)
  exact ⟨T', _, k', n', X', h1, h2, Fr.snoc X' N hge, e' ▸ W', s'⟩
theorem Go.lastore {a : Addr} {j : Int32} {x : Int64} {xs : List Int64} (i : Nat) (xs' : List Int64) (q : Nat) (hd : decode code pc = .ok (.lastore, 1)) (A : Arj Z h a xs) (hj : ¬ j < 0) (hi : j.toNatClampNeg = i) (hx : i < xs.length) (he : xs.set i x = xs') (hge : Z.heap.size ≤ a) (hq : pc + 1 = q)
    (g : ∀ h', Wr h h' a i (.long x) → Arj Z h' a xs' → Go l Z y code ml ret R Q k n h' q Ls st) : Go l Z y code ml ret R Q k n h pc Ls (.long x :: .int j :: .ref a :: st) := by
  subst hq hi
  refine Go.move (P := fun h' => Wr h h' a j.toNatClampNeg (.long x)) (kk := k) (nn := n) (fun h' W => g h' W (A.set W he)) ?_
  obtain ⟨cl, A, r, r2⟩ := A
  intro p e s m args below meth c K T L k' n' X h1 h2 N hT
  obtain ⟨T', h', X', e', W', s'⟩ := stJ X K.1 K.2.2.1 hT A (own_in r hj rfl hx) (g := mkF m pc Ls (.long x :: .int j :: .ref a :: st)) rfl rfl (hb K.2.1 hd)
  exact ⟨T', _, k', n', X', h1, h2, Fr.snoc X' N hge, e' ▸ W', s'⟩
theorem Go.newI {aty : ArrayType} {z : Int32} (cap : Nat) (xs : List Int32) (q : Nat) (hd : decode code pc = .ok (.newarray aty, 2)) (w : (Cond.arrayClass (newarray.typeOf aty)).before a0 Z = true) (hdv : defaultValue (newarray.typeOf aty) = .int 0) (hz : ¬ z < 0) (hcap : z.toNatClampNeg ≤ cap) (hbig : cap * 8 ≤ 536870912) (hxs : List.replicate z.toNatClampNeg 0 = xs) (hk : k + 1 ≤ R.cells) (hN : n + cap ≤ R.slots) (hq : pc + 2 = q)
    (g : ∀ (a : Addr) h', a = h.size → Ext h h' → Ari Z h' a (newarray.typeOf aty) xs → Go l Z y code ml ret R Q (k + 1) (n + cap) h' q Ls (.ref a :: st)) : Go l Z y code ml ret R Q k n h pc Ls (.int z :: st) := by
  subst hq hxs
  refine Go.move (P := fun h' => Ext h h' ∧ Ari Z h' h.size (newarray.typeOf aty) (List.replicate z.toNatClampNeg 0)) (kk := k + 1) (nn := n + cap) (fun h' p => g h.size h' rfl p.1 p.2) ?_
  intro p e s m args below meth c K T L k' n' X h1 h2 N hT
  obtain ⟨T', h', cA, X', e', E', A', s'⟩ := newP X K.1 K.2.2.1 w hT (g := mkF m pc Ls (.int z :: st)) rfl (hb K.2.1 hd) rfl hz hcap hbig (Nat.le_trans (Nat.add_le_add_right h1 1) hk) (Nat.le_trans (Nat.add_le_add_right h2 cap) hN)
  subst e'
  refine ⟨T', L, k' + 1, n' + cap, X', Nat.add_le_add_right h1 1, Nat.add_le_add_right h2 cap, N, ⟨E', _, A', ?_, ?_⟩, s'⟩
  · show (Array.replicate z.toNatClampNeg (defaultValue (newarray.typeOf aty))).toList = _
    rw [hdv]; simp [List.map_replicate]
  · rw [List.length_replicate]; omega
theorem Go.newJ {aty : ArrayType} {z : Int32} (cap : Nat) (xs : List Int64) (q : Nat) (hd : decode code pc = .ok (.newarray aty, 2)) (w : (Cond.arrayClass (newarray.typeOf aty)).before a0 Z = true) (hdv : newarray.typeOf aty = .long) (hz : ¬ z < 0) (hcap : z.toNatClampNeg ≤ cap) (hbig : cap * 8 ≤ 536870912) (hxs : List.replicate z.toNatClampNeg 0 = xs) (hk : k + 1 ≤ R.cells) (hN : n + cap ≤ R.slots) (hq : pc + 2 = q)
    (g : ∀ (a : Addr) h', a = h.size → Ext h h' → Arj Z h' a xs → Go l Z y code ml ret R Q (k + 1) (n + cap) h' q Ls (.ref a :: st)) : Go l Z y code ml ret R Q k n h pc Ls (.int z :: st) := by
  subst hq hxs
  refine Go.move (P := fun h' => Ext h h' ∧ Arj Z h' h.size (List.replicate z.toNatClampNeg 0)) (kk := k + 1) (nn := n + cap) (fun h' p => g h.size h' rfl p.1 p.2) ?_
  intro p e s m args below meth c K T L k' n' X h1 h2 N hT
  obtain ⟨T', h', cA, X', e', E', A', s'⟩ := newP X K.1 K.2.2.1 w hT (g := mkF m pc Ls (.int z :: st)) rfl (hb K.2.1 hd) rfl hz hcap hbig (Nat.le_trans (Nat.add_le_add_right h1 1) hk) (Nat.le_trans (Nat.add_le_add_right h2 cap) hN)
  subst e'
  refine ⟨T', L, k' + 1, n' + cap, X', Nat.add_le_add_right h1 1, Nat.add_le_add_right h2 cap, N, ⟨E', _, hdv ▸ A', ?_, ?_⟩, s'⟩
  · show (Array.replicate z.toNatClampNeg (defaultValue .long)).toList = _
    simp [List.map_replicate, defaultValue]
  · rw [List.length_replicate]; omega
end Laws
end Jvm.OwnGo

namespace Jvm.Pilot.@@N@@
open Jvm Jvm.ClassFile Sem Op Lib Jvm.Free Jvm.Stand Jvm.LawKit Jvm.RoadKit Bundle Jvm.OwnGo Jvm.Pilot.@@N@@.Jvm.D
theorem pnx : plainName x.cls = true := by first | (simp [x, plainName, overriddenIn]; done) | decide +kernel
theorem tw0 {a0 : Array Value} {Z : State} (hw : ∀ d ∈ tables_1, d.before a0 Z = true) : ((Jvm.Cond.arrayClass Jvm.ClassFile.FieldType.int)).before a0 Z = true := hw _ (List.mem_of_getElem? (i := 0) rfl)
theorem tw1 {a0 : Array Value} {Z : State} (hw : ∀ d ∈ tables_1, d.before a0 Z = true) : ((Jvm.Cond.classLink "com/example/wary_mutex/warymutex/message/IndexSetRemovePinLaw" (7 : Nat) "com/example/wary_mutex/warymutex/message/IndexSet")).before a0 Z = true := hw _ (List.mem_of_getElem? (i := 1) rfl)
theorem tw2 {a0 : Array Value} {Z : State} (hw : ∀ d ∈ tables_1, d.before a0 Z = true) : ((Jvm.Cond.instantiable "com/example/wary_mutex/warymutex/message/IndexSet" (3 : Nat))).before a0 Z = true := hw _ (List.mem_of_getElem? (i := 2) rfl)
theorem tw3 {a0 : Array Value} {Z : State} (hw : ∀ d ∈ tables_1, d.before a0 Z = true) : ((Jvm.Cond.initialized "com/example/wary_mutex/warymutex/message/IndexSet")).before a0 Z = true := hw _ (List.mem_of_getElem? (i := 3) rfl)
theorem tw4 {a0 : Array Value} {Z : State} (hw : ∀ d ∈ tables_1, d.before a0 Z = true) : ((Jvm.Cond.methodLink "com/example/wary_mutex/warymutex/message/IndexSetRemovePinLaw" (9 : Nat) ({ cls := "com/example/wary_mutex/warymutex/message/IndexSet", name := "<init>", desc := "(I)V" } : Jvm.MethodName))).before a0 Z = true := hw _ (List.mem_of_getElem? (i := 4) rfl)
theorem tw5 {a0 : Array Value} {Z : State} (hw : ∀ d ∈ tables_1, d.before a0 Z = true) : ((Jvm.Cond.instanceMethod ({ cls := "com/example/wary_mutex/warymutex/message/IndexSet", name := "<init>", desc := "(I)V" } : Jvm.MethodName))).before a0 Z = true := hw _ (List.mem_of_getElem? (i := 5) rfl)
theorem tw6 {a0 : Array Value} {Z : State} (hw : ∀ d ∈ tables_1, d.before a0 Z = true) : ((Jvm.Cond.code ({ cls := "com/example/wary_mutex/warymutex/message/IndexSet", name := "<init>", desc := "(I)V" } : Jvm.MethodName) prog_43_method_1_code (2 : Nat) (Option.none : Option Jvm.ClassFile.FieldType))).before a0 Z = true := hw _ (List.mem_of_getElem? (i := 6) rfl)
theorem tw7 {a0 : Array Value} {Z : State} (hw : ∀ d ∈ tables_1, d.before a0 Z = true) : ((Jvm.Cond.methodLink "com/example/wary_mutex/warymutex/message/IndexSet" (1 : Nat) ({ cls := "java/lang/Object", name := "<init>", desc := "()V" } : Jvm.MethodName))).before a0 Z = true := hw _ (List.mem_of_getElem? (i := 7) rfl)
theorem tw8 {a0 : Array Value} {Z : State} (hw : ∀ d ∈ tables_1, d.before a0 Z = true) : ((Jvm.Cond.instanceMethod ({ cls := "java/lang/Object", name := "<init>", desc := "()V" } : Jvm.MethodName))).before a0 Z = true := hw _ (List.mem_of_getElem? (i := 8) rfl)
theorem tw9 {a0 : Array Value} {Z : State} (hw : ∀ d ∈ tables_1, d.before a0 Z = true) : ((Jvm.Cond.code ({ cls := "java/lang/Object", name := "<init>", desc := "()V" } : Jvm.MethodName) object_method_1_code (1 : Nat) (Option.none : Option Jvm.ClassFile.FieldType))).before a0 Z = true := hw _ (List.mem_of_getElem? (i := 9) rfl)
theorem tw10 {a0 : Array Value} {Z : State} (hw : ∀ d ∈ tables_1, d.before a0 Z = true) : ((Jvm.Cond.fieldLink "com/example/wary_mutex/warymutex/message/IndexSet" (7 : Nat) "com/example/wary_mutex/warymutex/message/IndexSet" "members" "[I")).before a0 Z = true := hw _ (List.mem_of_getElem? (i := 10) rfl)
theorem tw11 {a0 : Array Value} {Z : State} (hw : ∀ d ∈ tables_1, d.before a0 Z = true) : ((Jvm.Cond.laysFinal "com/example/wary_mutex/warymutex/message/IndexSet" "com/example/wary_mutex/warymutex/message/IndexSet" "members" "[I")).before a0 Z = true := hw _ (List.mem_of_getElem? (i := 11) rfl)
theorem tw12 {a0 : Array Value} {Z : State} (hw : ∀ d ∈ tables_1, d.before a0 Z = true) : ((Jvm.Cond.fieldLink "com/example/wary_mutex/warymutex/message/IndexSet" (13 : Nat) "com/example/wary_mutex/warymutex/message/IndexSet" "positions" "[I")).before a0 Z = true := hw _ (List.mem_of_getElem? (i := 12) rfl)
theorem tw13 {a0 : Array Value} {Z : State} (hw : ∀ d ∈ tables_1, d.before a0 Z = true) : ((Jvm.Cond.laysFinal "com/example/wary_mutex/warymutex/message/IndexSet" "com/example/wary_mutex/warymutex/message/IndexSet" "positions" "[I")).before a0 Z = true := hw _ (List.mem_of_getElem? (i := 13) rfl)
theorem tw14 {a0 : Array Value} {Z : State} (hw : ∀ d ∈ tables_1, d.before a0 Z = true) : ((Jvm.Cond.methodLink "com/example/wary_mutex/warymutex/message/IndexSet" (16 : Nat) ({ cls := "java/util/Arrays", name := "fill", desc := "([II)V" } : Jvm.MethodName))).before a0 Z = true := hw _ (List.mem_of_getElem? (i := 14) rfl)
theorem tw15 {a0 : Array Value} {Z : State} (hw : ∀ d ∈ tables_1, d.before a0 Z = true) : ((Jvm.Cond.static ({ cls := "java/util/Arrays", name := "fill", desc := "([II)V" } : Jvm.MethodName))).before a0 Z = true := hw _ (List.mem_of_getElem? (i := 15) rfl)
theorem tw16 {a0 : Array Value} {Z : State} (hw : ∀ d ∈ tables_1, d.before a0 Z = true) : ((Jvm.Cond.initialized "java/util/Arrays")).before a0 Z = true := hw _ (List.mem_of_getElem? (i := 16) rfl)
theorem tw17 {a0 : Array Value} {Z : State} (hw : ∀ d ∈ tables_1, d.before a0 Z = true) : ((Jvm.Cond.code ({ cls := "java/util/Arrays", name := "fill", desc := "([II)V" } : Jvm.MethodName) jdk_65_method_103_code (4 : Nat) (Option.none : Option Jvm.ClassFile.FieldType))).before a0 Z = true := hw _ (List.mem_of_getElem? (i := 17) rfl)
theorem tw18 {a0 : Array Value} {Z : State} (hw : ∀ d ∈ tables_1, d.before a0 Z = true) : ((Jvm.Cond.methodLink "com/example/wary_mutex/warymutex/message/IndexSetRemovePinLaw" (12 : Nat) ({ cls := "com/example/wary_mutex/warymutex/message/IndexSet", name := "add", desc := "(I)V" } : Jvm.MethodName))).before a0 Z = true := hw _ (List.mem_of_getElem? (i := 18) rfl)
theorem tw19 {a0 : Array Value} {Z : State} (hw : ∀ d ∈ tables_1, d.before a0 Z = true) : ((Jvm.Cond.declares ({ cls := "com/example/wary_mutex/warymutex/message/IndexSet", name := "add", desc := "(I)V" } : Jvm.MethodName))).before a0 Z = true := hw _ (List.mem_of_getElem? (i := 19) rfl)
theorem tw20 {a0 : Array Value} {Z : State} (hw : ∀ d ∈ tables_1, d.before a0 Z = true) : ((Jvm.Cond.instanceMethod ({ cls := "com/example/wary_mutex/warymutex/message/IndexSet", name := "add", desc := "(I)V" } : Jvm.MethodName))).before a0 Z = true := hw _ (List.mem_of_getElem? (i := 20) rfl)
theorem tw21 {a0 : Array Value} {Z : State} (hw : ∀ d ∈ tables_1, d.before a0 Z = true) : ((Jvm.Cond.selects "com/example/wary_mutex/warymutex/message/IndexSet" ({ cls := "com/example/wary_mutex/warymutex/message/IndexSet", name := "add", desc := "(I)V" } : Jvm.MethodName) ({ cls := "com/example/wary_mutex/warymutex/message/IndexSet", name := "add", desc := "(I)V" } : Jvm.MethodName))).before a0 Z = true := hw _ (List.mem_of_getElem? (i := 21) rfl)
theorem tw22 {a0 : Array Value} {Z : State} (hw : ∀ d ∈ tables_1, d.before a0 Z = true) : ((Jvm.Cond.code ({ cls := "com/example/wary_mutex/warymutex/message/IndexSet", name := "add", desc := "(I)V" } : Jvm.MethodName) prog_43_method_2_code (2 : Nat) (Option.none : Option Jvm.ClassFile.FieldType))).before a0 Z = true := hw _ (List.mem_of_getElem? (i := 22) rfl)
theorem tw23 {a0 : Array Value} {Z : State} (hw : ∀ d ∈ tables_1, d.before a0 Z = true) : ((Jvm.Cond.fieldLink "com/example/wary_mutex/warymutex/message/IndexSet" (22 : Nat) "com/example/wary_mutex/warymutex/message/IndexSet" "size" "I")).before a0 Z = true := hw _ (List.mem_of_getElem? (i := 23) rfl)
theorem tw24 {a0 : Array Value} {Z : State} (hw : ∀ d ∈ tables_1, d.before a0 Z = true) : ((Jvm.Cond.lays "com/example/wary_mutex/warymutex/message/IndexSet" "com/example/wary_mutex/warymutex/message/IndexSet" "size" "I")).before a0 Z = true := hw _ (List.mem_of_getElem? (i := 24) rfl)
theorem tw25 {a0 : Array Value} {Z : State} (hw : ∀ d ∈ tables_1, d.before a0 Z = true) : ((Jvm.Cond.methodLink "com/example/wary_mutex/warymutex/message/IndexSetRemovePinLaw" (15 : Nat) ({ cls := "com/example/wary_mutex/warymutex/message/IndexSetRemovePinLaw", name := "addModel", desc := "([II)V" } : Jvm.MethodName))).before a0 Z = true := hw _ (List.mem_of_getElem? (i := 25) rfl)
theorem tw26 {a0 : Array Value} {Z : State} (hw : ∀ d ∈ tables_1, d.before a0 Z = true) : ((Jvm.Cond.static ({ cls := "com/example/wary_mutex/warymutex/message/IndexSetRemovePinLaw", name := "addModel", desc := "([II)V" } : Jvm.MethodName))).before a0 Z = true := hw _ (List.mem_of_getElem? (i := 26) rfl)
theorem tw27 {a0 : Array Value} {Z : State} (hw : ∀ d ∈ tables_1, d.before a0 Z = true) : ((Jvm.Cond.initialized "com/example/wary_mutex/warymutex/message/IndexSetRemovePinLaw")).before a0 Z = true := hw _ (List.mem_of_getElem? (i := 27) rfl)
theorem tw28 {a0 : Array Value} {Z : State} (hw : ∀ d ∈ tables_1, d.before a0 Z = true) : ((Jvm.Cond.code ({ cls := "com/example/wary_mutex/warymutex/message/IndexSetRemovePinLaw", name := "addModel", desc := "([II)V" } : Jvm.MethodName) method_3_code (4 : Nat) (Option.none : Option Jvm.ClassFile.FieldType))).before a0 Z = true := hw _ (List.mem_of_getElem? (i := 28) rfl)
theorem tw29 {a0 : Array Value} {Z : State} (hw : ∀ d ∈ tables_1, d.before a0 Z = true) : ((Jvm.Cond.methodLink "com/example/wary_mutex/warymutex/message/IndexSetRemovePinLaw" (21 : Nat) ({ cls := "com/example/wary_mutex/warymutex/message/IndexSet", name := "remove", desc := "(I)V" } : Jvm.MethodName))).before a0 Z = true := hw _ (List.mem_of_getElem? (i := 29) rfl)
theorem tw30 {a0 : Array Value} {Z : State} (hw : ∀ d ∈ tables_1, d.before a0 Z = true) : ((Jvm.Cond.declares ({ cls := "com/example/wary_mutex/warymutex/message/IndexSet", name := "remove", desc := "(I)V" } : Jvm.MethodName))).before a0 Z = true := hw _ (List.mem_of_getElem? (i := 30) rfl)
theorem tw31 {a0 : Array Value} {Z : State} (hw : ∀ d ∈ tables_1, d.before a0 Z = true) : ((Jvm.Cond.instanceMethod ({ cls := "com/example/wary_mutex/warymutex/message/IndexSet", name := "remove", desc := "(I)V" } : Jvm.MethodName))).before a0 Z = true := hw _ (List.mem_of_getElem? (i := 31) rfl)
theorem tw32 {a0 : Array Value} {Z : State} (hw : ∀ d ∈ tables_1, d.before a0 Z = true) : ((Jvm.Cond.selects "com/example/wary_mutex/warymutex/message/IndexSet" ({ cls := "com/example/wary_mutex/warymutex/message/IndexSet", name := "remove", desc := "(I)V" } : Jvm.MethodName) ({ cls := "com/example/wary_mutex/warymutex/message/IndexSet", name := "remove", desc := "(I)V" } : Jvm.MethodName))).before a0 Z = true := hw _ (List.mem_of_getElem? (i := 32) rfl)
theorem tw33 {a0 : Array Value} {Z : State} (hw : ∀ d ∈ tables_1, d.before a0 Z = true) : ((Jvm.Cond.code ({ cls := "com/example/wary_mutex/warymutex/message/IndexSet", name := "remove", desc := "(I)V" } : Jvm.MethodName) prog_43_method_3_code (4 : Nat) (Option.none : Option Jvm.ClassFile.FieldType))).before a0 Z = true := hw _ (List.mem_of_getElem? (i := 33) rfl)
theorem tw34 {a0 : Array Value} {Z : State} (hw : ∀ d ∈ tables_1, d.before a0 Z = true) : ((Jvm.Cond.methodLink "com/example/wary_mutex/warymutex/message/IndexSetRemovePinLaw" (24 : Nat) ({ cls := "com/example/wary_mutex/warymutex/message/IndexSetRemovePinLaw", name := "removeModel", desc := "([II)V" } : Jvm.MethodName))).before a0 Z = true := hw _ (List.mem_of_getElem? (i := 34) rfl)
theorem tw35 {a0 : Array Value} {Z : State} (hw : ∀ d ∈ tables_1, d.before a0 Z = true) : ((Jvm.Cond.static ({ cls := "com/example/wary_mutex/warymutex/message/IndexSetRemovePinLaw", name := "removeModel", desc := "([II)V" } : Jvm.MethodName))).before a0 Z = true := hw _ (List.mem_of_getElem? (i := 35) rfl)
theorem tw36 {a0 : Array Value} {Z : State} (hw : ∀ d ∈ tables_1, d.before a0 Z = true) : ((Jvm.Cond.code ({ cls := "com/example/wary_mutex/warymutex/message/IndexSetRemovePinLaw", name := "removeModel", desc := "([II)V" } : Jvm.MethodName) method_4_code (4 : Nat) (Option.none : Option Jvm.ClassFile.FieldType))).before a0 Z = true := hw _ (List.mem_of_getElem? (i := 36) rfl)
theorem tw37 {a0 : Array Value} {Z : State} (hw : ∀ d ∈ tables_1, d.before a0 Z = true) : ((Jvm.Cond.methodLink "com/example/wary_mutex/warymutex/message/IndexSetRemovePinLaw" (27 : Nat) ({ cls := "com/example/wary_mutex/warymutex/message/IndexSet", name := "size", desc := "()I" } : Jvm.MethodName))).before a0 Z = true := hw _ (List.mem_of_getElem? (i := 37) rfl)
theorem tw38 {a0 : Array Value} {Z : State} (hw : ∀ d ∈ tables_1, d.before a0 Z = true) : ((Jvm.Cond.declares ({ cls := "com/example/wary_mutex/warymutex/message/IndexSet", name := "size", desc := "()I" } : Jvm.MethodName))).before a0 Z = true := hw _ (List.mem_of_getElem? (i := 38) rfl)
theorem tw39 {a0 : Array Value} {Z : State} (hw : ∀ d ∈ tables_1, d.before a0 Z = true) : ((Jvm.Cond.instanceMethod ({ cls := "com/example/wary_mutex/warymutex/message/IndexSet", name := "size", desc := "()I" } : Jvm.MethodName))).before a0 Z = true := hw _ (List.mem_of_getElem? (i := 39) rfl)
theorem tw40 {a0 : Array Value} {Z : State} (hw : ∀ d ∈ tables_1, d.before a0 Z = true) : ((Jvm.Cond.selects "com/example/wary_mutex/warymutex/message/IndexSet" ({ cls := "com/example/wary_mutex/warymutex/message/IndexSet", name := "size", desc := "()I" } : Jvm.MethodName) ({ cls := "com/example/wary_mutex/warymutex/message/IndexSet", name := "size", desc := "()I" } : Jvm.MethodName))).before a0 Z = true := hw _ (List.mem_of_getElem? (i := 40) rfl)
theorem tw41 {a0 : Array Value} {Z : State} (hw : ∀ d ∈ tables_1, d.before a0 Z = true) : ((Jvm.Cond.code ({ cls := "com/example/wary_mutex/warymutex/message/IndexSet", name := "size", desc := "()I" } : Jvm.MethodName) prog_43_method_4_code (1 : Nat) (Option.some Jvm.ClassFile.FieldType.int))).before a0 Z = true := hw _ (List.mem_of_getElem? (i := 41) rfl)
theorem tw42 {a0 : Array Value} {Z : State} (hw : ∀ d ∈ tables_1, d.before a0 Z = true) : ((Jvm.Cond.methodLink "com/example/wary_mutex/warymutex/message/IndexSetRemovePinLaw" (31 : Nat) ({ cls := "com/example/wary_mutex/warymutex/message/IndexSet", name := "get", desc := "(I)I" } : Jvm.MethodName))).before a0 Z = true := hw _ (List.mem_of_getElem? (i := 42) rfl)
theorem tw43 {a0 : Array Value} {Z : State} (hw : ∀ d ∈ tables_1, d.before a0 Z = true) : ((Jvm.Cond.declares ({ cls := "com/example/wary_mutex/warymutex/message/IndexSet", name := "get", desc := "(I)I" } : Jvm.MethodName))).before a0 Z = true := hw _ (List.mem_of_getElem? (i := 43) rfl)
theorem tw44 {a0 : Array Value} {Z : State} (hw : ∀ d ∈ tables_1, d.before a0 Z = true) : ((Jvm.Cond.instanceMethod ({ cls := "com/example/wary_mutex/warymutex/message/IndexSet", name := "get", desc := "(I)I" } : Jvm.MethodName))).before a0 Z = true := hw _ (List.mem_of_getElem? (i := 44) rfl)
theorem tw45 {a0 : Array Value} {Z : State} (hw : ∀ d ∈ tables_1, d.before a0 Z = true) : ((Jvm.Cond.selects "com/example/wary_mutex/warymutex/message/IndexSet" ({ cls := "com/example/wary_mutex/warymutex/message/IndexSet", name := "get", desc := "(I)I" } : Jvm.MethodName) ({ cls := "com/example/wary_mutex/warymutex/message/IndexSet", name := "get", desc := "(I)I" } : Jvm.MethodName))).before a0 Z = true := hw _ (List.mem_of_getElem? (i := 45) rfl)
theorem tw46 {a0 : Array Value} {Z : State} (hw : ∀ d ∈ tables_1, d.before a0 Z = true) : ((Jvm.Cond.code ({ cls := "com/example/wary_mutex/warymutex/message/IndexSet", name := "get", desc := "(I)I" } : Jvm.MethodName) prog_43_method_5_code (2 : Nat) (Option.some Jvm.ClassFile.FieldType.int))).before a0 Z = true := hw _ (List.mem_of_getElem? (i := 46) rfl)
theorem tw47 {a0 : Array Value} {Z : State} (hw : ∀ d ∈ tables_1, d.before a0 Z = true) : ((Jvm.Cond.methodLink "com/example/wary_mutex/warymutex/message/IndexSet" (26 : Nat) ({ cls := "java/util/Objects", name := "checkIndex", desc := "(II)I" } : Jvm.MethodName))).before a0 Z = true := hw _ (List.mem_of_getElem? (i := 47) rfl)
theorem tw48 {a0 : Array Value} {Z : State} (hw : ∀ d ∈ tables_1, d.before a0 Z = true) : ((Jvm.Cond.static ({ cls := "java/util/Objects", name := "checkIndex", desc := "(II)I" } : Jvm.MethodName))).before a0 Z = true := hw _ (List.mem_of_getElem? (i := 48) rfl)
theorem tw49 {a0 : Array Value} {Z : State} (hw : ∀ d ∈ tables_1, d.before a0 Z = true) : ((Jvm.Cond.initialized "java/util/Objects")).before a0 Z = true := hw _ (List.mem_of_getElem? (i := 49) rfl)
theorem tw50 {a0 : Array Value} {Z : State} (hw : ∀ d ∈ tables_1, d.before a0 Z = true) : ((Jvm.Cond.code ({ cls := "java/util/Objects", name := "checkIndex", desc := "(II)I" } : Jvm.MethodName) jdk_31_method_17_code (2 : Nat) (Option.some Jvm.ClassFile.FieldType.int))).before a0 Z = true := hw _ (List.mem_of_getElem? (i := 50) rfl)
theorem tw51 {a0 : Array Value} {Z : State} (hw : ∀ d ∈ tables_1, d.before a0 Z = true) : ((Jvm.Cond.methodLink "java/util/Objects" (105 : Nat) ({ cls := "jdk/internal/util/Preconditions", name := "checkIndex", desc := "(IILjava/util/function/BiFunction;)I" } : Jvm.MethodName))).before a0 Z = true := hw _ (List.mem_of_getElem? (i := 51) rfl)
theorem tw52 {a0 : Array Value} {Z : State} (hw : ∀ d ∈ tables_1, d.before a0 Z = true) : ((Jvm.Cond.static ({ cls := "jdk/internal/util/Preconditions", name := "checkIndex", desc := "(IILjava/util/function/BiFunction;)I" } : Jvm.MethodName))).before a0 Z = true := hw _ (List.mem_of_getElem? (i := 52) rfl)
theorem tw53 {a0 : Array Value} {Z : State} (hw : ∀ d ∈ tables_1, d.before a0 Z = true) : ((Jvm.Cond.initialized "jdk/internal/util/Preconditions")).before a0 Z = true := hw _ (List.mem_of_getElem? (i := 53) rfl)
theorem tw54 {a0 : Array Value} {Z : State} (hw : ∀ d ∈ tables_1, d.before a0 Z = true) : ((Jvm.Cond.code ({ cls := "jdk/internal/util/Preconditions", name := "checkIndex", desc := "(IILjava/util/function/BiFunction;)I" } : Jvm.MethodName) jdk_41_method_11_code (3 : Nat) (Option.some Jvm.ClassFile.FieldType.int))).before a0 Z = true := hw _ (List.mem_of_getElem? (i := 54) rfl)
theorem own_nn {x : Int32} (h : 0 ≤ x.toInt) : x.toInt = (x.toBitVec.toNat : Int) := by
  have q := BitVec.toInt_eq_toNat_cond x.toBitVec
  have e : x.toInt = x.toBitVec.toInt := rfl
  rw [e] at h ⊢
  rw [q] at h ⊢
  have := x.toBitVec.isLt
  split at h <;> rename_i c
  · rw [if_pos c]
  · omega
theorem own_nn' {x : Int32} (h : x.toBitVec.toNat < 2147483648) : x.toInt = (x.toBitVec.toNat : Int) := by
  have q := BitVec.toInt_eq_toNat_cond x.toBitVec
  have e : x.toInt = x.toBitVec.toInt := rfl
  rw [e, q, if_pos (by omega)]
theorem own_ofnat {x : Int32} (h : 0 ≤ x.toInt) : x = Int32.ofNat x.toBitVec.toNat := by
  apply Int32.toBitVec_inj.mp
  apply BitVec.eq_of_toNat_eq
  show _ = (BitVec.ofNat 32 x.toBitVec.toNat).toNat
  rw [BitVec.toNat_ofNat, Nat.mod_eq_of_lt x.toBitVec.isLt]
theorem own_b32 (x : Int32) : -2147483648 ≤ x.toInt ∧ x.toInt < 2147483648 := ⟨Int32.le_toInt x, Int32.toInt_lt x⟩
theorem own_b64 (x : Int64) : -9223372036854775808 ≤ x.toInt ∧ x.toInt < 9223372036854775808 := ⟨Int64.le_toInt x, Int64.toInt_lt x⟩
theorem own_add64 {x y : Int64} (h1 : -9223372036854775808 ≤ x.toInt + y.toInt) (h2 : x.toInt + y.toInt < 9223372036854775808) : (x + y).toInt = x.toInt + y.toInt := XT.add64 ⟨h1, h2⟩
theorem own_sub64 {x y : Int64} (h1 : -9223372036854775808 ≤ x.toInt - y.toInt) (h2 : x.toInt - y.toInt < 9223372036854775808) : (x - y).toInt = x.toInt - y.toInt := XT.sub64 ⟨h1, h2⟩
theorem own_mul64 {x y : Int64} (h1 : -9223372036854775808 ≤ x.toInt * y.toInt) (h2 : x.toInt * y.toInt < 9223372036854775808) : (x * y).toInt = x.toInt * y.toInt := XT.mul64 ⟨h1, h2⟩
theorem own_add32 {x y : Int32} (h1 : -2147483648 ≤ x.toInt + y.toInt) (h2 : x.toInt + y.toInt < 2147483648) : (x + y).toInt = x.toInt + y.toInt := XT.add32 ⟨h1, h2⟩
theorem own_sub32 {x y : Int32} (h1 : -2147483648 ≤ x.toInt - y.toInt) (h2 : x.toInt - y.toInt < 2147483648) : (x - y).toInt = x.toInt - y.toInt := XT.sub32 ⟨h1, h2⟩
theorem own_w (x : Int32) : x.toInt64.toInt = x.toInt := Int32.toInt_toInt64 x
theorem own_div64 {x y : Int64} (hx : 0 ≤ x.toInt) (hy : 0 < y.toInt) : (x / y).toInt = x.toInt / y.toInt := by
  rw [Int64.toInt_div, Int.tdiv_eq_ediv_of_nonneg hx]
  have b := own_b64 x
  have h1 : 0 ≤ x.toInt / y.toInt := Int.ediv_nonneg hx (Int.le_of_lt hy)
  have h2 : x.toInt / y.toInt ≤ x.toInt := Int.ediv_le_self _ hx
  exact Int.bmod_eq_of_le (by omega) (by omega)
theorem own_div32 {x y : Int32} (hx : 0 ≤ x.toInt) (hy : 0 < y.toInt) : (x / y).toInt = x.toInt / y.toInt := by
  rw [Int32.toInt_div, Int.tdiv_eq_ediv_of_nonneg hx]
  have b := own_b32 x
  have h1 : 0 ≤ x.toInt / y.toInt := Int.ediv_nonneg hx (Int.le_of_lt hy)
  have h2 : x.toInt / y.toInt ≤ x.toInt := Int.ediv_le_self _ hx
  exact Int.bmod_eq_of_le (by omega) (by omega)
theorem own_rem32 {x y : Int32} (hx : 0 ≤ x.toInt) : (x % y).toInt = x.toInt % y.toInt := by
  rw [Int32.toInt_mod, Int.tmod_eq_emod_of_nonneg hx]
theorem own_pos32 (x : Int32) : 0 ≤ (x &&& 2147483647).toInt := by
  have q := (XT.and_neg32 x 2147483647)
  rw [XT.negI32] at q
  have r : ¬ (x &&& 2147483647).toInt < 0 := fun h => absurd (q.mp h).2 (by decide)
  omega
theorem own_pos64 (x : Int64) : 0 ≤ (x &&& 9223372036854775807).toInt := by
  have q := (XT.and_neg64 x 9223372036854775807)
  rw [XT.negI64] at q
  have r : ¬ (x &&& 9223372036854775807).toInt < 0 := fun h => absurd (q.mp h).2 (by decide)
  omega
theorem own_lt32 {x y : Int32} : x < y ↔ x.toInt < y.toInt := Int32.lt_iff_toInt_lt
theorem own_lt64 {x y : Int64} : x < y ↔ x.toInt < y.toInt := Int64.lt_iff_toInt_lt
theorem own_eq32 {x y : Int32} : x = y ↔ x.toInt = y.toInt := ⟨fun h => h ▸ rfl, Int32.toInt_inj.mp⟩
theorem own_eq64 {x y : Int64} : x = y ↔ x.toInt = y.toInt := ⟨fun h => h ▸ rfl, Int64.toInt_inj.mp⟩
abbrev OwnS : Type := List Int32 × List Int32 × Int32
def own_init : OwnS := ([0, 0, 0, 0], [-1, -1, -1, -1], 0)
def own_add (S : OwnS) (x : Int32) : OwnS := if S.2.1.getD x.toNatClampNeg 0 < 0 then (S.1.set S.2.2.toNatClampNeg x, S.2.1.set x.toNatClampNeg S.2.2, S.2.2 + 1) else S
theorem own_add_pos {S : OwnS} {x : Int32} (h : S.2.1.getD x.toNatClampNeg 0 < 0) : own_add S x = (S.1.set S.2.2.toNatClampNeg x, S.2.1.set x.toNatClampNeg S.2.2, S.2.2 + 1) := if_pos h
theorem own_add_neg {S : OwnS} {x : Int32} (h : ¬ S.2.1.getD x.toNatClampNeg 0 < 0) : own_add S x = S := if_neg h
def own_okA (S : OwnS) (x : Int32) : Bool := decide (¬ x < 0 ∧ x.toNatClampNeg < S.2.1.length ∧ (S.2.1.getD x.toNatClampNeg 0 < 0 → ¬ S.2.2 < 0 ∧ S.2.2.toNatClampNeg < S.1.length))
theorem own_okA_e {S : OwnS} {x : Int32} (h : own_okA S x = true) : ¬ x < 0 ∧ x.toNatClampNeg < S.2.1.length ∧ (S.2.1.getD x.toNatClampNeg 0 < 0 → ¬ S.2.2 < 0 ∧ S.2.2.toNatClampNeg < S.1.length) := of_decide_eq_true h
def own_okG (S : OwnS) (x : Int32) : Bool := decide (¬ x < 0 ∧ x < S.2.2 ∧ x.toNatClampNeg < S.1.length)
theorem own_okG_e {S : OwnS} {x : Int32} (h : own_okG S x = true) : ¬ x < 0 ∧ x < S.2.2 ∧ x.toNatClampNeg < S.1.length := of_decide_eq_true h
theorem own_getq {xs : List Int32} {i : Nat} (h : i < xs.length) : xs[i]? = some (xs.getD i 0) := by
  rw [List.getD_eq_getElem?_getD, List.getElem?_eq_getElem h]; rfl
theorem own_four {x v : Int32} (h : v = x &&& 3) : v = 0 ∨ v = 1 ∨ v = 2 ∨ v = 3 := by
  have e : (x &&& 3).toBitVec.toNat = x.toBitVec.toNat % 4 := by
    rw [Int32.toBitVec_and, BitVec.toNat_and]
    show x.toBitVec.toNat &&& 3 = _
    exact Nat.and_two_pow_sub_one_eq_mod x.toBitVec.toNat 2
  have k := own_nn' (x := x &&& 3) (by omega)
  have q := own_ofnat (x := x &&& 3) (by omega)
  subst h
  have : (x &&& 3).toBitVec.toNat = 0 ∨ (x &&& 3).toBitVec.toNat = 1 ∨ (x &&& 3).toBitVec.toNat = 2 ∨ (x &&& 3).toBitVec.toNat = 3 := by omega
  rcases this with h | h | h | h <;> rw [h] at q <;> rw [q] <;> decide
def own_i (k : Fin 4) : Int32 := Int32.ofNat k.val
theorem own_fin4 {x v : Int32} (h : v = x &&& 3) : ∃ k : Fin 4, v = own_i k := by
  rcases own_four h with q | q | q | q
  · exact ⟨0, q⟩
  · exact ⟨1, q⟩
  · exact ⟨2, q⟩
  · exact ⟨3, q⟩
theorem own_andB {a b : Bool} (h1 : a = true) (h2 : b = true) : (a && b) = true := by rw [h1, h2]; rfl
theorem own_orB {a : Bool} {g : Prop} [Decidable g] (h : (!a || decide g) = true) (ha : a = true) : g := by
  rw [ha] at h
  exact of_decide_eq_true h
def own_rem (S : OwnS) (x : Int32) : OwnS := if S.2.1.getD x.toNatClampNeg 0 < 0 then S else (S.1.set (S.2.1.getD x.toNatClampNeg 0).toNatClampNeg (S.1.getD (S.2.2 - 1).toNatClampNeg 0), (S.2.1.set (S.1.getD (S.2.2 - 1).toNatClampNeg 0).toNatClampNeg (S.2.1.getD x.toNatClampNeg 0)).set x.toNatClampNeg (-1), S.2.2 - 1)
theorem own_rem_pos {S : OwnS} {x : Int32} (h : S.2.1.getD x.toNatClampNeg 0 < 0) : own_rem S x = S := if_pos h
theorem own_rem_neg {S : OwnS} {x : Int32} (h : ¬ S.2.1.getD x.toNatClampNeg 0 < 0) : own_rem S x = (S.1.set (S.2.1.getD x.toNatClampNeg 0).toNatClampNeg (S.1.getD (S.2.2 - 1).toNatClampNeg 0), (S.2.1.set (S.1.getD (S.2.2 - 1).toNatClampNeg 0).toNatClampNeg (S.2.1.getD x.toNatClampNeg 0)).set x.toNatClampNeg (-1), S.2.2 - 1) := if_neg h
def own_okR (S : OwnS) (x : Int32) : Bool := decide (¬ x < 0 ∧ x.toNatClampNeg < S.2.1.length ∧ (¬ S.2.1.getD x.toNatClampNeg 0 < 0 → (¬ (S.2.2 - 1) < 0 ∧ (S.2.2 - 1).toNatClampNeg < S.1.length) ∧ (S.2.1.getD x.toNatClampNeg 0).toNatClampNeg < S.1.length ∧ ¬ S.1.getD (S.2.2 - 1).toNatClampNeg 0 < 0 ∧ (S.1.getD (S.2.2 - 1).toNatClampNeg 0).toNatClampNeg < S.2.1.length))
theorem own_okR_e {S : OwnS} {x : Int32} (h : own_okR S x = true) : ¬ x < 0 ∧ x.toNatClampNeg < S.2.1.length ∧ (¬ S.2.1.getD x.toNatClampNeg 0 < 0 → (¬ (S.2.2 - 1) < 0 ∧ (S.2.2 - 1).toNatClampNeg < S.1.length) ∧ (S.2.1.getD x.toNatClampNeg 0).toNatClampNeg < S.1.length ∧ ¬ S.1.getD (S.2.2 - 1).toNatClampNeg 0 < 0 ∧ (S.1.getD (S.2.2 - 1).toNatClampNeg 0).toNatClampNeg < S.2.1.length) := of_decide_eq_true h
def own_addM (M : List Int32) (x : Int32) : List Int32 :=
  if ((0 < M.getD 3 0 ∧ M.getD 0 0 = x) ∨ (1 < M.getD 3 0 ∧ M.getD 1 0 = x) ∨ (2 < M.getD 3 0 ∧ M.getD 2 0 = x)) ∨ ¬ M.getD 3 0 < 3 then M
  else (M.set (M.getD 3 0).toNatClampNeg x).set 3 (M.getD 3 0 + 1)
def own_delM (M : List Int32) (i : Nat) : List Int32 := (M.set i (M.getD (M.getD 3 0 - 1).toNatClampNeg 0)).set 3 (M.getD 3 0 - 1)
def own_remM (M : List Int32) (x : Int32) : List Int32 :=
  if 0 < M.getD 3 0 ∧ M.getD 0 0 = x then own_delM M 0
  else if 1 < M.getD 3 0 ∧ M.getD 1 0 = x then own_delM M 1
  else if 2 < M.getD 3 0 ∧ M.getD 2 0 = x then own_delM M 2
  else M
def own_okM (M : List Int32) : Bool := decide (M.length = 4 ∧ ¬ M.getD 3 0 < 0 ∧ (M.getD 3 0 - 1).toNatClampNeg < 4 ∧ (0 < M.getD 3 0 → ¬ (M.getD 3 0 - 1) < 0) ∧ (M.getD 3 0 < 3 → (M.getD 3 0).toNatClampNeg < 4) ∧ ¬ 3 < M.getD 3 0)
theorem own_okM_e {M : List Int32} (h : own_okM M = true) : M.length = 4 ∧ ¬ M.getD 3 0 < 0 ∧ (M.getD 3 0 - 1).toNatClampNeg < 4 ∧ (0 < M.getD 3 0 → ¬ (M.getD 3 0 - 1) < 0) ∧ (M.getD 3 0 < 3 → (M.getD 3 0).toNatClampNeg < 4) ∧ ¬ 3 < M.getD 3 0 := of_decide_eq_true h
theorem own_len {M : List Int32} (h : M.length = 4) (i : Nat) (hi : i < 4) : i < M.length := h ▸ hi
theorem own_up {M : List Int32} (ok : own_okM M = true) {k : Int32} (h : k < M.getD 3 0) (hk : k = 1 ∨ k = 2 := by first | exact Or.inl rfl | exact Or.inr rfl) : 0 < M.getD 3 0 := by
  rw [own_lt32] at h ⊢
  have c0 : (0 : Int32).toInt = 0 := by decide
  have c1 : (1 : Int32).toInt = 1 := by decide
  have c2 : (2 : Int32).toInt = 2 := by decide
  rcases hk with q | q <;> subst q <;> omega
theorem own_nneg {M : List Int32} (ok : own_okM M = true) (h : 0 < M.getD 3 0) : ¬ (M.getD 3 0 - 1) < 0 := (own_okM_e ok).2.2.2.1 h
theorem own_f0 : ∀ fa fb fc fv fw : Fin 4, (!true || decide (own_okR own_init (own_i fv) = true)) = true := by decide +kernel
theorem own_f1 : ∀ fa fb fc fv fw : Fin 4, (!true || decide (own_okM [0, 0, 0, 0] = true)) = true := by decide +kernel
theorem own_f2 : ∀ fa fb fc fv fw : Fin 4, (!true || decide (own_okR (own_rem own_init (own_i fv)) (own_i fw) = true)) = true := by decide +kernel
theorem own_f3 : ∀ fa fb fc fv fw : Fin 4, (!true || decide (own_okM (own_remM [0, 0, 0, 0] (own_i fv)) = true)) = true := by decide +kernel
theorem own_f4 : ∀ fa fb fc fv fw : Fin 4, (!true || decide (3 < ((own_remM (own_remM [0, 0, 0, 0] (own_i fv)) (own_i fw))).length)) = true := by decide +kernel
theorem own_f5 : ∀ fa fb fc fv fw : Fin 4, (!(decide (((own_rem (own_rem own_init (own_i fv)) (own_i fw)).2.2) = (((own_remM (own_remM [0, 0, 0, 0] (own_i fv)) (own_i fw))).getD 3 0)) && (decide (¬ (0 : Int32) < (((own_remM (own_remM [0, 0, 0, 0] (own_i fv)) (own_i fw))).getD 3 0)) && (decide (¬ (1 : Int32) < (((own_remM (own_remM [0, 0, 0, 0] (own_i fv)) (own_i fw))).getD 3 0)) && (decide ((2 : Int32) < (((own_remM (own_remM [0, 0, 0, 0] (own_i fv)) (own_i fw))).getD 3 0)) && true)))) || decide (own_okG (own_rem (own_rem own_init (own_i fv)) (own_i fw)) (2 : Int32) = true)) = true := by decide +kernel
theorem own_f6 : ∀ fa fb fc fv fw : Fin 4, (!true || decide (2 < ((own_remM (own_remM [0, 0, 0, 0] (own_i fv)) (own_i fw))).length)) = true := by decide +kernel
theorem own_f7 : ∀ fa fb fc fv fw : Fin 4, (!(decide (((own_rem (own_rem own_init (own_i fv)) (own_i fw)).2.2) = (((own_remM (own_remM [0, 0, 0, 0] (own_i fv)) (own_i fw))).getD 3 0)) && (decide (¬ (0 : Int32) < (((own_remM (own_remM [0, 0, 0, 0] (own_i fv)) (own_i fw))).getD 3 0)) && (decide (¬ (1 : Int32) < (((own_remM (own_remM [0, 0, 0, 0] (own_i fv)) (own_i fw))).getD 3 0)) && (decide ((2 : Int32) < (((own_remM (own_remM [0, 0, 0, 0] (own_i fv)) (own_i fw))).getD 3 0)) && (decide (¬ ((own_rem (own_rem own_init (own_i fv)) (own_i fw)).1.getD (Int32.toNatClampNeg (2 : Int32)) 0) = (((own_remM (own_remM [0, 0, 0, 0] (own_i fv)) (own_i fw))).getD 2 0)) && true))))) || decide (False)) = true := by decide +kernel
theorem own_f8 : ∀ fa fb fc fv fw : Fin 4, (!(decide (((own_rem (own_rem own_init (own_i fv)) (own_i fw)).2.2) = (((own_remM (own_remM [0, 0, 0, 0] (own_i fv)) (own_i fw))).getD 3 0)) && (decide (¬ (0 : Int32) < (((own_remM (own_remM [0, 0, 0, 0] (own_i fv)) (own_i fw))).getD 3 0)) && (decide ((1 : Int32) < (((own_remM (own_remM [0, 0, 0, 0] (own_i fv)) (own_i fw))).getD 3 0)) && true))) || decide (own_okG (own_rem (own_rem own_init (own_i fv)) (own_i fw)) (1 : Int32) = true)) = true := by decide +kernel
theorem own_f9 : ∀ fa fb fc fv fw : Fin 4, (!true || decide (1 < ((own_remM (own_remM [0, 0, 0, 0] (own_i fv)) (own_i fw))).length)) = true := by decide +kernel
theorem own_f10 : ∀ fa fb fc fv fw : Fin 4, (!(decide (((own_rem (own_rem own_init (own_i fv)) (own_i fw)).2.2) = (((own_remM (own_remM [0, 0, 0, 0] (own_i fv)) (own_i fw))).getD 3 0)) && (decide (¬ (0 : Int32) < (((own_remM (own_remM [0, 0, 0, 0] (own_i fv)) (own_i fw))).getD 3 0)) && (decide ((1 : Int32) < (((own_remM (own_remM [0, 0, 0, 0] (own_i fv)) (own_i fw))).getD 3 0)) && (decide (((own_rem (own_rem own_init (own_i fv)) (own_i fw)).1.getD (Int32.toNatClampNeg (1 : Int32)) 0) = (((own_remM (own_remM [0, 0, 0, 0] (own_i fv)) (own_i fw))).getD 1 0)) && (decide ((2 : Int32) < (((own_remM (own_remM [0, 0, 0, 0] (own_i fv)) (own_i fw))).getD 3 0)) && true))))) || decide (own_okG (own_rem (own_rem own_init (own_i fv)) (own_i fw)) (2 : Int32) = true)) = true := by decide +kernel
theorem own_f11 : ∀ fa fb fc fv fw : Fin 4, (!(decide (((own_rem (own_rem own_init (own_i fv)) (own_i fw)).2.2) = (((own_remM (own_remM [0, 0, 0, 0] (own_i fv)) (own_i fw))).getD 3 0)) && (decide (¬ (0 : Int32) < (((own_remM (own_remM [0, 0, 0, 0] (own_i fv)) (own_i fw))).getD 3 0)) && (decide ((1 : Int32) < (((own_remM (own_remM [0, 0, 0, 0] (own_i fv)) (own_i fw))).getD 3 0)) && (decide (((own_rem (own_rem own_init (own_i fv)) (own_i fw)).1.getD (Int32.toNatClampNeg (1 : Int32)) 0) = (((own_remM (own_remM [0, 0, 0, 0] (own_i fv)) (own_i fw))).getD 1 0)) && (decide ((2 : Int32) < (((own_remM (own_remM [0, 0, 0, 0] (own_i fv)) (own_i fw))).getD 3 0)) && (decide (¬ ((own_rem (own_rem own_init (own_i fv)) (own_i fw)).1.getD (Int32.toNatClampNeg (2 : Int32)) 0) = (((own_remM (own_remM [0, 0, 0, 0] (own_i fv)) (own_i fw))).getD 2 0)) && true)))))) || decide (False)) = true := by decide +kernel
theorem own_f12 : ∀ fa fb fc fv fw : Fin 4, (!(decide (((own_rem (own_rem own_init (own_i fv)) (own_i fw)).2.2) = (((own_remM (own_remM [0, 0, 0, 0] (own_i fv)) (own_i fw))).getD 3 0)) && (decide (¬ (0 : Int32) < (((own_remM (own_remM [0, 0, 0, 0] (own_i fv)) (own_i fw))).getD 3 0)) && (decide ((1 : Int32) < (((own_remM (own_remM [0, 0, 0, 0] (own_i fv)) (own_i fw))).getD 3 0)) && (decide (¬ ((own_rem (own_rem own_init (own_i fv)) (own_i fw)).1.getD (Int32.toNatClampNeg (1 : Int32)) 0) = (((own_remM (own_remM [0, 0, 0, 0] (own_i fv)) (own_i fw))).getD 1 0)) && true)))) || decide (False)) = true := by decide +kernel
theorem own_f13 : ∀ fa fb fc fv fw : Fin 4, (!(decide (((own_rem (own_rem own_init (own_i fv)) (own_i fw)).2.2) = (((own_remM (own_remM [0, 0, 0, 0] (own_i fv)) (own_i fw))).getD 3 0)) && (decide ((0 : Int32) < (((own_remM (own_remM [0, 0, 0, 0] (own_i fv)) (own_i fw))).getD 3 0)) && true)) || decide (own_okG (own_rem (own_rem own_init (own_i fv)) (own_i fw)) (0 : Int32) = true)) = true := by decide +kernel
theorem own_f14 : ∀ fa fb fc fv fw : Fin 4, (!true || decide (0 < ((own_remM (own_remM [0, 0, 0, 0] (own_i fv)) (own_i fw))).length)) = true := by decide +kernel
theorem own_f15 : ∀ fa fb fc fv fw : Fin 4, (!(decide (((own_rem (own_rem own_init (own_i fv)) (own_i fw)).2.2) = (((own_remM (own_remM [0, 0, 0, 0] (own_i fv)) (own_i fw))).getD 3 0)) && (decide ((0 : Int32) < (((own_remM (own_remM [0, 0, 0, 0] (own_i fv)) (own_i fw))).getD 3 0)) && (decide (((own_rem (own_rem own_init (own_i fv)) (own_i fw)).1.getD (Int32.toNatClampNeg (0 : Int32)) 0) = (((own_remM (own_remM [0, 0, 0, 0] (own_i fv)) (own_i fw))).getD 0 0)) && (decide (¬ (1 : Int32) < (((own_remM (own_remM [0, 0, 0, 0] (own_i fv)) (own_i fw))).getD 3 0)) && (decide ((2 : Int32) < (((own_remM (own_remM [0, 0, 0, 0] (own_i fv)) (own_i fw))).getD 3 0)) && true))))) || decide (own_okG (own_rem (own_rem own_init (own_i fv)) (own_i fw)) (2 : Int32) = true)) = true := by decide +kernel
theorem own_f16 : ∀ fa fb fc fv fw : Fin 4, (!(decide (((own_rem (own_rem own_init (own_i fv)) (own_i fw)).2.2) = (((own_remM (own_remM [0, 0, 0, 0] (own_i fv)) (own_i fw))).getD 3 0)) && (decide ((0 : Int32) < (((own_remM (own_remM [0, 0, 0, 0] (own_i fv)) (own_i fw))).getD 3 0)) && (decide (((own_rem (own_rem own_init (own_i fv)) (own_i fw)).1.getD (Int32.toNatClampNeg (0 : Int32)) 0) = (((own_remM (own_remM [0, 0, 0, 0] (own_i fv)) (own_i fw))).getD 0 0)) && (decide (¬ (1 : Int32) < (((own_remM (own_remM [0, 0, 0, 0] (own_i fv)) (own_i fw))).getD 3 0)) && (decide ((2 : Int32) < (((own_remM (own_remM [0, 0, 0, 0] (own_i fv)) (own_i fw))).getD 3 0)) && (decide (¬ ((own_rem (own_rem own_init (own_i fv)) (own_i fw)).1.getD (Int32.toNatClampNeg (2 : Int32)) 0) = (((own_remM (own_remM [0, 0, 0, 0] (own_i fv)) (own_i fw))).getD 2 0)) && true)))))) || decide (False)) = true := by decide +kernel
theorem own_f17 : ∀ fa fb fc fv fw : Fin 4, (!(decide (((own_rem (own_rem own_init (own_i fv)) (own_i fw)).2.2) = (((own_remM (own_remM [0, 0, 0, 0] (own_i fv)) (own_i fw))).getD 3 0)) && (decide ((0 : Int32) < (((own_remM (own_remM [0, 0, 0, 0] (own_i fv)) (own_i fw))).getD 3 0)) && (decide (((own_rem (own_rem own_init (own_i fv)) (own_i fw)).1.getD (Int32.toNatClampNeg (0 : Int32)) 0) = (((own_remM (own_remM [0, 0, 0, 0] (own_i fv)) (own_i fw))).getD 0 0)) && (decide ((1 : Int32) < (((own_remM (own_remM [0, 0, 0, 0] (own_i fv)) (own_i fw))).getD 3 0)) && true)))) || decide (own_okG (own_rem (own_rem own_init (own_i fv)) (own_i fw)) (1 : Int32) = true)) = true := by decide +kernel
theorem own_f18 : ∀ fa fb fc fv fw : Fin 4, (!(decide (((own_rem (own_rem own_init (own_i fv)) (own_i fw)).2.2) = (((own_remM (own_remM [0, 0, 0, 0] (own_i fv)) (own_i fw))).getD 3 0)) && (decide ((0 : Int32) < (((own_remM (own_remM [0, 0, 0, 0] (own_i fv)) (own_i fw))).getD 3 0)) && (decide (((own_rem (own_rem own_init (own_i fv)) (own_i fw)).1.getD (Int32.toNatClampNeg (0 : Int32)) 0) = (((own_remM (own_remM [0, 0, 0, 0] (own_i fv)) (own_i fw))).getD 0 0)) && (decide ((1 : Int32) < (((own_remM (own_remM [0, 0, 0, 0] (own_i fv)) (own_i fw))).getD 3 0)) && (decide (((own_rem (own_rem own_init (own_i fv)) (own_i fw)).1.getD (Int32.toNatClampNeg (1 : Int32)) 0) = (((own_remM (own_remM [0, 0, 0, 0] (own_i fv)) (own_i fw))).getD 1 0)) && (decide ((2 : Int32) < (((own_remM (own_remM [0, 0, 0, 0] (own_i fv)) (own_i fw))).getD 3 0)) && true)))))) || decide (own_okG (own_rem (own_rem own_init (own_i fv)) (own_i fw)) (2 : Int32) = true)) = true := by decide +kernel
theorem own_f19 : ∀ fa fb fc fv fw : Fin 4, (!(decide (((own_rem (own_rem own_init (own_i fv)) (own_i fw)).2.2) = (((own_remM (own_remM [0, 0, 0, 0] (own_i fv)) (own_i fw))).getD 3 0)) && (decide ((0 : Int32) < (((own_remM (own_remM [0, 0, 0, 0] (own_i fv)) (own_i fw))).getD 3 0)) && (decide (((own_rem (own_rem own_init (own_i fv)) (own_i fw)).1.getD (Int32.toNatClampNeg (0 : Int32)) 0) = (((own_remM (own_remM [0, 0, 0, 0] (own_i fv)) (own_i fw))).getD 0 0)) && (decide ((1 : Int32) < (((own_remM (own_remM [0, 0, 0, 0] (own_i fv)) (own_i fw))).getD 3 0)) && (decide (((own_rem (own_rem own_init (own_i fv)) (own_i fw)).1.getD (Int32.toNatClampNeg (1 : Int32)) 0) = (((own_remM (own_remM [0, 0, 0, 0] (own_i fv)) (own_i fw))).getD 1 0)) && (decide ((2 : Int32) < (((own_remM (own_remM [0, 0, 0, 0] (own_i fv)) (own_i fw))).getD 3 0)) && (decide (¬ ((own_rem (own_rem own_init (own_i fv)) (own_i fw)).1.getD (Int32.toNatClampNeg (2 : Int32)) 0) = (((own_remM (own_remM [0, 0, 0, 0] (own_i fv)) (own_i fw))).getD 2 0)) && true))))))) || decide (False)) = true := by decide +kernel
theorem own_f20 : ∀ fa fb fc fv fw : Fin 4, (!(decide (((own_rem (own_rem own_init (own_i fv)) (own_i fw)).2.2) = (((own_remM (own_remM [0, 0, 0, 0] (own_i fv)) (own_i fw))).getD 3 0)) && (decide ((0 : Int32) < (((own_remM (own_remM [0, 0, 0, 0] (own_i fv)) (own_i fw))).getD 3 0)) && (decide (((own_rem (own_rem own_init (own_i fv)) (own_i fw)).1.getD (Int32.toNatClampNeg (0 : Int32)) 0) = (((own_remM (own_remM [0, 0, 0, 0] (own_i fv)) (own_i fw))).getD 0 0)) && (decide ((1 : Int32) < (((own_remM (own_remM [0, 0, 0, 0] (own_i fv)) (own_i fw))).getD 3 0)) && (decide (¬ ((own_rem (own_rem own_init (own_i fv)) (own_i fw)).1.getD (Int32.toNatClampNeg (1 : Int32)) 0) = (((own_remM (own_remM [0, 0, 0, 0] (own_i fv)) (own_i fw))).getD 1 0)) && true))))) || decide (False)) = true := by decide +kernel
theorem own_f21 : ∀ fa fb fc fv fw : Fin 4, (!(decide (((own_rem (own_rem own_init (own_i fv)) (own_i fw)).2.2) = (((own_remM (own_remM [0, 0, 0, 0] (own_i fv)) (own_i fw))).getD 3 0)) && (decide ((0 : Int32) < (((own_remM (own_remM [0, 0, 0, 0] (own_i fv)) (own_i fw))).getD 3 0)) && (decide (¬ ((own_rem (own_rem own_init (own_i fv)) (own_i fw)).1.getD (Int32.toNatClampNeg (0 : Int32)) 0) = (((own_remM (own_remM [0, 0, 0, 0] (own_i fv)) (own_i fw))).getD 0 0)) && true))) || decide (False)) = true := by decide +kernel
theorem own_f22 : ∀ fa fb fc fv fw : Fin 4, (!(decide (¬ ((own_rem (own_rem own_init (own_i fv)) (own_i fw)).2.2) = (((own_remM (own_remM [0, 0, 0, 0] (own_i fv)) (own_i fw))).getD 3 0)) && true) || decide (False)) = true := by decide +kernel
theorem own_f23 : ∀ fa fb fc fv fw : Fin 4, (!true || decide (own_okA own_init (own_i fa) = true)) = true := by decide +kernel
theorem own_f24 : ∀ fa fb fc fv fw : Fin 4, (!true || decide (own_okR (own_add own_init (own_i fa)) (own_i fv) = true)) = true := by decide +kernel
theorem own_f25 : ∀ fa fb fc fv fw : Fin 4, (!true || decide (own_okM (own_addM [0, 0, 0, 0] (own_i fa)) = true)) = true := by decide +kernel
theorem own_f26 : ∀ fa fb fc fv fw : Fin 4, (!true || decide (own_okR (own_rem (own_add own_init (own_i fa)) (own_i fv)) (own_i fw) = true)) = true := by decide +kernel
theorem own_f27 : ∀ fa fb fc fv fw : Fin 4, (!true || decide (own_okM (own_remM (own_addM [0, 0, 0, 0] (own_i fa)) (own_i fv)) = true)) = true := by decide +kernel
theorem own_f28 : ∀ fa fb fc fv fw : Fin 4, (!true || decide (3 < ((own_remM (own_remM (own_addM [0, 0, 0, 0] (own_i fa)) (own_i fv)) (own_i fw))).length)) = true := by decide +kernel
theorem own_f29 : ∀ fa fb fc fv fw : Fin 4, (!(decide (((own_rem (own_rem (own_add own_init (own_i fa)) (own_i fv)) (own_i fw)).2.2) = (((own_remM (own_remM (own_addM [0, 0, 0, 0] (own_i fa)) (own_i fv)) (own_i fw))).getD 3 0)) && (decide (¬ (0 : Int32) < (((own_remM (own_remM (own_addM [0, 0, 0, 0] (own_i fa)) (own_i fv)) (own_i fw))).getD 3 0)) && (decide (¬ (1 : Int32) < (((own_remM (own_remM (own_addM [0, 0, 0, 0] (own_i fa)) (own_i fv)) (own_i fw))).getD 3 0)) && (decide ((2 : Int32) < (((own_remM (own_remM (own_addM [0, 0, 0, 0] (own_i fa)) (own_i fv)) (own_i fw))).getD 3 0)) && true)))) || decide (own_okG (own_rem (own_rem (own_add own_init (own_i fa)) (own_i fv)) (own_i fw)) (2 : Int32) = true)) = true := by decide +kernel
theorem own_f30 : ∀ fa fb fc fv fw : Fin 4, (!true || decide (2 < ((own_remM (own_remM (own_addM [0, 0, 0, 0] (own_i fa)) (own_i fv)) (own_i fw))).length)) = true := by decide +kernel
theorem own_f31 : ∀ fa fb fc fv fw : Fin 4, (!(decide (((own_rem (own_rem (own_add own_init (own_i fa)) (own_i fv)) (own_i fw)).2.2) = (((own_remM (own_remM (own_addM [0, 0, 0, 0] (own_i fa)) (own_i fv)) (own_i fw))).getD 3 0)) && (decide (¬ (0 : Int32) < (((own_remM (own_remM (own_addM [0, 0, 0, 0] (own_i fa)) (own_i fv)) (own_i fw))).getD 3 0)) && (decide (¬ (1 : Int32) < (((own_remM (own_remM (own_addM [0, 0, 0, 0] (own_i fa)) (own_i fv)) (own_i fw))).getD 3 0)) && (decide ((2 : Int32) < (((own_remM (own_remM (own_addM [0, 0, 0, 0] (own_i fa)) (own_i fv)) (own_i fw))).getD 3 0)) && (decide (¬ ((own_rem (own_rem (own_add own_init (own_i fa)) (own_i fv)) (own_i fw)).1.getD (Int32.toNatClampNeg (2 : Int32)) 0) = (((own_remM (own_remM (own_addM [0, 0, 0, 0] (own_i fa)) (own_i fv)) (own_i fw))).getD 2 0)) && true))))) || decide (False)) = true := by decide +kernel
theorem own_f32 : ∀ fa fb fc fv fw : Fin 4, (!(decide (((own_rem (own_rem (own_add own_init (own_i fa)) (own_i fv)) (own_i fw)).2.2) = (((own_remM (own_remM (own_addM [0, 0, 0, 0] (own_i fa)) (own_i fv)) (own_i fw))).getD 3 0)) && (decide (¬ (0 : Int32) < (((own_remM (own_remM (own_addM [0, 0, 0, 0] (own_i fa)) (own_i fv)) (own_i fw))).getD 3 0)) && (decide ((1 : Int32) < (((own_remM (own_remM (own_addM [0, 0, 0, 0] (own_i fa)) (own_i fv)) (own_i fw))).getD 3 0)) && true))) || decide (own_okG (own_rem (own_rem (own_add own_init (own_i fa)) (own_i fv)) (own_i fw)) (1 : Int32) = true)) = true := by decide +kernel
theorem own_f33 : ∀ fa fb fc fv fw : Fin 4, (!true || decide (1 < ((own_remM (own_remM (own_addM [0, 0, 0, 0] (own_i fa)) (own_i fv)) (own_i fw))).length)) = true := by decide +kernel
theorem own_f34 : ∀ fa fb fc fv fw : Fin 4, (!(decide (((own_rem (own_rem (own_add own_init (own_i fa)) (own_i fv)) (own_i fw)).2.2) = (((own_remM (own_remM (own_addM [0, 0, 0, 0] (own_i fa)) (own_i fv)) (own_i fw))).getD 3 0)) && (decide (¬ (0 : Int32) < (((own_remM (own_remM (own_addM [0, 0, 0, 0] (own_i fa)) (own_i fv)) (own_i fw))).getD 3 0)) && (decide ((1 : Int32) < (((own_remM (own_remM (own_addM [0, 0, 0, 0] (own_i fa)) (own_i fv)) (own_i fw))).getD 3 0)) && (decide (((own_rem (own_rem (own_add own_init (own_i fa)) (own_i fv)) (own_i fw)).1.getD (Int32.toNatClampNeg (1 : Int32)) 0) = (((own_remM (own_remM (own_addM [0, 0, 0, 0] (own_i fa)) (own_i fv)) (own_i fw))).getD 1 0)) && (decide ((2 : Int32) < (((own_remM (own_remM (own_addM [0, 0, 0, 0] (own_i fa)) (own_i fv)) (own_i fw))).getD 3 0)) && true))))) || decide (own_okG (own_rem (own_rem (own_add own_init (own_i fa)) (own_i fv)) (own_i fw)) (2 : Int32) = true)) = true := by decide +kernel
theorem own_f35 : ∀ fa fb fc fv fw : Fin 4, (!(decide (((own_rem (own_rem (own_add own_init (own_i fa)) (own_i fv)) (own_i fw)).2.2) = (((own_remM (own_remM (own_addM [0, 0, 0, 0] (own_i fa)) (own_i fv)) (own_i fw))).getD 3 0)) && (decide (¬ (0 : Int32) < (((own_remM (own_remM (own_addM [0, 0, 0, 0] (own_i fa)) (own_i fv)) (own_i fw))).getD 3 0)) && (decide ((1 : Int32) < (((own_remM (own_remM (own_addM [0, 0, 0, 0] (own_i fa)) (own_i fv)) (own_i fw))).getD 3 0)) && (decide (((own_rem (own_rem (own_add own_init (own_i fa)) (own_i fv)) (own_i fw)).1.getD (Int32.toNatClampNeg (1 : Int32)) 0) = (((own_remM (own_remM (own_addM [0, 0, 0, 0] (own_i fa)) (own_i fv)) (own_i fw))).getD 1 0)) && (decide ((2 : Int32) < (((own_remM (own_remM (own_addM [0, 0, 0, 0] (own_i fa)) (own_i fv)) (own_i fw))).getD 3 0)) && (decide (¬ ((own_rem (own_rem (own_add own_init (own_i fa)) (own_i fv)) (own_i fw)).1.getD (Int32.toNatClampNeg (2 : Int32)) 0) = (((own_remM (own_remM (own_addM [0, 0, 0, 0] (own_i fa)) (own_i fv)) (own_i fw))).getD 2 0)) && true)))))) || decide (False)) = true := by decide +kernel
theorem own_f36 : ∀ fa fb fc fv fw : Fin 4, (!(decide (((own_rem (own_rem (own_add own_init (own_i fa)) (own_i fv)) (own_i fw)).2.2) = (((own_remM (own_remM (own_addM [0, 0, 0, 0] (own_i fa)) (own_i fv)) (own_i fw))).getD 3 0)) && (decide (¬ (0 : Int32) < (((own_remM (own_remM (own_addM [0, 0, 0, 0] (own_i fa)) (own_i fv)) (own_i fw))).getD 3 0)) && (decide ((1 : Int32) < (((own_remM (own_remM (own_addM [0, 0, 0, 0] (own_i fa)) (own_i fv)) (own_i fw))).getD 3 0)) && (decide (¬ ((own_rem (own_rem (own_add own_init (own_i fa)) (own_i fv)) (own_i fw)).1.getD (Int32.toNatClampNeg (1 : Int32)) 0) = (((own_remM (own_remM (own_addM [0, 0, 0, 0] (own_i fa)) (own_i fv)) (own_i fw))).getD 1 0)) && true)))) || decide (False)) = true := by decide +kernel
theorem own_f37 : ∀ fa fb fc fv fw : Fin 4, (!(decide (((own_rem (own_rem (own_add own_init (own_i fa)) (own_i fv)) (own_i fw)).2.2) = (((own_remM (own_remM (own_addM [0, 0, 0, 0] (own_i fa)) (own_i fv)) (own_i fw))).getD 3 0)) && (decide ((0 : Int32) < (((own_remM (own_remM (own_addM [0, 0, 0, 0] (own_i fa)) (own_i fv)) (own_i fw))).getD 3 0)) && true)) || decide (own_okG (own_rem (own_rem (own_add own_init (own_i fa)) (own_i fv)) (own_i fw)) (0 : Int32) = true)) = true := by decide +kernel
theorem own_f38 : ∀ fa fb fc fv fw : Fin 4, (!true || decide (0 < ((own_remM (own_remM (own_addM [0, 0, 0, 0] (own_i fa)) (own_i fv)) (own_i fw))).length)) = true := by decide +kernel
theorem own_f39 : ∀ fa fb fc fv fw : Fin 4, (!(decide (((own_rem (own_rem (own_add own_init (own_i fa)) (own_i fv)) (own_i fw)).2.2) = (((own_remM (own_remM (own_addM [0, 0, 0, 0] (own_i fa)) (own_i fv)) (own_i fw))).getD 3 0)) && (decide ((0 : Int32) < (((own_remM (own_remM (own_addM [0, 0, 0, 0] (own_i fa)) (own_i fv)) (own_i fw))).getD 3 0)) && (decide (((own_rem (own_rem (own_add own_init (own_i fa)) (own_i fv)) (own_i fw)).1.getD (Int32.toNatClampNeg (0 : Int32)) 0) = (((own_remM (own_remM (own_addM [0, 0, 0, 0] (own_i fa)) (own_i fv)) (own_i fw))).getD 0 0)) && (decide (¬ (1 : Int32) < (((own_remM (own_remM (own_addM [0, 0, 0, 0] (own_i fa)) (own_i fv)) (own_i fw))).getD 3 0)) && (decide ((2 : Int32) < (((own_remM (own_remM (own_addM [0, 0, 0, 0] (own_i fa)) (own_i fv)) (own_i fw))).getD 3 0)) && true))))) || decide (own_okG (own_rem (own_rem (own_add own_init (own_i fa)) (own_i fv)) (own_i fw)) (2 : Int32) = true)) = true := by decide +kernel
theorem own_f40 : ∀ fa fb fc fv fw : Fin 4, (!(decide (((own_rem (own_rem (own_add own_init (own_i fa)) (own_i fv)) (own_i fw)).2.2) = (((own_remM (own_remM (own_addM [0, 0, 0, 0] (own_i fa)) (own_i fv)) (own_i fw))).getD 3 0)) && (decide ((0 : Int32) < (((own_remM (own_remM (own_addM [0, 0, 0, 0] (own_i fa)) (own_i fv)) (own_i fw))).getD 3 0)) && (decide (((own_rem (own_rem (own_add own_init (own_i fa)) (own_i fv)) (own_i fw)).1.getD (Int32.toNatClampNeg (0 : Int32)) 0) = (((own_remM (own_remM (own_addM [0, 0, 0, 0] (own_i fa)) (own_i fv)) (own_i fw))).getD 0 0)) && (decide (¬ (1 : Int32) < (((own_remM (own_remM (own_addM [0, 0, 0, 0] (own_i fa)) (own_i fv)) (own_i fw))).getD 3 0)) && (decide ((2 : Int32) < (((own_remM (own_remM (own_addM [0, 0, 0, 0] (own_i fa)) (own_i fv)) (own_i fw))).getD 3 0)) && (decide (¬ ((own_rem (own_rem (own_add own_init (own_i fa)) (own_i fv)) (own_i fw)).1.getD (Int32.toNatClampNeg (2 : Int32)) 0) = (((own_remM (own_remM (own_addM [0, 0, 0, 0] (own_i fa)) (own_i fv)) (own_i fw))).getD 2 0)) && true)))))) || decide (False)) = true := by decide +kernel
theorem own_f41 : ∀ fa fb fc fv fw : Fin 4, (!(decide (((own_rem (own_rem (own_add own_init (own_i fa)) (own_i fv)) (own_i fw)).2.2) = (((own_remM (own_remM (own_addM [0, 0, 0, 0] (own_i fa)) (own_i fv)) (own_i fw))).getD 3 0)) && (decide ((0 : Int32) < (((own_remM (own_remM (own_addM [0, 0, 0, 0] (own_i fa)) (own_i fv)) (own_i fw))).getD 3 0)) && (decide (((own_rem (own_rem (own_add own_init (own_i fa)) (own_i fv)) (own_i fw)).1.getD (Int32.toNatClampNeg (0 : Int32)) 0) = (((own_remM (own_remM (own_addM [0, 0, 0, 0] (own_i fa)) (own_i fv)) (own_i fw))).getD 0 0)) && (decide ((1 : Int32) < (((own_remM (own_remM (own_addM [0, 0, 0, 0] (own_i fa)) (own_i fv)) (own_i fw))).getD 3 0)) && true)))) || decide (own_okG (own_rem (own_rem (own_add own_init (own_i fa)) (own_i fv)) (own_i fw)) (1 : Int32) = true)) = true := by decide +kernel
theorem own_f42 : ∀ fa fb fc fv fw : Fin 4, (!(decide (((own_rem (own_rem (own_add own_init (own_i fa)) (own_i fv)) (own_i fw)).2.2) = (((own_remM (own_remM (own_addM [0, 0, 0, 0] (own_i fa)) (own_i fv)) (own_i fw))).getD 3 0)) && (decide ((0 : Int32) < (((own_remM (own_remM (own_addM [0, 0, 0, 0] (own_i fa)) (own_i fv)) (own_i fw))).getD 3 0)) && (decide (((own_rem (own_rem (own_add own_init (own_i fa)) (own_i fv)) (own_i fw)).1.getD (Int32.toNatClampNeg (0 : Int32)) 0) = (((own_remM (own_remM (own_addM [0, 0, 0, 0] (own_i fa)) (own_i fv)) (own_i fw))).getD 0 0)) && (decide ((1 : Int32) < (((own_remM (own_remM (own_addM [0, 0, 0, 0] (own_i fa)) (own_i fv)) (own_i fw))).getD 3 0)) && (decide (((own_rem (own_rem (own_add own_init (own_i fa)) (own_i fv)) (own_i fw)).1.getD (Int32.toNatClampNeg (1 : Int32)) 0) = (((own_remM (own_remM (own_addM [0, 0, 0, 0] (own_i fa)) (own_i fv)) (own_i fw))).getD 1 0)) && (decide ((2 : Int32) < (((own_remM (own_remM (own_addM [0, 0, 0, 0] (own_i fa)) (own_i fv)) (own_i fw))).getD 3 0)) && true)))))) || decide (own_okG (own_rem (own_rem (own_add own_init (own_i fa)) (own_i fv)) (own_i fw)) (2 : Int32) = true)) = true := by decide +kernel
theorem own_f43 : ∀ fa fb fc fv fw : Fin 4, (!(decide (((own_rem (own_rem (own_add own_init (own_i fa)) (own_i fv)) (own_i fw)).2.2) = (((own_remM (own_remM (own_addM [0, 0, 0, 0] (own_i fa)) (own_i fv)) (own_i fw))).getD 3 0)) && (decide ((0 : Int32) < (((own_remM (own_remM (own_addM [0, 0, 0, 0] (own_i fa)) (own_i fv)) (own_i fw))).getD 3 0)) && (decide (((own_rem (own_rem (own_add own_init (own_i fa)) (own_i fv)) (own_i fw)).1.getD (Int32.toNatClampNeg (0 : Int32)) 0) = (((own_remM (own_remM (own_addM [0, 0, 0, 0] (own_i fa)) (own_i fv)) (own_i fw))).getD 0 0)) && (decide ((1 : Int32) < (((own_remM (own_remM (own_addM [0, 0, 0, 0] (own_i fa)) (own_i fv)) (own_i fw))).getD 3 0)) && (decide (((own_rem (own_rem (own_add own_init (own_i fa)) (own_i fv)) (own_i fw)).1.getD (Int32.toNatClampNeg (1 : Int32)) 0) = (((own_remM (own_remM (own_addM [0, 0, 0, 0] (own_i fa)) (own_i fv)) (own_i fw))).getD 1 0)) && (decide ((2 : Int32) < (((own_remM (own_remM (own_addM [0, 0, 0, 0] (own_i fa)) (own_i fv)) (own_i fw))).getD 3 0)) && (decide (¬ ((own_rem (own_rem (own_add own_init (own_i fa)) (own_i fv)) (own_i fw)).1.getD (Int32.toNatClampNeg (2 : Int32)) 0) = (((own_remM (own_remM (own_addM [0, 0, 0, 0] (own_i fa)) (own_i fv)) (own_i fw))).getD 2 0)) && true))))))) || decide (False)) = true := by decide +kernel
theorem own_f44 : ∀ fa fb fc fv fw : Fin 4, (!(decide (((own_rem (own_rem (own_add own_init (own_i fa)) (own_i fv)) (own_i fw)).2.2) = (((own_remM (own_remM (own_addM [0, 0, 0, 0] (own_i fa)) (own_i fv)) (own_i fw))).getD 3 0)) && (decide ((0 : Int32) < (((own_remM (own_remM (own_addM [0, 0, 0, 0] (own_i fa)) (own_i fv)) (own_i fw))).getD 3 0)) && (decide (((own_rem (own_rem (own_add own_init (own_i fa)) (own_i fv)) (own_i fw)).1.getD (Int32.toNatClampNeg (0 : Int32)) 0) = (((own_remM (own_remM (own_addM [0, 0, 0, 0] (own_i fa)) (own_i fv)) (own_i fw))).getD 0 0)) && (decide ((1 : Int32) < (((own_remM (own_remM (own_addM [0, 0, 0, 0] (own_i fa)) (own_i fv)) (own_i fw))).getD 3 0)) && (decide (¬ ((own_rem (own_rem (own_add own_init (own_i fa)) (own_i fv)) (own_i fw)).1.getD (Int32.toNatClampNeg (1 : Int32)) 0) = (((own_remM (own_remM (own_addM [0, 0, 0, 0] (own_i fa)) (own_i fv)) (own_i fw))).getD 1 0)) && true))))) || decide (False)) = true := by decide +kernel
theorem own_f45 : ∀ fa fb fc fv fw : Fin 4, (!(decide (((own_rem (own_rem (own_add own_init (own_i fa)) (own_i fv)) (own_i fw)).2.2) = (((own_remM (own_remM (own_addM [0, 0, 0, 0] (own_i fa)) (own_i fv)) (own_i fw))).getD 3 0)) && (decide ((0 : Int32) < (((own_remM (own_remM (own_addM [0, 0, 0, 0] (own_i fa)) (own_i fv)) (own_i fw))).getD 3 0)) && (decide (¬ ((own_rem (own_rem (own_add own_init (own_i fa)) (own_i fv)) (own_i fw)).1.getD (Int32.toNatClampNeg (0 : Int32)) 0) = (((own_remM (own_remM (own_addM [0, 0, 0, 0] (own_i fa)) (own_i fv)) (own_i fw))).getD 0 0)) && true))) || decide (False)) = true := by decide +kernel
theorem own_f46 : ∀ fa fb fc fv fw : Fin 4, (!(decide (¬ ((own_rem (own_rem (own_add own_init (own_i fa)) (own_i fv)) (own_i fw)).2.2) = (((own_remM (own_remM (own_addM [0, 0, 0, 0] (own_i fa)) (own_i fv)) (own_i fw))).getD 3 0)) && true) || decide (False)) = true := by decide +kernel
theorem own_f47 : ∀ fa fb fc fv fw : Fin 4, (!true || decide (own_okA (own_add own_init (own_i fa)) (own_i fb) = true)) = true := by decide +kernel
theorem own_f48 : ∀ fa fb fc fv fw : Fin 4, (!true || decide (own_okR (own_add (own_add own_init (own_i fa)) (own_i fb)) (own_i fv) = true)) = true := by decide +kernel
theorem own_f49 : ∀ fa fb fc fv fw : Fin 4, (!true || decide (own_okM (own_addM (own_addM [0, 0, 0, 0] (own_i fa)) (own_i fb)) = true)) = true := by decide +kernel
theorem own_f50 : ∀ fa fb fc fv fw : Fin 4, (!true || decide (own_okR (own_rem (own_add (own_add own_init (own_i fa)) (own_i fb)) (own_i fv)) (own_i fw) = true)) = true := by decide +kernel
theorem own_f51 : ∀ fa fb fc fv fw : Fin 4, (!true || decide (own_okM (own_remM (own_addM (own_addM [0, 0, 0, 0] (own_i fa)) (own_i fb)) (own_i fv)) = true)) = true := by decide +kernel
theorem own_f52 : ∀ fa fb fc fv fw : Fin 4, (!true || decide (3 < ((own_remM (own_remM (own_addM (own_addM [0, 0, 0, 0] (own_i fa)) (own_i fb)) (own_i fv)) (own_i fw))).length)) = true := by decide +kernel
theorem own_f53 : ∀ fa fb fc fv fw : Fin 4, (!(decide (((own_rem (own_rem (own_add (own_add own_init (own_i fa)) (own_i fb)) (own_i fv)) (own_i fw)).2.2) = (((own_remM (own_remM (own_addM (own_addM [0, 0, 0, 0] (own_i fa)) (own_i fb)) (own_i fv)) (own_i fw))).getD 3 0)) && (decide (¬ (0 : Int32) < (((own_remM (own_remM (own_addM (own_addM [0, 0, 0, 0] (own_i fa)) (own_i fb)) (own_i fv)) (own_i fw))).getD 3 0)) && (decide (¬ (1 : Int32) < (((own_remM (own_remM (own_addM (own_addM [0, 0, 0, 0] (own_i fa)) (own_i fb)) (own_i fv)) (own_i fw))).getD 3 0)) && (decide ((2 : Int32) < (((own_remM (own_remM (own_addM (own_addM [0, 0, 0, 0] (own_i fa)) (own_i fb)) (own_i fv)) (own_i fw))).getD 3 0)) && true)))) || decide (own_okG (own_rem (own_rem (own_add (own_add own_init (own_i fa)) (own_i fb)) (own_i fv)) (own_i fw)) (2 : Int32) = true)) = true := by decide +kernel
theorem own_f54 : ∀ fa fb fc fv fw : Fin 4, (!true || decide (2 < ((own_remM (own_remM (own_addM (own_addM [0, 0, 0, 0] (own_i fa)) (own_i fb)) (own_i fv)) (own_i fw))).length)) = true := by decide +kernel
theorem own_f55 : ∀ fa fb fc fv fw : Fin 4, (!(decide (((own_rem (own_rem (own_add (own_add own_init (own_i fa)) (own_i fb)) (own_i fv)) (own_i fw)).2.2) = (((own_remM (own_remM (own_addM (own_addM [0, 0, 0, 0] (own_i fa)) (own_i fb)) (own_i fv)) (own_i fw))).getD 3 0)) && (decide (¬ (0 : Int32) < (((own_remM (own_remM (own_addM (own_addM [0, 0, 0, 0] (own_i fa)) (own_i fb)) (own_i fv)) (own_i fw))).getD 3 0)) && (decide (¬ (1 : Int32) < (((own_remM (own_remM (own_addM (own_addM [0, 0, 0, 0] (own_i fa)) (own_i fb)) (own_i fv)) (own_i fw))).getD 3 0)) && (decide ((2 : Int32) < (((own_remM (own_remM (own_addM (own_addM [0, 0, 0, 0] (own_i fa)) (own_i fb)) (own_i fv)) (own_i fw))).getD 3 0)) && (decide (¬ ((own_rem (own_rem (own_add (own_add own_init (own_i fa)) (own_i fb)) (own_i fv)) (own_i fw)).1.getD (Int32.toNatClampNeg (2 : Int32)) 0) = (((own_remM (own_remM (own_addM (own_addM [0, 0, 0, 0] (own_i fa)) (own_i fb)) (own_i fv)) (own_i fw))).getD 2 0)) && true))))) || decide (False)) = true := by decide +kernel
theorem own_f56 : ∀ fa fb fc fv fw : Fin 4, (!(decide (((own_rem (own_rem (own_add (own_add own_init (own_i fa)) (own_i fb)) (own_i fv)) (own_i fw)).2.2) = (((own_remM (own_remM (own_addM (own_addM [0, 0, 0, 0] (own_i fa)) (own_i fb)) (own_i fv)) (own_i fw))).getD 3 0)) && (decide (¬ (0 : Int32) < (((own_remM (own_remM (own_addM (own_addM [0, 0, 0, 0] (own_i fa)) (own_i fb)) (own_i fv)) (own_i fw))).getD 3 0)) && (decide ((1 : Int32) < (((own_remM (own_remM (own_addM (own_addM [0, 0, 0, 0] (own_i fa)) (own_i fb)) (own_i fv)) (own_i fw))).getD 3 0)) && true))) || decide (own_okG (own_rem (own_rem (own_add (own_add own_init (own_i fa)) (own_i fb)) (own_i fv)) (own_i fw)) (1 : Int32) = true)) = true := by decide +kernel
theorem own_f57 : ∀ fa fb fc fv fw : Fin 4, (!true || decide (1 < ((own_remM (own_remM (own_addM (own_addM [0, 0, 0, 0] (own_i fa)) (own_i fb)) (own_i fv)) (own_i fw))).length)) = true := by decide +kernel
theorem own_f58 : ∀ fa fb fc fv fw : Fin 4, (!(decide (((own_rem (own_rem (own_add (own_add own_init (own_i fa)) (own_i fb)) (own_i fv)) (own_i fw)).2.2) = (((own_remM (own_remM (own_addM (own_addM [0, 0, 0, 0] (own_i fa)) (own_i fb)) (own_i fv)) (own_i fw))).getD 3 0)) && (decide (¬ (0 : Int32) < (((own_remM (own_remM (own_addM (own_addM [0, 0, 0, 0] (own_i fa)) (own_i fb)) (own_i fv)) (own_i fw))).getD 3 0)) && (decide ((1 : Int32) < (((own_remM (own_remM (own_addM (own_addM [0, 0, 0, 0] (own_i fa)) (own_i fb)) (own_i fv)) (own_i fw))).getD 3 0)) && (decide (((own_rem (own_rem (own_add (own_add own_init (own_i fa)) (own_i fb)) (own_i fv)) (own_i fw)).1.getD (Int32.toNatClampNeg (1 : Int32)) 0) = (((own_remM (own_remM (own_addM (own_addM [0, 0, 0, 0] (own_i fa)) (own_i fb)) (own_i fv)) (own_i fw))).getD 1 0)) && (decide ((2 : Int32) < (((own_remM (own_remM (own_addM (own_addM [0, 0, 0, 0] (own_i fa)) (own_i fb)) (own_i fv)) (own_i fw))).getD 3 0)) && true))))) || decide (own_okG (own_rem (own_rem (own_add (own_add own_init (own_i fa)) (own_i fb)) (own_i fv)) (own_i fw)) (2 : Int32) = true)) = true := by decide +kernel
theorem own_f59 : ∀ fa fb fc fv fw : Fin 4, (!(decide (((own_rem (own_rem (own_add (own_add own_init (own_i fa)) (own_i fb)) (own_i fv)) (own_i fw)).2.2) = (((own_remM (own_remM (own_addM (own_addM [0, 0, 0, 0] (own_i fa)) (own_i fb)) (own_i fv)) (own_i fw))).getD 3 0)) && (decide (¬ (0 : Int32) < (((own_remM (own_remM (own_addM (own_addM [0, 0, 0, 0] (own_i fa)) (own_i fb)) (own_i fv)) (own_i fw))).getD 3 0)) && (decide ((1 : Int32) < (((own_remM (own_remM (own_addM (own_addM [0, 0, 0, 0] (own_i fa)) (own_i fb)) (own_i fv)) (own_i fw))).getD 3 0)) && (decide (((own_rem (own_rem (own_add (own_add own_init (own_i fa)) (own_i fb)) (own_i fv)) (own_i fw)).1.getD (Int32.toNatClampNeg (1 : Int32)) 0) = (((own_remM (own_remM (own_addM (own_addM [0, 0, 0, 0] (own_i fa)) (own_i fb)) (own_i fv)) (own_i fw))).getD 1 0)) && (decide ((2 : Int32) < (((own_remM (own_remM (own_addM (own_addM [0, 0, 0, 0] (own_i fa)) (own_i fb)) (own_i fv)) (own_i fw))).getD 3 0)) && (decide (¬ ((own_rem (own_rem (own_add (own_add own_init (own_i fa)) (own_i fb)) (own_i fv)) (own_i fw)).1.getD (Int32.toNatClampNeg (2 : Int32)) 0) = (((own_remM (own_remM (own_addM (own_addM [0, 0, 0, 0] (own_i fa)) (own_i fb)) (own_i fv)) (own_i fw))).getD 2 0)) && true)))))) || decide (False)) = true := by decide +kernel
theorem own_f60 : ∀ fa fb fc fv fw : Fin 4, (!(decide (((own_rem (own_rem (own_add (own_add own_init (own_i fa)) (own_i fb)) (own_i fv)) (own_i fw)).2.2) = (((own_remM (own_remM (own_addM (own_addM [0, 0, 0, 0] (own_i fa)) (own_i fb)) (own_i fv)) (own_i fw))).getD 3 0)) && (decide (¬ (0 : Int32) < (((own_remM (own_remM (own_addM (own_addM [0, 0, 0, 0] (own_i fa)) (own_i fb)) (own_i fv)) (own_i fw))).getD 3 0)) && (decide ((1 : Int32) < (((own_remM (own_remM (own_addM (own_addM [0, 0, 0, 0] (own_i fa)) (own_i fb)) (own_i fv)) (own_i fw))).getD 3 0)) && (decide (¬ ((own_rem (own_rem (own_add (own_add own_init (own_i fa)) (own_i fb)) (own_i fv)) (own_i fw)).1.getD (Int32.toNatClampNeg (1 : Int32)) 0) = (((own_remM (own_remM (own_addM (own_addM [0, 0, 0, 0] (own_i fa)) (own_i fb)) (own_i fv)) (own_i fw))).getD 1 0)) && true)))) || decide (False)) = true := by decide +kernel
theorem own_f61 : ∀ fa fb fc fv fw : Fin 4, (!(decide (((own_rem (own_rem (own_add (own_add own_init (own_i fa)) (own_i fb)) (own_i fv)) (own_i fw)).2.2) = (((own_remM (own_remM (own_addM (own_addM [0, 0, 0, 0] (own_i fa)) (own_i fb)) (own_i fv)) (own_i fw))).getD 3 0)) && (decide ((0 : Int32) < (((own_remM (own_remM (own_addM (own_addM [0, 0, 0, 0] (own_i fa)) (own_i fb)) (own_i fv)) (own_i fw))).getD 3 0)) && true)) || decide (own_okG (own_rem (own_rem (own_add (own_add own_init (own_i fa)) (own_i fb)) (own_i fv)) (own_i fw)) (0 : Int32) = true)) = true := by decide +kernel
theorem own_f62 : ∀ fa fb fc fv fw : Fin 4, (!true || decide (0 < ((own_remM (own_remM (own_addM (own_addM [0, 0, 0, 0] (own_i fa)) (own_i fb)) (own_i fv)) (own_i fw))).length)) = true := by decide +kernel
theorem own_f63 : ∀ fa fb fc fv fw : Fin 4, (!(decide (((own_rem (own_rem (own_add (own_add own_init (own_i fa)) (own_i fb)) (own_i fv)) (own_i fw)).2.2) = (((own_remM (own_remM (own_addM (own_addM [0, 0, 0, 0] (own_i fa)) (own_i fb)) (own_i fv)) (own_i fw))).getD 3 0)) && (decide ((0 : Int32) < (((own_remM (own_remM (own_addM (own_addM [0, 0, 0, 0] (own_i fa)) (own_i fb)) (own_i fv)) (own_i fw))).getD 3 0)) && (decide (((own_rem (own_rem (own_add (own_add own_init (own_i fa)) (own_i fb)) (own_i fv)) (own_i fw)).1.getD (Int32.toNatClampNeg (0 : Int32)) 0) = (((own_remM (own_remM (own_addM (own_addM [0, 0, 0, 0] (own_i fa)) (own_i fb)) (own_i fv)) (own_i fw))).getD 0 0)) && (decide (¬ (1 : Int32) < (((own_remM (own_remM (own_addM (own_addM [0, 0, 0, 0] (own_i fa)) (own_i fb)) (own_i fv)) (own_i fw))).getD 3 0)) && (decide ((2 : Int32) < (((own_remM (own_remM (own_addM (own_addM [0, 0, 0, 0] (own_i fa)) (own_i fb)) (own_i fv)) (own_i fw))).getD 3 0)) && true))))) || decide (own_okG (own_rem (own_rem (own_add (own_add own_init (own_i fa)) (own_i fb)) (own_i fv)) (own_i fw)) (2 : Int32) = true)) = true := by decide +kernel
theorem own_f64 : ∀ fa fb fc fv fw : Fin 4, (!(decide (((own_rem (own_rem (own_add (own_add own_init (own_i fa)) (own_i fb)) (own_i fv)) (own_i fw)).2.2) = (((own_remM (own_remM (own_addM (own_addM [0, 0, 0, 0] (own_i fa)) (own_i fb)) (own_i fv)) (own_i fw))).getD 3 0)) && (decide ((0 : Int32) < (((own_remM (own_remM (own_addM (own_addM [0, 0, 0, 0] (own_i fa)) (own_i fb)) (own_i fv)) (own_i fw))).getD 3 0)) && (decide (((own_rem (own_rem (own_add (own_add own_init (own_i fa)) (own_i fb)) (own_i fv)) (own_i fw)).1.getD (Int32.toNatClampNeg (0 : Int32)) 0) = (((own_remM (own_remM (own_addM (own_addM [0, 0, 0, 0] (own_i fa)) (own_i fb)) (own_i fv)) (own_i fw))).getD 0 0)) && (decide (¬ (1 : Int32) < (((own_remM (own_remM (own_addM (own_addM [0, 0, 0, 0] (own_i fa)) (own_i fb)) (own_i fv)) (own_i fw))).getD 3 0)) && (decide ((2 : Int32) < (((own_remM (own_remM (own_addM (own_addM [0, 0, 0, 0] (own_i fa)) (own_i fb)) (own_i fv)) (own_i fw))).getD 3 0)) && (decide (¬ ((own_rem (own_rem (own_add (own_add own_init (own_i fa)) (own_i fb)) (own_i fv)) (own_i fw)).1.getD (Int32.toNatClampNeg (2 : Int32)) 0) = (((own_remM (own_remM (own_addM (own_addM [0, 0, 0, 0] (own_i fa)) (own_i fb)) (own_i fv)) (own_i fw))).getD 2 0)) && true)))))) || decide (False)) = true := by decide +kernel
theorem own_f65 : ∀ fa fb fc fv fw : Fin 4, (!(decide (((own_rem (own_rem (own_add (own_add own_init (own_i fa)) (own_i fb)) (own_i fv)) (own_i fw)).2.2) = (((own_remM (own_remM (own_addM (own_addM [0, 0, 0, 0] (own_i fa)) (own_i fb)) (own_i fv)) (own_i fw))).getD 3 0)) && (decide ((0 : Int32) < (((own_remM (own_remM (own_addM (own_addM [0, 0, 0, 0] (own_i fa)) (own_i fb)) (own_i fv)) (own_i fw))).getD 3 0)) && (decide (((own_rem (own_rem (own_add (own_add own_init (own_i fa)) (own_i fb)) (own_i fv)) (own_i fw)).1.getD (Int32.toNatClampNeg (0 : Int32)) 0) = (((own_remM (own_remM (own_addM (own_addM [0, 0, 0, 0] (own_i fa)) (own_i fb)) (own_i fv)) (own_i fw))).getD 0 0)) && (decide ((1 : Int32) < (((own_remM (own_remM (own_addM (own_addM [0, 0, 0, 0] (own_i fa)) (own_i fb)) (own_i fv)) (own_i fw))).getD 3 0)) && true)))) || decide (own_okG (own_rem (own_rem (own_add (own_add own_init (own_i fa)) (own_i fb)) (own_i fv)) (own_i fw)) (1 : Int32) = true)) = true := by decide +kernel
theorem own_f66 : ∀ fa fb fc fv fw : Fin 4, (!(decide (((own_rem (own_rem (own_add (own_add own_init (own_i fa)) (own_i fb)) (own_i fv)) (own_i fw)).2.2) = (((own_remM (own_remM (own_addM (own_addM [0, 0, 0, 0] (own_i fa)) (own_i fb)) (own_i fv)) (own_i fw))).getD 3 0)) && (decide ((0 : Int32) < (((own_remM (own_remM (own_addM (own_addM [0, 0, 0, 0] (own_i fa)) (own_i fb)) (own_i fv)) (own_i fw))).getD 3 0)) && (decide (((own_rem (own_rem (own_add (own_add own_init (own_i fa)) (own_i fb)) (own_i fv)) (own_i fw)).1.getD (Int32.toNatClampNeg (0 : Int32)) 0) = (((own_remM (own_remM (own_addM (own_addM [0, 0, 0, 0] (own_i fa)) (own_i fb)) (own_i fv)) (own_i fw))).getD 0 0)) && (decide ((1 : Int32) < (((own_remM (own_remM (own_addM (own_addM [0, 0, 0, 0] (own_i fa)) (own_i fb)) (own_i fv)) (own_i fw))).getD 3 0)) && (decide (((own_rem (own_rem (own_add (own_add own_init (own_i fa)) (own_i fb)) (own_i fv)) (own_i fw)).1.getD (Int32.toNatClampNeg (1 : Int32)) 0) = (((own_remM (own_remM (own_addM (own_addM [0, 0, 0, 0] (own_i fa)) (own_i fb)) (own_i fv)) (own_i fw))).getD 1 0)) && (decide ((2 : Int32) < (((own_remM (own_remM (own_addM (own_addM [0, 0, 0, 0] (own_i fa)) (own_i fb)) (own_i fv)) (own_i fw))).getD 3 0)) && true)))))) || decide (own_okG (own_rem (own_rem (own_add (own_add own_init (own_i fa)) (own_i fb)) (own_i fv)) (own_i fw)) (2 : Int32) = true)) = true := by decide +kernel
theorem own_f67 : ∀ fa fb fc fv fw : Fin 4, (!(decide (((own_rem (own_rem (own_add (own_add own_init (own_i fa)) (own_i fb)) (own_i fv)) (own_i fw)).2.2) = (((own_remM (own_remM (own_addM (own_addM [0, 0, 0, 0] (own_i fa)) (own_i fb)) (own_i fv)) (own_i fw))).getD 3 0)) && (decide ((0 : Int32) < (((own_remM (own_remM (own_addM (own_addM [0, 0, 0, 0] (own_i fa)) (own_i fb)) (own_i fv)) (own_i fw))).getD 3 0)) && (decide (((own_rem (own_rem (own_add (own_add own_init (own_i fa)) (own_i fb)) (own_i fv)) (own_i fw)).1.getD (Int32.toNatClampNeg (0 : Int32)) 0) = (((own_remM (own_remM (own_addM (own_addM [0, 0, 0, 0] (own_i fa)) (own_i fb)) (own_i fv)) (own_i fw))).getD 0 0)) && (decide ((1 : Int32) < (((own_remM (own_remM (own_addM (own_addM [0, 0, 0, 0] (own_i fa)) (own_i fb)) (own_i fv)) (own_i fw))).getD 3 0)) && (decide (((own_rem (own_rem (own_add (own_add own_init (own_i fa)) (own_i fb)) (own_i fv)) (own_i fw)).1.getD (Int32.toNatClampNeg (1 : Int32)) 0) = (((own_remM (own_remM (own_addM (own_addM [0, 0, 0, 0] (own_i fa)) (own_i fb)) (own_i fv)) (own_i fw))).getD 1 0)) && (decide ((2 : Int32) < (((own_remM (own_remM (own_addM (own_addM [0, 0, 0, 0] (own_i fa)) (own_i fb)) (own_i fv)) (own_i fw))).getD 3 0)) && (decide (¬ ((own_rem (own_rem (own_add (own_add own_init (own_i fa)) (own_i fb)) (own_i fv)) (own_i fw)).1.getD (Int32.toNatClampNeg (2 : Int32)) 0) = (((own_remM (own_remM (own_addM (own_addM [0, 0, 0, 0] (own_i fa)) (own_i fb)) (own_i fv)) (own_i fw))).getD 2 0)) && true))))))) || decide (False)) = true := by decide +kernel
theorem own_f68 : ∀ fa fb fc fv fw : Fin 4, (!(decide (((own_rem (own_rem (own_add (own_add own_init (own_i fa)) (own_i fb)) (own_i fv)) (own_i fw)).2.2) = (((own_remM (own_remM (own_addM (own_addM [0, 0, 0, 0] (own_i fa)) (own_i fb)) (own_i fv)) (own_i fw))).getD 3 0)) && (decide ((0 : Int32) < (((own_remM (own_remM (own_addM (own_addM [0, 0, 0, 0] (own_i fa)) (own_i fb)) (own_i fv)) (own_i fw))).getD 3 0)) && (decide (((own_rem (own_rem (own_add (own_add own_init (own_i fa)) (own_i fb)) (own_i fv)) (own_i fw)).1.getD (Int32.toNatClampNeg (0 : Int32)) 0) = (((own_remM (own_remM (own_addM (own_addM [0, 0, 0, 0] (own_i fa)) (own_i fb)) (own_i fv)) (own_i fw))).getD 0 0)) && (decide ((1 : Int32) < (((own_remM (own_remM (own_addM (own_addM [0, 0, 0, 0] (own_i fa)) (own_i fb)) (own_i fv)) (own_i fw))).getD 3 0)) && (decide (¬ ((own_rem (own_rem (own_add (own_add own_init (own_i fa)) (own_i fb)) (own_i fv)) (own_i fw)).1.getD (Int32.toNatClampNeg (1 : Int32)) 0) = (((own_remM (own_remM (own_addM (own_addM [0, 0, 0, 0] (own_i fa)) (own_i fb)) (own_i fv)) (own_i fw))).getD 1 0)) && true))))) || decide (False)) = true := by decide +kernel
theorem own_f69 : ∀ fa fb fc fv fw : Fin 4, (!(decide (((own_rem (own_rem (own_add (own_add own_init (own_i fa)) (own_i fb)) (own_i fv)) (own_i fw)).2.2) = (((own_remM (own_remM (own_addM (own_addM [0, 0, 0, 0] (own_i fa)) (own_i fb)) (own_i fv)) (own_i fw))).getD 3 0)) && (decide ((0 : Int32) < (((own_remM (own_remM (own_addM (own_addM [0, 0, 0, 0] (own_i fa)) (own_i fb)) (own_i fv)) (own_i fw))).getD 3 0)) && (decide (¬ ((own_rem (own_rem (own_add (own_add own_init (own_i fa)) (own_i fb)) (own_i fv)) (own_i fw)).1.getD (Int32.toNatClampNeg (0 : Int32)) 0) = (((own_remM (own_remM (own_addM (own_addM [0, 0, 0, 0] (own_i fa)) (own_i fb)) (own_i fv)) (own_i fw))).getD 0 0)) && true))) || decide (False)) = true := by decide +kernel
theorem own_f70 : ∀ fa fb fc fv fw : Fin 4, (!(decide (¬ ((own_rem (own_rem (own_add (own_add own_init (own_i fa)) (own_i fb)) (own_i fv)) (own_i fw)).2.2) = (((own_remM (own_remM (own_addM (own_addM [0, 0, 0, 0] (own_i fa)) (own_i fb)) (own_i fv)) (own_i fw))).getD 3 0)) && true) || decide (False)) = true := by decide +kernel
theorem own_f71 : ∀ fa fb fc fv fw : Fin 4, (!true || decide (own_okA (own_add (own_add own_init (own_i fa)) (own_i fb)) (own_i fc) = true)) = true := by decide +kernel
theorem own_f72 : ∀ fa fb fc fv fw : Fin 4, (!true || decide (own_okR (own_add (own_add (own_add own_init (own_i fa)) (own_i fb)) (own_i fc)) (own_i fv) = true)) = true := by decide +kernel
theorem own_f73 : ∀ fa fb fc fv fw : Fin 4, (!true || decide (own_okM (own_addM (own_addM (own_addM [0, 0, 0, 0] (own_i fa)) (own_i fb)) (own_i fc)) = true)) = true := by decide +kernel
theorem own_f74 : ∀ fa fb fc fv fw : Fin 4, (!true || decide (own_okR (own_rem (own_add (own_add (own_add own_init (own_i fa)) (own_i fb)) (own_i fc)) (own_i fv)) (own_i fw) = true)) = true := by decide +kernel
theorem own_f75 : ∀ fa fb fc fv fw : Fin 4, (!true || decide (own_okM (own_remM (own_addM (own_addM (own_addM [0, 0, 0, 0] (own_i fa)) (own_i fb)) (own_i fc)) (own_i fv)) = true)) = true := by decide +kernel
theorem own_f76 : ∀ fa fb fc fv fw : Fin 4, (!true || decide (3 < ((own_remM (own_remM (own_addM (own_addM (own_addM [0, 0, 0, 0] (own_i fa)) (own_i fb)) (own_i fc)) (own_i fv)) (own_i fw))).length)) = true := by decide +kernel
theorem own_f77 : ∀ fa fb fc fv fw : Fin 4, (!(decide (((own_rem (own_rem (own_add (own_add (own_add own_init (own_i fa)) (own_i fb)) (own_i fc)) (own_i fv)) (own_i fw)).2.2) = (((own_remM (own_remM (own_addM (own_addM (own_addM [0, 0, 0, 0] (own_i fa)) (own_i fb)) (own_i fc)) (own_i fv)) (own_i fw))).getD 3 0)) && (decide (¬ (0 : Int32) < (((own_remM (own_remM (own_addM (own_addM (own_addM [0, 0, 0, 0] (own_i fa)) (own_i fb)) (own_i fc)) (own_i fv)) (own_i fw))).getD 3 0)) && (decide (¬ (1 : Int32) < (((own_remM (own_remM (own_addM (own_addM (own_addM [0, 0, 0, 0] (own_i fa)) (own_i fb)) (own_i fc)) (own_i fv)) (own_i fw))).getD 3 0)) && (decide ((2 : Int32) < (((own_remM (own_remM (own_addM (own_addM (own_addM [0, 0, 0, 0] (own_i fa)) (own_i fb)) (own_i fc)) (own_i fv)) (own_i fw))).getD 3 0)) && true)))) || decide (own_okG (own_rem (own_rem (own_add (own_add (own_add own_init (own_i fa)) (own_i fb)) (own_i fc)) (own_i fv)) (own_i fw)) (2 : Int32) = true)) = true := by decide +kernel
theorem own_f78 : ∀ fa fb fc fv fw : Fin 4, (!true || decide (2 < ((own_remM (own_remM (own_addM (own_addM (own_addM [0, 0, 0, 0] (own_i fa)) (own_i fb)) (own_i fc)) (own_i fv)) (own_i fw))).length)) = true := by decide +kernel
theorem own_f79 : ∀ fa fb fc fv fw : Fin 4, (!(decide (((own_rem (own_rem (own_add (own_add (own_add own_init (own_i fa)) (own_i fb)) (own_i fc)) (own_i fv)) (own_i fw)).2.2) = (((own_remM (own_remM (own_addM (own_addM (own_addM [0, 0, 0, 0] (own_i fa)) (own_i fb)) (own_i fc)) (own_i fv)) (own_i fw))).getD 3 0)) && (decide (¬ (0 : Int32) < (((own_remM (own_remM (own_addM (own_addM (own_addM [0, 0, 0, 0] (own_i fa)) (own_i fb)) (own_i fc)) (own_i fv)) (own_i fw))).getD 3 0)) && (decide (¬ (1 : Int32) < (((own_remM (own_remM (own_addM (own_addM (own_addM [0, 0, 0, 0] (own_i fa)) (own_i fb)) (own_i fc)) (own_i fv)) (own_i fw))).getD 3 0)) && (decide ((2 : Int32) < (((own_remM (own_remM (own_addM (own_addM (own_addM [0, 0, 0, 0] (own_i fa)) (own_i fb)) (own_i fc)) (own_i fv)) (own_i fw))).getD 3 0)) && (decide (¬ ((own_rem (own_rem (own_add (own_add (own_add own_init (own_i fa)) (own_i fb)) (own_i fc)) (own_i fv)) (own_i fw)).1.getD (Int32.toNatClampNeg (2 : Int32)) 0) = (((own_remM (own_remM (own_addM (own_addM (own_addM [0, 0, 0, 0] (own_i fa)) (own_i fb)) (own_i fc)) (own_i fv)) (own_i fw))).getD 2 0)) && true))))) || decide (False)) = true := by decide +kernel
theorem own_f80 : ∀ fa fb fc fv fw : Fin 4, (!(decide (((own_rem (own_rem (own_add (own_add (own_add own_init (own_i fa)) (own_i fb)) (own_i fc)) (own_i fv)) (own_i fw)).2.2) = (((own_remM (own_remM (own_addM (own_addM (own_addM [0, 0, 0, 0] (own_i fa)) (own_i fb)) (own_i fc)) (own_i fv)) (own_i fw))).getD 3 0)) && (decide (¬ (0 : Int32) < (((own_remM (own_remM (own_addM (own_addM (own_addM [0, 0, 0, 0] (own_i fa)) (own_i fb)) (own_i fc)) (own_i fv)) (own_i fw))).getD 3 0)) && (decide ((1 : Int32) < (((own_remM (own_remM (own_addM (own_addM (own_addM [0, 0, 0, 0] (own_i fa)) (own_i fb)) (own_i fc)) (own_i fv)) (own_i fw))).getD 3 0)) && true))) || decide (own_okG (own_rem (own_rem (own_add (own_add (own_add own_init (own_i fa)) (own_i fb)) (own_i fc)) (own_i fv)) (own_i fw)) (1 : Int32) = true)) = true := by decide +kernel
theorem own_f81 : ∀ fa fb fc fv fw : Fin 4, (!true || decide (1 < ((own_remM (own_remM (own_addM (own_addM (own_addM [0, 0, 0, 0] (own_i fa)) (own_i fb)) (own_i fc)) (own_i fv)) (own_i fw))).length)) = true := by decide +kernel
theorem own_f82 : ∀ fa fb fc fv fw : Fin 4, (!(decide (((own_rem (own_rem (own_add (own_add (own_add own_init (own_i fa)) (own_i fb)) (own_i fc)) (own_i fv)) (own_i fw)).2.2) = (((own_remM (own_remM (own_addM (own_addM (own_addM [0, 0, 0, 0] (own_i fa)) (own_i fb)) (own_i fc)) (own_i fv)) (own_i fw))).getD 3 0)) && (decide (¬ (0 : Int32) < (((own_remM (own_remM (own_addM (own_addM (own_addM [0, 0, 0, 0] (own_i fa)) (own_i fb)) (own_i fc)) (own_i fv)) (own_i fw))).getD 3 0)) && (decide ((1 : Int32) < (((own_remM (own_remM (own_addM (own_addM (own_addM [0, 0, 0, 0] (own_i fa)) (own_i fb)) (own_i fc)) (own_i fv)) (own_i fw))).getD 3 0)) && (decide (((own_rem (own_rem (own_add (own_add (own_add own_init (own_i fa)) (own_i fb)) (own_i fc)) (own_i fv)) (own_i fw)).1.getD (Int32.toNatClampNeg (1 : Int32)) 0) = (((own_remM (own_remM (own_addM (own_addM (own_addM [0, 0, 0, 0] (own_i fa)) (own_i fb)) (own_i fc)) (own_i fv)) (own_i fw))).getD 1 0)) && (decide ((2 : Int32) < (((own_remM (own_remM (own_addM (own_addM (own_addM [0, 0, 0, 0] (own_i fa)) (own_i fb)) (own_i fc)) (own_i fv)) (own_i fw))).getD 3 0)) && true))))) || decide (own_okG (own_rem (own_rem (own_add (own_add (own_add own_init (own_i fa)) (own_i fb)) (own_i fc)) (own_i fv)) (own_i fw)) (2 : Int32) = true)) = true := by decide +kernel
theorem own_f83 : ∀ fa fb fc fv fw : Fin 4, (!(decide (((own_rem (own_rem (own_add (own_add (own_add own_init (own_i fa)) (own_i fb)) (own_i fc)) (own_i fv)) (own_i fw)).2.2) = (((own_remM (own_remM (own_addM (own_addM (own_addM [0, 0, 0, 0] (own_i fa)) (own_i fb)) (own_i fc)) (own_i fv)) (own_i fw))).getD 3 0)) && (decide (¬ (0 : Int32) < (((own_remM (own_remM (own_addM (own_addM (own_addM [0, 0, 0, 0] (own_i fa)) (own_i fb)) (own_i fc)) (own_i fv)) (own_i fw))).getD 3 0)) && (decide ((1 : Int32) < (((own_remM (own_remM (own_addM (own_addM (own_addM [0, 0, 0, 0] (own_i fa)) (own_i fb)) (own_i fc)) (own_i fv)) (own_i fw))).getD 3 0)) && (decide (((own_rem (own_rem (own_add (own_add (own_add own_init (own_i fa)) (own_i fb)) (own_i fc)) (own_i fv)) (own_i fw)).1.getD (Int32.toNatClampNeg (1 : Int32)) 0) = (((own_remM (own_remM (own_addM (own_addM (own_addM [0, 0, 0, 0] (own_i fa)) (own_i fb)) (own_i fc)) (own_i fv)) (own_i fw))).getD 1 0)) && (decide ((2 : Int32) < (((own_remM (own_remM (own_addM (own_addM (own_addM [0, 0, 0, 0] (own_i fa)) (own_i fb)) (own_i fc)) (own_i fv)) (own_i fw))).getD 3 0)) && (decide (¬ ((own_rem (own_rem (own_add (own_add (own_add own_init (own_i fa)) (own_i fb)) (own_i fc)) (own_i fv)) (own_i fw)).1.getD (Int32.toNatClampNeg (2 : Int32)) 0) = (((own_remM (own_remM (own_addM (own_addM (own_addM [0, 0, 0, 0] (own_i fa)) (own_i fb)) (own_i fc)) (own_i fv)) (own_i fw))).getD 2 0)) && true)))))) || decide (False)) = true := by decide +kernel
theorem own_f84 : ∀ fa fb fc fv fw : Fin 4, (!(decide (((own_rem (own_rem (own_add (own_add (own_add own_init (own_i fa)) (own_i fb)) (own_i fc)) (own_i fv)) (own_i fw)).2.2) = (((own_remM (own_remM (own_addM (own_addM (own_addM [0, 0, 0, 0] (own_i fa)) (own_i fb)) (own_i fc)) (own_i fv)) (own_i fw))).getD 3 0)) && (decide (¬ (0 : Int32) < (((own_remM (own_remM (own_addM (own_addM (own_addM [0, 0, 0, 0] (own_i fa)) (own_i fb)) (own_i fc)) (own_i fv)) (own_i fw))).getD 3 0)) && (decide ((1 : Int32) < (((own_remM (own_remM (own_addM (own_addM (own_addM [0, 0, 0, 0] (own_i fa)) (own_i fb)) (own_i fc)) (own_i fv)) (own_i fw))).getD 3 0)) && (decide (¬ ((own_rem (own_rem (own_add (own_add (own_add own_init (own_i fa)) (own_i fb)) (own_i fc)) (own_i fv)) (own_i fw)).1.getD (Int32.toNatClampNeg (1 : Int32)) 0) = (((own_remM (own_remM (own_addM (own_addM (own_addM [0, 0, 0, 0] (own_i fa)) (own_i fb)) (own_i fc)) (own_i fv)) (own_i fw))).getD 1 0)) && true)))) || decide (False)) = true := by decide +kernel
theorem own_f85 : ∀ fa fb fc fv fw : Fin 4, (!(decide (((own_rem (own_rem (own_add (own_add (own_add own_init (own_i fa)) (own_i fb)) (own_i fc)) (own_i fv)) (own_i fw)).2.2) = (((own_remM (own_remM (own_addM (own_addM (own_addM [0, 0, 0, 0] (own_i fa)) (own_i fb)) (own_i fc)) (own_i fv)) (own_i fw))).getD 3 0)) && (decide ((0 : Int32) < (((own_remM (own_remM (own_addM (own_addM (own_addM [0, 0, 0, 0] (own_i fa)) (own_i fb)) (own_i fc)) (own_i fv)) (own_i fw))).getD 3 0)) && true)) || decide (own_okG (own_rem (own_rem (own_add (own_add (own_add own_init (own_i fa)) (own_i fb)) (own_i fc)) (own_i fv)) (own_i fw)) (0 : Int32) = true)) = true := by decide +kernel
theorem own_f86 : ∀ fa fb fc fv fw : Fin 4, (!true || decide (0 < ((own_remM (own_remM (own_addM (own_addM (own_addM [0, 0, 0, 0] (own_i fa)) (own_i fb)) (own_i fc)) (own_i fv)) (own_i fw))).length)) = true := by decide +kernel
theorem own_f87 : ∀ fa fb fc fv fw : Fin 4, (!(decide (((own_rem (own_rem (own_add (own_add (own_add own_init (own_i fa)) (own_i fb)) (own_i fc)) (own_i fv)) (own_i fw)).2.2) = (((own_remM (own_remM (own_addM (own_addM (own_addM [0, 0, 0, 0] (own_i fa)) (own_i fb)) (own_i fc)) (own_i fv)) (own_i fw))).getD 3 0)) && (decide ((0 : Int32) < (((own_remM (own_remM (own_addM (own_addM (own_addM [0, 0, 0, 0] (own_i fa)) (own_i fb)) (own_i fc)) (own_i fv)) (own_i fw))).getD 3 0)) && (decide (((own_rem (own_rem (own_add (own_add (own_add own_init (own_i fa)) (own_i fb)) (own_i fc)) (own_i fv)) (own_i fw)).1.getD (Int32.toNatClampNeg (0 : Int32)) 0) = (((own_remM (own_remM (own_addM (own_addM (own_addM [0, 0, 0, 0] (own_i fa)) (own_i fb)) (own_i fc)) (own_i fv)) (own_i fw))).getD 0 0)) && (decide (¬ (1 : Int32) < (((own_remM (own_remM (own_addM (own_addM (own_addM [0, 0, 0, 0] (own_i fa)) (own_i fb)) (own_i fc)) (own_i fv)) (own_i fw))).getD 3 0)) && (decide ((2 : Int32) < (((own_remM (own_remM (own_addM (own_addM (own_addM [0, 0, 0, 0] (own_i fa)) (own_i fb)) (own_i fc)) (own_i fv)) (own_i fw))).getD 3 0)) && true))))) || decide (own_okG (own_rem (own_rem (own_add (own_add (own_add own_init (own_i fa)) (own_i fb)) (own_i fc)) (own_i fv)) (own_i fw)) (2 : Int32) = true)) = true := by decide +kernel
theorem own_f88 : ∀ fa fb fc fv fw : Fin 4, (!(decide (((own_rem (own_rem (own_add (own_add (own_add own_init (own_i fa)) (own_i fb)) (own_i fc)) (own_i fv)) (own_i fw)).2.2) = (((own_remM (own_remM (own_addM (own_addM (own_addM [0, 0, 0, 0] (own_i fa)) (own_i fb)) (own_i fc)) (own_i fv)) (own_i fw))).getD 3 0)) && (decide ((0 : Int32) < (((own_remM (own_remM (own_addM (own_addM (own_addM [0, 0, 0, 0] (own_i fa)) (own_i fb)) (own_i fc)) (own_i fv)) (own_i fw))).getD 3 0)) && (decide (((own_rem (own_rem (own_add (own_add (own_add own_init (own_i fa)) (own_i fb)) (own_i fc)) (own_i fv)) (own_i fw)).1.getD (Int32.toNatClampNeg (0 : Int32)) 0) = (((own_remM (own_remM (own_addM (own_addM (own_addM [0, 0, 0, 0] (own_i fa)) (own_i fb)) (own_i fc)) (own_i fv)) (own_i fw))).getD 0 0)) && (decide (¬ (1 : Int32) < (((own_remM (own_remM (own_addM (own_addM (own_addM [0, 0, 0, 0] (own_i fa)) (own_i fb)) (own_i fc)) (own_i fv)) (own_i fw))).getD 3 0)) && (decide ((2 : Int32) < (((own_remM (own_remM (own_addM (own_addM (own_addM [0, 0, 0, 0] (own_i fa)) (own_i fb)) (own_i fc)) (own_i fv)) (own_i fw))).getD 3 0)) && (decide (¬ ((own_rem (own_rem (own_add (own_add (own_add own_init (own_i fa)) (own_i fb)) (own_i fc)) (own_i fv)) (own_i fw)).1.getD (Int32.toNatClampNeg (2 : Int32)) 0) = (((own_remM (own_remM (own_addM (own_addM (own_addM [0, 0, 0, 0] (own_i fa)) (own_i fb)) (own_i fc)) (own_i fv)) (own_i fw))).getD 2 0)) && true)))))) || decide (False)) = true := by decide +kernel
theorem own_f89 : ∀ fa fb fc fv fw : Fin 4, (!(decide (((own_rem (own_rem (own_add (own_add (own_add own_init (own_i fa)) (own_i fb)) (own_i fc)) (own_i fv)) (own_i fw)).2.2) = (((own_remM (own_remM (own_addM (own_addM (own_addM [0, 0, 0, 0] (own_i fa)) (own_i fb)) (own_i fc)) (own_i fv)) (own_i fw))).getD 3 0)) && (decide ((0 : Int32) < (((own_remM (own_remM (own_addM (own_addM (own_addM [0, 0, 0, 0] (own_i fa)) (own_i fb)) (own_i fc)) (own_i fv)) (own_i fw))).getD 3 0)) && (decide (((own_rem (own_rem (own_add (own_add (own_add own_init (own_i fa)) (own_i fb)) (own_i fc)) (own_i fv)) (own_i fw)).1.getD (Int32.toNatClampNeg (0 : Int32)) 0) = (((own_remM (own_remM (own_addM (own_addM (own_addM [0, 0, 0, 0] (own_i fa)) (own_i fb)) (own_i fc)) (own_i fv)) (own_i fw))).getD 0 0)) && (decide ((1 : Int32) < (((own_remM (own_remM (own_addM (own_addM (own_addM [0, 0, 0, 0] (own_i fa)) (own_i fb)) (own_i fc)) (own_i fv)) (own_i fw))).getD 3 0)) && true)))) || decide (own_okG (own_rem (own_rem (own_add (own_add (own_add own_init (own_i fa)) (own_i fb)) (own_i fc)) (own_i fv)) (own_i fw)) (1 : Int32) = true)) = true := by decide +kernel
theorem own_f90 : ∀ fa fb fc fv fw : Fin 4, (!(decide (((own_rem (own_rem (own_add (own_add (own_add own_init (own_i fa)) (own_i fb)) (own_i fc)) (own_i fv)) (own_i fw)).2.2) = (((own_remM (own_remM (own_addM (own_addM (own_addM [0, 0, 0, 0] (own_i fa)) (own_i fb)) (own_i fc)) (own_i fv)) (own_i fw))).getD 3 0)) && (decide ((0 : Int32) < (((own_remM (own_remM (own_addM (own_addM (own_addM [0, 0, 0, 0] (own_i fa)) (own_i fb)) (own_i fc)) (own_i fv)) (own_i fw))).getD 3 0)) && (decide (((own_rem (own_rem (own_add (own_add (own_add own_init (own_i fa)) (own_i fb)) (own_i fc)) (own_i fv)) (own_i fw)).1.getD (Int32.toNatClampNeg (0 : Int32)) 0) = (((own_remM (own_remM (own_addM (own_addM (own_addM [0, 0, 0, 0] (own_i fa)) (own_i fb)) (own_i fc)) (own_i fv)) (own_i fw))).getD 0 0)) && (decide ((1 : Int32) < (((own_remM (own_remM (own_addM (own_addM (own_addM [0, 0, 0, 0] (own_i fa)) (own_i fb)) (own_i fc)) (own_i fv)) (own_i fw))).getD 3 0)) && (decide (((own_rem (own_rem (own_add (own_add (own_add own_init (own_i fa)) (own_i fb)) (own_i fc)) (own_i fv)) (own_i fw)).1.getD (Int32.toNatClampNeg (1 : Int32)) 0) = (((own_remM (own_remM (own_addM (own_addM (own_addM [0, 0, 0, 0] (own_i fa)) (own_i fb)) (own_i fc)) (own_i fv)) (own_i fw))).getD 1 0)) && (decide ((2 : Int32) < (((own_remM (own_remM (own_addM (own_addM (own_addM [0, 0, 0, 0] (own_i fa)) (own_i fb)) (own_i fc)) (own_i fv)) (own_i fw))).getD 3 0)) && true)))))) || decide (own_okG (own_rem (own_rem (own_add (own_add (own_add own_init (own_i fa)) (own_i fb)) (own_i fc)) (own_i fv)) (own_i fw)) (2 : Int32) = true)) = true := by decide +kernel
theorem own_f91 : ∀ fa fb fc fv fw : Fin 4, (!(decide (((own_rem (own_rem (own_add (own_add (own_add own_init (own_i fa)) (own_i fb)) (own_i fc)) (own_i fv)) (own_i fw)).2.2) = (((own_remM (own_remM (own_addM (own_addM (own_addM [0, 0, 0, 0] (own_i fa)) (own_i fb)) (own_i fc)) (own_i fv)) (own_i fw))).getD 3 0)) && (decide ((0 : Int32) < (((own_remM (own_remM (own_addM (own_addM (own_addM [0, 0, 0, 0] (own_i fa)) (own_i fb)) (own_i fc)) (own_i fv)) (own_i fw))).getD 3 0)) && (decide (((own_rem (own_rem (own_add (own_add (own_add own_init (own_i fa)) (own_i fb)) (own_i fc)) (own_i fv)) (own_i fw)).1.getD (Int32.toNatClampNeg (0 : Int32)) 0) = (((own_remM (own_remM (own_addM (own_addM (own_addM [0, 0, 0, 0] (own_i fa)) (own_i fb)) (own_i fc)) (own_i fv)) (own_i fw))).getD 0 0)) && (decide ((1 : Int32) < (((own_remM (own_remM (own_addM (own_addM (own_addM [0, 0, 0, 0] (own_i fa)) (own_i fb)) (own_i fc)) (own_i fv)) (own_i fw))).getD 3 0)) && (decide (((own_rem (own_rem (own_add (own_add (own_add own_init (own_i fa)) (own_i fb)) (own_i fc)) (own_i fv)) (own_i fw)).1.getD (Int32.toNatClampNeg (1 : Int32)) 0) = (((own_remM (own_remM (own_addM (own_addM (own_addM [0, 0, 0, 0] (own_i fa)) (own_i fb)) (own_i fc)) (own_i fv)) (own_i fw))).getD 1 0)) && (decide ((2 : Int32) < (((own_remM (own_remM (own_addM (own_addM (own_addM [0, 0, 0, 0] (own_i fa)) (own_i fb)) (own_i fc)) (own_i fv)) (own_i fw))).getD 3 0)) && (decide (¬ ((own_rem (own_rem (own_add (own_add (own_add own_init (own_i fa)) (own_i fb)) (own_i fc)) (own_i fv)) (own_i fw)).1.getD (Int32.toNatClampNeg (2 : Int32)) 0) = (((own_remM (own_remM (own_addM (own_addM (own_addM [0, 0, 0, 0] (own_i fa)) (own_i fb)) (own_i fc)) (own_i fv)) (own_i fw))).getD 2 0)) && true))))))) || decide (False)) = true := by decide +kernel
theorem own_f92 : ∀ fa fb fc fv fw : Fin 4, (!(decide (((own_rem (own_rem (own_add (own_add (own_add own_init (own_i fa)) (own_i fb)) (own_i fc)) (own_i fv)) (own_i fw)).2.2) = (((own_remM (own_remM (own_addM (own_addM (own_addM [0, 0, 0, 0] (own_i fa)) (own_i fb)) (own_i fc)) (own_i fv)) (own_i fw))).getD 3 0)) && (decide ((0 : Int32) < (((own_remM (own_remM (own_addM (own_addM (own_addM [0, 0, 0, 0] (own_i fa)) (own_i fb)) (own_i fc)) (own_i fv)) (own_i fw))).getD 3 0)) && (decide (((own_rem (own_rem (own_add (own_add (own_add own_init (own_i fa)) (own_i fb)) (own_i fc)) (own_i fv)) (own_i fw)).1.getD (Int32.toNatClampNeg (0 : Int32)) 0) = (((own_remM (own_remM (own_addM (own_addM (own_addM [0, 0, 0, 0] (own_i fa)) (own_i fb)) (own_i fc)) (own_i fv)) (own_i fw))).getD 0 0)) && (decide ((1 : Int32) < (((own_remM (own_remM (own_addM (own_addM (own_addM [0, 0, 0, 0] (own_i fa)) (own_i fb)) (own_i fc)) (own_i fv)) (own_i fw))).getD 3 0)) && (decide (¬ ((own_rem (own_rem (own_add (own_add (own_add own_init (own_i fa)) (own_i fb)) (own_i fc)) (own_i fv)) (own_i fw)).1.getD (Int32.toNatClampNeg (1 : Int32)) 0) = (((own_remM (own_remM (own_addM (own_addM (own_addM [0, 0, 0, 0] (own_i fa)) (own_i fb)) (own_i fc)) (own_i fv)) (own_i fw))).getD 1 0)) && true))))) || decide (False)) = true := by decide +kernel
theorem own_f93 : ∀ fa fb fc fv fw : Fin 4, (!(decide (((own_rem (own_rem (own_add (own_add (own_add own_init (own_i fa)) (own_i fb)) (own_i fc)) (own_i fv)) (own_i fw)).2.2) = (((own_remM (own_remM (own_addM (own_addM (own_addM [0, 0, 0, 0] (own_i fa)) (own_i fb)) (own_i fc)) (own_i fv)) (own_i fw))).getD 3 0)) && (decide ((0 : Int32) < (((own_remM (own_remM (own_addM (own_addM (own_addM [0, 0, 0, 0] (own_i fa)) (own_i fb)) (own_i fc)) (own_i fv)) (own_i fw))).getD 3 0)) && (decide (¬ ((own_rem (own_rem (own_add (own_add (own_add own_init (own_i fa)) (own_i fb)) (own_i fc)) (own_i fv)) (own_i fw)).1.getD (Int32.toNatClampNeg (0 : Int32)) 0) = (((own_remM (own_remM (own_addM (own_addM (own_addM [0, 0, 0, 0] (own_i fa)) (own_i fb)) (own_i fc)) (own_i fv)) (own_i fw))).getD 0 0)) && true))) || decide (False)) = true := by decide +kernel
theorem own_f94 : ∀ fa fb fc fv fw : Fin 4, (!(decide (¬ ((own_rem (own_rem (own_add (own_add (own_add own_init (own_i fa)) (own_i fb)) (own_i fc)) (own_i fv)) (own_i fw)).2.2) = (((own_remM (own_remM (own_addM (own_addM (own_addM [0, 0, 0, 0] (own_i fa)) (own_i fb)) (own_i fc)) (own_i fv)) (own_i fw))).getD 3 0)) && true) || decide (False)) = true := by decide +kernel

theorem d3_0 : decode jdk_65_method_103_code 0 = .ok (.iconst 0, 1) := by decide +kernel
theorem d3_1 : decode jdk_65_method_103_code 1 = .ok (.istore_n 2, 1) := by decide +kernel
theorem d3_2 : decode jdk_65_method_103_code 2 = .ok (.aload_n 0, 1) := by decide +kernel
theorem d3_3 : decode jdk_65_method_103_code 3 = .ok (.arraylength, 1) := by decide +kernel
theorem d3_4 : decode jdk_65_method_103_code 4 = .ok (.istore_n 3, 1) := by decide +kernel
theorem d3_5 : decode jdk_65_method_103_code 5 = .ok (.iload_n 2, 1) := by decide +kernel
theorem d3_6 : decode jdk_65_method_103_code 6 = .ok (.iload_n 3, 1) := by decide +kernel
theorem d3_7 : decode jdk_65_method_103_code 7 = .ok (.if_icmp .ge 13, 3) := by decide +kernel
theorem d3_10 : decode jdk_65_method_103_code 10 = .ok (.aload_n 0, 1) := by decide +kernel
theorem d3_11 : decode jdk_65_method_103_code 11 = .ok (.iload_n 2, 1) := by decide +kernel
theorem d3_12 : decode jdk_65_method_103_code 12 = .ok (.iload_n 1, 1) := by decide +kernel
theorem d3_13 : decode jdk_65_method_103_code 13 = .ok (.iastore, 1) := by decide +kernel
theorem d3_14 : decode jdk_65_method_103_code 14 = .ok (.iinc 2 1, 3) := by decide +kernel
theorem d3_17 : decode jdk_65_method_103_code 17 = .ok (.goto (-12), 3) := by decide +kernel
theorem d3_20 : decode jdk_65_method_103_code 20 = .ok (.return_, 1) := by decide +kernel

theorem pd3 : parseMethodDescriptor "([II)V" = some ⟨[(.array .int), .int], none⟩ := by decide +kernel
theorem pl3 : plainFor (⟨"java/util/Arrays", "fill", "([II)V"⟩ : MethodName) = true := by first | exact plainFor_of_name (by first | (simp [plainName, overriddenIn]; done) | decide +kernel) | decide +kernel

theorem ef_k_fill (m : MethodId) (x0 : Addr) (x1 : Int32) : entryFrame m #[(.ref x0), (.int x1)] 4 = mkF m 0 #[.val (.ref x0), .val (.int x1), .unset, .unset] [] := by first | (simp [entryFrame, mkF, argsToLocals, Value.category]; done) | rfl

set_option maxRecDepth 65536 in
set_option maxHeartbeats 40000000 in
theorem k_fill {l : Launch} {Z : State} {a0 : Array Value} (hw : ∀ d ∈ tables_1, d.before a0 Z = true)  (h : Heap) (hz : Z.heap.size ≤ h.size) (a : Addr) (x : Int32) (fa0 : Ari Z h a .int [0, 0, 0, 0])  (ge_a : Z.heap.size ≤ a)  : Go l Z (⟨"java/util/Arrays", "fill", "([II)V"⟩ : MethodName) jdk_65_method_103_code 4 (Option.none : Option Jvm.ClassFile.FieldType) ({ frames := 0, cells := 0, slots := 0, locals := 0 } : Room) (QV fun h' => Keep h h' [a] ∧ Ari Z h' a .int [x, x, x, x]) 0 0 h 0 #[.val (.ref a), .val (.int x), .unset, .unset] [] := by
  have kp0 : Keep h h [a] := Keep.refl _ _
  refine Go.iconst 1 (0) d3_0 (by decide) rfl ?_
  refine Go.istore_n 2 #[.val (.ref a), .val (.int x), .val (.int (0 : Int32)), .unset] d3_1 rfl rfl ?_
  refine Go.aload_n 3 d3_2 rfl rfl rfl ?_
  refine Go.arraylength (z := (4 : Int32)) 4 d3_3 fa0 (by decide) rfl ?_
  refine Go.istore_n 5 #[.val (.ref a), .val (.int x), .val (.int (0 : Int32)), .val (.int (4 : Int32))] d3_4 rfl rfl ?_
  refine Go.iload_n 6 d3_5 rfl rfl ?_
  refine Go.iload_n 7 d3_6 rfl rfl ?_
  refine Go.icmp_ge 20 10 d3_7 (by decide) (by decide) rfl (fun c => absurd c (by decide)) (fun _ => ?_)
  refine Go.aload_n 11 d3_10 rfl rfl rfl ?_
  refine Go.iload_n 12 d3_11 rfl rfl ?_
  refine Go.iload_n 13 d3_12 rfl rfl ?_
  refine Go.iastore (0) ([x, 0, 0, 0]) 14 d3_13 fa0 (by decide) (by decide) (by decide : (0 : Nat) < 4) rfl ge_a rfl (fun h2 W3 A4 => ?_)
  have zs5 : Z.heap.size ≤ h2.size := W3.size ▸ hz
  have kp6 : Keep h h2 [a] := kp0.wr W3 (Or.inl (by simp))
  refine Go.iinc 17 (1) #[.val (.ref a), .val (.int x), .val (.int ((0 : Int32) + (1 : Int32))), .val (.int (4 : Int32))] d3_14 (by decide) rfl rfl rfl ?_
  refine Go.goto 5 d3_17 (by decide) (by decide) ?_
  refine Go.iload_n 6 d3_5 rfl rfl ?_
  refine Go.iload_n 7 d3_6 rfl rfl ?_
  refine Go.icmp_ge 20 10 d3_7 (by decide) (by decide) rfl (fun c => absurd c (by decide)) (fun _ => ?_)
  refine Go.aload_n 11 d3_10 rfl rfl rfl ?_
  refine Go.iload_n 12 d3_11 rfl rfl ?_
  refine Go.iload_n 13 d3_12 rfl rfl ?_
  refine Go.iastore (1) ([x, x, 0, 0]) 14 d3_13 A4 (by decide) (by decide) (by decide : (1 : Nat) < 4) rfl ge_a rfl (fun h8 W9 A10 => ?_)
  have zs11 : Z.heap.size ≤ h8.size := W9.size ▸ zs5
  have kp12 : Keep h h8 [a] := kp6.wr W9 (Or.inl (by simp))
  refine Go.iinc 17 (1) #[.val (.ref a), .val (.int x), .val (.int (((0 : Int32) + (1 : Int32)) + (1 : Int32))), .val (.int (4 : Int32))] d3_14 (by decide) rfl rfl rfl ?_
  refine Go.goto 5 d3_17 (by decide) (by decide) ?_
  refine Go.iload_n 6 d3_5 rfl rfl ?_
  refine Go.iload_n 7 d3_6 rfl rfl ?_
  refine Go.icmp_ge 20 10 d3_7 (by decide) (by decide) rfl (fun c => absurd c (by decide)) (fun _ => ?_)
  refine Go.aload_n 11 d3_10 rfl rfl rfl ?_
  refine Go.iload_n 12 d3_11 rfl rfl ?_
  refine Go.iload_n 13 d3_12 rfl rfl ?_
  refine Go.iastore (2) ([x, x, x, 0]) 14 d3_13 A10 (by decide) (by decide) (by decide : (2 : Nat) < 4) rfl ge_a rfl (fun h14 W15 A16 => ?_)
  have zs17 : Z.heap.size ≤ h14.size := W15.size ▸ zs11
  have kp18 : Keep h h14 [a] := kp12.wr W15 (Or.inl (by simp))
  refine Go.iinc 17 (1) #[.val (.ref a), .val (.int x), .val (.int ((((0 : Int32) + (1 : Int32)) + (1 : Int32)) + (1 : Int32))), .val (.int (4 : Int32))] d3_14 (by decide) rfl rfl rfl ?_
  refine Go.goto 5 d3_17 (by decide) (by decide) ?_
  refine Go.iload_n 6 d3_5 rfl rfl ?_
  refine Go.iload_n 7 d3_6 rfl rfl ?_
  refine Go.icmp_ge 20 10 d3_7 (by decide) (by decide) rfl (fun c => absurd c (by decide)) (fun _ => ?_)
  refine Go.aload_n 11 d3_10 rfl rfl rfl ?_
  refine Go.iload_n 12 d3_11 rfl rfl ?_
  refine Go.iload_n 13 d3_12 rfl rfl ?_
  refine Go.iastore (3) ([x, x, x, x]) 14 d3_13 A16 (by decide) (by decide) (by decide : (3 : Nat) < 4) rfl ge_a rfl (fun h20 W21 A22 => ?_)
  have zs23 : Z.heap.size ≤ h20.size := W21.size ▸ zs17
  have kp24 : Keep h h20 [a] := kp18.wr W21 (Or.inl (by simp))
  refine Go.iinc 17 (1) #[.val (.ref a), .val (.int x), .val (.int (((((0 : Int32) + (1 : Int32)) + (1 : Int32)) + (1 : Int32)) + (1 : Int32))), .val (.int (4 : Int32))] d3_14 (by decide) rfl rfl rfl ?_
  refine Go.goto 5 d3_17 (by decide) (by decide) ?_
  refine Go.iload_n 6 d3_5 rfl rfl ?_
  refine Go.iload_n 7 d3_6 rfl rfl ?_
  refine Go.icmp_ge 20 10 d3_7 (by decide) (by decide) rfl (fun _ => ?_) (fun c => absurd c (by decide))
  refine Go.vreturn d3_20 rfl (by decide) (by decide) ?_
  exact ⟨kp24, A22⟩

theorem d1_0 : decode prog_43_method_1_code 0 = .ok (.aload_n 0, 1) := by decide +kernel
theorem d1_1 : decode prog_43_method_1_code 1 = .ok (.invokespecial 1, 3) := by decide +kernel
theorem d1_4 : decode prog_43_method_1_code 4 = .ok (.aload_n 0, 1) := by decide +kernel
theorem d1_5 : decode prog_43_method_1_code 5 = .ok (.iload_n 1, 1) := by decide +kernel
theorem d1_6 : decode prog_43_method_1_code 6 = .ok (.newarray .int, 2) := by decide +kernel
theorem d1_8 : decode prog_43_method_1_code 8 = .ok (.putfield 7, 3) := by decide +kernel
theorem d1_11 : decode prog_43_method_1_code 11 = .ok (.aload_n 0, 1) := by decide +kernel
theorem d1_12 : decode prog_43_method_1_code 12 = .ok (.iload_n 1, 1) := by decide +kernel
theorem d1_13 : decode prog_43_method_1_code 13 = .ok (.newarray .int, 2) := by decide +kernel
theorem d1_15 : decode prog_43_method_1_code 15 = .ok (.putfield 13, 3) := by decide +kernel
theorem d1_18 : decode prog_43_method_1_code 18 = .ok (.aload_n 0, 1) := by decide +kernel
theorem d1_19 : decode prog_43_method_1_code 19 = .ok (.getfield 13, 3) := by decide +kernel
theorem d1_22 : decode prog_43_method_1_code 22 = .ok (.iconst (-1), 1) := by decide +kernel
theorem d1_23 : decode prog_43_method_1_code 23 = .ok (.invokestatic 16, 3) := by decide +kernel
theorem d1_26 : decode prog_43_method_1_code 26 = .ok (.return_, 1) := by decide +kernel

theorem pd1 : parseMethodDescriptor "(I)V" = some ⟨[.int], none⟩ := by decide +kernel
theorem pl1 : plainFor (⟨"com/example/wary_mutex/warymutex/message/IndexSet", "<init>", "(I)V"⟩ : MethodName) = true := by first | exact plainFor_of_name (by first | (simp [plainName, overriddenIn]; done) | decide +kernel) | decide +kernel

theorem ef_k_init (m : MethodId) (x0 : Addr) (x1 : Int32) : entryFrame m #[(.ref x0), (.int x1)] 2 = mkF m 0 #[.val (.ref x0), .val (.int x1)] [] := by first | (simp [entryFrame, mkF, argsToLocals, Value.category]; done) | rfl

set_option maxRecDepth 65536 in
set_option maxHeartbeats 40000000 in
theorem k_init {l : Launch} {Z : State} {a0 : Array Value} (hw : ∀ d ∈ tables_1, d.before a0 Z = true)  (h : Heap) (hz : Z.heap.size ≤ h.size) (a : Addr) (fa0 : Exa Z h a "com/example/wary_mutex/warymutex/message/IndexSet") (fa1 : Fld Z h a "com/example/wary_mutex/warymutex/message/IndexSet" "members" "[I" (.null)) (fa2 : Fld Z h a "com/example/wary_mutex/warymutex/message/IndexSet" "positions" "[I" (.null)) (fa3 : Fld Z h a "com/example/wary_mutex/warymutex/message/IndexSet" "size" "I" (.int (0 : Int32)))  (ge_a : Z.heap.size ≤ a)  : Go l Z (⟨"com/example/wary_mutex/warymutex/message/IndexSet", "<init>", "(I)V"⟩ : MethodName) prog_43_method_1_code 2 (Option.none : Option Jvm.ClassFile.FieldType) ({ frames := 1, cells := 2, slots := 8, locals := 32 } : Room) (QV fun h' => ∃ am ap : Addr, h.size ≤ am ∧ h.size ≤ ap ∧ am ≠ ap ∧ Keep h h' [a] ∧ Exa Z h' a "com/example/wary_mutex/warymutex/message/IndexSet" ∧ Fld Z h' a "com/example/wary_mutex/warymutex/message/IndexSet" "members" "[I" (.ref am) ∧ Fld Z h' a "com/example/wary_mutex/warymutex/message/IndexSet" "positions" "[I" (.ref ap) ∧ Fld Z h' a "com/example/wary_mutex/warymutex/message/IndexSet" "size" "I" (.int (own_init).2.2) ∧ Ari Z h' am .int (own_init).1 ∧ Ari Z h' ap .int (own_init).2.1) 0 0 h 0 #[.val (.ref a), .val (.int (4 : Int32))] [] := by
  have kp0 : Keep h h [a] := Keep.refl _ _
  refine Go.aload_n 1 d1_0 rfl rfl rfl ?_
  refine Go.initO 0 4 d1_1 (tw7 hw) (tw8 hw) (tw9 hw) rfl (by decide) (Nat.le_of_eq rfl) (by decide) rfl ?_
  refine Go.aload_n 5 d1_4 rfl rfl rfl ?_
  refine Go.iload_n 6 d1_5 rfl rfl ?_
  refine Go.newI (cap := 4) (xs := [0, 0, 0, 0]) 8 d1_6 (tw0 hw) rfl (by decide) (by decide) (by decide) rfl (by decide) (by decide) rfl (fun a1 h2 q3 E4 A5 => ?_)
  have ne6 : a ≠ a1 := fun e => absurd fa0.lt (by rw [e, q3]; exact Nat.lt_irrefl _)
  have ge7 : Z.heap.size ≤ a1 := (Eq.symm q3) ▸ hz
  have fr8 : h.size ≤ a1 := by rw [q3]; exact kp0.1
  have f9 : Exa Z h2 a "com/example/wary_mutex/warymutex/message/IndexSet" := fa0.ext E4
  have f10 : Fld Z h2 a "com/example/wary_mutex/warymutex/message/IndexSet" "members" "[I" (.null) := fa1.ext E4
  have f11 : Fld Z h2 a "com/example/wary_mutex/warymutex/message/IndexSet" "positions" "[I" (.null) := fa2.ext E4
  have f12 : Fld Z h2 a "com/example/wary_mutex/warymutex/message/IndexSet" "size" "I" (.int (0 : Int32)) := fa3.ext E4
  have zs13 : Z.heap.size ≤ h2.size := Nat.le_trans hz E4.1
  have kp14 : Keep h h2 [a] := kp0.ext E4
  refine Go.putfield (ty := (.array .int)) 11 d1_8 (tw10 hw) f10 f9 (Or.inr ⟨(tw11 hw), rfl, rfl⟩) (tw2 hw) (by decide) rfl rfl ge_a rfl (fun h15 W16 => ?_)
  have f17 : Exa Z h15 a "com/example/wary_mutex/warymutex/message/IndexSet" := f9.wr W16
  have f18 : Fld Z h15 a "com/example/wary_mutex/warymutex/message/IndexSet" "members" "[I" (.ref a1) := f10.same W16
  have f19 : Fld Z h15 a "com/example/wary_mutex/warymutex/message/IndexSet" "positions" "[I" (.null) := f11.other W16 (Or.inr (slot_ne (Or.inr (tw13 hw)) (Or.inr (tw11 hw)) (by decide) (by decide +kernel : parseFieldDescriptor "[I" = some (.array .int)) (by decide +kernel : parseFieldDescriptor "[I" = some (.array .int))))
  have f20 : Fld Z h15 a "com/example/wary_mutex/warymutex/message/IndexSet" "size" "I" (.int (0 : Int32)) := f12.other W16 (Or.inr (slot_ne (Or.inl (tw24 hw)) (Or.inr (tw11 hw)) (by decide) (by decide +kernel : parseFieldDescriptor "I" = some .int) (by decide +kernel : parseFieldDescriptor "[I" = some (.array .int))))
  have f21 : Ari Z h15 a1 .int [0, 0, 0, 0] := A5.other W16 (Ne.symm ne6)
  have zs22 : Z.heap.size ≤ h15.size := W16.size ▸ zs13
  have kp23 : Keep h h15 [a] := kp14.wr W16 (Or.inl (by simp))
  refine Go.aload_n 12 d1_11 rfl rfl rfl ?_
  refine Go.iload_n 13 d1_12 rfl rfl ?_
  refine Go.newI (cap := 4) (xs := [0, 0, 0, 0]) 15 d1_13 (tw0 hw) rfl (by decide) (by decide) (by decide) rfl (by decide) (by decide) rfl (fun a24 h25 q26 E27 A28 => ?_)
  have ne29 : a ≠ a24 := fun e => absurd f17.lt (by rw [e, q26]; exact Nat.lt_irrefl _)
  have ne30 : a1 ≠ a24 := fun e => absurd f21.lt (by rw [e, q26]; exact Nat.lt_irrefl _)
  have ge31 : Z.heap.size ≤ a24 := (Eq.symm q26) ▸ zs22
  have fr32 : h.size ≤ a24 := by rw [q26]; exact kp23.1
  have f33 : Exa Z h25 a "com/example/wary_mutex/warymutex/message/IndexSet" := f17.ext E27
  have f34 : Fld Z h25 a "com/example/wary_mutex/warymutex/message/IndexSet" "members" "[I" (.ref a1) := f18.ext E27
  have f35 : Fld Z h25 a "com/example/wary_mutex/warymutex/message/IndexSet" "positions" "[I" (.null) := f19.ext E27
  have f36 : Fld Z h25 a "com/example/wary_mutex/warymutex/message/IndexSet" "size" "I" (.int (0 : Int32)) := f20.ext E27
  have f37 : Ari Z h25 a1 .int [0, 0, 0, 0] := f21.ext E27
  have zs38 : Z.heap.size ≤ h25.size := Nat.le_trans zs22 E27.1
  have kp39 : Keep h h25 [a] := kp23.ext E27
  refine Go.putfield (ty := (.array .int)) 18 d1_15 (tw12 hw) f35 f33 (Or.inr ⟨(tw13 hw), rfl, rfl⟩) (tw2 hw) (by decide) rfl rfl ge_a rfl (fun h40 W41 => ?_)
  have f42 : Exa Z h40 a "com/example/wary_mutex/warymutex/message/IndexSet" := f33.wr W41
  have f43 : Fld Z h40 a "com/example/wary_mutex/warymutex/message/IndexSet" "members" "[I" (.ref a1) := f34.other W41 (Or.inr (slot_ne (Or.inr (tw11 hw)) (Or.inr (tw13 hw)) (by decide) (by decide +kernel : parseFieldDescriptor "[I" = some (.array .int)) (by decide +kernel : parseFieldDescriptor "[I" = some (.array .int))))
  have f44 : Fld Z h40 a "com/example/wary_mutex/warymutex/message/IndexSet" "positions" "[I" (.ref a24) := f35.same W41
  have f45 : Fld Z h40 a "com/example/wary_mutex/warymutex/message/IndexSet" "size" "I" (.int (0 : Int32)) := f36.other W41 (Or.inr (slot_ne (Or.inl (tw24 hw)) (Or.inr (tw13 hw)) (by decide) (by decide +kernel : parseFieldDescriptor "I" = some .int) (by decide +kernel : parseFieldDescriptor "[I" = some (.array .int))))
  have f46 : Ari Z h40 a1 .int [0, 0, 0, 0] := f37.other W41 (Ne.symm ne6)
  have f47 : Ari Z h40 a24 .int [0, 0, 0, 0] := A28.other W41 (Ne.symm ne29)
  have zs48 : Z.heap.size ≤ h40.size := W41.size ▸ zs38
  have kp49 : Keep h h40 [a] := kp39.wr W41 (Or.inl (by simp))
  refine Go.aload_n 19 d1_18 rfl rfl rfl ?_
  refine Go.getfield 22 d1_19 (tw12 hw) f44 rfl ?_
  refine Go.iconst 23 (-1) d1_22 (by decide) rfl ?_
  refine Go.callSV [.ref a24, .int (-1 : Int32)] [] 26 d1_23 (tw14 hw) (tw15 hw) (tw16 hw) (tw17 hw) pl3 (by decide) (lenOf pd3 rfl) rfl (fun m => ef_k_fill m a24 (-1 : Int32)) _ (k_fill hw h40 zs48 a24 (-1 : Int32) f47 ge31) 0 rfl (Nat.le_of_eq rfl) (by decide) (by decide) (by decide) (by decide) rfl ?_
  rintro h51 ⟨K52, f53⟩
  have f54 : Exa Z h51 a "com/example/wary_mutex/warymutex/message/IndexSet" := f42.keep K52
  have f55 : Fld Z h51 a "com/example/wary_mutex/warymutex/message/IndexSet" "members" "[I" (.ref a1) := f43.keep K52 (ninS ne29 nin0)
  have f56 : Fld Z h51 a "com/example/wary_mutex/warymutex/message/IndexSet" "positions" "[I" (.ref a24) := f44.keep K52 (ninS ne29 nin0)
  have f57 : Fld Z h51 a "com/example/wary_mutex/warymutex/message/IndexSet" "size" "I" (.int (0 : Int32)) := f45.keep K52 (ninS ne29 nin0)
  have f58 : Ari Z h51 a1 .int [0, 0, 0, 0] := f46.keep K52 (ninS ne30 nin0)
  have zs59 : Z.heap.size ≤ h51.size := Nat.le_trans zs48 K52.1
  have kp60 : Keep h h51 [a] := kp49.trans K52 (allS (Or.inr fr32) all0)
  refine Go.vreturn d1_26 rfl (by decide) (by decide) ?_
  exact ⟨a1, a24, fr8, fr32, ne30, kp60, f54, f55, f56, f57, f58, f53⟩

theorem d4_0 : decode prog_43_method_2_code 0 = .ok (.aload_n 0, 1) := by decide +kernel
theorem d4_1 : decode prog_43_method_2_code 1 = .ok (.getfield 13, 3) := by decide +kernel
theorem d4_4 : decode prog_43_method_2_code 4 = .ok (.iload_n 1, 1) := by decide +kernel
theorem d4_5 : decode prog_43_method_2_code 5 = .ok (.iaload, 1) := by decide +kernel
theorem d4_6 : decode prog_43_method_2_code 6 = .ok (.ifCond .ge 33, 3) := by decide +kernel
theorem d4_9 : decode prog_43_method_2_code 9 = .ok (.aload_n 0, 1) := by decide +kernel
theorem d4_10 : decode prog_43_method_2_code 10 = .ok (.getfield 7, 3) := by decide +kernel
theorem d4_13 : decode prog_43_method_2_code 13 = .ok (.aload_n 0, 1) := by decide +kernel
theorem d4_14 : decode prog_43_method_2_code 14 = .ok (.getfield 22, 3) := by decide +kernel
theorem d4_17 : decode prog_43_method_2_code 17 = .ok (.iload_n 1, 1) := by decide +kernel
theorem d4_18 : decode prog_43_method_2_code 18 = .ok (.iastore, 1) := by decide +kernel
theorem d4_19 : decode prog_43_method_2_code 19 = .ok (.aload_n 0, 1) := by decide +kernel
theorem d4_20 : decode prog_43_method_2_code 20 = .ok (.getfield 13, 3) := by decide +kernel
theorem d4_23 : decode prog_43_method_2_code 23 = .ok (.iload_n 1, 1) := by decide +kernel
theorem d4_24 : decode prog_43_method_2_code 24 = .ok (.aload_n 0, 1) := by decide +kernel
theorem d4_25 : decode prog_43_method_2_code 25 = .ok (.getfield 22, 3) := by decide +kernel
theorem d4_28 : decode prog_43_method_2_code 28 = .ok (.iastore, 1) := by decide +kernel
theorem d4_29 : decode prog_43_method_2_code 29 = .ok (.aload_n 0, 1) := by decide +kernel
theorem d4_30 : decode prog_43_method_2_code 30 = .ok (.dup, 1) := by decide +kernel
theorem d4_31 : decode prog_43_method_2_code 31 = .ok (.getfield 22, 3) := by decide +kernel
theorem d4_34 : decode prog_43_method_2_code 34 = .ok (.iconst 1, 1) := by decide +kernel
theorem d4_35 : decode prog_43_method_2_code 35 = .ok (.iadd, 1) := by decide +kernel
theorem d4_36 : decode prog_43_method_2_code 36 = .ok (.putfield 22, 3) := by decide +kernel
theorem d4_39 : decode prog_43_method_2_code 39 = .ok (.return_, 1) := by decide +kernel

theorem pd4 : parseMethodDescriptor "(I)V" = some ⟨[.int], none⟩ := by decide +kernel
theorem pl4 : plainFor (⟨"com/example/wary_mutex/warymutex/message/IndexSet", "add", "(I)V"⟩ : MethodName) = true := by first | exact plainFor_of_name (by first | (simp [plainName, overriddenIn]; done) | decide +kernel) | decide +kernel

theorem ef_k_add (m : MethodId) (x0 : Addr) (x1 : Int32) : entryFrame m #[(.ref x0), (.int x1)] 2 = mkF m 0 #[.val (.ref x0), .val (.int x1)] [] := by first | (simp [entryFrame, mkF, argsToLocals, Value.category]; done) | rfl

set_option maxRecDepth 65536 in
set_option maxHeartbeats 40000000 in
theorem k_add {l : Launch} {Z : State} {a0 : Array Value} (hw : ∀ d ∈ tables_1, d.before a0 Z = true) {am : Addr} {ap : Addr} {S : OwnS} (h : Heap) (hz : Z.heap.size ≤ h.size) (a : Addr) (x : Int32) (fa0 : Exa Z h a "com/example/wary_mutex/warymutex/message/IndexSet") (fa1 : Fld Z h a "com/example/wary_mutex/warymutex/message/IndexSet" "members" "[I" (.ref am)) (fa2 : Fld Z h a "com/example/wary_mutex/warymutex/message/IndexSet" "positions" "[I" (.ref ap)) (fa3 : Fld Z h a "com/example/wary_mutex/warymutex/message/IndexSet" "size" "I" (.int (S.2.2))) (fa4 : Ari Z h am .int (S.1)) (fa5 : Ari Z h ap .int (S.2.1)) (ok : own_okA S x = true) (ge_a : Z.heap.size ≤ a) (ge_am : Z.heap.size ≤ am) (ge_ap : Z.heap.size ≤ ap) (ne_a_am : a ≠ am) (ne_a_ap : a ≠ ap) (ne_am_ap : am ≠ ap) : Go l Z (⟨"com/example/wary_mutex/warymutex/message/IndexSet", "add", "(I)V"⟩ : MethodName) prog_43_method_2_code 2 (Option.none : Option Jvm.ClassFile.FieldType) ({ frames := 0, cells := 0, slots := 0, locals := 0 } : Room) (QV fun h' => Keep h h' [a, am, ap] ∧ Exa Z h' a "com/example/wary_mutex/warymutex/message/IndexSet" ∧ Fld Z h' a "com/example/wary_mutex/warymutex/message/IndexSet" "members" "[I" (.ref am) ∧ Fld Z h' a "com/example/wary_mutex/warymutex/message/IndexSet" "positions" "[I" (.ref ap) ∧ Fld Z h' a "com/example/wary_mutex/warymutex/message/IndexSet" "size" "I" (.int (own_add S x).2.2) ∧ Ari Z h' am .int (own_add S x).1 ∧ Ari Z h' ap .int (own_add S x).2.1) 0 0 h 0 #[.val (.ref a), .val (.int x)] [] := by
  have kp0 : Keep h h [a, am, ap] := Keep.refl _ _
  refine Go.aload_n 1 d4_0 rfl rfl rfl ?_
  refine Go.getfield 4 d4_1 (tw12 hw) fa2 rfl ?_
  refine Go.iload_n 5 d4_4 rfl rfl ?_
  refine Go.iaload (x := (S.2.1.getD (Int32.toNatClampNeg x) 0)) ((Int32.toNatClampNeg x)) 6 d4_5 fa5 (own_okA_e ok).1 rfl (own_getq (own_okA_e ok).2.1) rfl ?_
  refine Go.if_ge 39 9 d4_6 (by decide) (by decide) rfl (fun c1 => ?_) (fun c1 => ?_)
  ·
    refine Go.vreturn d4_39 rfl (by decide) (by decide) ?_
    rw [own_add_neg c1]
    exact ⟨kp0, fa0, fa1, fa2, fa3, fa4, fa5⟩
  ·
    refine Go.aload_n 10 d4_9 rfl rfl rfl ?_
    refine Go.getfield 13 d4_10 (tw10 hw) fa1 rfl ?_
    refine Go.aload_n 14 d4_13 rfl rfl rfl ?_
    refine Go.getfield 17 d4_14 (tw23 hw) fa3 rfl ?_
    refine Go.iload_n 18 d4_17 rfl rfl ?_
    refine Go.iastore ((Int32.toNatClampNeg S.2.2)) ((S.1.set (Int32.toNatClampNeg S.2.2) x)) 19 d4_18 fa4 ((own_okA_e ok).2.2 c1).1 rfl ((own_okA_e ok).2.2 c1).2 rfl ge_am rfl (fun h2 W3 A4 => ?_)
    have f5 : Exa Z h2 a "com/example/wary_mutex/warymutex/message/IndexSet" := fa0.wr W3
    have f6 : Fld Z h2 a "com/example/wary_mutex/warymutex/message/IndexSet" "members" "[I" (.ref am) := fa1.other W3 (Or.inl ne_a_am)
    have f7 : Fld Z h2 a "com/example/wary_mutex/warymutex/message/IndexSet" "positions" "[I" (.ref ap) := fa2.other W3 (Or.inl ne_a_am)
    have f8 : Fld Z h2 a "com/example/wary_mutex/warymutex/message/IndexSet" "size" "I" (.int (S.2.2)) := fa3.other W3 (Or.inl ne_a_am)
    have f9 : Ari Z h2 ap .int (S.2.1) := fa5.other W3 (Ne.symm ne_am_ap)
    have zs10 : Z.heap.size ≤ h2.size := W3.size ▸ hz
    have kp11 : Keep h h2 [a, am, ap] := kp0.wr W3 (Or.inl (by simp))
    refine Go.aload_n 20 d4_19 rfl rfl rfl ?_
    refine Go.getfield 23 d4_20 (tw12 hw) f7 rfl ?_
    refine Go.iload_n 24 d4_23 rfl rfl ?_
    refine Go.aload_n 25 d4_24 rfl rfl rfl ?_
    refine Go.getfield 28 d4_25 (tw23 hw) f8 rfl ?_
    refine Go.iastore ((Int32.toNatClampNeg x)) ((S.2.1.set (Int32.toNatClampNeg x) (S.2.2))) 29 d4_28 f9 (own_okA_e ok).1 rfl (own_okA_e ok).2.1 rfl ge_ap rfl (fun h12 W13 A14 => ?_)
    have f15 : Exa Z h12 a "com/example/wary_mutex/warymutex/message/IndexSet" := f5.wr W13
    have f16 : Fld Z h12 a "com/example/wary_mutex/warymutex/message/IndexSet" "members" "[I" (.ref am) := f6.other W13 (Or.inl ne_a_ap)
    have f17 : Fld Z h12 a "com/example/wary_mutex/warymutex/message/IndexSet" "positions" "[I" (.ref ap) := f7.other W13 (Or.inl ne_a_ap)
    have f18 : Fld Z h12 a "com/example/wary_mutex/warymutex/message/IndexSet" "size" "I" (.int (S.2.2)) := f8.other W13 (Or.inl ne_a_ap)
    have f19 : Ari Z h12 am .int (S.1.set (Int32.toNatClampNeg S.2.2) x) := A4.other W13 ne_am_ap
    have zs20 : Z.heap.size ≤ h12.size := W13.size ▸ zs10
    have kp21 : Keep h h12 [a, am, ap] := kp11.wr W13 (Or.inl (by simp))
    refine Go.aload_n 30 d4_29 rfl rfl rfl ?_
    refine Go.dup 31 d4_30 rfl rfl ?_
    refine Go.getfield 34 d4_31 (tw23 hw) f18 rfl ?_
    refine Go.iconst 35 (1) d4_34 (by decide) rfl ?_
    refine Go.iadd 36 d4_35 rfl ?_
    refine Go.nameI (fun v22 e23 => ?_)
    refine Go.putfield (ty := .int) 39 d4_36 (tw23 hw) f18 f15 (Or.inl (tw24 hw)) (tw2 hw) (by decide) rfl rfl ge_a rfl (fun h24 W25 => ?_)
    have f26 : Exa Z h24 a "com/example/wary_mutex/warymutex/message/IndexSet" := f15.wr W25
    have f27 : Fld Z h24 a "com/example/wary_mutex/warymutex/message/IndexSet" "members" "[I" (.ref am) := f16.other W25 (Or.inr (slot_ne (Or.inr (tw11 hw)) (Or.inl (tw24 hw)) (by decide) (by decide +kernel : parseFieldDescriptor "[I" = some (.array .int)) (by decide +kernel : parseFieldDescriptor "I" = some .int)))
    have f28 : Fld Z h24 a "com/example/wary_mutex/warymutex/message/IndexSet" "positions" "[I" (.ref ap) := f17.other W25 (Or.inr (slot_ne (Or.inr (tw13 hw)) (Or.inl (tw24 hw)) (by decide) (by decide +kernel : parseFieldDescriptor "[I" = some (.array .int)) (by decide +kernel : parseFieldDescriptor "I" = some .int)))
    have f29 : Fld Z h24 a "com/example/wary_mutex/warymutex/message/IndexSet" "size" "I" (.int v22) := f18.same W25
    have f30 : Ari Z h24 am .int (S.1.set (Int32.toNatClampNeg S.2.2) x) := f19.other W25 (Ne.symm ne_a_am)
    have f31 : Ari Z h24 ap .int (S.2.1.set (Int32.toNatClampNeg x) (S.2.2)) := A14.other W25 (Ne.symm ne_a_ap)
    have zs32 : Z.heap.size ≤ h24.size := W25.size ▸ zs20
    have kp33 : Keep h h24 [a, am, ap] := kp21.wr W25 (Or.inl (by simp))
    refine Go.vreturn d4_39 rfl (by decide) (by decide) ?_
    rw [own_add_pos c1]
    have sz9 : Fld Z h24 a "com/example/wary_mutex/warymutex/message/IndexSet" "size" "I" (.int (S.2.2 + 1)) := e23 ▸ f29
    exact ⟨kp33, f26, f27, f28, sz9, f30, f31⟩

theorem d8_0 : decode prog_43_method_4_code 0 = .ok (.aload_n 0, 1) := by decide +kernel
theorem d8_1 : decode prog_43_method_4_code 1 = .ok (.getfield 22, 3) := by decide +kernel
theorem d8_4 : decode prog_43_method_4_code 4 = .ok (.ireturn, 1) := by decide +kernel

theorem pd8 : parseMethodDescriptor "()I" = some ⟨[], some .int⟩ := by decide +kernel
theorem pl8 : plainFor (⟨"com/example/wary_mutex/warymutex/message/IndexSet", "size", "()I"⟩ : MethodName) = true := by first | exact plainFor_of_name (by first | (simp [plainName, overriddenIn]; done) | decide +kernel) | decide +kernel

theorem ef_k_size (m : MethodId) (x0 : Addr) : entryFrame m #[(.ref x0)] 1 = mkF m 0 #[.val (.ref x0)] [] := by first | (simp [entryFrame, mkF, argsToLocals, Value.category]; done) | rfl

set_option maxRecDepth 65536 in
set_option maxHeartbeats 40000000 in
theorem k_size {l : Launch} {Z : State} {a0 : Array Value} (hw : ∀ d ∈ tables_1, d.before a0 Z = true) {n : Int32} (h : Heap) (hz : Z.heap.size ≤ h.size) (a : Addr) (fa0 : Fld Z h a "com/example/wary_mutex/warymutex/message/IndexSet" "size" "I" (.int n))    : Go l Z (⟨"com/example/wary_mutex/warymutex/message/IndexSet", "size", "()I"⟩ : MethodName) prog_43_method_4_code 1 (Option.some Jvm.ClassFile.FieldType.int) ({ frames := 0, cells := 0, slots := 0, locals := 0 } : Room) (QI fun rz h' => rz = n ∧ h' = h) 0 0 h 0 #[.val (.ref a)] [] := by
  refine Go.aload_n 1 d8_0 rfl rfl rfl ?_
  refine Go.getfield 4 d8_1 (tw23 hw) fa0 rfl ?_
  refine Go.ireturn d8_4 rfl (by decide) (by decide) ?_
  exact ⟨by rfl, rfl⟩

theorem d11_0 : decode jdk_41_method_11_code 0 = .ok (.iload_n 0, 1) := by decide +kernel
theorem d11_1 : decode jdk_41_method_11_code 1 = .ok (.ifCond .lt 8, 3) := by decide +kernel
theorem d11_4 : decode jdk_41_method_11_code 4 = .ok (.iload_n 0, 1) := by decide +kernel
theorem d11_5 : decode jdk_41_method_11_code 5 = .ok (.iload_n 1, 1) := by decide +kernel
theorem d11_6 : decode jdk_41_method_11_code 6 = .ok (.if_icmp .lt 10, 3) := by decide +kernel
theorem d11_9 : decode jdk_41_method_11_code 9 = .ok (.aload_n 2, 1) := by decide +kernel
theorem d11_10 : decode jdk_41_method_11_code 10 = .ok (.iload_n 0, 1) := by decide +kernel
theorem d11_11 : decode jdk_41_method_11_code 11 = .ok (.iload_n 1, 1) := by decide +kernel
theorem d11_12 : decode jdk_41_method_11_code 12 = .ok (.invokestatic 95, 3) := by decide +kernel
theorem d11_15 : decode jdk_41_method_11_code 15 = .ok (.athrow, 1) := by decide +kernel
theorem d11_16 : decode jdk_41_method_11_code 16 = .ok (.iload_n 0, 1) := by decide +kernel
theorem d11_17 : decode jdk_41_method_11_code 17 = .ok (.ireturn, 1) := by decide +kernel

theorem pd11 : parseMethodDescriptor "(IILjava/util/function/BiFunction;)I" = some ⟨[.int, .int, (.object "java/util/function/BiFunction")], some .int⟩ := by decide +kernel
theorem pl11 : plainFor (⟨"jdk/internal/util/Preconditions", "checkIndex", "(IILjava/util/function/BiFunction;)I"⟩ : MethodName) = true := by first | exact plainFor_of_name (by first | (simp [plainName, overriddenIn]; done) | decide +kernel) | decide +kernel

theorem ef_k_pre (m : MethodId) (x0 : Int32) (x1 : Int32) (x2 : Unit) : entryFrame m #[(.int x0), (.int x1), .null] 3 = mkF m 0 #[.val (.int x0), .val (.int x1), .val .null] [] := by first | (simp [entryFrame, mkF, argsToLocals, Value.category]; done) | rfl

set_option maxRecDepth 65536 in
set_option maxHeartbeats 40000000 in
theorem k_pre {l : Launch} {Z : State} {a0 : Array Value} (hw : ∀ d ∈ tables_1, d.before a0 Z = true)  (h : Heap) (hz : Z.heap.size ≤ h.size) (x : Int32) (n : Int32) (u : Unit)  (h1 : ¬ x < 0) (h2 : x < n)   : Go l Z (⟨"jdk/internal/util/Preconditions", "checkIndex", "(IILjava/util/function/BiFunction;)I"⟩ : MethodName) jdk_41_method_11_code 3 (Option.some Jvm.ClassFile.FieldType.int) ({ frames := 0, cells := 0, slots := 0, locals := 0 } : Room) (QI fun rz h' => rz = x ∧ h' = h) 0 0 h 0 #[.val (.int x), .val (.int n), .val (.null)] [] := by
  refine Go.iload_n 1 d11_0 rfl rfl ?_
  refine Go.if_lt 9 4 d11_1 (by decide) (by decide) rfl (fun c1 => ?_) (fun c1 => ?_)
  ·
    exact absurd c1 h1
  ·
    refine Go.iload_n 5 d11_4 rfl rfl ?_
    refine Go.iload_n 6 d11_5 rfl rfl ?_
    refine Go.icmp_lt 16 9 d11_6 (by decide) (by decide) rfl (fun c2 => ?_) (fun c2 => ?_)
    ·
      refine Go.iload_n 17 d11_16 rfl rfl ?_
      refine Go.ireturn d11_17 rfl (by decide) (by decide) ?_
      exact ⟨by rfl, rfl⟩
    ·
      exact absurd h2 c2

theorem d10_0 : decode jdk_31_method_17_code 0 = .ok (.iload_n 0, 1) := by decide +kernel
theorem d10_1 : decode jdk_31_method_17_code 1 = .ok (.iload_n 1, 1) := by decide +kernel
theorem d10_2 : decode jdk_31_method_17_code 2 = .ok (.aconst_null, 1) := by decide +kernel
theorem d10_3 : decode jdk_31_method_17_code 3 = .ok (.invokestatic 105, 3) := by decide +kernel
theorem d10_6 : decode jdk_31_method_17_code 6 = .ok (.ireturn, 1) := by decide +kernel

theorem pd10 : parseMethodDescriptor "(II)I" = some ⟨[.int, .int], some .int⟩ := by decide +kernel
theorem pl10 : plainFor (⟨"java/util/Objects", "checkIndex", "(II)I"⟩ : MethodName) = true := by first | exact plainFor_of_name (by first | (simp [plainName, overriddenIn]; done) | decide +kernel) | decide +kernel

theorem ef_k_chk (m : MethodId) (x0 : Int32) (x1 : Int32) : entryFrame m #[(.int x0), (.int x1)] 2 = mkF m 0 #[.val (.int x0), .val (.int x1)] [] := by first | (simp [entryFrame, mkF, argsToLocals, Value.category]; done) | rfl

set_option maxRecDepth 65536 in
set_option maxHeartbeats 40000000 in
theorem k_chk {l : Launch} {Z : State} {a0 : Array Value} (hw : ∀ d ∈ tables_1, d.before a0 Z = true)  (h : Heap) (hz : Z.heap.size ≤ h.size) (x : Int32) (n : Int32)  (h1 : ¬ x < 0) (h2 : x < n)   : Go l Z (⟨"java/util/Objects", "checkIndex", "(II)I"⟩ : MethodName) jdk_31_method_17_code 2 (Option.some Jvm.ClassFile.FieldType.int) ({ frames := 1, cells := 0, slots := 0, locals := 32 } : Room) (QI fun rz h' => rz = x ∧ h' = h) 0 0 h 0 #[.val (.int x), .val (.int n)] [] := by
  refine Go.iload_n 1 d10_0 rfl rfl ?_
  refine Go.iload_n 2 d10_1 rfl rfl ?_
  refine Go.aconst_null 3 d10_2 rfl ?_
  refine Go.callSIp [.int x, .int n, .null] [] 6 d10_3 (tw51 hw) (tw52 hw) (tw53 hw) (tw54 hw) pl11 (by decide) (lenOf pd11 rfl) rfl (fun m => ef_k_pre m x n ()) _ (k_pre hw h hz x n () (by assumption) (by assumption)) 0 rfl (Nat.le_of_eq rfl) (by decide) (by decide) (by decide) (by decide) rfl ?_
  refine Go.ireturn d10_6 rfl (by decide) (by decide) ?_
  exact ⟨by rfl, rfl⟩

theorem d9_0 : decode prog_43_method_5_code 0 = .ok (.iload_n 1, 1) := by decide +kernel
theorem d9_1 : decode prog_43_method_5_code 1 = .ok (.aload_n 0, 1) := by decide +kernel
theorem d9_2 : decode prog_43_method_5_code 2 = .ok (.getfield 22, 3) := by decide +kernel
theorem d9_5 : decode prog_43_method_5_code 5 = .ok (.invokestatic 26, 3) := by decide +kernel
theorem d9_8 : decode prog_43_method_5_code 8 = .ok (.pop, 1) := by decide +kernel
theorem d9_9 : decode prog_43_method_5_code 9 = .ok (.aload_n 0, 1) := by decide +kernel
theorem d9_10 : decode prog_43_method_5_code 10 = .ok (.getfield 7, 3) := by decide +kernel
theorem d9_13 : decode prog_43_method_5_code 13 = .ok (.iload_n 1, 1) := by decide +kernel
theorem d9_14 : decode prog_43_method_5_code 14 = .ok (.iaload, 1) := by decide +kernel
theorem d9_15 : decode prog_43_method_5_code 15 = .ok (.ireturn, 1) := by decide +kernel

theorem pd9 : parseMethodDescriptor "(I)I" = some ⟨[.int], some .int⟩ := by decide +kernel
theorem pl9 : plainFor (⟨"com/example/wary_mutex/warymutex/message/IndexSet", "get", "(I)I"⟩ : MethodName) = true := by first | exact plainFor_of_name (by first | (simp [plainName, overriddenIn]; done) | decide +kernel) | decide +kernel

theorem ef_k_get (m : MethodId) (x0 : Addr) (x1 : Int32) : entryFrame m #[(.ref x0), (.int x1)] 2 = mkF m 0 #[.val (.ref x0), .val (.int x1)] [] := by first | (simp [entryFrame, mkF, argsToLocals, Value.category]; done) | rfl

set_option maxRecDepth 65536 in
set_option maxHeartbeats 40000000 in
theorem k_get {l : Launch} {Z : State} {a0 : Array Value} (hw : ∀ d ∈ tables_1, d.before a0 Z = true) {am : Addr} {S : OwnS} (h : Heap) (hz : Z.heap.size ≤ h.size) (a : Addr) (x : Int32) (fa0 : Fld Z h a "com/example/wary_mutex/warymutex/message/IndexSet" "members" "[I" (.ref am)) (fa1 : Fld Z h a "com/example/wary_mutex/warymutex/message/IndexSet" "size" "I" (.int (S.2.2))) (fa2 : Ari Z h am .int (S.1)) (ok : own_okG S x = true)   : Go l Z (⟨"com/example/wary_mutex/warymutex/message/IndexSet", "get", "(I)I"⟩ : MethodName) prog_43_method_5_code 2 (Option.some Jvm.ClassFile.FieldType.int) ({ frames := 2, cells := 0, slots := 0, locals := 64 } : Room) (QI fun rz h' => rz = (S.1.getD (Int32.toNatClampNeg x) 0) ∧ h' = h) 0 0 h 0 #[.val (.ref a), .val (.int x)] [] := by
  refine Go.iload_n 1 d9_0 rfl rfl ?_
  refine Go.aload_n 2 d9_1 rfl rfl rfl ?_
  refine Go.getfield 5 d9_2 (tw23 hw) fa1 rfl ?_
  refine Go.callSIp [.int x, .int (S.2.2)] [] 8 d9_5 (tw47 hw) (tw48 hw) (tw49 hw) (tw50 hw) pl10 (by decide) (lenOf pd10 rfl) rfl (fun m => ef_k_chk m x (S.2.2)) _ (k_chk hw h hz x (S.2.2) (own_okG_e ok).1 (own_okG_e ok).2.1) 0 rfl (Nat.le_of_eq rfl) (by decide) (by decide) (by decide) (by decide) rfl ?_
  refine Go.pop 9 d9_8 rfl rfl ?_
  refine Go.aload_n 10 d9_9 rfl rfl rfl ?_
  refine Go.getfield 13 d9_10 (tw10 hw) fa0 rfl ?_
  refine Go.iload_n 14 d9_13 rfl rfl ?_
  refine Go.iaload (x := (S.1.getD (Int32.toNatClampNeg x) 0)) ((Int32.toNatClampNeg x)) 15 d9_14 fa2 (own_okG_e ok).1 rfl (own_getq (own_okG_e ok).2.2) rfl ?_
  refine Go.ireturn d9_15 rfl (by decide) (by decide) ?_
  exact ⟨by rfl, rfl⟩

theorem d6_0 : decode prog_43_method_3_code 0 = .ok (.aload_n 0, 1) := by decide +kernel
theorem d6_1 : decode prog_43_method_3_code 1 = .ok (.getfield 13, 3) := by decide +kernel
theorem d6_4 : decode prog_43_method_3_code 4 = .ok (.iload_n 1, 1) := by decide +kernel
theorem d6_5 : decode prog_43_method_3_code 5 = .ok (.iaload, 1) := by decide +kernel
theorem d6_6 : decode prog_43_method_3_code 6 = .ok (.istore_n 2, 1) := by decide +kernel
theorem d6_7 : decode prog_43_method_3_code 7 = .ok (.iload_n 2, 1) := by decide +kernel
theorem d6_8 : decode prog_43_method_3_code 8 = .ok (.ifCond .lt 44, 3) := by decide +kernel
theorem d6_11 : decode prog_43_method_3_code 11 = .ok (.aload_n 0, 1) := by decide +kernel
theorem d6_12 : decode prog_43_method_3_code 12 = .ok (.dup, 1) := by decide +kernel
theorem d6_13 : decode prog_43_method_3_code 13 = .ok (.getfield 22, 3) := by decide +kernel
theorem d6_16 : decode prog_43_method_3_code 16 = .ok (.iconst 1, 1) := by decide +kernel
theorem d6_17 : decode prog_43_method_3_code 17 = .ok (.isub, 1) := by decide +kernel
theorem d6_18 : decode prog_43_method_3_code 18 = .ok (.putfield 22, 3) := by decide +kernel
theorem d6_21 : decode prog_43_method_3_code 21 = .ok (.aload_n 0, 1) := by decide +kernel
theorem d6_22 : decode prog_43_method_3_code 22 = .ok (.getfield 7, 3) := by decide +kernel
theorem d6_25 : decode prog_43_method_3_code 25 = .ok (.aload_n 0, 1) := by decide +kernel
theorem d6_26 : decode prog_43_method_3_code 26 = .ok (.getfield 22, 3) := by decide +kernel
theorem d6_29 : decode prog_43_method_3_code 29 = .ok (.iaload, 1) := by decide +kernel
theorem d6_30 : decode prog_43_method_3_code 30 = .ok (.istore_n 3, 1) := by decide +kernel
theorem d6_31 : decode prog_43_method_3_code 31 = .ok (.aload_n 0, 1) := by decide +kernel
theorem d6_32 : decode prog_43_method_3_code 32 = .ok (.getfield 7, 3) := by decide +kernel
theorem d6_35 : decode prog_43_method_3_code 35 = .ok (.iload_n 2, 1) := by decide +kernel
theorem d6_36 : decode prog_43_method_3_code 36 = .ok (.iload_n 3, 1) := by decide +kernel
theorem d6_37 : decode prog_43_method_3_code 37 = .ok (.iastore, 1) := by decide +kernel
theorem d6_38 : decode prog_43_method_3_code 38 = .ok (.aload_n 0, 1) := by decide +kernel
theorem d6_39 : decode prog_43_method_3_code 39 = .ok (.getfield 13, 3) := by decide +kernel
theorem d6_42 : decode prog_43_method_3_code 42 = .ok (.iload_n 3, 1) := by decide +kernel
theorem d6_43 : decode prog_43_method_3_code 43 = .ok (.iload_n 2, 1) := by decide +kernel
theorem d6_44 : decode prog_43_method_3_code 44 = .ok (.iastore, 1) := by decide +kernel
theorem d6_45 : decode prog_43_method_3_code 45 = .ok (.aload_n 0, 1) := by decide +kernel
theorem d6_46 : decode prog_43_method_3_code 46 = .ok (.getfield 13, 3) := by decide +kernel
theorem d6_49 : decode prog_43_method_3_code 49 = .ok (.iload_n 1, 1) := by decide +kernel
theorem d6_50 : decode prog_43_method_3_code 50 = .ok (.iconst (-1), 1) := by decide +kernel
theorem d6_51 : decode prog_43_method_3_code 51 = .ok (.iastore, 1) := by decide +kernel
theorem d6_52 : decode prog_43_method_3_code 52 = .ok (.return_, 1) := by decide +kernel

theorem pd6 : parseMethodDescriptor "(I)V" = some ⟨[.int], none⟩ := by decide +kernel
theorem pl6 : plainFor (⟨"com/example/wary_mutex/warymutex/message/IndexSet", "remove", "(I)V"⟩ : MethodName) = true := by first | exact plainFor_of_name (by first | (simp [plainName, overriddenIn]; done) | decide +kernel) | decide +kernel

theorem ef_k_rem (m : MethodId) (x0 : Addr) (x1 : Int32) : entryFrame m #[(.ref x0), (.int x1)] 4 = mkF m 0 #[.val (.ref x0), .val (.int x1), .unset, .unset] [] := by first | (simp [entryFrame, mkF, argsToLocals, Value.category]; done) | rfl

set_option maxRecDepth 65536 in
set_option maxHeartbeats 40000000 in
theorem k_rem {l : Launch} {Z : State} {a0 : Array Value} (hw : ∀ d ∈ tables_1, d.before a0 Z = true) {am : Addr} {ap : Addr} {S : OwnS} (h : Heap) (hz : Z.heap.size ≤ h.size) (a : Addr) (x : Int32) (fa0 : Exa Z h a "com/example/wary_mutex/warymutex/message/IndexSet") (fa1 : Fld Z h a "com/example/wary_mutex/warymutex/message/IndexSet" "members" "[I" (.ref am)) (fa2 : Fld Z h a "com/example/wary_mutex/warymutex/message/IndexSet" "positions" "[I" (.ref ap)) (fa3 : Fld Z h a "com/example/wary_mutex/warymutex/message/IndexSet" "size" "I" (.int (S.2.2))) (fa4 : Ari Z h am .int (S.1)) (fa5 : Ari Z h ap .int (S.2.1)) (ok : own_okR S x = true) (ge_a : Z.heap.size ≤ a) (ge_am : Z.heap.size ≤ am) (ge_ap : Z.heap.size ≤ ap) (ne_a_am : a ≠ am) (ne_a_ap : a ≠ ap) (ne_am_ap : am ≠ ap) : Go l Z (⟨"com/example/wary_mutex/warymutex/message/IndexSet", "remove", "(I)V"⟩ : MethodName) prog_43_method_3_code 4 (Option.none : Option Jvm.ClassFile.FieldType) ({ frames := 0, cells := 0, slots := 0, locals := 0 } : Room) (QV fun h' => Keep h h' [a, am, ap] ∧ Exa Z h' a "com/example/wary_mutex/warymutex/message/IndexSet" ∧ Fld Z h' a "com/example/wary_mutex/warymutex/message/IndexSet" "members" "[I" (.ref am) ∧ Fld Z h' a "com/example/wary_mutex/warymutex/message/IndexSet" "positions" "[I" (.ref ap) ∧ Fld Z h' a "com/example/wary_mutex/warymutex/message/IndexSet" "size" "I" (.int (own_rem S x).2.2) ∧ Ari Z h' am .int (own_rem S x).1 ∧ Ari Z h' ap .int (own_rem S x).2.1) 0 0 h 0 #[.val (.ref a), .val (.int x), .unset, .unset] [] := by
  have kp0 : Keep h h [a, am, ap] := Keep.refl _ _
  refine Go.aload_n 1 d6_0 rfl rfl rfl ?_
  refine Go.getfield 4 d6_1 (tw12 hw) fa2 rfl ?_
  refine Go.iload_n 5 d6_4 rfl rfl ?_
  refine Go.iaload (x := (S.2.1.getD (Int32.toNatClampNeg x) 0)) ((Int32.toNatClampNeg x)) 6 d6_5 fa5 (own_okR_e ok).1 rfl (own_getq (own_okR_e ok).2.1) rfl ?_
  refine Go.istore_n 7 #[.val (.ref a), .val (.int x), .val (.int (S.2.1.getD (Int32.toNatClampNeg x) 0)), .unset] d6_6 rfl rfl ?_
  refine Go.iload_n 8 d6_7 rfl rfl ?_
  refine Go.if_lt 52 11 d6_8 (by decide) (by decide) rfl (fun c1 => ?_) (fun c1 => ?_)
  ·
    refine Go.vreturn d6_52 rfl (by decide) (by decide) ?_
    rw [own_rem_pos c1]
    exact ⟨kp0, fa0, fa1, fa2, fa3, fa4, fa5⟩
  ·
    refine Go.aload_n 12 d6_11 rfl rfl rfl ?_
    refine Go.dup 13 d6_12 rfl rfl ?_
    refine Go.getfield 16 d6_13 (tw23 hw) fa3 rfl ?_
    refine Go.iconst 17 (1) d6_16 (by decide) rfl ?_
    refine Go.isub 18 d6_17 rfl ?_
    refine Go.putfield (ty := .int) 21 d6_18 (tw23 hw) fa3 fa0 (Or.inl (tw24 hw)) (tw2 hw) (by decide) rfl rfl ge_a rfl (fun h2 W3 => ?_)
    have f4 : Exa Z h2 a "com/example/wary_mutex/warymutex/message/IndexSet" := fa0.wr W3
    have f5 : Fld Z h2 a "com/example/wary_mutex/warymutex/message/IndexSet" "members" "[I" (.ref am) := fa1.other W3 (Or.inr (slot_ne (Or.inr (tw11 hw)) (Or.inl (tw24 hw)) (by decide) (by decide +kernel : parseFieldDescriptor "[I" = some (.array .int)) (by decide +kernel : parseFieldDescriptor "I" = some .int)))
    have f6 : Fld Z h2 a "com/example/wary_mutex/warymutex/message/IndexSet" "positions" "[I" (.ref ap) := fa2.other W3 (Or.inr (slot_ne (Or.inr (tw13 hw)) (Or.inl (tw24 hw)) (by decide) (by decide +kernel : parseFieldDescriptor "[I" = some (.array .int)) (by decide +kernel : parseFieldDescriptor "I" = some .int)))
    have f7 : Fld Z h2 a "com/example/wary_mutex/warymutex/message/IndexSet" "size" "I" (.int ((S.2.2) - (1 : Int32))) := fa3.same W3
    have f8 : Ari Z h2 am .int (S.1) := fa4.other W3 (Ne.symm ne_a_am)
    have f9 : Ari Z h2 ap .int (S.2.1) := fa5.other W3 (Ne.symm ne_a_ap)
    have zs10 : Z.heap.size ≤ h2.size := W3.size ▸ hz
    have kp11 : Keep h h2 [a, am, ap] := kp0.wr W3 (Or.inl (by simp))
    refine Go.aload_n 22 d6_21 rfl rfl rfl ?_
    refine Go.getfield 25 d6_22 (tw10 hw) f5 rfl ?_
    refine Go.aload_n 26 d6_25 rfl rfl rfl ?_
    refine Go.getfield 29 d6_26 (tw23 hw) f7 rfl ?_
    refine Go.iaload (x := (S.1.getD (Int32.toNatClampNeg (S.2.2 - (1 : Int32))) 0)) ((Int32.toNatClampNeg (S.2.2 - (1 : Int32)))) 30 d6_29 f8 ((own_okR_e ok).2.2 c1).1.1 rfl (own_getq ((own_okR_e ok).2.2 c1).1.2) rfl ?_
    refine Go.istore_n 31 #[.val (.ref a), .val (.int x), .val (.int (S.2.1.getD (Int32.toNatClampNeg x) 0)), .val (.int (S.1.getD (Int32.toNatClampNeg (S.2.2 - (1 : Int32))) 0))] d6_30 rfl rfl ?_
    refine Go.aload_n 32 d6_31 rfl rfl rfl ?_
    refine Go.getfield 35 d6_32 (tw10 hw) f5 rfl ?_
    refine Go.iload_n 36 d6_35 rfl rfl ?_
    refine Go.iload_n 37 d6_36 rfl rfl ?_
    refine Go.iastore ((Int32.toNatClampNeg (S.2.1.getD (Int32.toNatClampNeg x) 0))) ((S.1.set (Int32.toNatClampNeg (S.2.1.getD (Int32.toNatClampNeg x) 0)) (S.1.getD (Int32.toNatClampNeg (S.2.2 - (1 : Int32))) 0))) 38 d6_37 f8 c1 rfl ((own_okR_e ok).2.2 c1).2.1 rfl ge_am rfl (fun h12 W13 A14 => ?_)
    have f15 : Exa Z h12 a "com/example/wary_mutex/warymutex/message/IndexSet" := f4.wr W13
    have f16 : Fld Z h12 a "com/example/wary_mutex/warymutex/message/IndexSet" "members" "[I" (.ref am) := f5.other W13 (Or.inl ne_a_am)
    have f17 : Fld Z h12 a "com/example/wary_mutex/warymutex/message/IndexSet" "positions" "[I" (.ref ap) := f6.other W13 (Or.inl ne_a_am)
    have f18 : Fld Z h12 a "com/example/wary_mutex/warymutex/message/IndexSet" "size" "I" (.int ((S.2.2) - (1 : Int32))) := f7.other W13 (Or.inl ne_a_am)
    have f19 : Ari Z h12 ap .int (S.2.1) := f9.other W13 (Ne.symm ne_am_ap)
    have zs20 : Z.heap.size ≤ h12.size := W13.size ▸ zs10
    have kp21 : Keep h h12 [a, am, ap] := kp11.wr W13 (Or.inl (by simp))
    refine Go.aload_n 39 d6_38 rfl rfl rfl ?_
    refine Go.getfield 42 d6_39 (tw12 hw) f17 rfl ?_
    refine Go.iload_n 43 d6_42 rfl rfl ?_
    refine Go.iload_n 44 d6_43 rfl rfl ?_
    refine Go.iastore ((Int32.toNatClampNeg (S.1.getD (Int32.toNatClampNeg (S.2.2 - (1 : Int32))) 0))) ((S.2.1.set (Int32.toNatClampNeg (S.1.getD (Int32.toNatClampNeg (S.2.2 - (1 : Int32))) 0)) (S.2.1.getD (Int32.toNatClampNeg x) 0))) 45 d6_44 f19 ((own_okR_e ok).2.2 c1).2.2.1 rfl ((own_okR_e ok).2.2 c1).2.2.2 rfl ge_ap rfl (fun h22 W23 A24 => ?_)
    have f25 : Exa Z h22 a "com/example/wary_mutex/warymutex/message/IndexSet" := f15.wr W23
    have f26 : Fld Z h22 a "com/example/wary_mutex/warymutex/message/IndexSet" "members" "[I" (.ref am) := f16.other W23 (Or.inl ne_a_ap)
    have f27 : Fld Z h22 a "com/example/wary_mutex/warymutex/message/IndexSet" "positions" "[I" (.ref ap) := f17.other W23 (Or.inl ne_a_ap)
    have f28 : Fld Z h22 a "com/example/wary_mutex/warymutex/message/IndexSet" "size" "I" (.int ((S.2.2) - (1 : Int32))) := f18.other W23 (Or.inl ne_a_ap)
    have f29 : Ari Z h22 am .int (S.1.set (Int32.toNatClampNeg (S.2.1.getD (Int32.toNatClampNeg x) 0)) (S.1.getD (Int32.toNatClampNeg (S.2.2 - (1 : Int32))) 0)) := A14.other W23 ne_am_ap
    have zs30 : Z.heap.size ≤ h22.size := W23.size ▸ zs20
    have kp31 : Keep h h22 [a, am, ap] := kp21.wr W23 (Or.inl (by simp))
    refine Go.aload_n 46 d6_45 rfl rfl rfl ?_
    refine Go.getfield 49 d6_46 (tw12 hw) f27 rfl ?_
    refine Go.iload_n 50 d6_49 rfl rfl ?_
    refine Go.iconst 51 (-1) d6_50 (by decide) rfl ?_
    refine Go.iastore ((Int32.toNatClampNeg x)) (((S.2.1.set (Int32.toNatClampNeg (S.1.getD (Int32.toNatClampNeg (S.2.2 - (1 : Int32))) 0)) (S.2.1.getD (Int32.toNatClampNeg x) 0)).set (Int32.toNatClampNeg x) (-1))) 52 d6_51 A24 (own_okR_e ok).1 rfl (by rw [List.length_set]; exact (own_okR_e ok).2.1) rfl ge_ap rfl (fun h32 W33 A34 => ?_)
    have f35 : Exa Z h32 a "com/example/wary_mutex/warymutex/message/IndexSet" := f25.wr W33
    have f36 : Fld Z h32 a "com/example/wary_mutex/warymutex/message/IndexSet" "members" "[I" (.ref am) := f26.other W33 (Or.inl ne_a_ap)
    have f37 : Fld Z h32 a "com/example/wary_mutex/warymutex/message/IndexSet" "positions" "[I" (.ref ap) := f27.other W33 (Or.inl ne_a_ap)
    have f38 : Fld Z h32 a "com/example/wary_mutex/warymutex/message/IndexSet" "size" "I" (.int ((S.2.2) - (1 : Int32))) := f28.other W33 (Or.inl ne_a_ap)
    have f39 : Ari Z h32 am .int (S.1.set (Int32.toNatClampNeg (S.2.1.getD (Int32.toNatClampNeg x) 0)) (S.1.getD (Int32.toNatClampNeg (S.2.2 - (1 : Int32))) 0)) := f29.other W33 ne_am_ap
    have zs40 : Z.heap.size ≤ h32.size := W33.size ▸ zs30
    have kp41 : Keep h h32 [a, am, ap] := kp31.wr W33 (Or.inl (by simp))
    refine Go.vreturn d6_52 rfl (by decide) (by decide) ?_
    rw [own_rem_neg c1]
    exact ⟨kp41, f35, f36, f37, f38, f39, A34⟩

theorem d5_0 : decode method_3_code 0 = .ok (.aload_n 0, 1) := by decide +kernel
theorem d5_1 : decode method_3_code 1 = .ok (.iconst 3, 1) := by decide +kernel
theorem d5_2 : decode method_3_code 2 = .ok (.iaload, 1) := by decide +kernel
theorem d5_3 : decode method_3_code 3 = .ok (.istore_n 2, 1) := by decide +kernel
theorem d5_4 : decode method_3_code 4 = .ok (.iload_n 2, 1) := by decide +kernel
theorem d5_5 : decode method_3_code 5 = .ok (.ifCond .le 10, 3) := by decide +kernel
theorem d5_8 : decode method_3_code 8 = .ok (.aload_n 0, 1) := by decide +kernel
theorem d5_9 : decode method_3_code 9 = .ok (.iconst 0, 1) := by decide +kernel
theorem d5_10 : decode method_3_code 10 = .ok (.iaload, 1) := by decide +kernel
theorem d5_11 : decode method_3_code 11 = .ok (.iload_n 1, 1) := by decide +kernel
theorem d5_12 : decode method_3_code 12 = .ok (.if_icmp .eq 27, 3) := by decide +kernel
theorem d5_15 : decode method_3_code 15 = .ok (.iload_n 2, 1) := by decide +kernel
theorem d5_16 : decode method_3_code 16 = .ok (.iconst 1, 1) := by decide +kernel
theorem d5_17 : decode method_3_code 17 = .ok (.if_icmp .le 10, 3) := by decide +kernel
theorem d5_20 : decode method_3_code 20 = .ok (.aload_n 0, 1) := by decide +kernel
theorem d5_21 : decode method_3_code 21 = .ok (.iconst 1, 1) := by decide +kernel
theorem d5_22 : decode method_3_code 22 = .ok (.iaload, 1) := by decide +kernel
theorem d5_23 : decode method_3_code 23 = .ok (.iload_n 1, 1) := by decide +kernel
theorem d5_24 : decode method_3_code 24 = .ok (.if_icmp .eq 15, 3) := by decide +kernel
theorem d5_27 : decode method_3_code 27 = .ok (.iload_n 2, 1) := by decide +kernel
theorem d5_28 : decode method_3_code 28 = .ok (.iconst 2, 1) := by decide +kernel
theorem d5_29 : decode method_3_code 29 = .ok (.if_icmp .le 14, 3) := by decide +kernel
theorem d5_32 : decode method_3_code 32 = .ok (.aload_n 0, 1) := by decide +kernel
theorem d5_33 : decode method_3_code 33 = .ok (.iconst 2, 1) := by decide +kernel
theorem d5_34 : decode method_3_code 34 = .ok (.iaload, 1) := by decide +kernel
theorem d5_35 : decode method_3_code 35 = .ok (.iload_n 1, 1) := by decide +kernel
theorem d5_36 : decode method_3_code 36 = .ok (.if_icmp .ne 7, 3) := by decide +kernel
theorem d5_39 : decode method_3_code 39 = .ok (.iconst 1, 1) := by decide +kernel
theorem d5_40 : decode method_3_code 40 = .ok (.goto 4, 3) := by decide +kernel
theorem d5_43 : decode method_3_code 43 = .ok (.iconst 0, 1) := by decide +kernel
theorem d5_44 : decode method_3_code 44 = .ok (.istore_n 3, 1) := by decide +kernel
theorem d5_45 : decode method_3_code 45 = .ok (.iload_n 3, 1) := by decide +kernel
theorem d5_46 : decode method_3_code 46 = .ok (.ifCond .ne 18, 3) := by decide +kernel
theorem d5_49 : decode method_3_code 49 = .ok (.iload_n 2, 1) := by decide +kernel
theorem d5_50 : decode method_3_code 50 = .ok (.iconst 3, 1) := by decide +kernel
theorem d5_51 : decode method_3_code 51 = .ok (.if_icmp .ge 13, 3) := by decide +kernel
theorem d5_54 : decode method_3_code 54 = .ok (.aload_n 0, 1) := by decide +kernel
theorem d5_55 : decode method_3_code 55 = .ok (.iload_n 2, 1) := by decide +kernel
theorem d5_56 : decode method_3_code 56 = .ok (.iload_n 1, 1) := by decide +kernel
theorem d5_57 : decode method_3_code 57 = .ok (.iastore, 1) := by decide +kernel
theorem d5_58 : decode method_3_code 58 = .ok (.aload_n 0, 1) := by decide +kernel
theorem d5_59 : decode method_3_code 59 = .ok (.iconst 3, 1) := by decide +kernel
theorem d5_60 : decode method_3_code 60 = .ok (.iload_n 2, 1) := by decide +kernel
theorem d5_61 : decode method_3_code 61 = .ok (.iconst 1, 1) := by decide +kernel
theorem d5_62 : decode method_3_code 62 = .ok (.iadd, 1) := by decide +kernel
theorem d5_63 : decode method_3_code 63 = .ok (.iastore, 1) := by decide +kernel
theorem d5_64 : decode method_3_code 64 = .ok (.return_, 1) := by decide +kernel

theorem pd5 : parseMethodDescriptor "([II)V" = some ⟨[(.array .int), .int], none⟩ := by decide +kernel
theorem pl5 : plainFor (⟨"com/example/wary_mutex/warymutex/message/IndexSetRemovePinLaw", "addModel", "([II)V"⟩ : MethodName) = true := by first | exact plainFor_of_name (by first | (simp [plainName, overriddenIn]; done) | decide +kernel) | decide +kernel

theorem ef_k_addM (m : MethodId) (x0 : Addr) (x1 : Int32) : entryFrame m #[(.ref x0), (.int x1)] 4 = mkF m 0 #[.val (.ref x0), .val (.int x1), .unset, .unset] [] := by first | (simp [entryFrame, mkF, argsToLocals, Value.category]; done) | rfl

set_option maxRecDepth 65536 in
set_option maxHeartbeats 40000000 in
theorem k_addM {l : Launch} {Z : State} {a0 : Array Value} (hw : ∀ d ∈ tables_1, d.before a0 Z = true) {M : List Int32} (h : Heap) (hz : Z.heap.size ≤ h.size) (a : Addr) (x : Int32) (fa0 : Ari Z h a .int M) (ok : own_okM M = true) (ge_a : Z.heap.size ≤ a)  : Go l Z (⟨"com/example/wary_mutex/warymutex/message/IndexSetRemovePinLaw", "addModel", "([II)V"⟩ : MethodName) method_3_code 4 (Option.none : Option Jvm.ClassFile.FieldType) ({ frames := 0, cells := 0, slots := 0, locals := 0 } : Room) (QV fun h' => Keep h h' [a] ∧ Ari Z h' a .int (own_addM M x)) 0 0 h 0 #[.val (.ref a), .val (.int x), .unset, .unset] [] := by
  have kp0 : Keep h h [a] := Keep.refl _ _
  refine Go.aload_n 1 d5_0 rfl rfl rfl ?_
  refine Go.iconst 2 (3) d5_1 (by decide) rfl ?_
  refine Go.iaload (x := (M.getD 3 0)) (3) 3 d5_2 fa0 (by decide) (by decide) (own_getq (own_len (own_okM_e ok).1 3 (by decide))) rfl ?_
  refine Go.istore_n 4 #[.val (.ref a), .val (.int x), .val (.int (M.getD 3 0)), .unset] d5_3 rfl rfl ?_
  refine Go.iload_n 5 d5_4 rfl rfl ?_
  refine Go.if_le 15 8 d5_5 (by decide) (by decide) rfl (fun c1 => ?_) (fun c1 => ?_)
  ·
    refine Go.iload_n 16 d5_15 rfl rfl ?_
    refine Go.iconst 17 (1) d5_16 (by decide) rfl ?_
    refine Go.icmp_le 27 20 d5_17 (by decide) (by decide) rfl (fun c2 => ?_) (fun c2 => ?_)
    ·
      refine Go.iload_n 28 d5_27 rfl rfl ?_
      refine Go.iconst 29 (2) d5_28 (by decide) rfl ?_
      refine Go.icmp_le 43 32 d5_29 (by decide) (by decide) rfl (fun c3 => ?_) (fun c3 => ?_)
      ·
        refine Go.iconst 44 (0) d5_43 (by decide) rfl ?_
        refine Go.istore_n 45 #[.val (.ref a), .val (.int x), .val (.int (M.getD 3 0)), .val (.int (0 : Int32))] d5_44 rfl rfl ?_
        refine Go.iload_n 46 d5_45 rfl rfl ?_
        refine Go.if_ne 64 49 d5_46 (by decide) (by decide) rfl (fun c => absurd c (by decide)) (fun _ => ?_)
        refine Go.iload_n 50 d5_49 rfl rfl ?_
        refine Go.iconst 51 (3) d5_50 (by decide) rfl ?_
        refine Go.icmp_ge 64 54 d5_51 (by decide) (by decide) rfl (fun c5 => ?_) (fun c5 => ?_)
        ·
          refine Go.vreturn d5_64 rfl (by decide) (by decide) ?_
          have e9 : own_addM M x = M := by simp only [own_addM, own_delM, c1, c2, c3, c5, and_true, true_and, and_false, false_and, or_true, true_or, or_false, false_or, not_true_eq_false, not_false_eq_true, if_true, if_false]
          rw [e9]
          exact ⟨kp0, fa0⟩
        ·
          refine Go.aload_n 55 d5_54 rfl rfl rfl ?_
          refine Go.iload_n 56 d5_55 rfl rfl ?_
          refine Go.iload_n 57 d5_56 rfl rfl ?_
          refine Go.iastore ((Int32.toNatClampNeg (M.getD 3 0))) ((M.set (Int32.toNatClampNeg (M.getD 3 0)) x)) 58 d5_57 fa0 (own_okM_e ok).2.1 rfl (own_len (own_okM_e ok).1 _ ((own_okM_e ok).2.2.2.2.1 c5)) rfl ge_a rfl (fun h6 W7 A8 => ?_)
          have zs9 : Z.heap.size ≤ h6.size := W7.size ▸ hz
          have kp10 : Keep h h6 [a] := kp0.wr W7 (Or.inl (by simp))
          refine Go.aload_n 59 d5_58 rfl rfl rfl ?_
          refine Go.iconst 60 (3) d5_59 (by decide) rfl ?_
          refine Go.iload_n 61 d5_60 rfl rfl ?_
          refine Go.iconst 62 (1) d5_61 (by decide) rfl ?_
          refine Go.iadd 63 d5_62 rfl ?_
          refine Go.iastore (3) (((M.set (Int32.toNatClampNeg (M.getD 3 0)) x).set 3 ((M.getD 3 0) + (1 : Int32)))) 64 d5_63 A8 (by decide) (by decide) (by rw [List.length_set]; exact own_len (own_okM_e ok).1 3 (by decide)) rfl ge_a rfl (fun h11 W12 A13 => ?_)
          have zs14 : Z.heap.size ≤ h11.size := W12.size ▸ zs9
          have kp15 : Keep h h11 [a] := kp10.wr W12 (Or.inl (by simp))
          refine Go.vreturn d5_64 rfl (by decide) (by decide) ?_
          have e9 : own_addM M x = ((M.set (Int32.toNatClampNeg (M.getD 3 0)) x).set 3 ((M.getD 3 0) + (1 : Int32))) := by simp only [own_addM, own_delM, c1, c2, c3, c5, and_true, true_and, and_false, false_and, or_true, true_or, or_false, false_or, not_true_eq_false, not_false_eq_true, if_true, if_false]
          rw [e9]
          exact ⟨kp15, A13⟩
      ·
        refine Go.aload_n 33 d5_32 rfl rfl rfl ?_
        refine Go.iconst 34 (2) d5_33 (by decide) rfl ?_
        refine Go.iaload (x := (M.getD 2 0)) (2) 35 d5_34 fa0 (by decide) (by decide) (own_getq (own_len (own_okM_e ok).1 2 (by decide))) rfl ?_
        refine Go.iload_n 36 d5_35 rfl rfl ?_
        refine Go.icmp_ne 43 39 d5_36 (by decide) (by decide) rfl (fun c16 => ?_) (fun c16 => ?_)
        ·
          refine Go.iconst 44 (0) d5_43 (by decide) rfl ?_
          refine Go.istore_n 45 #[.val (.ref a), .val (.int x), .val (.int (M.getD 3 0)), .val (.int (0 : Int32))] d5_44 rfl rfl ?_
          refine Go.iload_n 46 d5_45 rfl rfl ?_
          refine Go.if_ne 64 49 d5_46 (by decide) (by decide) rfl (fun c => absurd c (by decide)) (fun _ => ?_)
          refine Go.iload_n 50 d5_49 rfl rfl ?_
          refine Go.iconst 51 (3) d5_50 (by decide) rfl ?_
          refine Go.icmp_ge 64 54 d5_51 (by decide) (by decide) rfl (fun c18 => ?_) (fun c18 => ?_)
          ·
            refine Go.vreturn d5_64 rfl (by decide) (by decide) ?_
            have e9 : own_addM M x = M := by simp only [own_addM, own_delM, c1, c2, c3, c16, c18, and_true, true_and, and_false, false_and, or_true, true_or, or_false, false_or, not_true_eq_false, not_false_eq_true, if_true, if_false]
            rw [e9]
            exact ⟨kp0, fa0⟩
          ·
            refine Go.aload_n 55 d5_54 rfl rfl rfl ?_
            refine Go.iload_n 56 d5_55 rfl rfl ?_
            refine Go.iload_n 57 d5_56 rfl rfl ?_
            refine Go.iastore ((Int32.toNatClampNeg (M.getD 3 0))) ((M.set (Int32.toNatClampNeg (M.getD 3 0)) x)) 58 d5_57 fa0 (own_okM_e ok).2.1 rfl (own_len (own_okM_e ok).1 _ ((own_okM_e ok).2.2.2.2.1 c18)) rfl ge_a rfl (fun h19 W20 A21 => ?_)
            have zs22 : Z.heap.size ≤ h19.size := W20.size ▸ hz
            have kp23 : Keep h h19 [a] := kp0.wr W20 (Or.inl (by simp))
            refine Go.aload_n 59 d5_58 rfl rfl rfl ?_
            refine Go.iconst 60 (3) d5_59 (by decide) rfl ?_
            refine Go.iload_n 61 d5_60 rfl rfl ?_
            refine Go.iconst 62 (1) d5_61 (by decide) rfl ?_
            refine Go.iadd 63 d5_62 rfl ?_
            refine Go.iastore (3) (((M.set (Int32.toNatClampNeg (M.getD 3 0)) x).set 3 ((M.getD 3 0) + (1 : Int32)))) 64 d5_63 A21 (by decide) (by decide) (by rw [List.length_set]; exact own_len (own_okM_e ok).1 3 (by decide)) rfl ge_a rfl (fun h24 W25 A26 => ?_)
            have zs27 : Z.heap.size ≤ h24.size := W25.size ▸ zs22
            have kp28 : Keep h h24 [a] := kp23.wr W25 (Or.inl (by simp))
            refine Go.vreturn d5_64 rfl (by decide) (by decide) ?_
            have e9 : own_addM M x = ((M.set (Int32.toNatClampNeg (M.getD 3 0)) x).set 3 ((M.getD 3 0) + (1 : Int32))) := by simp only [own_addM, own_delM, c1, c2, c3, c16, c18, and_true, true_and, and_false, false_and, or_true, true_or, or_false, false_or, not_true_eq_false, not_false_eq_true, if_true, if_false]
            rw [e9]
            exact ⟨kp28, A26⟩
        ·
          refine Go.iconst 40 (1) d5_39 (by decide) rfl ?_
          refine Go.goto 44 d5_40 (by decide) (by decide) ?_
          refine Go.istore_n 45 #[.val (.ref a), .val (.int x), .val (.int (M.getD 3 0)), .val (.int (1 : Int32))] d5_44 rfl rfl ?_
          refine Go.iload_n 46 d5_45 rfl rfl ?_
          refine Go.if_ne 64 49 d5_46 (by decide) (by decide) rfl (fun _ => ?_) (fun c => absurd c (by decide))
          refine Go.vreturn d5_64 rfl (by decide) (by decide) ?_
          have e9 : own_addM M x = M := by simp only [own_addM, own_delM, c1, c2, c3, c16, and_true, true_and, and_false, false_and, or_true, true_or, or_false, false_or, not_true_eq_false, not_false_eq_true, if_true, if_false]
          rw [e9]
          exact ⟨kp0, fa0⟩
    ·
      refine Go.aload_n 21 d5_20 rfl rfl rfl ?_
      refine Go.iconst 22 (1) d5_21 (by decide) rfl ?_
      refine Go.iaload (x := (M.getD 1 0)) (1) 23 d5_22 fa0 (by decide) (by decide) (own_getq (own_len (own_okM_e ok).1 1 (by decide))) rfl ?_
      refine Go.iload_n 24 d5_23 rfl rfl ?_
      refine Go.icmp_eq 39 27 d5_24 (by decide) (by decide) rfl (fun c30 => ?_) (fun c30 => ?_)
      ·
        refine Go.iconst 40 (1) d5_39 (by decide) rfl ?_
        refine Go.goto 44 d5_40 (by decide) (by decide) ?_
        refine Go.istore_n 45 #[.val (.ref a), .val (.int x), .val (.int (M.getD 3 0)), .val (.int (1 : Int32))] d5_44 rfl rfl ?_
        refine Go.iload_n 46 d5_45 rfl rfl ?_
        refine Go.if_ne 64 49 d5_46 (by decide) (by decide) rfl (fun _ => ?_) (fun c => absurd c (by decide))
        refine Go.vreturn d5_64 rfl (by decide) (by decide) ?_
        have e9 : own_addM M x = M := by simp only [own_addM, own_delM, c1, c2, c30, and_true, true_and, and_false, false_and, or_true, true_or, or_false, false_or, not_true_eq_false, not_false_eq_true, if_true, if_false]
        rw [e9]
        exact ⟨kp0, fa0⟩
      ·
        refine Go.iload_n 28 d5_27 rfl rfl ?_
        refine Go.iconst 29 (2) d5_28 (by decide) rfl ?_
        refine Go.icmp_le 43 32 d5_29 (by decide) (by decide) rfl (fun c32 => ?_) (fun c32 => ?_)
        ·
          refine Go.iconst 44 (0) d5_43 (by decide) rfl ?_
          refine Go.istore_n 45 #[.val (.ref a), .val (.int x), .val (.int (M.getD 3 0)), .val (.int (0 : Int32))] d5_44 rfl rfl ?_
          refine Go.iload_n 46 d5_45 rfl rfl ?_
          refine Go.if_ne 64 49 d5_46 (by decide) (by decide) rfl (fun c => absurd c (by decide)) (fun _ => ?_)
          refine Go.iload_n 50 d5_49 rfl rfl ?_
          refine Go.iconst 51 (3) d5_50 (by decide) rfl ?_
          refine Go.icmp_ge 64 54 d5_51 (by decide) (by decide) rfl (fun c34 => ?_) (fun c34 => ?_)
          ·
            refine Go.vreturn d5_64 rfl (by decide) (by decide) ?_
            have e9 : own_addM M x = M := by simp only [own_addM, own_delM, c1, c2, c30, c32, c34, and_true, true_and, and_false, false_and, or_true, true_or, or_false, false_or, not_true_eq_false, not_false_eq_true, if_true, if_false]
            rw [e9]
            exact ⟨kp0, fa0⟩
          ·
            refine Go.aload_n 55 d5_54 rfl rfl rfl ?_
            refine Go.iload_n 56 d5_55 rfl rfl ?_
            refine Go.iload_n 57 d5_56 rfl rfl ?_
            refine Go.iastore ((Int32.toNatClampNeg (M.getD 3 0))) ((M.set (Int32.toNatClampNeg (M.getD 3 0)) x)) 58 d5_57 fa0 (own_okM_e ok).2.1 rfl (own_len (own_okM_e ok).1 _ ((own_okM_e ok).2.2.2.2.1 c34)) rfl ge_a rfl (fun h35 W36 A37 => ?_)
            have zs38 : Z.heap.size ≤ h35.size := W36.size ▸ hz
            have kp39 : Keep h h35 [a] := kp0.wr W36 (Or.inl (by simp))
            refine Go.aload_n 59 d5_58 rfl rfl rfl ?_
            refine Go.iconst 60 (3) d5_59 (by decide) rfl ?_
            refine Go.iload_n 61 d5_60 rfl rfl ?_
            refine Go.iconst 62 (1) d5_61 (by decide) rfl ?_
            refine Go.iadd 63 d5_62 rfl ?_
            refine Go.iastore (3) (((M.set (Int32.toNatClampNeg (M.getD 3 0)) x).set 3 ((M.getD 3 0) + (1 : Int32)))) 64 d5_63 A37 (by decide) (by decide) (by rw [List.length_set]; exact own_len (own_okM_e ok).1 3 (by decide)) rfl ge_a rfl (fun h40 W41 A42 => ?_)
            have zs43 : Z.heap.size ≤ h40.size := W41.size ▸ zs38
            have kp44 : Keep h h40 [a] := kp39.wr W41 (Or.inl (by simp))
            refine Go.vreturn d5_64 rfl (by decide) (by decide) ?_
            have e9 : own_addM M x = ((M.set (Int32.toNatClampNeg (M.getD 3 0)) x).set 3 ((M.getD 3 0) + (1 : Int32))) := by simp only [own_addM, own_delM, c1, c2, c30, c32, c34, and_true, true_and, and_false, false_and, or_true, true_or, or_false, false_or, not_true_eq_false, not_false_eq_true, if_true, if_false]
            rw [e9]
            exact ⟨kp44, A42⟩
        ·
          refine Go.aload_n 33 d5_32 rfl rfl rfl ?_
          refine Go.iconst 34 (2) d5_33 (by decide) rfl ?_
          refine Go.iaload (x := (M.getD 2 0)) (2) 35 d5_34 fa0 (by decide) (by decide) (own_getq (own_len (own_okM_e ok).1 2 (by decide))) rfl ?_
          refine Go.iload_n 36 d5_35 rfl rfl ?_
          refine Go.icmp_ne 43 39 d5_36 (by decide) (by decide) rfl (fun c45 => ?_) (fun c45 => ?_)
          ·
            refine Go.iconst 44 (0) d5_43 (by decide) rfl ?_
            refine Go.istore_n 45 #[.val (.ref a), .val (.int x), .val (.int (M.getD 3 0)), .val (.int (0 : Int32))] d5_44 rfl rfl ?_
            refine Go.iload_n 46 d5_45 rfl rfl ?_
            refine Go.if_ne 64 49 d5_46 (by decide) (by decide) rfl (fun c => absurd c (by decide)) (fun _ => ?_)
            refine Go.iload_n 50 d5_49 rfl rfl ?_
            refine Go.iconst 51 (3) d5_50 (by decide) rfl ?_
            refine Go.icmp_ge 64 54 d5_51 (by decide) (by decide) rfl (fun c47 => ?_) (fun c47 => ?_)
            ·
              refine Go.vreturn d5_64 rfl (by decide) (by decide) ?_
              have e9 : own_addM M x = M := by simp only [own_addM, own_delM, c1, c2, c30, c32, c45, c47, and_true, true_and, and_false, false_and, or_true, true_or, or_false, false_or, not_true_eq_false, not_false_eq_true, if_true, if_false]
              rw [e9]
              exact ⟨kp0, fa0⟩
            ·
              refine Go.aload_n 55 d5_54 rfl rfl rfl ?_
              refine Go.iload_n 56 d5_55 rfl rfl ?_
              refine Go.iload_n 57 d5_56 rfl rfl ?_
              refine Go.iastore ((Int32.toNatClampNeg (M.getD 3 0))) ((M.set (Int32.toNatClampNeg (M.getD 3 0)) x)) 58 d5_57 fa0 (own_okM_e ok).2.1 rfl (own_len (own_okM_e ok).1 _ ((own_okM_e ok).2.2.2.2.1 c47)) rfl ge_a rfl (fun h48 W49 A50 => ?_)
              have zs51 : Z.heap.size ≤ h48.size := W49.size ▸ hz
              have kp52 : Keep h h48 [a] := kp0.wr W49 (Or.inl (by simp))
              refine Go.aload_n 59 d5_58 rfl rfl rfl ?_
              refine Go.iconst 60 (3) d5_59 (by decide) rfl ?_
              refine Go.iload_n 61 d5_60 rfl rfl ?_
              refine Go.iconst 62 (1) d5_61 (by decide) rfl ?_
              refine Go.iadd 63 d5_62 rfl ?_
              refine Go.iastore (3) (((M.set (Int32.toNatClampNeg (M.getD 3 0)) x).set 3 ((M.getD 3 0) + (1 : Int32)))) 64 d5_63 A50 (by decide) (by decide) (by rw [List.length_set]; exact own_len (own_okM_e ok).1 3 (by decide)) rfl ge_a rfl (fun h53 W54 A55 => ?_)
              have zs56 : Z.heap.size ≤ h53.size := W54.size ▸ zs51
              have kp57 : Keep h h53 [a] := kp52.wr W54 (Or.inl (by simp))
              refine Go.vreturn d5_64 rfl (by decide) (by decide) ?_
              have e9 : own_addM M x = ((M.set (Int32.toNatClampNeg (M.getD 3 0)) x).set 3 ((M.getD 3 0) + (1 : Int32))) := by simp only [own_addM, own_delM, c1, c2, c30, c32, c45, c47, and_true, true_and, and_false, false_and, or_true, true_or, or_false, false_or, not_true_eq_false, not_false_eq_true, if_true, if_false]
              rw [e9]
              exact ⟨kp57, A55⟩
          ·
            refine Go.iconst 40 (1) d5_39 (by decide) rfl ?_
            refine Go.goto 44 d5_40 (by decide) (by decide) ?_
            refine Go.istore_n 45 #[.val (.ref a), .val (.int x), .val (.int (M.getD 3 0)), .val (.int (1 : Int32))] d5_44 rfl rfl ?_
            refine Go.iload_n 46 d5_45 rfl rfl ?_
            refine Go.if_ne 64 49 d5_46 (by decide) (by decide) rfl (fun _ => ?_) (fun c => absurd c (by decide))
            refine Go.vreturn d5_64 rfl (by decide) (by decide) ?_
            have e9 : own_addM M x = M := by simp only [own_addM, own_delM, c1, c2, c30, c32, c45, and_true, true_and, and_false, false_and, or_true, true_or, or_false, false_or, not_true_eq_false, not_false_eq_true, if_true, if_false]
            rw [e9]
            exact ⟨kp0, fa0⟩
  ·
    refine Go.aload_n 9 d5_8 rfl rfl rfl ?_
    refine Go.iconst 10 (0) d5_9 (by decide) rfl ?_
    refine Go.iaload (x := (M.getD 0 0)) (0) 11 d5_10 fa0 (by decide) (by decide) (own_getq (own_len (own_okM_e ok).1 0 (by decide))) rfl ?_
    refine Go.iload_n 12 d5_11 rfl rfl ?_
    refine Go.icmp_eq 39 15 d5_12 (by decide) (by decide) rfl (fun c59 => ?_) (fun c59 => ?_)
    ·
      refine Go.iconst 40 (1) d5_39 (by decide) rfl ?_
      refine Go.goto 44 d5_40 (by decide) (by decide) ?_
      refine Go.istore_n 45 #[.val (.ref a), .val (.int x), .val (.int (M.getD 3 0)), .val (.int (1 : Int32))] d5_44 rfl rfl ?_
      refine Go.iload_n 46 d5_45 rfl rfl ?_
      refine Go.if_ne 64 49 d5_46 (by decide) (by decide) rfl (fun _ => ?_) (fun c => absurd c (by decide))
      refine Go.vreturn d5_64 rfl (by decide) (by decide) ?_
      have e9 : own_addM M x = M := by simp only [own_addM, own_delM, c1, c59, and_true, true_and, and_false, false_and, or_true, true_or, or_false, false_or, not_true_eq_false, not_false_eq_true, if_true, if_false]
      rw [e9]
      exact ⟨kp0, fa0⟩
    ·
      refine Go.iload_n 16 d5_15 rfl rfl ?_
      refine Go.iconst 17 (1) d5_16 (by decide) rfl ?_
      refine Go.icmp_le 27 20 d5_17 (by decide) (by decide) rfl (fun c61 => ?_) (fun c61 => ?_)
      ·
        refine Go.iload_n 28 d5_27 rfl rfl ?_
        refine Go.iconst 29 (2) d5_28 (by decide) rfl ?_
        refine Go.icmp_le 43 32 d5_29 (by decide) (by decide) rfl (fun c62 => ?_) (fun c62 => ?_)
        ·
          refine Go.iconst 44 (0) d5_43 (by decide) rfl ?_
          refine Go.istore_n 45 #[.val (.ref a), .val (.int x), .val (.int (M.getD 3 0)), .val (.int (0 : Int32))] d5_44 rfl rfl ?_
          refine Go.iload_n 46 d5_45 rfl rfl ?_
          refine Go.if_ne 64 49 d5_46 (by decide) (by decide) rfl (fun c => absurd c (by decide)) (fun _ => ?_)
          refine Go.iload_n 50 d5_49 rfl rfl ?_
          refine Go.iconst 51 (3) d5_50 (by decide) rfl ?_
          refine Go.icmp_ge 64 54 d5_51 (by decide) (by decide) rfl (fun c64 => ?_) (fun c64 => ?_)
          ·
            refine Go.vreturn d5_64 rfl (by decide) (by decide) ?_
            have e9 : own_addM M x = M := by simp only [own_addM, own_delM, c1, c59, c61, c62, c64, and_true, true_and, and_false, false_and, or_true, true_or, or_false, false_or, not_true_eq_false, not_false_eq_true, if_true, if_false]
            rw [e9]
            exact ⟨kp0, fa0⟩
          ·
            refine Go.aload_n 55 d5_54 rfl rfl rfl ?_
            refine Go.iload_n 56 d5_55 rfl rfl ?_
            refine Go.iload_n 57 d5_56 rfl rfl ?_
            refine Go.iastore ((Int32.toNatClampNeg (M.getD 3 0))) ((M.set (Int32.toNatClampNeg (M.getD 3 0)) x)) 58 d5_57 fa0 (own_okM_e ok).2.1 rfl (own_len (own_okM_e ok).1 _ ((own_okM_e ok).2.2.2.2.1 c64)) rfl ge_a rfl (fun h65 W66 A67 => ?_)
            have zs68 : Z.heap.size ≤ h65.size := W66.size ▸ hz
            have kp69 : Keep h h65 [a] := kp0.wr W66 (Or.inl (by simp))
            refine Go.aload_n 59 d5_58 rfl rfl rfl ?_
            refine Go.iconst 60 (3) d5_59 (by decide) rfl ?_
            refine Go.iload_n 61 d5_60 rfl rfl ?_
            refine Go.iconst 62 (1) d5_61 (by decide) rfl ?_
            refine Go.iadd 63 d5_62 rfl ?_
            refine Go.iastore (3) (((M.set (Int32.toNatClampNeg (M.getD 3 0)) x).set 3 ((M.getD 3 0) + (1 : Int32)))) 64 d5_63 A67 (by decide) (by decide) (by rw [List.length_set]; exact own_len (own_okM_e ok).1 3 (by decide)) rfl ge_a rfl (fun h70 W71 A72 => ?_)
            have zs73 : Z.heap.size ≤ h70.size := W71.size ▸ zs68
            have kp74 : Keep h h70 [a] := kp69.wr W71 (Or.inl (by simp))
            refine Go.vreturn d5_64 rfl (by decide) (by decide) ?_
            have e9 : own_addM M x = ((M.set (Int32.toNatClampNeg (M.getD 3 0)) x).set 3 ((M.getD 3 0) + (1 : Int32))) := by simp only [own_addM, own_delM, c1, c59, c61, c62, c64, and_true, true_and, and_false, false_and, or_true, true_or, or_false, false_or, not_true_eq_false, not_false_eq_true, if_true, if_false]
            rw [e9]
            exact ⟨kp74, A72⟩
        ·
          refine Go.aload_n 33 d5_32 rfl rfl rfl ?_
          refine Go.iconst 34 (2) d5_33 (by decide) rfl ?_
          refine Go.iaload (x := (M.getD 2 0)) (2) 35 d5_34 fa0 (by decide) (by decide) (own_getq (own_len (own_okM_e ok).1 2 (by decide))) rfl ?_
          refine Go.iload_n 36 d5_35 rfl rfl ?_
          refine Go.icmp_ne 43 39 d5_36 (by decide) (by decide) rfl (fun c75 => ?_) (fun c75 => ?_)
          ·
            refine Go.iconst 44 (0) d5_43 (by decide) rfl ?_
            refine Go.istore_n 45 #[.val (.ref a), .val (.int x), .val (.int (M.getD 3 0)), .val (.int (0 : Int32))] d5_44 rfl rfl ?_
            refine Go.iload_n 46 d5_45 rfl rfl ?_
            refine Go.if_ne 64 49 d5_46 (by decide) (by decide) rfl (fun c => absurd c (by decide)) (fun _ => ?_)
            refine Go.iload_n 50 d5_49 rfl rfl ?_
            refine Go.iconst 51 (3) d5_50 (by decide) rfl ?_
            refine Go.icmp_ge 64 54 d5_51 (by decide) (by decide) rfl (fun c77 => ?_) (fun c77 => ?_)
            ·
              refine Go.vreturn d5_64 rfl (by decide) (by decide) ?_
              have e9 : own_addM M x = M := by simp only [own_addM, own_delM, c1, c59, c61, c62, c75, c77, and_true, true_and, and_false, false_and, or_true, true_or, or_false, false_or, not_true_eq_false, not_false_eq_true, if_true, if_false]
              rw [e9]
              exact ⟨kp0, fa0⟩
            ·
              refine Go.aload_n 55 d5_54 rfl rfl rfl ?_
              refine Go.iload_n 56 d5_55 rfl rfl ?_
              refine Go.iload_n 57 d5_56 rfl rfl ?_
              refine Go.iastore ((Int32.toNatClampNeg (M.getD 3 0))) ((M.set (Int32.toNatClampNeg (M.getD 3 0)) x)) 58 d5_57 fa0 (own_okM_e ok).2.1 rfl (own_len (own_okM_e ok).1 _ ((own_okM_e ok).2.2.2.2.1 c77)) rfl ge_a rfl (fun h78 W79 A80 => ?_)
              have zs81 : Z.heap.size ≤ h78.size := W79.size ▸ hz
              have kp82 : Keep h h78 [a] := kp0.wr W79 (Or.inl (by simp))
              refine Go.aload_n 59 d5_58 rfl rfl rfl ?_
              refine Go.iconst 60 (3) d5_59 (by decide) rfl ?_
              refine Go.iload_n 61 d5_60 rfl rfl ?_
              refine Go.iconst 62 (1) d5_61 (by decide) rfl ?_
              refine Go.iadd 63 d5_62 rfl ?_
              refine Go.iastore (3) (((M.set (Int32.toNatClampNeg (M.getD 3 0)) x).set 3 ((M.getD 3 0) + (1 : Int32)))) 64 d5_63 A80 (by decide) (by decide) (by rw [List.length_set]; exact own_len (own_okM_e ok).1 3 (by decide)) rfl ge_a rfl (fun h83 W84 A85 => ?_)
              have zs86 : Z.heap.size ≤ h83.size := W84.size ▸ zs81
              have kp87 : Keep h h83 [a] := kp82.wr W84 (Or.inl (by simp))
              refine Go.vreturn d5_64 rfl (by decide) (by decide) ?_
              have e9 : own_addM M x = ((M.set (Int32.toNatClampNeg (M.getD 3 0)) x).set 3 ((M.getD 3 0) + (1 : Int32))) := by simp only [own_addM, own_delM, c1, c59, c61, c62, c75, c77, and_true, true_and, and_false, false_and, or_true, true_or, or_false, false_or, not_true_eq_false, not_false_eq_true, if_true, if_false]
              rw [e9]
              exact ⟨kp87, A85⟩
          ·
            refine Go.iconst 40 (1) d5_39 (by decide) rfl ?_
            refine Go.goto 44 d5_40 (by decide) (by decide) ?_
            refine Go.istore_n 45 #[.val (.ref a), .val (.int x), .val (.int (M.getD 3 0)), .val (.int (1 : Int32))] d5_44 rfl rfl ?_
            refine Go.iload_n 46 d5_45 rfl rfl ?_
            refine Go.if_ne 64 49 d5_46 (by decide) (by decide) rfl (fun _ => ?_) (fun c => absurd c (by decide))
            refine Go.vreturn d5_64 rfl (by decide) (by decide) ?_
            have e9 : own_addM M x = M := by simp only [own_addM, own_delM, c1, c59, c61, c62, c75, and_true, true_and, and_false, false_and, or_true, true_or, or_false, false_or, not_true_eq_false, not_false_eq_true, if_true, if_false]
            rw [e9]
            exact ⟨kp0, fa0⟩
      ·
        refine Go.aload_n 21 d5_20 rfl rfl rfl ?_
        refine Go.iconst 22 (1) d5_21 (by decide) rfl ?_
        refine Go.iaload (x := (M.getD 1 0)) (1) 23 d5_22 fa0 (by decide) (by decide) (own_getq (own_len (own_okM_e ok).1 1 (by decide))) rfl ?_
        refine Go.iload_n 24 d5_23 rfl rfl ?_
        refine Go.icmp_eq 39 27 d5_24 (by decide) (by decide) rfl (fun c89 => ?_) (fun c89 => ?_)
        ·
          refine Go.iconst 40 (1) d5_39 (by decide) rfl ?_
          refine Go.goto 44 d5_40 (by decide) (by decide) ?_
          refine Go.istore_n 45 #[.val (.ref a), .val (.int x), .val (.int (M.getD 3 0)), .val (.int (1 : Int32))] d5_44 rfl rfl ?_
          refine Go.iload_n 46 d5_45 rfl rfl ?_
          refine Go.if_ne 64 49 d5_46 (by decide) (by decide) rfl (fun _ => ?_) (fun c => absurd c (by decide))
          refine Go.vreturn d5_64 rfl (by decide) (by decide) ?_
          have e9 : own_addM M x = M := by simp only [own_addM, own_delM, c1, c59, c61, c89, and_true, true_and, and_false, false_and, or_true, true_or, or_false, false_or, not_true_eq_false, not_false_eq_true, if_true, if_false]
          rw [e9]
          exact ⟨kp0, fa0⟩
        ·
          refine Go.iload_n 28 d5_27 rfl rfl ?_
          refine Go.iconst 29 (2) d5_28 (by decide) rfl ?_
          refine Go.icmp_le 43 32 d5_29 (by decide) (by decide) rfl (fun c91 => ?_) (fun c91 => ?_)
          ·
            refine Go.iconst 44 (0) d5_43 (by decide) rfl ?_
            refine Go.istore_n 45 #[.val (.ref a), .val (.int x), .val (.int (M.getD 3 0)), .val (.int (0 : Int32))] d5_44 rfl rfl ?_
            refine Go.iload_n 46 d5_45 rfl rfl ?_
            refine Go.if_ne 64 49 d5_46 (by decide) (by decide) rfl (fun c => absurd c (by decide)) (fun _ => ?_)
            refine Go.iload_n 50 d5_49 rfl rfl ?_
            refine Go.iconst 51 (3) d5_50 (by decide) rfl ?_
            refine Go.icmp_ge 64 54 d5_51 (by decide) (by decide) rfl (fun c93 => ?_) (fun c93 => ?_)
            ·
              refine Go.vreturn d5_64 rfl (by decide) (by decide) ?_
              have e9 : own_addM M x = M := by simp only [own_addM, own_delM, c1, c59, c61, c89, c91, c93, and_true, true_and, and_false, false_and, or_true, true_or, or_false, false_or, not_true_eq_false, not_false_eq_true, if_true, if_false]
              rw [e9]
              exact ⟨kp0, fa0⟩
            ·
              refine Go.aload_n 55 d5_54 rfl rfl rfl ?_
              refine Go.iload_n 56 d5_55 rfl rfl ?_
              refine Go.iload_n 57 d5_56 rfl rfl ?_
              refine Go.iastore ((Int32.toNatClampNeg (M.getD 3 0))) ((M.set (Int32.toNatClampNeg (M.getD 3 0)) x)) 58 d5_57 fa0 (own_okM_e ok).2.1 rfl (own_len (own_okM_e ok).1 _ ((own_okM_e ok).2.2.2.2.1 c93)) rfl ge_a rfl (fun h94 W95 A96 => ?_)
              have zs97 : Z.heap.size ≤ h94.size := W95.size ▸ hz
              have kp98 : Keep h h94 [a] := kp0.wr W95 (Or.inl (by simp))
              refine Go.aload_n 59 d5_58 rfl rfl rfl ?_
              refine Go.iconst 60 (3) d5_59 (by decide) rfl ?_
              refine Go.iload_n 61 d5_60 rfl rfl ?_
              refine Go.iconst 62 (1) d5_61 (by decide) rfl ?_
              refine Go.iadd 63 d5_62 rfl ?_
              refine Go.iastore (3) (((M.set (Int32.toNatClampNeg (M.getD 3 0)) x).set 3 ((M.getD 3 0) + (1 : Int32)))) 64 d5_63 A96 (by decide) (by decide) (by rw [List.length_set]; exact own_len (own_okM_e ok).1 3 (by decide)) rfl ge_a rfl (fun h99 W100 A101 => ?_)
              have zs102 : Z.heap.size ≤ h99.size := W100.size ▸ zs97
              have kp103 : Keep h h99 [a] := kp98.wr W100 (Or.inl (by simp))
              refine Go.vreturn d5_64 rfl (by decide) (by decide) ?_
              have e9 : own_addM M x = ((M.set (Int32.toNatClampNeg (M.getD 3 0)) x).set 3 ((M.getD 3 0) + (1 : Int32))) := by simp only [own_addM, own_delM, c1, c59, c61, c89, c91, c93, and_true, true_and, and_false, false_and, or_true, true_or, or_false, false_or, not_true_eq_false, not_false_eq_true, if_true, if_false]
              rw [e9]
              exact ⟨kp103, A101⟩
          ·
            refine Go.aload_n 33 d5_32 rfl rfl rfl ?_
            refine Go.iconst 34 (2) d5_33 (by decide) rfl ?_
            refine Go.iaload (x := (M.getD 2 0)) (2) 35 d5_34 fa0 (by decide) (by decide) (own_getq (own_len (own_okM_e ok).1 2 (by decide))) rfl ?_
            refine Go.iload_n 36 d5_35 rfl rfl ?_
            refine Go.icmp_ne 43 39 d5_36 (by decide) (by decide) rfl (fun c104 => ?_) (fun c104 => ?_)
            ·
              refine Go.iconst 44 (0) d5_43 (by decide) rfl ?_
              refine Go.istore_n 45 #[.val (.ref a), .val (.int x), .val (.int (M.getD 3 0)), .val (.int (0 : Int32))] d5_44 rfl rfl ?_
              refine Go.iload_n 46 d5_45 rfl rfl ?_
              refine Go.if_ne 64 49 d5_46 (by decide) (by decide) rfl (fun c => absurd c (by decide)) (fun _ => ?_)
              refine Go.iload_n 50 d5_49 rfl rfl ?_
              refine Go.iconst 51 (3) d5_50 (by decide) rfl ?_
              refine Go.icmp_ge 64 54 d5_51 (by decide) (by decide) rfl (fun c106 => ?_) (fun c106 => ?_)
              ·
                refine Go.vreturn d5_64 rfl (by decide) (by decide) ?_
                have e9 : own_addM M x = M := by simp only [own_addM, own_delM, c1, c59, c61, c89, c91, c104, c106, and_true, true_and, and_false, false_and, or_true, true_or, or_false, false_or, not_true_eq_false, not_false_eq_true, if_true, if_false]
                rw [e9]
                exact ⟨kp0, fa0⟩
              ·
                refine Go.aload_n 55 d5_54 rfl rfl rfl ?_
                refine Go.iload_n 56 d5_55 rfl rfl ?_
                refine Go.iload_n 57 d5_56 rfl rfl ?_
                refine Go.iastore ((Int32.toNatClampNeg (M.getD 3 0))) ((M.set (Int32.toNatClampNeg (M.getD 3 0)) x)) 58 d5_57 fa0 (own_okM_e ok).2.1 rfl (own_len (own_okM_e ok).1 _ ((own_okM_e ok).2.2.2.2.1 c106)) rfl ge_a rfl (fun h107 W108 A109 => ?_)
                have zs110 : Z.heap.size ≤ h107.size := W108.size ▸ hz
                have kp111 : Keep h h107 [a] := kp0.wr W108 (Or.inl (by simp))
                refine Go.aload_n 59 d5_58 rfl rfl rfl ?_
                refine Go.iconst 60 (3) d5_59 (by decide) rfl ?_
                refine Go.iload_n 61 d5_60 rfl rfl ?_
                refine Go.iconst 62 (1) d5_61 (by decide) rfl ?_
                refine Go.iadd 63 d5_62 rfl ?_
                refine Go.iastore (3) (((M.set (Int32.toNatClampNeg (M.getD 3 0)) x).set 3 ((M.getD 3 0) + (1 : Int32)))) 64 d5_63 A109 (by decide) (by decide) (by rw [List.length_set]; exact own_len (own_okM_e ok).1 3 (by decide)) rfl ge_a rfl (fun h112 W113 A114 => ?_)
                have zs115 : Z.heap.size ≤ h112.size := W113.size ▸ zs110
                have kp116 : Keep h h112 [a] := kp111.wr W113 (Or.inl (by simp))
                refine Go.vreturn d5_64 rfl (by decide) (by decide) ?_
                have e9 : own_addM M x = ((M.set (Int32.toNatClampNeg (M.getD 3 0)) x).set 3 ((M.getD 3 0) + (1 : Int32))) := by simp only [own_addM, own_delM, c1, c59, c61, c89, c91, c104, c106, and_true, true_and, and_false, false_and, or_true, true_or, or_false, false_or, not_true_eq_false, not_false_eq_true, if_true, if_false]
                rw [e9]
                exact ⟨kp116, A114⟩
            ·
              refine Go.iconst 40 (1) d5_39 (by decide) rfl ?_
              refine Go.goto 44 d5_40 (by decide) (by decide) ?_
              refine Go.istore_n 45 #[.val (.ref a), .val (.int x), .val (.int (M.getD 3 0)), .val (.int (1 : Int32))] d5_44 rfl rfl ?_
              refine Go.iload_n 46 d5_45 rfl rfl ?_
              refine Go.if_ne 64 49 d5_46 (by decide) (by decide) rfl (fun _ => ?_) (fun c => absurd c (by decide))
              refine Go.vreturn d5_64 rfl (by decide) (by decide) ?_
              have e9 : own_addM M x = M := by simp only [own_addM, own_delM, c1, c59, c61, c89, c91, c104, and_true, true_and, and_false, false_and, or_true, true_or, or_false, false_or, not_true_eq_false, not_false_eq_true, if_true, if_false]
              rw [e9]
              exact ⟨kp0, fa0⟩

theorem d7_0 : decode method_4_code 0 = .ok (.aload_n 0, 1) := by decide +kernel
theorem d7_1 : decode method_4_code 1 = .ok (.iconst 3, 1) := by decide +kernel
theorem d7_2 : decode method_4_code 2 = .ok (.iaload, 1) := by decide +kernel
theorem d7_3 : decode method_4_code 3 = .ok (.istore_n 2, 1) := by decide +kernel
theorem d7_4 : decode method_4_code 4 = .ok (.iconst (-1), 1) := by decide +kernel
theorem d7_5 : decode method_4_code 5 = .ok (.istore_n 3, 1) := by decide +kernel
theorem d7_6 : decode method_4_code 6 = .ok (.iload_n 2, 1) := by decide +kernel
theorem d7_7 : decode method_4_code 7 = .ok (.ifCond .le 15, 3) := by decide +kernel
theorem d7_10 : decode method_4_code 10 = .ok (.aload_n 0, 1) := by decide +kernel
theorem d7_11 : decode method_4_code 11 = .ok (.iconst 0, 1) := by decide +kernel
theorem d7_12 : decode method_4_code 12 = .ok (.iaload, 1) := by decide +kernel
theorem d7_13 : decode method_4_code 13 = .ok (.iload_n 1, 1) := by decide +kernel
theorem d7_14 : decode method_4_code 14 = .ok (.if_icmp .ne 8, 3) := by decide +kernel
theorem d7_17 : decode method_4_code 17 = .ok (.iconst 0, 1) := by decide +kernel
theorem d7_18 : decode method_4_code 18 = .ok (.istore_n 3, 1) := by decide +kernel
theorem d7_19 : decode method_4_code 19 = .ok (.goto 34, 3) := by decide +kernel
theorem d7_22 : decode method_4_code 22 = .ok (.iload_n 2, 1) := by decide +kernel
theorem d7_23 : decode method_4_code 23 = .ok (.iconst 1, 1) := by decide +kernel
theorem d7_24 : decode method_4_code 24 = .ok (.if_icmp .le 15, 3) := by decide +kernel
theorem d7_27 : decode method_4_code 27 = .ok (.aload_n 0, 1) := by decide +kernel
theorem d7_28 : decode method_4_code 28 = .ok (.iconst 1, 1) := by decide +kernel
theorem d7_29 : decode method_4_code 29 = .ok (.iaload, 1) := by decide +kernel
theorem d7_30 : decode method_4_code 30 = .ok (.iload_n 1, 1) := by decide +kernel
theorem d7_31 : decode method_4_code 31 = .ok (.if_icmp .ne 8, 3) := by decide +kernel
theorem d7_34 : decode method_4_code 34 = .ok (.iconst 1, 1) := by decide +kernel
theorem d7_35 : decode method_4_code 35 = .ok (.istore_n 3, 1) := by decide +kernel
theorem d7_36 : decode method_4_code 36 = .ok (.goto 17, 3) := by decide +kernel
theorem d7_39 : decode method_4_code 39 = .ok (.iload_n 2, 1) := by decide +kernel
theorem d7_40 : decode method_4_code 40 = .ok (.iconst 2, 1) := by decide +kernel
theorem d7_41 : decode method_4_code 41 = .ok (.if_icmp .le 12, 3) := by decide +kernel
theorem d7_44 : decode method_4_code 44 = .ok (.aload_n 0, 1) := by decide +kernel
theorem d7_45 : decode method_4_code 45 = .ok (.iconst 2, 1) := by decide +kernel
theorem d7_46 : decode method_4_code 46 = .ok (.iaload, 1) := by decide +kernel
theorem d7_47 : decode method_4_code 47 = .ok (.iload_n 1, 1) := by decide +kernel
theorem d7_48 : decode method_4_code 48 = .ok (.if_icmp .ne 5, 3) := by decide +kernel
theorem d7_51 : decode method_4_code 51 = .ok (.iconst 2, 1) := by decide +kernel
theorem d7_52 : decode method_4_code 52 = .ok (.istore_n 3, 1) := by decide +kernel
theorem d7_53 : decode method_4_code 53 = .ok (.iload_n 3, 1) := by decide +kernel
theorem d7_54 : decode method_4_code 54 = .ok (.ifCond .lt 17, 3) := by decide +kernel
theorem d7_57 : decode method_4_code 57 = .ok (.iload_n 2, 1) := by decide +kernel
theorem d7_58 : decode method_4_code 58 = .ok (.iconst 1, 1) := by decide +kernel
theorem d7_59 : decode method_4_code 59 = .ok (.isub, 1) := by decide +kernel
theorem d7_60 : decode method_4_code 60 = .ok (.istore_n 2, 1) := by decide +kernel
theorem d7_61 : decode method_4_code 61 = .ok (.aload_n 0, 1) := by decide +kernel
theorem d7_62 : decode method_4_code 62 = .ok (.iload_n 3, 1) := by decide +kernel
theorem d7_63 : decode method_4_code 63 = .ok (.aload_n 0, 1) := by decide +kernel
theorem d7_64 : decode method_4_code 64 = .ok (.iload_n 2, 1) := by decide +kernel
theorem d7_65 : decode method_4_code 65 = .ok (.iaload, 1) := by decide +kernel
theorem d7_66 : decode method_4_code 66 = .ok (.iastore, 1) := by decide +kernel
theorem d7_67 : decode method_4_code 67 = .ok (.aload_n 0, 1) := by decide +kernel
theorem d7_68 : decode method_4_code 68 = .ok (.iconst 3, 1) := by decide +kernel
theorem d7_69 : decode method_4_code 69 = .ok (.iload_n 2, 1) := by decide +kernel
theorem d7_70 : decode method_4_code 70 = .ok (.iastore, 1) := by decide +kernel
theorem d7_71 : decode method_4_code 71 = .ok (.return_, 1) := by decide +kernel

theorem pd7 : parseMethodDescriptor "([II)V" = some ⟨[(.array .int), .int], none⟩ := by decide +kernel
theorem pl7 : plainFor (⟨"com/example/wary_mutex/warymutex/message/IndexSetRemovePinLaw", "removeModel", "([II)V"⟩ : MethodName) = true := by first | exact plainFor_of_name (by first | (simp [plainName, overriddenIn]; done) | decide +kernel) | decide +kernel

theorem ef_k_remM (m : MethodId) (x0 : Addr) (x1 : Int32) : entryFrame m #[(.ref x0), (.int x1)] 4 = mkF m 0 #[.val (.ref x0), .val (.int x1), .unset, .unset] [] := by first | (simp [entryFrame, mkF, argsToLocals, Value.category]; done) | rfl

set_option maxRecDepth 65536 in
set_option maxHeartbeats 40000000 in
theorem k_remM {l : Launch} {Z : State} {a0 : Array Value} (hw : ∀ d ∈ tables_1, d.before a0 Z = true) {M : List Int32} (h : Heap) (hz : Z.heap.size ≤ h.size) (a : Addr) (x : Int32) (fa0 : Ari Z h a .int M) (ok : own_okM M = true) (ge_a : Z.heap.size ≤ a)  : Go l Z (⟨"com/example/wary_mutex/warymutex/message/IndexSetRemovePinLaw", "removeModel", "([II)V"⟩ : MethodName) method_4_code 4 (Option.none : Option Jvm.ClassFile.FieldType) ({ frames := 0, cells := 0, slots := 0, locals := 0 } : Room) (QV fun h' => Keep h h' [a] ∧ Ari Z h' a .int (own_remM M x)) 0 0 h 0 #[.val (.ref a), .val (.int x), .unset, .unset] [] := by
  have kp0 : Keep h h [a] := Keep.refl _ _
  refine Go.aload_n 1 d7_0 rfl rfl rfl ?_
  refine Go.iconst 2 (3) d7_1 (by decide) rfl ?_
  refine Go.iaload (x := (M.getD 3 0)) (3) 3 d7_2 fa0 (by decide) (by decide) (own_getq (own_len (own_okM_e ok).1 3 (by decide))) rfl ?_
  refine Go.istore_n 4 #[.val (.ref a), .val (.int x), .val (.int (M.getD 3 0)), .unset] d7_3 rfl rfl ?_
  refine Go.iconst 5 (-1) d7_4 (by decide) rfl ?_
  refine Go.istore_n 6 #[.val (.ref a), .val (.int x), .val (.int (M.getD 3 0)), .val (.int (-1 : Int32))] d7_5 rfl rfl ?_
  refine Go.iload_n 7 d7_6 rfl rfl ?_
  refine Go.if_le 22 10 d7_7 (by decide) (by decide) rfl (fun c1 => ?_) (fun c1 => ?_)
  ·
    refine Go.iload_n 23 d7_22 rfl rfl ?_
    refine Go.iconst 24 (1) d7_23 (by decide) rfl ?_
    refine Go.icmp_le 39 27 d7_24 (by decide) (by decide) rfl (fun c2 => ?_) (fun c2 => ?_)
    ·
      refine Go.iload_n 40 d7_39 rfl rfl ?_
      refine Go.iconst 41 (2) d7_40 (by decide) rfl ?_
      refine Go.icmp_le 53 44 d7_41 (by decide) (by decide) rfl (fun c3 => ?_) (fun c3 => ?_)
      ·
        refine Go.iload_n 54 d7_53 rfl rfl ?_
        refine Go.if_lt 71 57 d7_54 (by decide) (by decide) rfl (fun _ => ?_) (fun c => absurd c (by decide))
        refine Go.vreturn d7_71 rfl (by decide) (by decide) ?_
        have e9 : own_remM M x = M := by simp only [own_remM, own_delM, c1, c2, c3, and_true, true_and, and_false, false_and, or_true, true_or, or_false, false_or, not_true_eq_false, not_false_eq_true, if_true, if_false]
        rw [e9]
        exact ⟨kp0, fa0⟩
      ·
        refine Go.aload_n 45 d7_44 rfl rfl rfl ?_
        refine Go.iconst 46 (2) d7_45 (by decide) rfl ?_
        refine Go.iaload (x := (M.getD 2 0)) (2) 47 d7_46 fa0 (by decide) (by decide) (own_getq (own_len (own_okM_e ok).1 2 (by decide))) rfl ?_
        refine Go.iload_n 48 d7_47 rfl rfl ?_
        refine Go.icmp_ne 53 51 d7_48 (by decide) (by decide) rfl (fun c5 => ?_) (fun c5 => ?_)
        ·
          refine Go.iload_n 54 d7_53 rfl rfl ?_
          refine Go.if_lt 71 57 d7_54 (by decide) (by decide) rfl (fun _ => ?_) (fun c => absurd c (by decide))
          refine Go.vreturn d7_71 rfl (by decide) (by decide) ?_
          have e9 : own_remM M x = M := by simp only [own_remM, own_delM, c1, c2, c3, c5, and_true, true_and, and_false, false_and, or_true, true_or, or_false, false_or, not_true_eq_false, not_false_eq_true, if_true, if_false]
          rw [e9]
          exact ⟨kp0, fa0⟩
        ·
          refine Go.iconst 52 (2) d7_51 (by decide) rfl ?_
          refine Go.istore_n 53 #[.val (.ref a), .val (.int x), .val (.int (M.getD 3 0)), .val (.int (2 : Int32))] d7_52 rfl rfl ?_
          refine Go.iload_n 54 d7_53 rfl rfl ?_
          refine Go.if_lt 71 57 d7_54 (by decide) (by decide) rfl (fun c => absurd c (by decide)) (fun _ => ?_)
          refine Go.iload_n 58 d7_57 rfl rfl ?_
          refine Go.iconst 59 (1) d7_58 (by decide) rfl ?_
          refine Go.isub 60 d7_59 rfl ?_
          refine Go.istore_n 61 #[.val (.ref a), .val (.int x), .val (.int ((M.getD 3 0) - (1 : Int32))), .val (.int (2 : Int32))] d7_60 rfl rfl ?_
          refine Go.aload_n 62 d7_61 rfl rfl rfl ?_
          refine Go.iload_n 63 d7_62 rfl rfl ?_
          refine Go.aload_n 64 d7_63 rfl rfl rfl ?_
          refine Go.iload_n 65 d7_64 rfl rfl ?_
          refine Go.iaload (x := (M.getD (Int32.toNatClampNeg ((M.getD 3 0) - (1 : Int32))) 0)) ((Int32.toNatClampNeg ((M.getD 3 0) - (1 : Int32)))) 66 d7_65 fa0 (own_nneg ok (by first | exact c3 | exact own_up ok c3)) rfl (own_getq (own_len (own_okM_e ok).1 _ (own_okM_e ok).2.2.1)) rfl ?_
          refine Go.iastore (2) ((M.set 2 (M.getD (Int32.toNatClampNeg ((M.getD 3 0) - (1 : Int32))) 0))) 67 d7_66 fa0 (by decide) (by decide) (own_len (own_okM_e ok).1 2 (by decide)) rfl ge_a rfl (fun h8 W9 A10 => ?_)
          have zs11 : Z.heap.size ≤ h8.size := W9.size ▸ hz
          have kp12 : Keep h h8 [a] := kp0.wr W9 (Or.inl (by simp))
          refine Go.aload_n 68 d7_67 rfl rfl rfl ?_
          refine Go.iconst 69 (3) d7_68 (by decide) rfl ?_
          refine Go.iload_n 70 d7_69 rfl rfl ?_
          refine Go.iastore (3) (((M.set 2 (M.getD (Int32.toNatClampNeg ((M.getD 3 0) - (1 : Int32))) 0)).set 3 ((M.getD 3 0) - (1 : Int32)))) 71 d7_70 A10 (by decide) (by decide) (by rw [List.length_set]; exact own_len (own_okM_e ok).1 3 (by decide)) rfl ge_a rfl (fun h13 W14 A15 => ?_)
          have zs16 : Z.heap.size ≤ h13.size := W14.size ▸ zs11
          have kp17 : Keep h h13 [a] := kp12.wr W14 (Or.inl (by simp))
          refine Go.vreturn d7_71 rfl (by decide) (by decide) ?_
          have e9 : own_remM M x = ((M.set 2 (M.getD (Int32.toNatClampNeg ((M.getD 3 0) - (1 : Int32))) 0)).set 3 ((M.getD 3 0) - (1 : Int32))) := by simp only [own_remM, own_delM, c1, c2, c3, c5, and_true, true_and, and_false, false_and, or_true, true_or, or_false, false_or, not_true_eq_false, not_false_eq_true, if_true, if_false]
          rw [e9]
          exact ⟨kp17, A15⟩
    ·
      refine Go.aload_n 28 d7_27 rfl rfl rfl ?_
      refine Go.iconst 29 (1) d7_28 (by decide) rfl ?_
      refine Go.iaload (x := (M.getD 1 0)) (1) 30 d7_29 fa0 (by decide) (by decide) (own_getq (own_len (own_okM_e ok).1 1 (by decide))) rfl ?_
      refine Go.iload_n 31 d7_30 rfl rfl ?_
      refine Go.icmp_ne 39 34 d7_31 (by decide) (by decide) rfl (fun c18 => ?_) (fun c18 => ?_)
      ·
        refine Go.iload_n 40 d7_39 rfl rfl ?_
        refine Go.iconst 41 (2) d7_40 (by decide) rfl ?_
        refine Go.icmp_le 53 44 d7_41 (by decide) (by decide) rfl (fun c19 => ?_) (fun c19 => ?_)
        ·
          refine Go.iload_n 54 d7_53 rfl rfl ?_
          refine Go.if_lt 71 57 d7_54 (by decide) (by decide) rfl (fun _ => ?_) (fun c => absurd c (by decide))
          refine Go.vreturn d7_71 rfl (by decide) (by decide) ?_
          have e9 : own_remM M x = M := by simp only [own_remM, own_delM, c1, c2, c18, c19, and_true, true_and, and_false, false_and, or_true, true_or, or_false, false_or, not_true_eq_false, not_false_eq_true, if_true, if_false]
          rw [e9]
          exact ⟨kp0, fa0⟩
        ·
          refine Go.aload_n 45 d7_44 rfl rfl rfl ?_
          refine Go.iconst 46 (2) d7_45 (by decide) rfl ?_
          refine Go.iaload (x := (M.getD 2 0)) (2) 47 d7_46 fa0 (by decide) (by decide) (own_getq (own_len (own_okM_e ok).1 2 (by decide))) rfl ?_
          refine Go.iload_n 48 d7_47 rfl rfl ?_
          refine Go.icmp_ne 53 51 d7_48 (by decide) (by decide) rfl (fun c21 => ?_) (fun c21 => ?_)
          ·
            refine Go.iload_n 54 d7_53 rfl rfl ?_
            refine Go.if_lt 71 57 d7_54 (by decide) (by decide) rfl (fun _ => ?_) (fun c => absurd c (by decide))
            refine Go.vreturn d7_71 rfl (by decide) (by decide) ?_
            have e9 : own_remM M x = M := by simp only [own_remM, own_delM, c1, c2, c18, c19, c21, and_true, true_and, and_false, false_and, or_true, true_or, or_false, false_or, not_true_eq_false, not_false_eq_true, if_true, if_false]
            rw [e9]
            exact ⟨kp0, fa0⟩
          ·
            refine Go.iconst 52 (2) d7_51 (by decide) rfl ?_
            refine Go.istore_n 53 #[.val (.ref a), .val (.int x), .val (.int (M.getD 3 0)), .val (.int (2 : Int32))] d7_52 rfl rfl ?_
            refine Go.iload_n 54 d7_53 rfl rfl ?_
            refine Go.if_lt 71 57 d7_54 (by decide) (by decide) rfl (fun c => absurd c (by decide)) (fun _ => ?_)
            refine Go.iload_n 58 d7_57 rfl rfl ?_
            refine Go.iconst 59 (1) d7_58 (by decide) rfl ?_
            refine Go.isub 60 d7_59 rfl ?_
            refine Go.istore_n 61 #[.val (.ref a), .val (.int x), .val (.int ((M.getD 3 0) - (1 : Int32))), .val (.int (2 : Int32))] d7_60 rfl rfl ?_
            refine Go.aload_n 62 d7_61 rfl rfl rfl ?_
            refine Go.iload_n 63 d7_62 rfl rfl ?_
            refine Go.aload_n 64 d7_63 rfl rfl rfl ?_
            refine Go.iload_n 65 d7_64 rfl rfl ?_
            refine Go.iaload (x := (M.getD (Int32.toNatClampNeg ((M.getD 3 0) - (1 : Int32))) 0)) ((Int32.toNatClampNeg ((M.getD 3 0) - (1 : Int32)))) 66 d7_65 fa0 (own_nneg ok (by first | exact c19 | exact own_up ok c19)) rfl (own_getq (own_len (own_okM_e ok).1 _ (own_okM_e ok).2.2.1)) rfl ?_
            refine Go.iastore (2) ((M.set 2 (M.getD (Int32.toNatClampNeg ((M.getD 3 0) - (1 : Int32))) 0))) 67 d7_66 fa0 (by decide) (by decide) (own_len (own_okM_e ok).1 2 (by decide)) rfl ge_a rfl (fun h24 W25 A26 => ?_)
            have zs27 : Z.heap.size ≤ h24.size := W25.size ▸ hz
            have kp28 : Keep h h24 [a] := kp0.wr W25 (Or.inl (by simp))
            refine Go.aload_n 68 d7_67 rfl rfl rfl ?_
            refine Go.iconst 69 (3) d7_68 (by decide) rfl ?_
            refine Go.iload_n 70 d7_69 rfl rfl ?_
            refine Go.iastore (3) (((M.set 2 (M.getD (Int32.toNatClampNeg ((M.getD 3 0) - (1 : Int32))) 0)).set 3 ((M.getD 3 0) - (1 : Int32)))) 71 d7_70 A26 (by decide) (by decide) (by rw [List.length_set]; exact own_len (own_okM_e ok).1 3 (by decide)) rfl ge_a rfl (fun h29 W30 A31 => ?_)
            have zs32 : Z.heap.size ≤ h29.size := W30.size ▸ zs27
            have kp33 : Keep h h29 [a] := kp28.wr W30 (Or.inl (by simp))
            refine Go.vreturn d7_71 rfl (by decide) (by decide) ?_
            have e9 : own_remM M x = ((M.set 2 (M.getD (Int32.toNatClampNeg ((M.getD 3 0) - (1 : Int32))) 0)).set 3 ((M.getD 3 0) - (1 : Int32))) := by simp only [own_remM, own_delM, c1, c2, c18, c19, c21, and_true, true_and, and_false, false_and, or_true, true_or, or_false, false_or, not_true_eq_false, not_false_eq_true, if_true, if_false]
            rw [e9]
            exact ⟨kp33, A31⟩
      ·
        refine Go.iconst 35 (1) d7_34 (by decide) rfl ?_
        refine Go.istore_n 36 #[.val (.ref a), .val (.int x), .val (.int (M.getD 3 0)), .val (.int (1 : Int32))] d7_35 rfl rfl ?_
        refine Go.goto 53 d7_36 (by decide) (by decide) ?_
        refine Go.iload_n 54 d7_53 rfl rfl ?_
        refine Go.if_lt 71 57 d7_54 (by decide) (by decide) rfl (fun c => absurd c (by decide)) (fun _ => ?_)
        refine Go.iload_n 58 d7_57 rfl rfl ?_
        refine Go.iconst 59 (1) d7_58 (by decide) rfl ?_
        refine Go.isub 60 d7_59 rfl ?_
        refine Go.istore_n 61 #[.val (.ref a), .val (.int x), .val (.int ((M.getD 3 0) - (1 : Int32))), .val (.int (1 : Int32))] d7_60 rfl rfl ?_
        refine Go.aload_n 62 d7_61 rfl rfl rfl ?_
        refine Go.iload_n 63 d7_62 rfl rfl ?_
        refine Go.aload_n 64 d7_63 rfl rfl rfl ?_
        refine Go.iload_n 65 d7_64 rfl rfl ?_
        refine Go.iaload (x := (M.getD (Int32.toNatClampNeg ((M.getD 3 0) - (1 : Int32))) 0)) ((Int32.toNatClampNeg ((M.getD 3 0) - (1 : Int32)))) 66 d7_65 fa0 (own_nneg ok (by first | exact c2 | exact own_up ok c2)) rfl (own_getq (own_len (own_okM_e ok).1 _ (own_okM_e ok).2.2.1)) rfl ?_
        refine Go.iastore (1) ((M.set 1 (M.getD (Int32.toNatClampNeg ((M.getD 3 0) - (1 : Int32))) 0))) 67 d7_66 fa0 (by decide) (by decide) (own_len (own_okM_e ok).1 1 (by decide)) rfl ge_a rfl (fun h35 W36 A37 => ?_)
        have zs38 : Z.heap.size ≤ h35.size := W36.size ▸ hz
        have kp39 : Keep h h35 [a] := kp0.wr W36 (Or.inl (by simp))
        refine Go.aload_n 68 d7_67 rfl rfl rfl ?_
        refine Go.iconst 69 (3) d7_68 (by decide) rfl ?_
        refine Go.iload_n 70 d7_69 rfl rfl ?_
        refine Go.iastore (3) (((M.set 1 (M.getD (Int32.toNatClampNeg ((M.getD 3 0) - (1 : Int32))) 0)).set 3 ((M.getD 3 0) - (1 : Int32)))) 71 d7_70 A37 (by decide) (by decide) (by rw [List.length_set]; exact own_len (own_okM_e ok).1 3 (by decide)) rfl ge_a rfl (fun h40 W41 A42 => ?_)
        have zs43 : Z.heap.size ≤ h40.size := W41.size ▸ zs38
        have kp44 : Keep h h40 [a] := kp39.wr W41 (Or.inl (by simp))
        refine Go.vreturn d7_71 rfl (by decide) (by decide) ?_
        have e9 : own_remM M x = ((M.set 1 (M.getD (Int32.toNatClampNeg ((M.getD 3 0) - (1 : Int32))) 0)).set 3 ((M.getD 3 0) - (1 : Int32))) := by simp only [own_remM, own_delM, c1, c2, c18, and_true, true_and, and_false, false_and, or_true, true_or, or_false, false_or, not_true_eq_false, not_false_eq_true, if_true, if_false]
        rw [e9]
        exact ⟨kp44, A42⟩
  ·
    refine Go.aload_n 11 d7_10 rfl rfl rfl ?_
    refine Go.iconst 12 (0) d7_11 (by decide) rfl ?_
    refine Go.iaload (x := (M.getD 0 0)) (0) 13 d7_12 fa0 (by decide) (by decide) (own_getq (own_len (own_okM_e ok).1 0 (by decide))) rfl ?_
    refine Go.iload_n 14 d7_13 rfl rfl ?_
    refine Go.icmp_ne 22 17 d7_14 (by decide) (by decide) rfl (fun c45 => ?_) (fun c45 => ?_)
    ·
      refine Go.iload_n 23 d7_22 rfl rfl ?_
      refine Go.iconst 24 (1) d7_23 (by decide) rfl ?_
      refine Go.icmp_le 39 27 d7_24 (by decide) (by decide) rfl (fun c46 => ?_) (fun c46 => ?_)
      ·
        refine Go.iload_n 40 d7_39 rfl rfl ?_
        refine Go.iconst 41 (2) d7_40 (by decide) rfl ?_
        refine Go.icmp_le 53 44 d7_41 (by decide) (by decide) rfl (fun c47 => ?_) (fun c47 => ?_)
        ·
          refine Go.iload_n 54 d7_53 rfl rfl ?_
          refine Go.if_lt 71 57 d7_54 (by decide) (by decide) rfl (fun _ => ?_) (fun c => absurd c (by decide))
          refine Go.vreturn d7_71 rfl (by decide) (by decide) ?_
          have e9 : own_remM M x = M := by simp only [own_remM, own_delM, c1, c45, c46, c47, and_true, true_and, and_false, false_and, or_true, true_or, or_false, false_or, not_true_eq_false, not_false_eq_true, if_true, if_false]
          rw [e9]
          exact ⟨kp0, fa0⟩
        ·
          refine Go.aload_n 45 d7_44 rfl rfl rfl ?_
          refine Go.iconst 46 (2) d7_45 (by decide) rfl ?_
          refine Go.iaload (x := (M.getD 2 0)) (2) 47 d7_46 fa0 (by decide) (by decide) (own_getq (own_len (own_okM_e ok).1 2 (by decide))) rfl ?_
          refine Go.iload_n 48 d7_47 rfl rfl ?_
          refine Go.icmp_ne 53 51 d7_48 (by decide) (by decide) rfl (fun c49 => ?_) (fun c49 => ?_)
          ·
            refine Go.iload_n 54 d7_53 rfl rfl ?_
            refine Go.if_lt 71 57 d7_54 (by decide) (by decide) rfl (fun _ => ?_) (fun c => absurd c (by decide))
            refine Go.vreturn d7_71 rfl (by decide) (by decide) ?_
            have e9 : own_remM M x = M := by simp only [own_remM, own_delM, c1, c45, c46, c47, c49, and_true, true_and, and_false, false_and, or_true, true_or, or_false, false_or, not_true_eq_false, not_false_eq_true, if_true, if_false]
            rw [e9]
            exact ⟨kp0, fa0⟩
          ·
            refine Go.iconst 52 (2) d7_51 (by decide) rfl ?_
            refine Go.istore_n 53 #[.val (.ref a), .val (.int x), .val (.int (M.getD 3 0)), .val (.int (2 : Int32))] d7_52 rfl rfl ?_
            refine Go.iload_n 54 d7_53 rfl rfl ?_
            refine Go.if_lt 71 57 d7_54 (by decide) (by decide) rfl (fun c => absurd c (by decide)) (fun _ => ?_)
            refine Go.iload_n 58 d7_57 rfl rfl ?_
            refine Go.iconst 59 (1) d7_58 (by decide) rfl ?_
            refine Go.isub 60 d7_59 rfl ?_
            refine Go.istore_n 61 #[.val (.ref a), .val (.int x), .val (.int ((M.getD 3 0) - (1 : Int32))), .val (.int (2 : Int32))] d7_60 rfl rfl ?_
            refine Go.aload_n 62 d7_61 rfl rfl rfl ?_
            refine Go.iload_n 63 d7_62 rfl rfl ?_
            refine Go.aload_n 64 d7_63 rfl rfl rfl ?_
            refine Go.iload_n 65 d7_64 rfl rfl ?_
            refine Go.iaload (x := (M.getD (Int32.toNatClampNeg ((M.getD 3 0) - (1 : Int32))) 0)) ((Int32.toNatClampNeg ((M.getD 3 0) - (1 : Int32)))) 66 d7_65 fa0 (own_nneg ok (by first | exact c47 | exact own_up ok c47)) rfl (own_getq (own_len (own_okM_e ok).1 _ (own_okM_e ok).2.2.1)) rfl ?_
            refine Go.iastore (2) ((M.set 2 (M.getD (Int32.toNatClampNeg ((M.getD 3 0) - (1 : Int32))) 0))) 67 d7_66 fa0 (by decide) (by decide) (own_len (own_okM_e ok).1 2 (by decide)) rfl ge_a rfl (fun h52 W53 A54 => ?_)
            have zs55 : Z.heap.size ≤ h52.size := W53.size ▸ hz
            have kp56 : Keep h h52 [a] := kp0.wr W53 (Or.inl (by simp))
            refine Go.aload_n 68 d7_67 rfl rfl rfl ?_
            refine Go.iconst 69 (3) d7_68 (by decide) rfl ?_
            refine Go.iload_n 70 d7_69 rfl rfl ?_
            refine Go.iastore (3) (((M.set 2 (M.getD (Int32.toNatClampNeg ((M.getD 3 0) - (1 : Int32))) 0)).set 3 ((M.getD 3 0) - (1 : Int32)))) 71 d7_70 A54 (by decide) (by decide) (by rw [List.length_set]; exact own_len (own_okM_e ok).1 3 (by decide)) rfl ge_a rfl (fun h57 W58 A59 => ?_)
            have zs60 : Z.heap.size ≤ h57.size := W58.size ▸ zs55
            have kp61 : Keep h h57 [a] := kp56.wr W58 (Or.inl (by simp))
            refine Go.vreturn d7_71 rfl (by decide) (by decide) ?_
            have e9 : own_remM M x = ((M.set 2 (M.getD (Int32.toNatClampNeg ((M.getD 3 0) - (1 : Int32))) 0)).set 3 ((M.getD 3 0) - (1 : Int32))) := by simp only [own_remM, own_delM, c1, c45, c46, c47, c49, and_true, true_and, and_false, false_and, or_true, true_or, or_false, false_or, not_true_eq_false, not_false_eq_true, if_true, if_false]
            rw [e9]
            exact ⟨kp61, A59⟩
      ·
        refine Go.aload_n 28 d7_27 rfl rfl rfl ?_
        refine Go.iconst 29 (1) d7_28 (by decide) rfl ?_
        refine Go.iaload (x := (M.getD 1 0)) (1) 30 d7_29 fa0 (by decide) (by decide) (own_getq (own_len (own_okM_e ok).1 1 (by decide))) rfl ?_
        refine Go.iload_n 31 d7_30 rfl rfl ?_
        refine Go.icmp_ne 39 34 d7_31 (by decide) (by decide) rfl (fun c62 => ?_) (fun c62 => ?_)
        ·
          refine Go.iload_n 40 d7_39 rfl rfl ?_
          refine Go.iconst 41 (2) d7_40 (by decide) rfl ?_
          refine Go.icmp_le 53 44 d7_41 (by decide) (by decide) rfl (fun c63 => ?_) (fun c63 => ?_)
          ·
            refine Go.iload_n 54 d7_53 rfl rfl ?_
            refine Go.if_lt 71 57 d7_54 (by decide) (by decide) rfl (fun _ => ?_) (fun c => absurd c (by decide))
            refine Go.vreturn d7_71 rfl (by decide) (by decide) ?_
            have e9 : own_remM M x = M := by simp only [own_remM, own_delM, c1, c45, c46, c62, c63, and_true, true_and, and_false, false_and, or_true, true_or, or_false, false_or, not_true_eq_false, not_false_eq_true, if_true, if_false]
            rw [e9]
            exact ⟨kp0, fa0⟩
          ·
            refine Go.aload_n 45 d7_44 rfl rfl rfl ?_
            refine Go.iconst 46 (2) d7_45 (by decide) rfl ?_
            refine Go.iaload (x := (M.getD 2 0)) (2) 47 d7_46 fa0 (by decide) (by decide) (own_getq (own_len (own_okM_e ok).1 2 (by decide))) rfl ?_
            refine Go.iload_n 48 d7_47 rfl rfl ?_
            refine Go.icmp_ne 53 51 d7_48 (by decide) (by decide) rfl (fun c65 => ?_) (fun c65 => ?_)
            ·
              refine Go.iload_n 54 d7_53 rfl rfl ?_
              refine Go.if_lt 71 57 d7_54 (by decide) (by decide) rfl (fun _ => ?_) (fun c => absurd c (by decide))
              refine Go.vreturn d7_71 rfl (by decide) (by decide) ?_
              have e9 : own_remM M x = M := by simp only [own_remM, own_delM, c1, c45, c46, c62, c63, c65, and_true, true_and, and_false, false_and, or_true, true_or, or_false, false_or, not_true_eq_false, not_false_eq_true, if_true, if_false]
              rw [e9]
              exact ⟨kp0, fa0⟩
            ·
              refine Go.iconst 52 (2) d7_51 (by decide) rfl ?_
              refine Go.istore_n 53 #[.val (.ref a), .val (.int x), .val (.int (M.getD 3 0)), .val (.int (2 : Int32))] d7_52 rfl rfl ?_
              refine Go.iload_n 54 d7_53 rfl rfl ?_
              refine Go.if_lt 71 57 d7_54 (by decide) (by decide) rfl (fun c => absurd c (by decide)) (fun _ => ?_)
              refine Go.iload_n 58 d7_57 rfl rfl ?_
              refine Go.iconst 59 (1) d7_58 (by decide) rfl ?_
              refine Go.isub 60 d7_59 rfl ?_
              refine Go.istore_n 61 #[.val (.ref a), .val (.int x), .val (.int ((M.getD 3 0) - (1 : Int32))), .val (.int (2 : Int32))] d7_60 rfl rfl ?_
              refine Go.aload_n 62 d7_61 rfl rfl rfl ?_
              refine Go.iload_n 63 d7_62 rfl rfl ?_
              refine Go.aload_n 64 d7_63 rfl rfl rfl ?_
              refine Go.iload_n 65 d7_64 rfl rfl ?_
              refine Go.iaload (x := (M.getD (Int32.toNatClampNeg ((M.getD 3 0) - (1 : Int32))) 0)) ((Int32.toNatClampNeg ((M.getD 3 0) - (1 : Int32)))) 66 d7_65 fa0 (own_nneg ok (by first | exact c63 | exact own_up ok c63)) rfl (own_getq (own_len (own_okM_e ok).1 _ (own_okM_e ok).2.2.1)) rfl ?_
              refine Go.iastore (2) ((M.set 2 (M.getD (Int32.toNatClampNeg ((M.getD 3 0) - (1 : Int32))) 0))) 67 d7_66 fa0 (by decide) (by decide) (own_len (own_okM_e ok).1 2 (by decide)) rfl ge_a rfl (fun h68 W69 A70 => ?_)
              have zs71 : Z.heap.size ≤ h68.size := W69.size ▸ hz
              have kp72 : Keep h h68 [a] := kp0.wr W69 (Or.inl (by simp))
              refine Go.aload_n 68 d7_67 rfl rfl rfl ?_
              refine Go.iconst 69 (3) d7_68 (by decide) rfl ?_
              refine Go.iload_n 70 d7_69 rfl rfl ?_
              refine Go.iastore (3) (((M.set 2 (M.getD (Int32.toNatClampNeg ((M.getD 3 0) - (1 : Int32))) 0)).set 3 ((M.getD 3 0) - (1 : Int32)))) 71 d7_70 A70 (by decide) (by decide) (by rw [List.length_set]; exact own_len (own_okM_e ok).1 3 (by decide)) rfl ge_a rfl (fun h73 W74 A75 => ?_)
              have zs76 : Z.heap.size ≤ h73.size := W74.size ▸ zs71
              have kp77 : Keep h h73 [a] := kp72.wr W74 (Or.inl (by simp))
              refine Go.vreturn d7_71 rfl (by decide) (by decide) ?_
              have e9 : own_remM M x = ((M.set 2 (M.getD (Int32.toNatClampNeg ((M.getD 3 0) - (1 : Int32))) 0)).set 3 ((M.getD 3 0) - (1 : Int32))) := by simp only [own_remM, own_delM, c1, c45, c46, c62, c63, c65, and_true, true_and, and_false, false_and, or_true, true_or, or_false, false_or, not_true_eq_false, not_false_eq_true, if_true, if_false]
              rw [e9]
              exact ⟨kp77, A75⟩
        ·
          refine Go.iconst 35 (1) d7_34 (by decide) rfl ?_
          refine Go.istore_n 36 #[.val (.ref a), .val (.int x), .val (.int (M.getD 3 0)), .val (.int (1 : Int32))] d7_35 rfl rfl ?_
          refine Go.goto 53 d7_36 (by decide) (by decide) ?_
          refine Go.iload_n 54 d7_53 rfl rfl ?_
          refine Go.if_lt 71 57 d7_54 (by decide) (by decide) rfl (fun c => absurd c (by decide)) (fun _ => ?_)
          refine Go.iload_n 58 d7_57 rfl rfl ?_
          refine Go.iconst 59 (1) d7_58 (by decide) rfl ?_
          refine Go.isub 60 d7_59 rfl ?_
          refine Go.istore_n 61 #[.val (.ref a), .val (.int x), .val (.int ((M.getD 3 0) - (1 : Int32))), .val (.int (1 : Int32))] d7_60 rfl rfl ?_
          refine Go.aload_n 62 d7_61 rfl rfl rfl ?_
          refine Go.iload_n 63 d7_62 rfl rfl ?_
          refine Go.aload_n 64 d7_63 rfl rfl rfl ?_
          refine Go.iload_n 65 d7_64 rfl rfl ?_
          refine Go.iaload (x := (M.getD (Int32.toNatClampNeg ((M.getD 3 0) - (1 : Int32))) 0)) ((Int32.toNatClampNeg ((M.getD 3 0) - (1 : Int32)))) 66 d7_65 fa0 (own_nneg ok (by first | exact c46 | exact own_up ok c46)) rfl (own_getq (own_len (own_okM_e ok).1 _ (own_okM_e ok).2.2.1)) rfl ?_
          refine Go.iastore (1) ((M.set 1 (M.getD (Int32.toNatClampNeg ((M.getD 3 0) - (1 : Int32))) 0))) 67 d7_66 fa0 (by decide) (by decide) (own_len (own_okM_e ok).1 1 (by decide)) rfl ge_a rfl (fun h79 W80 A81 => ?_)
          have zs82 : Z.heap.size ≤ h79.size := W80.size ▸ hz
          have kp83 : Keep h h79 [a] := kp0.wr W80 (Or.inl (by simp))
          refine Go.aload_n 68 d7_67 rfl rfl rfl ?_
          refine Go.iconst 69 (3) d7_68 (by decide) rfl ?_
          refine Go.iload_n 70 d7_69 rfl rfl ?_
          refine Go.iastore (3) (((M.set 1 (M.getD (Int32.toNatClampNeg ((M.getD 3 0) - (1 : Int32))) 0)).set 3 ((M.getD 3 0) - (1 : Int32)))) 71 d7_70 A81 (by decide) (by decide) (by rw [List.length_set]; exact own_len (own_okM_e ok).1 3 (by decide)) rfl ge_a rfl (fun h84 W85 A86 => ?_)
          have zs87 : Z.heap.size ≤ h84.size := W85.size ▸ zs82
          have kp88 : Keep h h84 [a] := kp83.wr W85 (Or.inl (by simp))
          refine Go.vreturn d7_71 rfl (by decide) (by decide) ?_
          have e9 : own_remM M x = ((M.set 1 (M.getD (Int32.toNatClampNeg ((M.getD 3 0) - (1 : Int32))) 0)).set 3 ((M.getD 3 0) - (1 : Int32))) := by simp only [own_remM, own_delM, c1, c45, c46, c62, and_true, true_and, and_false, false_and, or_true, true_or, or_false, false_or, not_true_eq_false, not_false_eq_true, if_true, if_false]
          rw [e9]
          exact ⟨kp88, A86⟩
    ·
      refine Go.iconst 18 (0) d7_17 (by decide) rfl ?_
      refine Go.istore_n 19 #[.val (.ref a), .val (.int x), .val (.int (M.getD 3 0)), .val (.int (0 : Int32))] d7_18 rfl rfl ?_
      refine Go.goto 53 d7_19 (by decide) (by decide) ?_
      refine Go.iload_n 54 d7_53 rfl rfl ?_
      refine Go.if_lt 71 57 d7_54 (by decide) (by decide) rfl (fun c => absurd c (by decide)) (fun _ => ?_)
      refine Go.iload_n 58 d7_57 rfl rfl ?_
      refine Go.iconst 59 (1) d7_58 (by decide) rfl ?_
      refine Go.isub 60 d7_59 rfl ?_
      refine Go.istore_n 61 #[.val (.ref a), .val (.int x), .val (.int ((M.getD 3 0) - (1 : Int32))), .val (.int (0 : Int32))] d7_60 rfl rfl ?_
      refine Go.aload_n 62 d7_61 rfl rfl rfl ?_
      refine Go.iload_n 63 d7_62 rfl rfl ?_
      refine Go.aload_n 64 d7_63 rfl rfl rfl ?_
      refine Go.iload_n 65 d7_64 rfl rfl ?_
      refine Go.iaload (x := (M.getD (Int32.toNatClampNeg ((M.getD 3 0) - (1 : Int32))) 0)) ((Int32.toNatClampNeg ((M.getD 3 0) - (1 : Int32)))) 66 d7_65 fa0 (own_nneg ok (by first | exact c1 | exact own_up ok c1)) rfl (own_getq (own_len (own_okM_e ok).1 _ (own_okM_e ok).2.2.1)) rfl ?_
      refine Go.iastore (0) ((M.set 0 (M.getD (Int32.toNatClampNeg ((M.getD 3 0) - (1 : Int32))) 0))) 67 d7_66 fa0 (by decide) (by decide) (own_len (own_okM_e ok).1 0 (by decide)) rfl ge_a rfl (fun h90 W91 A92 => ?_)
      have zs93 : Z.heap.size ≤ h90.size := W91.size ▸ hz
      have kp94 : Keep h h90 [a] := kp0.wr W91 (Or.inl (by simp))
      refine Go.aload_n 68 d7_67 rfl rfl rfl ?_
      refine Go.iconst 69 (3) d7_68 (by decide) rfl ?_
      refine Go.iload_n 70 d7_69 rfl rfl ?_
      refine Go.iastore (3) (((M.set 0 (M.getD (Int32.toNatClampNeg ((M.getD 3 0) - (1 : Int32))) 0)).set 3 ((M.getD 3 0) - (1 : Int32)))) 71 d7_70 A92 (by decide) (by decide) (by rw [List.length_set]; exact own_len (own_okM_e ok).1 3 (by decide)) rfl ge_a rfl (fun h95 W96 A97 => ?_)
      have zs98 : Z.heap.size ≤ h95.size := W96.size ▸ zs93
      have kp99 : Keep h h95 [a] := kp94.wr W96 (Or.inl (by simp))
      refine Go.vreturn d7_71 rfl (by decide) (by decide) ?_
      have e9 : own_remM M x = ((M.set 0 (M.getD (Int32.toNatClampNeg ((M.getD 3 0) - (1 : Int32))) 0)).set 3 ((M.getD 3 0) - (1 : Int32))) := by simp only [own_remM, own_delM, c1, c45, and_true, true_and, and_false, false_and, or_true, true_or, or_false, false_or, not_true_eq_false, not_false_eq_true, if_true, if_false]
      rw [e9]
      exact ⟨kp99, A97⟩

theorem ef_law0 (m : MethodId) (x0 : Int32) (x1 : Int32) (x2 : Int32) (x3 : Int32) (x4 : Int32) (x5 : Int32) : entryFrame m #[(.int x0), (.int x1), (.int x2), (.int x3), (.int x4), (.int x5)] maxLocals = mkF m 0 #[.val (.int x0), .val (.int x1), .val (.int x2), .val (.int x3), .val (.int x4), .val (.int x5), .unset, .unset, .unset, .unset, .unset, .unset, .unset, .unset, .unset] [] := by first | (simp [entryFrame, mkF, argsToLocals, Value.category, maxLocals]; done) | rfl

set_option maxRecDepth 65536 in
set_option maxHeartbeats 40000000 in
theorem law0 {l : Launch} {Z : State} {a0 : Array Value} (hw : ∀ d ∈ tables_1, d.before a0 Z = true)  (h : Heap) (hz : Z.heap.size ≤ h.size) (i0 : Int32) (i1 : Int32) (i2 : Int32) (i3 : Int32) (i4 : Int32) (i5 : Int32)     : Go l Z x code maxLocals ret room_1 (QI fun z h' => z = 1) 0 0 h 0 #[.val (.int i0), .val (.int i1), .val (.int i2), .val (.int i3), .val (.int i4), .val (.int i5), .unset, .unset, .unset, .unset, .unset, .unset, .unset, .unset, .unset] [] := by
  refine Go.iload_n 1 at_0 rfl rfl ?_
  refine Go.iconst 2 (3) at_1 (by decide) rfl ?_
  refine Go.iand 3 at_2 rfl ?_
  refine Go.nameI (fun v1 e2 => ?_)
  refine Go.istore 5 #[.val (.int i0), .val (.int i1), .val (.int i2), .val (.int i3), .val (.int i4), .val (.int i5), .val (.int v1), .unset, .unset, .unset, .unset, .unset, .unset, .unset, .unset] at_3 rfl rfl ?_
  refine Go.iload_n 6 at_5 rfl rfl ?_
  refine Go.iconst 7 (3) at_6 (by decide) rfl ?_
  refine Go.iand 8 at_7 rfl ?_
  refine Go.nameI (fun v3 e4 => ?_)
  refine Go.istore 10 #[.val (.int i0), .val (.int i1), .val (.int i2), .val (.int i3), .val (.int i4), .val (.int i5), .val (.int v1), .val (.int v3), .unset, .unset, .unset, .unset, .unset, .unset, .unset] at_8 rfl rfl ?_
  refine Go.iload_n 11 at_10 rfl rfl ?_
  refine Go.iconst 12 (3) at_11 (by decide) rfl ?_
  refine Go.iand 13 at_12 rfl ?_
  refine Go.nameI (fun v5 e6 => ?_)
  refine Go.istore 15 #[.val (.int i0), .val (.int i1), .val (.int i2), .val (.int i3), .val (.int i4), .val (.int i5), .val (.int v1), .val (.int v3), .val (.int v5), .unset, .unset, .unset, .unset, .unset, .unset] at_13 rfl rfl ?_
  refine Go.iload_n 16 at_15 rfl rfl ?_
  refine Go.iconst 17 (3) at_16 (by decide) rfl ?_
  refine Go.iand 18 at_17 rfl ?_
  refine Go.nameI (fun v7 e8 => ?_)
  refine Go.istore 20 #[.val (.int i0), .val (.int i1), .val (.int i2), .val (.int i3), .val (.int i4), .val (.int i5), .val (.int v1), .val (.int v3), .val (.int v5), .val (.int v7), .unset, .unset, .unset, .unset, .unset] at_18 rfl rfl ?_
  refine Go.iload 22 at_20 rfl rfl ?_
  refine Go.iconst 23 (3) at_22 (by decide) rfl ?_
  refine Go.iand 24 at_23 rfl ?_
  refine Go.nameI (fun v9 e10 => ?_)
  refine Go.istore 26 #[.val (.int i0), .val (.int i1), .val (.int i2), .val (.int i3), .val (.int i4), .val (.int i5), .val (.int v1), .val (.int v3), .val (.int v5), .val (.int v7), .val (.int v9), .unset, .unset, .unset, .unset] at_24 rfl rfl ?_
  refine Go.iload 28 at_26 rfl rfl ?_
  refine Go.iconst 29 (3) at_28 (by decide) rfl ?_
  refine Go.iand 30 at_29 rfl ?_
  refine Go.nameI (fun v11 e12 => ?_)
  refine Go.istore 32 #[.val (.int i0), .val (.int i1), .val (.int i2), .val (.int i3), .val (.int i4), .val (.int i5), .val (.int v1), .val (.int v3), .val (.int v5), .val (.int v7), .val (.int v9), .val (.int v11), .unset, .unset, .unset] at_30 rfl rfl ?_
  obtain ⟨fa, hhfa⟩ := own_fin4 e2
  rw [hhfa]
  obtain ⟨fb, hhfb⟩ := own_fin4 e4
  rw [hhfb]
  obtain ⟨fc, hhfc⟩ := own_fin4 e6
  rw [hhfc]
  obtain ⟨fv, hhfv⟩ := own_fin4 e10
  rw [hhfv]
  obtain ⟨fw, hhfw⟩ := own_fin4 e12
  rw [hhfw]
  rcases own_four e8 with hs12 | hs12 | hs12 | hs12
  ·
    subst hs12
    refine Go.iconst 33 (4) at_32 (by decide) rfl ?_
    refine Go.newI (cap := 4) (xs := [0, 0, 0, 0]) 35 at_33 (tw0 hw) rfl (by decide) (by decide) (by decide) rfl (by decide) (by decide) rfl (fun a14 h15 q16 E17 A18 => ?_)
    have ge19 : Z.heap.size ≤ a14 := (Eq.symm q16) ▸ hz
    have zs20 : Z.heap.size ≤ h15.size := Nat.le_trans hz E17.1
    refine Go.astore 37 #[.val (.int i0), .val (.int i1), .val (.int i2), .val (.int i3), .val (.int i4), .val (.int i5), .val (.int (own_i fa)), .val (.int (own_i fb)), .val (.int (own_i fc)), .val (.int (0 : Int32)), .val (.int (own_i fv)), .val (.int (own_i fw)), .val (.ref a14), .unset, .unset] at_35 rfl rfl rfl ?_
    refine Go.new 40 at_37 (tw1 hw) (tw2 hw) (tw3 hw) (by decide) (by decide) rfl (fun a21 h22 q23 E24 A25 D26 => ?_)
    have ne27 : a14 ≠ a21 := fun e => absurd A18.lt (by rw [e, q23]; exact Nat.lt_irrefl _)
    have ge28 : Z.heap.size ≤ a21 := (Eq.symm q23) ▸ zs20
    have f29 : Ari Z h22 a14 .int [0, 0, 0, 0] := A18.ext E24
    have zs30 : Z.heap.size ≤ h22.size := Nat.le_trans zs20 E24.1
    have f31 : Fld Z h22 a21 "com/example/wary_mutex/warymutex/message/IndexSet" "members" "[I" (.null) := D26 (Or.inr (tw11 hw)) (ty := (.array .int)) (by decide)
    have f32 : Fld Z h22 a21 "com/example/wary_mutex/warymutex/message/IndexSet" "positions" "[I" (.null) := D26 (Or.inr (tw13 hw)) (ty := (.array .int)) (by decide)
    have f33 : Fld Z h22 a21 "com/example/wary_mutex/warymutex/message/IndexSet" "size" "I" (.int (0 : Int32)) := D26 (Or.inl (tw24 hw)) (ty := .int) (by decide)
    refine Go.dup 41 at_40 rfl rfl ?_
    refine Go.iconst 42 (4) at_41 (by decide) rfl ?_
    refine Go.callC [.int (4 : Int32)] [.ref a21] 45 at_42 rfl (tw4 hw) (tw5 hw) (tw3 hw) (tw6 hw) pl1 (by decide) (lenOf pd1 rfl) rfl (fun m => ef_k_init m a21 (4 : Int32)) _ (k_init hw h22 zs30 a21 A25 f31 f32 f33 ge28) 1 rfl (Nat.le_of_eq rfl) (by decide) (by decide) (by decide) (by decide) rfl ?_
    rintro h35 ⟨a37, a38, g39, g40, ne41, K36, f42, f43, f44, f45, f46, f47⟩
    have ne48 : a14 ≠ a37 := Nat.ne_of_lt (Nat.lt_of_lt_of_le f29.lt g39)
    have ne49 : a21 ≠ a37 := Nat.ne_of_lt (Nat.lt_of_lt_of_le A25.lt g39)
    have ge50 : Z.heap.size ≤ a37 := Nat.le_trans zs30 g39
    have ne51 : a14 ≠ a38 := Nat.ne_of_lt (Nat.lt_of_lt_of_le f29.lt g40)
    have ne52 : a21 ≠ a38 := Nat.ne_of_lt (Nat.lt_of_lt_of_le A25.lt g40)
    have ge53 : Z.heap.size ≤ a38 := Nat.le_trans zs30 g40
    have f54 : Ari Z h35 a14 .int [0, 0, 0, 0] := f29.keep K36 (ninS ne27 nin0)
    have zs55 : Z.heap.size ≤ h35.size := Nat.le_trans zs30 K36.1
    refine Go.astore 47 #[.val (.int i0), .val (.int i1), .val (.int i2), .val (.int i3), .val (.int i4), .val (.int i5), .val (.int (own_i fa)), .val (.int (own_i fb)), .val (.int (own_i fc)), .val (.int (0 : Int32)), .val (.int (own_i fv)), .val (.int (own_i fw)), .val (.ref a14), .val (.ref a21), .unset] at_45 rfl rfl rfl ?_
    refine Go.iload 49 at_47 rfl rfl ?_
    refine Go.if_le 66 52 at_49 (by decide) (by decide) rfl (fun _ => ?_) (fun c => absurd c (by decide))
    refine Go.iload 68 at_66 rfl rfl ?_
    refine Go.iconst 69 (1) at_68 (by decide) rfl ?_
    refine Go.icmp_le 86 72 at_69 (by decide) (by decide) rfl (fun _ => ?_) (fun c => absurd c (by decide))
    refine Go.iload 88 at_86 rfl rfl ?_
    refine Go.iconst 89 (2) at_88 (by decide) rfl ?_
    refine Go.icmp_le 106 92 at_89 (by decide) (by decide) rfl (fun _ => ?_) (fun c => absurd c (by decide))
    refine Go.aload 108 at_106 rfl rfl rfl ?_
    refine Go.iload 110 at_108 rfl rfl ?_
    refine Go.callVV [.int (own_i fv)] [] 113 at_110 (tw29 hw) (tw30 hw) (tw32 hw) (tw31 hw) (tw3 hw) (tw33 hw) f42 pl6 (by decide) (lenOf pd6 rfl) rfl (fun m => ef_k_rem m a21 (own_i fv)) _ (k_rem (S := own_init) hw h35 zs55 a21 (own_i fv) f42 f43 f44 f45 f46 f47 (own_orB (own_f0 fa fb fc fv fw) rfl) ge28 ge50 ge53 ne49 ne52 ne41) 0 rfl (Nat.le_of_eq rfl) (by decide) (by decide) (by decide) (by decide) rfl ?_
    rintro h60 ⟨K61, f62, f63, f64, f65, f66, f67⟩
    have f68 : Ari Z h60 a14 .int [0, 0, 0, 0] := f54.keep K61 (ninS ne27 (ninS ne48 (ninS ne51 nin0)))
    have zs69 : Z.heap.size ≤ h60.size := Nat.le_trans zs55 K61.1
    refine Go.aload 115 at_113 rfl rfl rfl ?_
    refine Go.iload 117 at_115 rfl rfl ?_
    refine Go.callSV [.ref a14, .int (own_i fv)] [] 120 at_117 (tw34 hw) (tw35 hw) (tw27 hw) (tw36 hw) pl7 (by decide) (lenOf pd7 rfl) rfl (fun m => ef_k_remM m a14 (own_i fv)) _ (k_remM hw h60 zs69 a14 (own_i fv) f68 (own_orB (own_f1 fa fb fc fv fw) rfl) ge19) 0 rfl (Nat.le_of_eq rfl) (by decide) (by decide) (by decide) (by decide) rfl ?_
    rintro h71 ⟨K72, f73⟩
    have f74 : Exa Z h71 a21 "com/example/wary_mutex/warymutex/message/IndexSet" := f62.keep K72
    have f75 : Fld Z h71 a21 "com/example/wary_mutex/warymutex/message/IndexSet" "members" "[I" (.ref a37) := f63.keep K72 (ninS (Ne.symm ne27) nin0)
    have f76 : Fld Z h71 a21 "com/example/wary_mutex/warymutex/message/IndexSet" "positions" "[I" (.ref a38) := f64.keep K72 (ninS (Ne.symm ne27) nin0)
    have f77 : Fld Z h71 a21 "com/example/wary_mutex/warymutex/message/IndexSet" "size" "I" (.int ((own_rem own_init (own_i fv)).2.2)) := f65.keep K72 (ninS (Ne.symm ne27) nin0)
    have f78 : Ari Z h71 a37 .int ((own_rem own_init (own_i fv)).1) := f66.keep K72 (ninS (Ne.symm ne48) nin0)
    have f79 : Ari Z h71 a38 .int ((own_rem own_init (own_i fv)).2.1) := f67.keep K72 (ninS (Ne.symm ne51) nin0)
    have zs80 : Z.heap.size ≤ h71.size := Nat.le_trans zs69 K72.1
    refine Go.aload 122 at_120 rfl rfl rfl ?_
    refine Go.iload 124 at_122 rfl rfl ?_
    refine Go.callVV [.int (own_i fw)] [] 127 at_124 (tw29 hw) (tw30 hw) (tw32 hw) (tw31 hw) (tw3 hw) (tw33 hw) f74 pl6 (by decide) (lenOf pd6 rfl) rfl (fun m => ef_k_rem m a21 (own_i fw)) _ (k_rem (S := (own_rem own_init (own_i fv))) hw h71 zs80 a21 (own_i fw) f74 f75 f76 f77 f78 f79 (own_orB (own_f2 fa fb fc fv fw) rfl) ge28 ge50 ge53 ne49 ne52 ne41) 0 rfl (Nat.le_of_eq rfl) (by decide) (by decide) (by decide) (by decide) rfl ?_
    rintro h82 ⟨K83, f84, f85, f86, f87, f88, f89⟩
    have f90 : Ari Z h82 a14 .int (own_remM [0, 0, 0, 0] (own_i fv)) := f73.keep K83 (ninS ne27 (ninS ne48 (ninS ne51 nin0)))
    have zs91 : Z.heap.size ≤ h82.size := Nat.le_trans zs80 K83.1
    refine Go.aload 129 at_127 rfl rfl rfl ?_
    refine Go.iload 131 at_129 rfl rfl ?_
    refine Go.callSV [.ref a14, .int (own_i fw)] [] 134 at_131 (tw34 hw) (tw35 hw) (tw27 hw) (tw36 hw) pl7 (by decide) (lenOf pd7 rfl) rfl (fun m => ef_k_remM m a14 (own_i fw)) _ (k_remM hw h82 zs91 a14 (own_i fw) f90 (own_orB (own_f3 fa fb fc fv fw) rfl) ge19) 0 rfl (Nat.le_of_eq rfl) (by decide) (by decide) (by decide) (by decide) rfl ?_
    rintro h93 ⟨K94, f95⟩
    have f96 : Exa Z h93 a21 "com/example/wary_mutex/warymutex/message/IndexSet" := f84.keep K94
    have f97 : Fld Z h93 a21 "com/example/wary_mutex/warymutex/message/IndexSet" "members" "[I" (.ref a37) := f85.keep K94 (ninS (Ne.symm ne27) nin0)
    have f98 : Fld Z h93 a21 "com/example/wary_mutex/warymutex/message/IndexSet" "positions" "[I" (.ref a38) := f86.keep K94 (ninS (Ne.symm ne27) nin0)
    have f99 : Fld Z h93 a21 "com/example/wary_mutex/warymutex/message/IndexSet" "size" "I" (.int ((own_rem (own_rem own_init (own_i fv)) (own_i fw)).2.2)) := f87.keep K94 (ninS (Ne.symm ne27) nin0)
    have f100 : Ari Z h93 a37 .int ((own_rem (own_rem own_init (own_i fv)) (own_i fw)).1) := f88.keep K94 (ninS (Ne.symm ne48) nin0)
    have f101 : Ari Z h93 a38 .int ((own_rem (own_rem own_init (own_i fv)) (own_i fw)).2.1) := f89.keep K94 (ninS (Ne.symm ne51) nin0)
    have zs102 : Z.heap.size ≤ h93.size := Nat.le_trans zs91 K94.1
    refine Go.aload 136 at_134 rfl rfl rfl ?_
    refine Go.iconst 137 (3) at_136 (by decide) rfl ?_
    refine Go.iaload (x := (((own_remM (own_remM [0, 0, 0, 0] (own_i fv)) (own_i fw))).getD 3 0)) (3) 138 at_137 f95 (by decide) (by decide) (own_getq (own_orB (own_f4 fa fb fc fv fw) rfl)) rfl ?_
    refine Go.istore 140 #[.val (.int i0), .val (.int i1), .val (.int i2), .val (.int i3), .val (.int i4), .val (.int i5), .val (.int (own_i fa)), .val (.int (own_i fb)), .val (.int (own_i fc)), .val (.int (0 : Int32)), .val (.int (own_i fv)), .val (.int (own_i fw)), .val (.ref a14), .val (.ref a21), .val (.int (((own_remM (own_remM [0, 0, 0, 0] (own_i fv)) (own_i fw))).getD 3 0))] at_138 rfl rfl ?_
    refine Go.aload 142 at_140 rfl rfl rfl ?_
    refine Go.callVIp [] [] 145 at_142 (tw37 hw) (tw38 hw) (tw40 hw) (tw39 hw) (tw3 hw) (tw41 hw) f96 pl8 (by decide) (lenOf pd8 rfl) rfl (fun m => ef_k_size m a21) _ (k_size hw h93 zs102 a21 f99) 0 rfl (Nat.le_of_eq rfl) (by decide) (by decide) (by decide) (by decide) rfl ?_
    refine Go.iload 147 at_145 rfl rfl ?_
    refine Go.icmp_eq 152 150 at_147 (by decide) (by decide) rfl (fun c106 => ?_) (fun c106 => ?_)
    ·
      refine Go.iload 154 at_152 rfl rfl ?_
      refine Go.if_le 172 157 at_154 (by decide) (by decide) rfl (fun c107 => ?_) (fun c107 => ?_)
      ·
        refine Go.iload 174 at_172 rfl rfl ?_
        refine Go.iconst 175 (1) at_174 (by decide) rfl ?_
        refine Go.icmp_le 193 178 at_175 (by decide) (by decide) rfl (fun c108 => ?_) (fun c108 => ?_)
        ·
          refine Go.iload 195 at_193 rfl rfl ?_
          refine Go.iconst 196 (2) at_195 (by decide) rfl ?_
          refine Go.icmp_le 214 199 at_196 (by decide) (by decide) rfl (fun c109 => ?_) (fun c109 => ?_)
          ·
            refine Go.iconst 215 (1) at_214 (by decide) rfl ?_
            refine Go.nreturn (t := .boolean) (z' := (1 : Int32)) at_215 rfl (by simp) (by decide) (by decide) (by decide) ?_
            rfl
          ·
            refine Go.aload 201 at_199 rfl rfl rfl ?_
            refine Go.iconst 202 (2) at_201 (by decide) rfl ?_
            refine Go.callVIp [.int (2 : Int32)] [] 205 at_202 (tw42 hw) (tw43 hw) (tw45 hw) (tw44 hw) (tw3 hw) (tw46 hw) f96 pl9 (by decide) (lenOf pd9 rfl) rfl (fun m => ef_k_get m a21 (2 : Int32)) _ (k_get (S := (own_rem (own_rem own_init (own_i fv)) (own_i fw))) hw h93 zs102 a21 (2 : Int32) f97 f99 f100 (own_orB (own_f5 fa fb fc fv fw) (own_andB (decide_eq_true c106) (own_andB (decide_eq_true c107) (own_andB (decide_eq_true c108) (own_andB (decide_eq_true c109) rfl)))))) 0 rfl (Nat.le_of_eq rfl) (by decide) (by decide) (by decide) (by decide) rfl ?_
            refine Go.aload 207 at_205 rfl rfl rfl ?_
            refine Go.iconst 208 (2) at_207 (by decide) rfl ?_
            refine Go.iaload (x := (((own_remM (own_remM [0, 0, 0, 0] (own_i fv)) (own_i fw))).getD 2 0)) (2) 209 at_208 f95 (by decide) (by decide) (own_getq (own_orB (own_f6 fa fb fc fv fw) rfl)) rfl ?_
            refine Go.icmp_eq 214 212 at_209 (by decide) (by decide) rfl (fun c113 => ?_) (fun c113 => ?_)
            ·
              refine Go.iconst 215 (1) at_214 (by decide) rfl ?_
              refine Go.nreturn (t := .boolean) (z' := (1 : Int32)) at_215 rfl (by simp) (by decide) (by decide) (by decide) ?_
              rfl
            ·
              refine Go.iconst 213 (0) at_212 (by decide) rfl ?_
              refine Go.nreturn (t := .boolean) (z' := (0 : Int32)) at_213 rfl (by simp) (by decide) (by decide) (by decide) ?_
              exact ((own_orB (own_f7 fa fb fc fv fw) (own_andB (decide_eq_true c106) (own_andB (decide_eq_true c107) (own_andB (decide_eq_true c108) (own_andB (decide_eq_true c109) (own_andB (decide_eq_true c113) rfl))))))).elim
        ·
          refine Go.aload 180 at_178 rfl rfl rfl ?_
          refine Go.iconst 181 (1) at_180 (by decide) rfl ?_
          refine Go.callVIp [.int (1 : Int32)] [] 184 at_181 (tw42 hw) (tw43 hw) (tw45 hw) (tw44 hw) (tw3 hw) (tw46 hw) f96 pl9 (by decide) (lenOf pd9 rfl) rfl (fun m => ef_k_get m a21 (1 : Int32)) _ (k_get (S := (own_rem (own_rem own_init (own_i fv)) (own_i fw))) hw h93 zs102 a21 (1 : Int32) f97 f99 f100 (own_orB (own_f8 fa fb fc fv fw) (own_andB (decide_eq_true c106) (own_andB (decide_eq_true c107) (own_andB (decide_eq_true c108) rfl))))) 0 rfl (Nat.le_of_eq rfl) (by decide) (by decide) (by decide) (by decide) rfl ?_
          refine Go.aload 186 at_184 rfl rfl rfl ?_
          refine Go.iconst 187 (1) at_186 (by decide) rfl ?_
          refine Go.iaload (x := (((own_remM (own_remM [0, 0, 0, 0] (own_i fv)) (own_i fw))).getD 1 0)) (1) 188 at_187 f95 (by decide) (by decide) (own_getq (own_orB (own_f9 fa fb fc fv fw) rfl)) rfl ?_
          refine Go.icmp_eq 193 191 at_188 (by decide) (by decide) rfl (fun c117 => ?_) (fun c117 => ?_)
          ·
            refine Go.iload 195 at_193 rfl rfl ?_
            refine Go.iconst 196 (2) at_195 (by decide) rfl ?_
            refine Go.icmp_le 214 199 at_196 (by decide) (by decide) rfl (fun c118 => ?_) (fun c118 => ?_)
            ·
              refine Go.iconst 215 (1) at_214 (by decide) rfl ?_
              refine Go.nreturn (t := .boolean) (z' := (1 : Int32)) at_215 rfl (by simp) (by decide) (by decide) (by decide) ?_
              rfl
            ·
              refine Go.aload 201 at_199 rfl rfl rfl ?_
              refine Go.iconst 202 (2) at_201 (by decide) rfl ?_
              refine Go.callVIp [.int (2 : Int32)] [] 205 at_202 (tw42 hw) (tw43 hw) (tw45 hw) (tw44 hw) (tw3 hw) (tw46 hw) f96 pl9 (by decide) (lenOf pd9 rfl) rfl (fun m => ef_k_get m a21 (2 : Int32)) _ (k_get (S := (own_rem (own_rem own_init (own_i fv)) (own_i fw))) hw h93 zs102 a21 (2 : Int32) f97 f99 f100 (own_orB (own_f10 fa fb fc fv fw) (own_andB (decide_eq_true c106) (own_andB (decide_eq_true c107) (own_andB (decide_eq_true c108) (own_andB (decide_eq_true c117) (own_andB (decide_eq_true c118) rfl))))))) 0 rfl (Nat.le_of_eq rfl) (by decide) (by decide) (by decide) (by decide) rfl ?_
              refine Go.aload 207 at_205 rfl rfl rfl ?_
              refine Go.iconst 208 (2) at_207 (by decide) rfl ?_
              refine Go.iaload (x := (((own_remM (own_remM [0, 0, 0, 0] (own_i fv)) (own_i fw))).getD 2 0)) (2) 209 at_208 f95 (by decide) (by decide) (own_getq (own_orB (own_f6 fa fb fc fv fw) rfl)) rfl ?_
              refine Go.icmp_eq 214 212 at_209 (by decide) (by decide) rfl (fun c122 => ?_) (fun c122 => ?_)
              ·
                refine Go.iconst 215 (1) at_214 (by decide) rfl ?_
                refine Go.nreturn (t := .boolean) (z' := (1 : Int32)) at_215 rfl (by simp) (by decide) (by decide) (by decide) ?_
                rfl
              ·
                refine Go.iconst 213 (0) at_212 (by decide) rfl ?_
                refine Go.nreturn (t := .boolean) (z' := (0 : Int32)) at_213 rfl (by simp) (by decide) (by decide) (by decide) ?_
                exact ((own_orB (own_f11 fa fb fc fv fw) (own_andB (decide_eq_true c106) (own_andB (decide_eq_true c107) (own_andB (decide_eq_true c108) (own_andB (decide_eq_true c117) (own_andB (decide_eq_true c118) (own_andB (decide_eq_true c122) rfl)))))))).elim
          ·
            refine Go.iconst 192 (0) at_191 (by decide) rfl ?_
            refine Go.nreturn (t := .boolean) (z' := (0 : Int32)) at_192 rfl (by simp) (by decide) (by decide) (by decide) ?_
            exact ((own_orB (own_f12 fa fb fc fv fw) (own_andB (decide_eq_true c106) (own_andB (decide_eq_true c107) (own_andB (decide_eq_true c108) (own_andB (decide_eq_true c117) rfl)))))).elim
      ·
        refine Go.aload 159 at_157 rfl rfl rfl ?_
        refine Go.iconst 160 (0) at_159 (by decide) rfl ?_
        refine Go.callVIp [.int (0 : Int32)] [] 163 at_160 (tw42 hw) (tw43 hw) (tw45 hw) (tw44 hw) (tw3 hw) (tw46 hw) f96 pl9 (by decide) (lenOf pd9 rfl) rfl (fun m => ef_k_get m a21 (0 : Int32)) _ (k_get (S := (own_rem (own_rem own_init (own_i fv)) (own_i fw))) hw h93 zs102 a21 (0 : Int32) f97 f99 f100 (own_orB (own_f13 fa fb fc fv fw) (own_andB (decide_eq_true c106) (own_andB (decide_eq_true c107) rfl)))) 0 rfl (Nat.le_of_eq rfl) (by decide) (by decide) (by decide) (by decide) rfl ?_
        refine Go.aload 165 at_163 rfl rfl rfl ?_
        refine Go.iconst 166 (0) at_165 (by decide) rfl ?_
        refine Go.iaload (x := (((own_remM (own_remM [0, 0, 0, 0] (own_i fv)) (own_i fw))).getD 0 0)) (0) 167 at_166 f95 (by decide) (by decide) (own_getq (own_orB (own_f14 fa fb fc fv fw) rfl)) rfl ?_
        refine Go.icmp_eq 172 170 at_167 (by decide) (by decide) rfl (fun c126 => ?_) (fun c126 => ?_)
        ·
          refine Go.iload 174 at_172 rfl rfl ?_
          refine Go.iconst 175 (1) at_174 (by decide) rfl ?_
          refine Go.icmp_le 193 178 at_175 (by decide) (by decide) rfl (fun c127 => ?_) (fun c127 => ?_)
          ·
            refine Go.iload 195 at_193 rfl rfl ?_
            refine Go.iconst 196 (2) at_195 (by decide) rfl ?_
            refine Go.icmp_le 214 199 at_196 (by decide) (by decide) rfl (fun c128 => ?_) (fun c128 => ?_)
            ·
              refine Go.iconst 215 (1) at_214 (by decide) rfl ?_
              refine Go.nreturn (t := .boolean) (z' := (1 : Int32)) at_215 rfl (by simp) (by decide) (by decide) (by decide) ?_
              rfl
            ·
              refine Go.aload 201 at_199 rfl rfl rfl ?_
              refine Go.iconst 202 (2) at_201 (by decide) rfl ?_
              refine Go.callVIp [.int (2 : Int32)] [] 205 at_202 (tw42 hw) (tw43 hw) (tw45 hw) (tw44 hw) (tw3 hw) (tw46 hw) f96 pl9 (by decide) (lenOf pd9 rfl) rfl (fun m => ef_k_get m a21 (2 : Int32)) _ (k_get (S := (own_rem (own_rem own_init (own_i fv)) (own_i fw))) hw h93 zs102 a21 (2 : Int32) f97 f99 f100 (own_orB (own_f15 fa fb fc fv fw) (own_andB (decide_eq_true c106) (own_andB (decide_eq_true c107) (own_andB (decide_eq_true c126) (own_andB (decide_eq_true c127) (own_andB (decide_eq_true c128) rfl))))))) 0 rfl (Nat.le_of_eq rfl) (by decide) (by decide) (by decide) (by decide) rfl ?_
              refine Go.aload 207 at_205 rfl rfl rfl ?_
              refine Go.iconst 208 (2) at_207 (by decide) rfl ?_
              refine Go.iaload (x := (((own_remM (own_remM [0, 0, 0, 0] (own_i fv)) (own_i fw))).getD 2 0)) (2) 209 at_208 f95 (by decide) (by decide) (own_getq (own_orB (own_f6 fa fb fc fv fw) rfl)) rfl ?_
              refine Go.icmp_eq 214 212 at_209 (by decide) (by decide) rfl (fun c132 => ?_) (fun c132 => ?_)
              ·
                refine Go.iconst 215 (1) at_214 (by decide) rfl ?_
                refine Go.nreturn (t := .boolean) (z' := (1 : Int32)) at_215 rfl (by simp) (by decide) (by decide) (by decide) ?_
                rfl
              ·
                refine Go.iconst 213 (0) at_212 (by decide) rfl ?_
                refine Go.nreturn (t := .boolean) (z' := (0 : Int32)) at_213 rfl (by simp) (by decide) (by decide) (by decide) ?_
                exact ((own_orB (own_f16 fa fb fc fv fw) (own_andB (decide_eq_true c106) (own_andB (decide_eq_true c107) (own_andB (decide_eq_true c126) (own_andB (decide_eq_true c127) (own_andB (decide_eq_true c128) (own_andB (decide_eq_true c132) rfl)))))))).elim
          ·
            refine Go.aload 180 at_178 rfl rfl rfl ?_
            refine Go.iconst 181 (1) at_180 (by decide) rfl ?_
            refine Go.callVIp [.int (1 : Int32)] [] 184 at_181 (tw42 hw) (tw43 hw) (tw45 hw) (tw44 hw) (tw3 hw) (tw46 hw) f96 pl9 (by decide) (lenOf pd9 rfl) rfl (fun m => ef_k_get m a21 (1 : Int32)) _ (k_get (S := (own_rem (own_rem own_init (own_i fv)) (own_i fw))) hw h93 zs102 a21 (1 : Int32) f97 f99 f100 (own_orB (own_f17 fa fb fc fv fw) (own_andB (decide_eq_true c106) (own_andB (decide_eq_true c107) (own_andB (decide_eq_true c126) (own_andB (decide_eq_true c127) rfl)))))) 0 rfl (Nat.le_of_eq rfl) (by decide) (by decide) (by decide) (by decide) rfl ?_
            refine Go.aload 186 at_184 rfl rfl rfl ?_
            refine Go.iconst 187 (1) at_186 (by decide) rfl ?_
            refine Go.iaload (x := (((own_remM (own_remM [0, 0, 0, 0] (own_i fv)) (own_i fw))).getD 1 0)) (1) 188 at_187 f95 (by decide) (by decide) (own_getq (own_orB (own_f9 fa fb fc fv fw) rfl)) rfl ?_
            refine Go.icmp_eq 193 191 at_188 (by decide) (by decide) rfl (fun c136 => ?_) (fun c136 => ?_)
            ·
              refine Go.iload 195 at_193 rfl rfl ?_
              refine Go.iconst 196 (2) at_195 (by decide) rfl ?_
              refine Go.icmp_le 214 199 at_196 (by decide) (by decide) rfl (fun c137 => ?_) (fun c137 => ?_)
              ·
                refine Go.iconst 215 (1) at_214 (by decide) rfl ?_
                refine Go.nreturn (t := .boolean) (z' := (1 : Int32)) at_215 rfl (by simp) (by decide) (by decide) (by decide) ?_
                rfl
              ·
                refine Go.aload 201 at_199 rfl rfl rfl ?_
                refine Go.iconst 202 (2) at_201 (by decide) rfl ?_
                refine Go.callVIp [.int (2 : Int32)] [] 205 at_202 (tw42 hw) (tw43 hw) (tw45 hw) (tw44 hw) (tw3 hw) (tw46 hw) f96 pl9 (by decide) (lenOf pd9 rfl) rfl (fun m => ef_k_get m a21 (2 : Int32)) _ (k_get (S := (own_rem (own_rem own_init (own_i fv)) (own_i fw))) hw h93 zs102 a21 (2 : Int32) f97 f99 f100 (own_orB (own_f18 fa fb fc fv fw) (own_andB (decide_eq_true c106) (own_andB (decide_eq_true c107) (own_andB (decide_eq_true c126) (own_andB (decide_eq_true c127) (own_andB (decide_eq_true c136) (own_andB (decide_eq_true c137) rfl)))))))) 0 rfl (Nat.le_of_eq rfl) (by decide) (by decide) (by decide) (by decide) rfl ?_
                refine Go.aload 207 at_205 rfl rfl rfl ?_
                refine Go.iconst 208 (2) at_207 (by decide) rfl ?_
                refine Go.iaload (x := (((own_remM (own_remM [0, 0, 0, 0] (own_i fv)) (own_i fw))).getD 2 0)) (2) 209 at_208 f95 (by decide) (by decide) (own_getq (own_orB (own_f6 fa fb fc fv fw) rfl)) rfl ?_
                refine Go.icmp_eq 214 212 at_209 (by decide) (by decide) rfl (fun c141 => ?_) (fun c141 => ?_)
                ·
                  refine Go.iconst 215 (1) at_214 (by decide) rfl ?_
                  refine Go.nreturn (t := .boolean) (z' := (1 : Int32)) at_215 rfl (by simp) (by decide) (by decide) (by decide) ?_
                  rfl
                ·
                  refine Go.iconst 213 (0) at_212 (by decide) rfl ?_
                  refine Go.nreturn (t := .boolean) (z' := (0 : Int32)) at_213 rfl (by simp) (by decide) (by decide) (by decide) ?_
                  exact ((own_orB (own_f19 fa fb fc fv fw) (own_andB (decide_eq_true c106) (own_andB (decide_eq_true c107) (own_andB (decide_eq_true c126) (own_andB (decide_eq_true c127) (own_andB (decide_eq_true c136) (own_andB (decide_eq_true c137) (own_andB (decide_eq_true c141) rfl))))))))).elim
            ·
              refine Go.iconst 192 (0) at_191 (by decide) rfl ?_
              refine Go.nreturn (t := .boolean) (z' := (0 : Int32)) at_192 rfl (by simp) (by decide) (by decide) (by decide) ?_
              exact ((own_orB (own_f20 fa fb fc fv fw) (own_andB (decide_eq_true c106) (own_andB (decide_eq_true c107) (own_andB (decide_eq_true c126) (own_andB (decide_eq_true c127) (own_andB (decide_eq_true c136) rfl))))))).elim
        ·
          refine Go.iconst 171 (0) at_170 (by decide) rfl ?_
          refine Go.nreturn (t := .boolean) (z' := (0 : Int32)) at_171 rfl (by simp) (by decide) (by decide) (by decide) ?_
          exact ((own_orB (own_f21 fa fb fc fv fw) (own_andB (decide_eq_true c106) (own_andB (decide_eq_true c107) (own_andB (decide_eq_true c126) rfl))))).elim
    ·
      refine Go.iconst 151 (0) at_150 (by decide) rfl ?_
      refine Go.nreturn (t := .boolean) (z' := (0 : Int32)) at_151 rfl (by simp) (by decide) (by decide) (by decide) ?_
      exact ((own_orB (own_f22 fa fb fc fv fw) (own_andB (decide_eq_true c106) rfl))).elim
  ·
    subst hs12
    refine Go.iconst 33 (4) at_32 (by decide) rfl ?_
    refine Go.newI (cap := 4) (xs := [0, 0, 0, 0]) 35 at_33 (tw0 hw) rfl (by decide) (by decide) (by decide) rfl (by decide) (by decide) rfl (fun a142 h143 q144 E145 A146 => ?_)
    have ge147 : Z.heap.size ≤ a142 := (Eq.symm q144) ▸ hz
    have zs148 : Z.heap.size ≤ h143.size := Nat.le_trans hz E145.1
    refine Go.astore 37 #[.val (.int i0), .val (.int i1), .val (.int i2), .val (.int i3), .val (.int i4), .val (.int i5), .val (.int (own_i fa)), .val (.int (own_i fb)), .val (.int (own_i fc)), .val (.int (1 : Int32)), .val (.int (own_i fv)), .val (.int (own_i fw)), .val (.ref a142), .unset, .unset] at_35 rfl rfl rfl ?_
    refine Go.new 40 at_37 (tw1 hw) (tw2 hw) (tw3 hw) (by decide) (by decide) rfl (fun a149 h150 q151 E152 A153 D154 => ?_)
    have ne155 : a142 ≠ a149 := fun e => absurd A146.lt (by rw [e, q151]; exact Nat.lt_irrefl _)
    have ge156 : Z.heap.size ≤ a149 := (Eq.symm q151) ▸ zs148
    have f157 : Ari Z h150 a142 .int [0, 0, 0, 0] := A146.ext E152
    have zs158 : Z.heap.size ≤ h150.size := Nat.le_trans zs148 E152.1
    have f159 : Fld Z h150 a149 "com/example/wary_mutex/warymutex/message/IndexSet" "members" "[I" (.null) := D154 (Or.inr (tw11 hw)) (ty := (.array .int)) (by decide)
    have f160 : Fld Z h150 a149 "com/example/wary_mutex/warymutex/message/IndexSet" "positions" "[I" (.null) := D154 (Or.inr (tw13 hw)) (ty := (.array .int)) (by decide)
    have f161 : Fld Z h150 a149 "com/example/wary_mutex/warymutex/message/IndexSet" "size" "I" (.int (0 : Int32)) := D154 (Or.inl (tw24 hw)) (ty := .int) (by decide)
    refine Go.dup 41 at_40 rfl rfl ?_
    refine Go.iconst 42 (4) at_41 (by decide) rfl ?_
    refine Go.callC [.int (4 : Int32)] [.ref a149] 45 at_42 rfl (tw4 hw) (tw5 hw) (tw3 hw) (tw6 hw) pl1 (by decide) (lenOf pd1 rfl) rfl (fun m => ef_k_init m a149 (4 : Int32)) _ (k_init hw h150 zs158 a149 A153 f159 f160 f161 ge156) 1 rfl (Nat.le_of_eq rfl) (by decide) (by decide) (by decide) (by decide) rfl ?_
    rintro h163 ⟨a165, a166, g167, g168, ne169, K164, f170, f171, f172, f173, f174, f175⟩
    have ne176 : a142 ≠ a165 := Nat.ne_of_lt (Nat.lt_of_lt_of_le f157.lt g167)
    have ne177 : a149 ≠ a165 := Nat.ne_of_lt (Nat.lt_of_lt_of_le A153.lt g167)
    have ge178 : Z.heap.size ≤ a165 := Nat.le_trans zs158 g167
    have ne179 : a142 ≠ a166 := Nat.ne_of_lt (Nat.lt_of_lt_of_le f157.lt g168)
    have ne180 : a149 ≠ a166 := Nat.ne_of_lt (Nat.lt_of_lt_of_le A153.lt g168)
    have ge181 : Z.heap.size ≤ a166 := Nat.le_trans zs158 g168
    have f182 : Ari Z h163 a142 .int [0, 0, 0, 0] := f157.keep K164 (ninS ne155 nin0)
    have zs183 : Z.heap.size ≤ h163.size := Nat.le_trans zs158 K164.1
    refine Go.astore 47 #[.val (.int i0), .val (.int i1), .val (.int i2), .val (.int i3), .val (.int i4), .val (.int i5), .val (.int (own_i fa)), .val (.int (own_i fb)), .val (.int (own_i fc)), .val (.int (1 : Int32)), .val (.int (own_i fv)), .val (.int (own_i fw)), .val (.ref a142), .val (.ref a149), .unset] at_45 rfl rfl rfl ?_
    refine Go.iload 49 at_47 rfl rfl ?_
    refine Go.if_le 66 52 at_49 (by decide) (by decide) rfl (fun c => absurd c (by decide)) (fun _ => ?_)
    refine Go.aload 54 at_52 rfl rfl rfl ?_
    refine Go.iload 56 at_54 rfl rfl ?_
    refine Go.callVV [.int (own_i fa)] [] 59 at_56 (tw18 hw) (tw19 hw) (tw21 hw) (tw20 hw) (tw3 hw) (tw22 hw) f170 pl4 (by decide) (lenOf pd4 rfl) rfl (fun m => ef_k_add m a149 (own_i fa)) _ (k_add (S := own_init) hw h163 zs183 a149 (own_i fa) f170 f171 f172 f173 f174 f175 (own_orB (own_f23 fa fb fc fv fw) rfl) ge156 ge178 ge181 ne177 ne180 ne169) 0 rfl (Nat.le_of_eq rfl) (by decide) (by decide) (by decide) (by decide) rfl ?_
    rintro h186 ⟨K187, f188, f189, f190, f191, f192, f193⟩
    have f194 : Ari Z h186 a142 .int [0, 0, 0, 0] := f182.keep K187 (ninS ne155 (ninS ne176 (ninS ne179 nin0)))
    have zs195 : Z.heap.size ≤ h186.size := Nat.le_trans zs183 K187.1
    refine Go.aload 61 at_59 rfl rfl rfl ?_
    refine Go.iload 63 at_61 rfl rfl ?_
    refine Go.callSV [.ref a142, .int (own_i fa)] [] 66 at_63 (tw25 hw) (tw26 hw) (tw27 hw) (tw28 hw) pl5 (by decide) (lenOf pd5 rfl) rfl (fun m => ef_k_addM m a142 (own_i fa)) _ (k_addM hw h186 zs195 a142 (own_i fa) f194 (own_orB (own_f1 fa fb fc fv fw) rfl) ge147) 0 rfl (Nat.le_of_eq rfl) (by decide) (by decide) (by decide) (by decide) rfl ?_
    rintro h197 ⟨K198, f199⟩
    have f200 : Exa Z h197 a149 "com/example/wary_mutex/warymutex/message/IndexSet" := f188.keep K198
    have f201 : Fld Z h197 a149 "com/example/wary_mutex/warymutex/message/IndexSet" "members" "[I" (.ref a165) := f189.keep K198 (ninS (Ne.symm ne155) nin0)
    have f202 : Fld Z h197 a149 "com/example/wary_mutex/warymutex/message/IndexSet" "positions" "[I" (.ref a166) := f190.keep K198 (ninS (Ne.symm ne155) nin0)
    have f203 : Fld Z h197 a149 "com/example/wary_mutex/warymutex/message/IndexSet" "size" "I" (.int ((own_add own_init (own_i fa)).2.2)) := f191.keep K198 (ninS (Ne.symm ne155) nin0)
    have f204 : Ari Z h197 a165 .int ((own_add own_init (own_i fa)).1) := f192.keep K198 (ninS (Ne.symm ne176) nin0)
    have f205 : Ari Z h197 a166 .int ((own_add own_init (own_i fa)).2.1) := f193.keep K198 (ninS (Ne.symm ne179) nin0)
    have zs206 : Z.heap.size ≤ h197.size := Nat.le_trans zs195 K198.1
    refine Go.iload 68 at_66 rfl rfl ?_
    refine Go.iconst 69 (1) at_68 (by decide) rfl ?_
    refine Go.icmp_le 86 72 at_69 (by decide) (by decide) rfl (fun _ => ?_) (fun c => absurd c (by decide))
    refine Go.iload 88 at_86 rfl rfl ?_
    refine Go.iconst 89 (2) at_88 (by decide) rfl ?_
    refine Go.icmp_le 106 92 at_89 (by decide) (by decide) rfl (fun _ => ?_) (fun c => absurd c (by decide))
    refine Go.aload 108 at_106 rfl rfl rfl ?_
    refine Go.iload 110 at_108 rfl rfl ?_
    refine Go.callVV [.int (own_i fv)] [] 113 at_110 (tw29 hw) (tw30 hw) (tw32 hw) (tw31 hw) (tw3 hw) (tw33 hw) f200 pl6 (by decide) (lenOf pd6 rfl) rfl (fun m => ef_k_rem m a149 (own_i fv)) _ (k_rem (S := (own_add own_init (own_i fa))) hw h197 zs206 a149 (own_i fv) f200 f201 f202 f203 f204 f205 (own_orB (own_f24 fa fb fc fv fw) rfl) ge156 ge178 ge181 ne177 ne180 ne169) 0 rfl (Nat.le_of_eq rfl) (by decide) (by decide) (by decide) (by decide) rfl ?_
    rintro h210 ⟨K211, f212, f213, f214, f215, f216, f217⟩
    have f218 : Ari Z h210 a142 .int (own_addM [0, 0, 0, 0] (own_i fa)) := f199.keep K211 (ninS ne155 (ninS ne176 (ninS ne179 nin0)))
    have zs219 : Z.heap.size ≤ h210.size := Nat.le_trans zs206 K211.1
    refine Go.aload 115 at_113 rfl rfl rfl ?_
    refine Go.iload 117 at_115 rfl rfl ?_
    refine Go.callSV [.ref a142, .int (own_i fv)] [] 120 at_117 (tw34 hw) (tw35 hw) (tw27 hw) (tw36 hw) pl7 (by decide) (lenOf pd7 rfl) rfl (fun m => ef_k_remM m a142 (own_i fv)) _ (k_remM hw h210 zs219 a142 (own_i fv) f218 (own_orB (own_f25 fa fb fc fv fw) rfl) ge147) 0 rfl (Nat.le_of_eq rfl) (by decide) (by decide) (by decide) (by decide) rfl ?_
    rintro h221 ⟨K222, f223⟩
    have f224 : Exa Z h221 a149 "com/example/wary_mutex/warymutex/message/IndexSet" := f212.keep K222
    have f225 : Fld Z h221 a149 "com/example/wary_mutex/warymutex/message/IndexSet" "members" "[I" (.ref a165) := f213.keep K222 (ninS (Ne.symm ne155) nin0)
    have f226 : Fld Z h221 a149 "com/example/wary_mutex/warymutex/message/IndexSet" "positions" "[I" (.ref a166) := f214.keep K222 (ninS (Ne.symm ne155) nin0)
    have f227 : Fld Z h221 a149 "com/example/wary_mutex/warymutex/message/IndexSet" "size" "I" (.int ((own_rem (own_add own_init (own_i fa)) (own_i fv)).2.2)) := f215.keep K222 (ninS (Ne.symm ne155) nin0)
    have f228 : Ari Z h221 a165 .int ((own_rem (own_add own_init (own_i fa)) (own_i fv)).1) := f216.keep K222 (ninS (Ne.symm ne176) nin0)
    have f229 : Ari Z h221 a166 .int ((own_rem (own_add own_init (own_i fa)) (own_i fv)).2.1) := f217.keep K222 (ninS (Ne.symm ne179) nin0)
    have zs230 : Z.heap.size ≤ h221.size := Nat.le_trans zs219 K222.1
    refine Go.aload 122 at_120 rfl rfl rfl ?_
    refine Go.iload 124 at_122 rfl rfl ?_
    refine Go.callVV [.int (own_i fw)] [] 127 at_124 (tw29 hw) (tw30 hw) (tw32 hw) (tw31 hw) (tw3 hw) (tw33 hw) f224 pl6 (by decide) (lenOf pd6 rfl) rfl (fun m => ef_k_rem m a149 (own_i fw)) _ (k_rem (S := (own_rem (own_add own_init (own_i fa)) (own_i fv))) hw h221 zs230 a149 (own_i fw) f224 f225 f226 f227 f228 f229 (own_orB (own_f26 fa fb fc fv fw) rfl) ge156 ge178 ge181 ne177 ne180 ne169) 0 rfl (Nat.le_of_eq rfl) (by decide) (by decide) (by decide) (by decide) rfl ?_
    rintro h232 ⟨K233, f234, f235, f236, f237, f238, f239⟩
    have f240 : Ari Z h232 a142 .int (own_remM (own_addM [0, 0, 0, 0] (own_i fa)) (own_i fv)) := f223.keep K233 (ninS ne155 (ninS ne176 (ninS ne179 nin0)))
    have zs241 : Z.heap.size ≤ h232.size := Nat.le_trans zs230 K233.1
    refine Go.aload 129 at_127 rfl rfl rfl ?_
    refine Go.iload 131 at_129 rfl rfl ?_
    refine Go.callSV [.ref a142, .int (own_i fw)] [] 134 at_131 (tw34 hw) (tw35 hw) (tw27 hw) (tw36 hw) pl7 (by decide) (lenOf pd7 rfl) rfl (fun m => ef_k_remM m a142 (own_i fw)) _ (k_remM hw h232 zs241 a142 (own_i fw) f240 (own_orB (own_f27 fa fb fc fv fw) rfl) ge147) 0 rfl (Nat.le_of_eq rfl) (by decide) (by decide) (by decide) (by decide) rfl ?_
    rintro h243 ⟨K244, f245⟩
    have f246 : Exa Z h243 a149 "com/example/wary_mutex/warymutex/message/IndexSet" := f234.keep K244
    have f247 : Fld Z h243 a149 "com/example/wary_mutex/warymutex/message/IndexSet" "members" "[I" (.ref a165) := f235.keep K244 (ninS (Ne.symm ne155) nin0)
    have f248 : Fld Z h243 a149 "com/example/wary_mutex/warymutex/message/IndexSet" "positions" "[I" (.ref a166) := f236.keep K244 (ninS (Ne.symm ne155) nin0)
    have f249 : Fld Z h243 a149 "com/example/wary_mutex/warymutex/message/IndexSet" "size" "I" (.int ((own_rem (own_rem (own_add own_init (own_i fa)) (own_i fv)) (own_i fw)).2.2)) := f237.keep K244 (ninS (Ne.symm ne155) nin0)
    have f250 : Ari Z h243 a165 .int ((own_rem (own_rem (own_add own_init (own_i fa)) (own_i fv)) (own_i fw)).1) := f238.keep K244 (ninS (Ne.symm ne176) nin0)
    have f251 : Ari Z h243 a166 .int ((own_rem (own_rem (own_add own_init (own_i fa)) (own_i fv)) (own_i fw)).2.1) := f239.keep K244 (ninS (Ne.symm ne179) nin0)
    have zs252 : Z.heap.size ≤ h243.size := Nat.le_trans zs241 K244.1
    refine Go.aload 136 at_134 rfl rfl rfl ?_
    refine Go.iconst 137 (3) at_136 (by decide) rfl ?_
    refine Go.iaload (x := (((own_remM (own_remM (own_addM [0, 0, 0, 0] (own_i fa)) (own_i fv)) (own_i fw))).getD 3 0)) (3) 138 at_137 f245 (by decide) (by decide) (own_getq (own_orB (own_f28 fa fb fc fv fw) rfl)) rfl ?_
    refine Go.istore 140 #[.val (.int i0), .val (.int i1), .val (.int i2), .val (.int i3), .val (.int i4), .val (.int i5), .val (.int (own_i fa)), .val (.int (own_i fb)), .val (.int (own_i fc)), .val (.int (1 : Int32)), .val (.int (own_i fv)), .val (.int (own_i fw)), .val (.ref a142), .val (.ref a149), .val (.int (((own_remM (own_remM (own_addM [0, 0, 0, 0] (own_i fa)) (own_i fv)) (own_i fw))).getD 3 0))] at_138 rfl rfl ?_
    refine Go.aload 142 at_140 rfl rfl rfl ?_
    refine Go.callVIp [] [] 145 at_142 (tw37 hw) (tw38 hw) (tw40 hw) (tw39 hw) (tw3 hw) (tw41 hw) f246 pl8 (by decide) (lenOf pd8 rfl) rfl (fun m => ef_k_size m a149) _ (k_size hw h243 zs252 a149 f249) 0 rfl (Nat.le_of_eq rfl) (by decide) (by decide) (by decide) (by decide) rfl ?_
    refine Go.iload 147 at_145 rfl rfl ?_
    refine Go.icmp_eq 152 150 at_147 (by decide) (by decide) rfl (fun c256 => ?_) (fun c256 => ?_)
    ·
      refine Go.iload 154 at_152 rfl rfl ?_
      refine Go.if_le 172 157 at_154 (by decide) (by decide) rfl (fun c257 => ?_) (fun c257 => ?_)
      ·
        refine Go.iload 174 at_172 rfl rfl ?_
        refine Go.iconst 175 (1) at_174 (by decide) rfl ?_
        refine Go.icmp_le 193 178 at_175 (by decide) (by decide) rfl (fun c258 => ?_) (fun c258 => ?_)
        ·
          refine Go.iload 195 at_193 rfl rfl ?_
          refine Go.iconst 196 (2) at_195 (by decide) rfl ?_
          refine Go.icmp_le 214 199 at_196 (by decide) (by decide) rfl (fun c259 => ?_) (fun c259 => ?_)
          ·
            refine Go.iconst 215 (1) at_214 (by decide) rfl ?_
            refine Go.nreturn (t := .boolean) (z' := (1 : Int32)) at_215 rfl (by simp) (by decide) (by decide) (by decide) ?_
            rfl
          ·
            refine Go.aload 201 at_199 rfl rfl rfl ?_
            refine Go.iconst 202 (2) at_201 (by decide) rfl ?_
            refine Go.callVIp [.int (2 : Int32)] [] 205 at_202 (tw42 hw) (tw43 hw) (tw45 hw) (tw44 hw) (tw3 hw) (tw46 hw) f246 pl9 (by decide) (lenOf pd9 rfl) rfl (fun m => ef_k_get m a149 (2 : Int32)) _ (k_get (S := (own_rem (own_rem (own_add own_init (own_i fa)) (own_i fv)) (own_i fw))) hw h243 zs252 a149 (2 : Int32) f247 f249 f250 (own_orB (own_f29 fa fb fc fv fw) (own_andB (decide_eq_true c256) (own_andB (decide_eq_true c257) (own_andB (decide_eq_true c258) (own_andB (decide_eq_true c259) rfl)))))) 0 rfl (Nat.le_of_eq rfl) (by decide) (by decide) (by decide) (by decide) rfl ?_
            refine Go.aload 207 at_205 rfl rfl rfl ?_
            refine Go.iconst 208 (2) at_207 (by decide) rfl ?_
            refine Go.iaload (x := (((own_remM (own_remM (own_addM [0, 0, 0, 0] (own_i fa)) (own_i fv)) (own_i fw))).getD 2 0)) (2) 209 at_208 f245 (by decide) (by decide) (own_getq (own_orB (own_f30 fa fb fc fv fw) rfl)) rfl ?_
            refine Go.icmp_eq 214 212 at_209 (by decide) (by decide) rfl (fun c263 => ?_) (fun c263 => ?_)
            ·
              refine Go.iconst 215 (1) at_214 (by decide) rfl ?_
              refine Go.nreturn (t := .boolean) (z' := (1 : Int32)) at_215 rfl (by simp) (by decide) (by decide) (by decide) ?_
              rfl
            ·
              refine Go.iconst 213 (0) at_212 (by decide) rfl ?_
              refine Go.nreturn (t := .boolean) (z' := (0 : Int32)) at_213 rfl (by simp) (by decide) (by decide) (by decide) ?_
              exact ((own_orB (own_f31 fa fb fc fv fw) (own_andB (decide_eq_true c256) (own_andB (decide_eq_true c257) (own_andB (decide_eq_true c258) (own_andB (decide_eq_true c259) (own_andB (decide_eq_true c263) rfl))))))).elim
        ·
          refine Go.aload 180 at_178 rfl rfl rfl ?_
          refine Go.iconst 181 (1) at_180 (by decide) rfl ?_
          refine Go.callVIp [.int (1 : Int32)] [] 184 at_181 (tw42 hw) (tw43 hw) (tw45 hw) (tw44 hw) (tw3 hw) (tw46 hw) f246 pl9 (by decide) (lenOf pd9 rfl) rfl (fun m => ef_k_get m a149 (1 : Int32)) _ (k_get (S := (own_rem (own_rem (own_add own_init (own_i fa)) (own_i fv)) (own_i fw))) hw h243 zs252 a149 (1 : Int32) f247 f249 f250 (own_orB (own_f32 fa fb fc fv fw) (own_andB (decide_eq_true c256) (own_andB (decide_eq_true c257) (own_andB (decide_eq_true c258) rfl))))) 0 rfl (Nat.le_of_eq rfl) (by decide) (by decide) (by decide) (by decide) rfl ?_
          refine Go.aload 186 at_184 rfl rfl rfl ?_
          refine Go.iconst 187 (1) at_186 (by decide) rfl ?_
          refine Go.iaload (x := (((own_remM (own_remM (own_addM [0, 0, 0, 0] (own_i fa)) (own_i fv)) (own_i fw))).getD 1 0)) (1) 188 at_187 f245 (by decide) (by decide) (own_getq (own_orB (own_f33 fa fb fc fv fw) rfl)) rfl ?_
          refine Go.icmp_eq 193 191 at_188 (by decide) (by decide) rfl (fun c267 => ?_) (fun c267 => ?_)
          ·
            refine Go.iload 195 at_193 rfl rfl ?_
            refine Go.iconst 196 (2) at_195 (by decide) rfl ?_
            refine Go.icmp_le 214 199 at_196 (by decide) (by decide) rfl (fun c268 => ?_) (fun c268 => ?_)
            ·
              refine Go.iconst 215 (1) at_214 (by decide) rfl ?_
              refine Go.nreturn (t := .boolean) (z' := (1 : Int32)) at_215 rfl (by simp) (by decide) (by decide) (by decide) ?_
              rfl
            ·
              refine Go.aload 201 at_199 rfl rfl rfl ?_
              refine Go.iconst 202 (2) at_201 (by decide) rfl ?_
              refine Go.callVIp [.int (2 : Int32)] [] 205 at_202 (tw42 hw) (tw43 hw) (tw45 hw) (tw44 hw) (tw3 hw) (tw46 hw) f246 pl9 (by decide) (lenOf pd9 rfl) rfl (fun m => ef_k_get m a149 (2 : Int32)) _ (k_get (S := (own_rem (own_rem (own_add own_init (own_i fa)) (own_i fv)) (own_i fw))) hw h243 zs252 a149 (2 : Int32) f247 f249 f250 (own_orB (own_f34 fa fb fc fv fw) (own_andB (decide_eq_true c256) (own_andB (decide_eq_true c257) (own_andB (decide_eq_true c258) (own_andB (decide_eq_true c267) (own_andB (decide_eq_true c268) rfl))))))) 0 rfl (Nat.le_of_eq rfl) (by decide) (by decide) (by decide) (by decide) rfl ?_
              refine Go.aload 207 at_205 rfl rfl rfl ?_
              refine Go.iconst 208 (2) at_207 (by decide) rfl ?_
              refine Go.iaload (x := (((own_remM (own_remM (own_addM [0, 0, 0, 0] (own_i fa)) (own_i fv)) (own_i fw))).getD 2 0)) (2) 209 at_208 f245 (by decide) (by decide) (own_getq (own_orB (own_f30 fa fb fc fv fw) rfl)) rfl ?_
              refine Go.icmp_eq 214 212 at_209 (by decide) (by decide) rfl (fun c272 => ?_) (fun c272 => ?_)
              ·
                refine Go.iconst 215 (1) at_214 (by decide) rfl ?_
                refine Go.nreturn (t := .boolean) (z' := (1 : Int32)) at_215 rfl (by simp) (by decide) (by decide) (by decide) ?_
                rfl
              ·
                refine Go.iconst 213 (0) at_212 (by decide) rfl ?_
                refine Go.nreturn (t := .boolean) (z' := (0 : Int32)) at_213 rfl (by simp) (by decide) (by decide) (by decide) ?_
                exact ((own_orB (own_f35 fa fb fc fv fw) (own_andB (decide_eq_true c256) (own_andB (decide_eq_true c257) (own_andB (decide_eq_true c258) (own_andB (decide_eq_true c267) (own_andB (decide_eq_true c268) (own_andB (decide_eq_true c272) rfl)))))))).elim
          ·
            refine Go.iconst 192 (0) at_191 (by decide) rfl ?_
            refine Go.nreturn (t := .boolean) (z' := (0 : Int32)) at_192 rfl (by simp) (by decide) (by decide) (by decide) ?_
            exact ((own_orB (own_f36 fa fb fc fv fw) (own_andB (decide_eq_true c256) (own_andB (decide_eq_true c257) (own_andB (decide_eq_true c258) (own_andB (decide_eq_true c267) rfl)))))).elim
      ·
        refine Go.aload 159 at_157 rfl rfl rfl ?_
        refine Go.iconst 160 (0) at_159 (by decide) rfl ?_
        refine Go.callVIp [.int (0 : Int32)] [] 163 at_160 (tw42 hw) (tw43 hw) (tw45 hw) (tw44 hw) (tw3 hw) (tw46 hw) f246 pl9 (by decide) (lenOf pd9 rfl) rfl (fun m => ef_k_get m a149 (0 : Int32)) _ (k_get (S := (own_rem (own_rem (own_add own_init (own_i fa)) (own_i fv)) (own_i fw))) hw h243 zs252 a149 (0 : Int32) f247 f249 f250 (own_orB (own_f37 fa fb fc fv fw) (own_andB (decide_eq_true c256) (own_andB (decide_eq_true c257) rfl)))) 0 rfl (Nat.le_of_eq rfl) (by decide) (by decide) (by decide) (by decide) rfl ?_
        refine Go.aload 165 at_163 rfl rfl rfl ?_
        refine Go.iconst 166 (0) at_165 (by decide) rfl ?_
        refine Go.iaload (x := (((own_remM (own_remM (own_addM [0, 0, 0, 0] (own_i fa)) (own_i fv)) (own_i fw))).getD 0 0)) (0) 167 at_166 f245 (by decide) (by decide) (own_getq (own_orB (own_f38 fa fb fc fv fw) rfl)) rfl ?_
        refine Go.icmp_eq 172 170 at_167 (by decide) (by decide) rfl (fun c276 => ?_) (fun c276 => ?_)
        ·
          refine Go.iload 174 at_172 rfl rfl ?_
          refine Go.iconst 175 (1) at_174 (by decide) rfl ?_
          refine Go.icmp_le 193 178 at_175 (by decide) (by decide) rfl (fun c277 => ?_) (fun c277 => ?_)
          ·
            refine Go.iload 195 at_193 rfl rfl ?_
            refine Go.iconst 196 (2) at_195 (by decide) rfl ?_
            refine Go.icmp_le 214 199 at_196 (by decide) (by decide) rfl (fun c278 => ?_) (fun c278 => ?_)
            ·
              refine Go.iconst 215 (1) at_214 (by decide) rfl ?_
              refine Go.nreturn (t := .boolean) (z' := (1 : Int32)) at_215 rfl (by simp) (by decide) (by decide) (by decide) ?_
              rfl
            ·
              refine Go.aload 201 at_199 rfl rfl rfl ?_
              refine Go.iconst 202 (2) at_201 (by decide) rfl ?_
              refine Go.callVIp [.int (2 : Int32)] [] 205 at_202 (tw42 hw) (tw43 hw) (tw45 hw) (tw44 hw) (tw3 hw) (tw46 hw) f246 pl9 (by decide) (lenOf pd9 rfl) rfl (fun m => ef_k_get m a149 (2 : Int32)) _ (k_get (S := (own_rem (own_rem (own_add own_init (own_i fa)) (own_i fv)) (own_i fw))) hw h243 zs252 a149 (2 : Int32) f247 f249 f250 (own_orB (own_f39 fa fb fc fv fw) (own_andB (decide_eq_true c256) (own_andB (decide_eq_true c257) (own_andB (decide_eq_true c276) (own_andB (decide_eq_true c277) (own_andB (decide_eq_true c278) rfl))))))) 0 rfl (Nat.le_of_eq rfl) (by decide) (by decide) (by decide) (by decide) rfl ?_
              refine Go.aload 207 at_205 rfl rfl rfl ?_
              refine Go.iconst 208 (2) at_207 (by decide) rfl ?_
              refine Go.iaload (x := (((own_remM (own_remM (own_addM [0, 0, 0, 0] (own_i fa)) (own_i fv)) (own_i fw))).getD 2 0)) (2) 209 at_208 f245 (by decide) (by decide) (own_getq (own_orB (own_f30 fa fb fc fv fw) rfl)) rfl ?_
              refine Go.icmp_eq 214 212 at_209 (by decide) (by decide) rfl (fun c282 => ?_) (fun c282 => ?_)
              ·
                refine Go.iconst 215 (1) at_214 (by decide) rfl ?_
                refine Go.nreturn (t := .boolean) (z' := (1 : Int32)) at_215 rfl (by simp) (by decide) (by decide) (by decide) ?_
                rfl
              ·
                refine Go.iconst 213 (0) at_212 (by decide) rfl ?_
                refine Go.nreturn (t := .boolean) (z' := (0 : Int32)) at_213 rfl (by simp) (by decide) (by decide) (by decide) ?_
                exact ((own_orB (own_f40 fa fb fc fv fw) (own_andB (decide_eq_true c256) (own_andB (decide_eq_true c257) (own_andB (decide_eq_true c276) (own_andB (decide_eq_true c277) (own_andB (decide_eq_true c278) (own_andB (decide_eq_true c282) rfl)))))))).elim
          ·
            refine Go.aload 180 at_178 rfl rfl rfl ?_
            refine Go.iconst 181 (1) at_180 (by decide) rfl ?_
            refine Go.callVIp [.int (1 : Int32)] [] 184 at_181 (tw42 hw) (tw43 hw) (tw45 hw) (tw44 hw) (tw3 hw) (tw46 hw) f246 pl9 (by decide) (lenOf pd9 rfl) rfl (fun m => ef_k_get m a149 (1 : Int32)) _ (k_get (S := (own_rem (own_rem (own_add own_init (own_i fa)) (own_i fv)) (own_i fw))) hw h243 zs252 a149 (1 : Int32) f247 f249 f250 (own_orB (own_f41 fa fb fc fv fw) (own_andB (decide_eq_true c256) (own_andB (decide_eq_true c257) (own_andB (decide_eq_true c276) (own_andB (decide_eq_true c277) rfl)))))) 0 rfl (Nat.le_of_eq rfl) (by decide) (by decide) (by decide) (by decide) rfl ?_
            refine Go.aload 186 at_184 rfl rfl rfl ?_
            refine Go.iconst 187 (1) at_186 (by decide) rfl ?_
            refine Go.iaload (x := (((own_remM (own_remM (own_addM [0, 0, 0, 0] (own_i fa)) (own_i fv)) (own_i fw))).getD 1 0)) (1) 188 at_187 f245 (by decide) (by decide) (own_getq (own_orB (own_f33 fa fb fc fv fw) rfl)) rfl ?_
            refine Go.icmp_eq 193 191 at_188 (by decide) (by decide) rfl (fun c286 => ?_) (fun c286 => ?_)
            ·
              refine Go.iload 195 at_193 rfl rfl ?_
              refine Go.iconst 196 (2) at_195 (by decide) rfl ?_
              refine Go.icmp_le 214 199 at_196 (by decide) (by decide) rfl (fun c287 => ?_) (fun c287 => ?_)
              ·
                refine Go.iconst 215 (1) at_214 (by decide) rfl ?_
                refine Go.nreturn (t := .boolean) (z' := (1 : Int32)) at_215 rfl (by simp) (by decide) (by decide) (by decide) ?_
                rfl
              ·
                refine Go.aload 201 at_199 rfl rfl rfl ?_
                refine Go.iconst 202 (2) at_201 (by decide) rfl ?_
                refine Go.callVIp [.int (2 : Int32)] [] 205 at_202 (tw42 hw) (tw43 hw) (tw45 hw) (tw44 hw) (tw3 hw) (tw46 hw) f246 pl9 (by decide) (lenOf pd9 rfl) rfl (fun m => ef_k_get m a149 (2 : Int32)) _ (k_get (S := (own_rem (own_rem (own_add own_init (own_i fa)) (own_i fv)) (own_i fw))) hw h243 zs252 a149 (2 : Int32) f247 f249 f250 (own_orB (own_f42 fa fb fc fv fw) (own_andB (decide_eq_true c256) (own_andB (decide_eq_true c257) (own_andB (decide_eq_true c276) (own_andB (decide_eq_true c277) (own_andB (decide_eq_true c286) (own_andB (decide_eq_true c287) rfl)))))))) 0 rfl (Nat.le_of_eq rfl) (by decide) (by decide) (by decide) (by decide) rfl ?_
                refine Go.aload 207 at_205 rfl rfl rfl ?_
                refine Go.iconst 208 (2) at_207 (by decide) rfl ?_
                refine Go.iaload (x := (((own_remM (own_remM (own_addM [0, 0, 0, 0] (own_i fa)) (own_i fv)) (own_i fw))).getD 2 0)) (2) 209 at_208 f245 (by decide) (by decide) (own_getq (own_orB (own_f30 fa fb fc fv fw) rfl)) rfl ?_
                refine Go.icmp_eq 214 212 at_209 (by decide) (by decide) rfl (fun c291 => ?_) (fun c291 => ?_)
                ·
                  refine Go.iconst 215 (1) at_214 (by decide) rfl ?_
                  refine Go.nreturn (t := .boolean) (z' := (1 : Int32)) at_215 rfl (by simp) (by decide) (by decide) (by decide) ?_
                  rfl
                ·
                  refine Go.iconst 213 (0) at_212 (by decide) rfl ?_
                  refine Go.nreturn (t := .boolean) (z' := (0 : Int32)) at_213 rfl (by simp) (by decide) (by decide) (by decide) ?_
                  exact ((own_orB (own_f43 fa fb fc fv fw) (own_andB (decide_eq_true c256) (own_andB (decide_eq_true c257) (own_andB (decide_eq_true c276) (own_andB (decide_eq_true c277) (own_andB (decide_eq_true c286) (own_andB (decide_eq_true c287) (own_andB (decide_eq_true c291) rfl))))))))).elim
            ·
              refine Go.iconst 192 (0) at_191 (by decide) rfl ?_
              refine Go.nreturn (t := .boolean) (z' := (0 : Int32)) at_192 rfl (by simp) (by decide) (by decide) (by decide) ?_
              exact ((own_orB (own_f44 fa fb fc fv fw) (own_andB (decide_eq_true c256) (own_andB (decide_eq_true c257) (own_andB (decide_eq_true c276) (own_andB (decide_eq_true c277) (own_andB (decide_eq_true c286) rfl))))))).elim
        ·
          refine Go.iconst 171 (0) at_170 (by decide) rfl ?_
          refine Go.nreturn (t := .boolean) (z' := (0 : Int32)) at_171 rfl (by simp) (by decide) (by decide) (by decide) ?_
          exact ((own_orB (own_f45 fa fb fc fv fw) (own_andB (decide_eq_true c256) (own_andB (decide_eq_true c257) (own_andB (decide_eq_true c276) rfl))))).elim
    ·
      refine Go.iconst 151 (0) at_150 (by decide) rfl ?_
      refine Go.nreturn (t := .boolean) (z' := (0 : Int32)) at_151 rfl (by simp) (by decide) (by decide) (by decide) ?_
      exact ((own_orB (own_f46 fa fb fc fv fw) (own_andB (decide_eq_true c256) rfl))).elim
  ·
    subst hs12
    refine Go.iconst 33 (4) at_32 (by decide) rfl ?_
    refine Go.newI (cap := 4) (xs := [0, 0, 0, 0]) 35 at_33 (tw0 hw) rfl (by decide) (by decide) (by decide) rfl (by decide) (by decide) rfl (fun a292 h293 q294 E295 A296 => ?_)
    have ge297 : Z.heap.size ≤ a292 := (Eq.symm q294) ▸ hz
    have zs298 : Z.heap.size ≤ h293.size := Nat.le_trans hz E295.1
    refine Go.astore 37 #[.val (.int i0), .val (.int i1), .val (.int i2), .val (.int i3), .val (.int i4), .val (.int i5), .val (.int (own_i fa)), .val (.int (own_i fb)), .val (.int (own_i fc)), .val (.int (2 : Int32)), .val (.int (own_i fv)), .val (.int (own_i fw)), .val (.ref a292), .unset, .unset] at_35 rfl rfl rfl ?_
    refine Go.new 40 at_37 (tw1 hw) (tw2 hw) (tw3 hw) (by decide) (by decide) rfl (fun a299 h300 q301 E302 A303 D304 => ?_)
    have ne305 : a292 ≠ a299 := fun e => absurd A296.lt (by rw [e, q301]; exact Nat.lt_irrefl _)
    have ge306 : Z.heap.size ≤ a299 := (Eq.symm q301) ▸ zs298
    have f307 : Ari Z h300 a292 .int [0, 0, 0, 0] := A296.ext E302
    have zs308 : Z.heap.size ≤ h300.size := Nat.le_trans zs298 E302.1
    have f309 : Fld Z h300 a299 "com/example/wary_mutex/warymutex/message/IndexSet" "members" "[I" (.null) := D304 (Or.inr (tw11 hw)) (ty := (.array .int)) (by decide)
    have f310 : Fld Z h300 a299 "com/example/wary_mutex/warymutex/message/IndexSet" "positions" "[I" (.null) := D304 (Or.inr (tw13 hw)) (ty := (.array .int)) (by decide)
    have f311 : Fld Z h300 a299 "com/example/wary_mutex/warymutex/message/IndexSet" "size" "I" (.int (0 : Int32)) := D304 (Or.inl (tw24 hw)) (ty := .int) (by decide)
    refine Go.dup 41 at_40 rfl rfl ?_
    refine Go.iconst 42 (4) at_41 (by decide) rfl ?_
    refine Go.callC [.int (4 : Int32)] [.ref a299] 45 at_42 rfl (tw4 hw) (tw5 hw) (tw3 hw) (tw6 hw) pl1 (by decide) (lenOf pd1 rfl) rfl (fun m => ef_k_init m a299 (4 : Int32)) _ (k_init hw h300 zs308 a299 A303 f309 f310 f311 ge306) 1 rfl (Nat.le_of_eq rfl) (by decide) (by decide) (by decide) (by decide) rfl ?_
    rintro h313 ⟨a315, a316, g317, g318, ne319, K314, f320, f321, f322, f323, f324, f325⟩
    have ne326 : a292 ≠ a315 := Nat.ne_of_lt (Nat.lt_of_lt_of_le f307.lt g317)
    have ne327 : a299 ≠ a315 := Nat.ne_of_lt (Nat.lt_of_lt_of_le A303.lt g317)
    have ge328 : Z.heap.size ≤ a315 := Nat.le_trans zs308 g317
    have ne329 : a292 ≠ a316 := Nat.ne_of_lt (Nat.lt_of_lt_of_le f307.lt g318)
    have ne330 : a299 ≠ a316 := Nat.ne_of_lt (Nat.lt_of_lt_of_le A303.lt g318)
    have ge331 : Z.heap.size ≤ a316 := Nat.le_trans zs308 g318
    have f332 : Ari Z h313 a292 .int [0, 0, 0, 0] := f307.keep K314 (ninS ne305 nin0)
    have zs333 : Z.heap.size ≤ h313.size := Nat.le_trans zs308 K314.1
    refine Go.astore 47 #[.val (.int i0), .val (.int i1), .val (.int i2), .val (.int i3), .val (.int i4), .val (.int i5), .val (.int (own_i fa)), .val (.int (own_i fb)), .val (.int (own_i fc)), .val (.int (2 : Int32)), .val (.int (own_i fv)), .val (.int (own_i fw)), .val (.ref a292), .val (.ref a299), .unset] at_45 rfl rfl rfl ?_
    refine Go.iload 49 at_47 rfl rfl ?_
    refine Go.if_le 66 52 at_49 (by decide) (by decide) rfl (fun c => absurd c (by decide)) (fun _ => ?_)
    refine Go.aload 54 at_52 rfl rfl rfl ?_
    refine Go.iload 56 at_54 rfl rfl ?_
    refine Go.callVV [.int (own_i fa)] [] 59 at_56 (tw18 hw) (tw19 hw) (tw21 hw) (tw20 hw) (tw3 hw) (tw22 hw) f320 pl4 (by decide) (lenOf pd4 rfl) rfl (fun m => ef_k_add m a299 (own_i fa)) _ (k_add (S := own_init) hw h313 zs333 a299 (own_i fa) f320 f321 f322 f323 f324 f325 (own_orB (own_f23 fa fb fc fv fw) rfl) ge306 ge328 ge331 ne327 ne330 ne319) 0 rfl (Nat.le_of_eq rfl) (by decide) (by decide) (by decide) (by decide) rfl ?_
    rintro h336 ⟨K337, f338, f339, f340, f341, f342, f343⟩
    have f344 : Ari Z h336 a292 .int [0, 0, 0, 0] := f332.keep K337 (ninS ne305 (ninS ne326 (ninS ne329 nin0)))
    have zs345 : Z.heap.size ≤ h336.size := Nat.le_trans zs333 K337.1
    refine Go.aload 61 at_59 rfl rfl rfl ?_
    refine Go.iload 63 at_61 rfl rfl ?_
    refine Go.callSV [.ref a292, .int (own_i fa)] [] 66 at_63 (tw25 hw) (tw26 hw) (tw27 hw) (tw28 hw) pl5 (by decide) (lenOf pd5 rfl) rfl (fun m => ef_k_addM m a292 (own_i fa)) _ (k_addM hw h336 zs345 a292 (own_i fa) f344 (own_orB (own_f1 fa fb fc fv fw) rfl) ge297) 0 rfl (Nat.le_of_eq rfl) (by decide) (by decide) (by decide) (by decide) rfl ?_
    rintro h347 ⟨K348, f349⟩
    have f350 : Exa Z h347 a299 "com/example/wary_mutex/warymutex/message/IndexSet" := f338.keep K348
    have f351 : Fld Z h347 a299 "com/example/wary_mutex/warymutex/message/IndexSet" "members" "[I" (.ref a315) := f339.keep K348 (ninS (Ne.symm ne305) nin0)
    have f352 : Fld Z h347 a299 "com/example/wary_mutex/warymutex/message/IndexSet" "positions" "[I" (.ref a316) := f340.keep K348 (ninS (Ne.symm ne305) nin0)
    have f353 : Fld Z h347 a299 "com/example/wary_mutex/warymutex/message/IndexSet" "size" "I" (.int ((own_add own_init (own_i fa)).2.2)) := f341.keep K348 (ninS (Ne.symm ne305) nin0)
    have f354 : Ari Z h347 a315 .int ((own_add own_init (own_i fa)).1) := f342.keep K348 (ninS (Ne.symm ne326) nin0)
    have f355 : Ari Z h347 a316 .int ((own_add own_init (own_i fa)).2.1) := f343.keep K348 (ninS (Ne.symm ne329) nin0)
    have zs356 : Z.heap.size ≤ h347.size := Nat.le_trans zs345 K348.1
    refine Go.iload 68 at_66 rfl rfl ?_
    refine Go.iconst 69 (1) at_68 (by decide) rfl ?_
    refine Go.icmp_le 86 72 at_69 (by decide) (by decide) rfl (fun c => absurd c (by decide)) (fun _ => ?_)
    refine Go.aload 74 at_72 rfl rfl rfl ?_
    refine Go.iload 76 at_74 rfl rfl ?_
    refine Go.callVV [.int (own_i fb)] [] 79 at_76 (tw18 hw) (tw19 hw) (tw21 hw) (tw20 hw) (tw3 hw) (tw22 hw) f350 pl4 (by decide) (lenOf pd4 rfl) rfl (fun m => ef_k_add m a299 (own_i fb)) _ (k_add (S := (own_add own_init (own_i fa))) hw h347 zs356 a299 (own_i fb) f350 f351 f352 f353 f354 f355 (own_orB (own_f47 fa fb fc fv fw) rfl) ge306 ge328 ge331 ne327 ne330 ne319) 0 rfl (Nat.le_of_eq rfl) (by decide) (by decide) (by decide) (by decide) rfl ?_
    rintro h359 ⟨K360, f361, f362, f363, f364, f365, f366⟩
    have f367 : Ari Z h359 a292 .int (own_addM [0, 0, 0, 0] (own_i fa)) := f349.keep K360 (ninS ne305 (ninS ne326 (ninS ne329 nin0)))
    have zs368 : Z.heap.size ≤ h359.size := Nat.le_trans zs356 K360.1
    refine Go.aload 81 at_79 rfl rfl rfl ?_
    refine Go.iload 83 at_81 rfl rfl ?_
    refine Go.callSV [.ref a292, .int (own_i fb)] [] 86 at_83 (tw25 hw) (tw26 hw) (tw27 hw) (tw28 hw) pl5 (by decide) (lenOf pd5 rfl) rfl (fun m => ef_k_addM m a292 (own_i fb)) _ (k_addM hw h359 zs368 a292 (own_i fb) f367 (own_orB (own_f25 fa fb fc fv fw) rfl) ge297) 0 rfl (Nat.le_of_eq rfl) (by decide) (by decide) (by decide) (by decide) rfl ?_
    rintro h370 ⟨K371, f372⟩
    have f373 : Exa Z h370 a299 "com/example/wary_mutex/warymutex/message/IndexSet" := f361.keep K371
    have f374 : Fld Z h370 a299 "com/example/wary_mutex/warymutex/message/IndexSet" "members" "[I" (.ref a315) := f362.keep K371 (ninS (Ne.symm ne305) nin0)
    have f375 : Fld Z h370 a299 "com/example/wary_mutex/warymutex/message/IndexSet" "positions" "[I" (.ref a316) := f363.keep K371 (ninS (Ne.symm ne305) nin0)
    have f376 : Fld Z h370 a299 "com/example/wary_mutex/warymutex/message/IndexSet" "size" "I" (.int ((own_add (own_add own_init (own_i fa)) (own_i fb)).2.2)) := f364.keep K371 (ninS (Ne.symm ne305) nin0)
    have f377 : Ari Z h370 a315 .int ((own_add (own_add own_init (own_i fa)) (own_i fb)).1) := f365.keep K371 (ninS (Ne.symm ne326) nin0)
    have f378 : Ari Z h370 a316 .int ((own_add (own_add own_init (own_i fa)) (own_i fb)).2.1) := f366.keep K371 (ninS (Ne.symm ne329) nin0)
    have zs379 : Z.heap.size ≤ h370.size := Nat.le_trans zs368 K371.1
    refine Go.iload 88 at_86 rfl rfl ?_
    refine Go.iconst 89 (2) at_88 (by decide) rfl ?_
    refine Go.icmp_le 106 92 at_89 (by decide) (by decide) rfl (fun _ => ?_) (fun c => absurd c (by decide))
    refine Go.aload 108 at_106 rfl rfl rfl ?_
    refine Go.iload 110 at_108 rfl rfl ?_
    refine Go.callVV [.int (own_i fv)] [] 113 at_110 (tw29 hw) (tw30 hw) (tw32 hw) (tw31 hw) (tw3 hw) (tw33 hw) f373 pl6 (by decide) (lenOf pd6 rfl) rfl (fun m => ef_k_rem m a299 (own_i fv)) _ (k_rem (S := (own_add (own_add own_init (own_i fa)) (own_i fb))) hw h370 zs379 a299 (own_i fv) f373 f374 f375 f376 f377 f378 (own_orB (own_f48 fa fb fc fv fw) rfl) ge306 ge328 ge331 ne327 ne330 ne319) 0 rfl (Nat.le_of_eq rfl) (by decide) (by decide) (by decide) (by decide) rfl ?_
    rintro h382 ⟨K383, f384, f385, f386, f387, f388, f389⟩
    have f390 : Ari Z h382 a292 .int (own_addM (own_addM [0, 0, 0, 0] (own_i fa)) (own_i fb)) := f372.keep K383 (ninS ne305 (ninS ne326 (ninS ne329 nin0)))
    have zs391 : Z.heap.size ≤ h382.size := Nat.le_trans zs379 K383.1
    refine Go.aload 115 at_113 rfl rfl rfl ?_
    refine Go.iload 117 at_115 rfl rfl ?_
    refine Go.callSV [.ref a292, .int (own_i fv)] [] 120 at_117 (tw34 hw) (tw35 hw) (tw27 hw) (tw36 hw) pl7 (by decide) (lenOf pd7 rfl) rfl (fun m => ef_k_remM m a292 (own_i fv)) _ (k_remM hw h382 zs391 a292 (own_i fv) f390 (own_orB (own_f49 fa fb fc fv fw) rfl) ge297) 0 rfl (Nat.le_of_eq rfl) (by decide) (by decide) (by decide) (by decide) rfl ?_
    rintro h393 ⟨K394, f395⟩
    have f396 : Exa Z h393 a299 "com/example/wary_mutex/warymutex/message/IndexSet" := f384.keep K394
    have f397 : Fld Z h393 a299 "com/example/wary_mutex/warymutex/message/IndexSet" "members" "[I" (.ref a315) := f385.keep K394 (ninS (Ne.symm ne305) nin0)
    have f398 : Fld Z h393 a299 "com/example/wary_mutex/warymutex/message/IndexSet" "positions" "[I" (.ref a316) := f386.keep K394 (ninS (Ne.symm ne305) nin0)
    have f399 : Fld Z h393 a299 "com/example/wary_mutex/warymutex/message/IndexSet" "size" "I" (.int ((own_rem (own_add (own_add own_init (own_i fa)) (own_i fb)) (own_i fv)).2.2)) := f387.keep K394 (ninS (Ne.symm ne305) nin0)
    have f400 : Ari Z h393 a315 .int ((own_rem (own_add (own_add own_init (own_i fa)) (own_i fb)) (own_i fv)).1) := f388.keep K394 (ninS (Ne.symm ne326) nin0)
    have f401 : Ari Z h393 a316 .int ((own_rem (own_add (own_add own_init (own_i fa)) (own_i fb)) (own_i fv)).2.1) := f389.keep K394 (ninS (Ne.symm ne329) nin0)
    have zs402 : Z.heap.size ≤ h393.size := Nat.le_trans zs391 K394.1
    refine Go.aload 122 at_120 rfl rfl rfl ?_
    refine Go.iload 124 at_122 rfl rfl ?_
    refine Go.callVV [.int (own_i fw)] [] 127 at_124 (tw29 hw) (tw30 hw) (tw32 hw) (tw31 hw) (tw3 hw) (tw33 hw) f396 pl6 (by decide) (lenOf pd6 rfl) rfl (fun m => ef_k_rem m a299 (own_i fw)) _ (k_rem (S := (own_rem (own_add (own_add own_init (own_i fa)) (own_i fb)) (own_i fv))) hw h393 zs402 a299 (own_i fw) f396 f397 f398 f399 f400 f401 (own_orB (own_f50 fa fb fc fv fw) rfl) ge306 ge328 ge331 ne327 ne330 ne319) 0 rfl (Nat.le_of_eq rfl) (by decide) (by decide) (by decide) (by decide) rfl ?_
    rintro h404 ⟨K405, f406, f407, f408, f409, f410, f411⟩
    have f412 : Ari Z h404 a292 .int (own_remM (own_addM (own_addM [0, 0, 0, 0] (own_i fa)) (own_i fb)) (own_i fv)) := f395.keep K405 (ninS ne305 (ninS ne326 (ninS ne329 nin0)))
    have zs413 : Z.heap.size ≤ h404.size := Nat.le_trans zs402 K405.1
    refine Go.aload 129 at_127 rfl rfl rfl ?_
    refine Go.iload 131 at_129 rfl rfl ?_
    refine Go.callSV [.ref a292, .int (own_i fw)] [] 134 at_131 (tw34 hw) (tw35 hw) (tw27 hw) (tw36 hw) pl7 (by decide) (lenOf pd7 rfl) rfl (fun m => ef_k_remM m a292 (own_i fw)) _ (k_remM hw h404 zs413 a292 (own_i fw) f412 (own_orB (own_f51 fa fb fc fv fw) rfl) ge297) 0 rfl (Nat.le_of_eq rfl) (by decide) (by decide) (by decide) (by decide) rfl ?_
    rintro h415 ⟨K416, f417⟩
    have f418 : Exa Z h415 a299 "com/example/wary_mutex/warymutex/message/IndexSet" := f406.keep K416
    have f419 : Fld Z h415 a299 "com/example/wary_mutex/warymutex/message/IndexSet" "members" "[I" (.ref a315) := f407.keep K416 (ninS (Ne.symm ne305) nin0)
    have f420 : Fld Z h415 a299 "com/example/wary_mutex/warymutex/message/IndexSet" "positions" "[I" (.ref a316) := f408.keep K416 (ninS (Ne.symm ne305) nin0)
    have f421 : Fld Z h415 a299 "com/example/wary_mutex/warymutex/message/IndexSet" "size" "I" (.int ((own_rem (own_rem (own_add (own_add own_init (own_i fa)) (own_i fb)) (own_i fv)) (own_i fw)).2.2)) := f409.keep K416 (ninS (Ne.symm ne305) nin0)
    have f422 : Ari Z h415 a315 .int ((own_rem (own_rem (own_add (own_add own_init (own_i fa)) (own_i fb)) (own_i fv)) (own_i fw)).1) := f410.keep K416 (ninS (Ne.symm ne326) nin0)
    have f423 : Ari Z h415 a316 .int ((own_rem (own_rem (own_add (own_add own_init (own_i fa)) (own_i fb)) (own_i fv)) (own_i fw)).2.1) := f411.keep K416 (ninS (Ne.symm ne329) nin0)
    have zs424 : Z.heap.size ≤ h415.size := Nat.le_trans zs413 K416.1
    refine Go.aload 136 at_134 rfl rfl rfl ?_
    refine Go.iconst 137 (3) at_136 (by decide) rfl ?_
    refine Go.iaload (x := (((own_remM (own_remM (own_addM (own_addM [0, 0, 0, 0] (own_i fa)) (own_i fb)) (own_i fv)) (own_i fw))).getD 3 0)) (3) 138 at_137 f417 (by decide) (by decide) (own_getq (own_orB (own_f52 fa fb fc fv fw) rfl)) rfl ?_
    refine Go.istore 140 #[.val (.int i0), .val (.int i1), .val (.int i2), .val (.int i3), .val (.int i4), .val (.int i5), .val (.int (own_i fa)), .val (.int (own_i fb)), .val (.int (own_i fc)), .val (.int (2 : Int32)), .val (.int (own_i fv)), .val (.int (own_i fw)), .val (.ref a292), .val (.ref a299), .val (.int (((own_remM (own_remM (own_addM (own_addM [0, 0, 0, 0] (own_i fa)) (own_i fb)) (own_i fv)) (own_i fw))).getD 3 0))] at_138 rfl rfl ?_
    refine Go.aload 142 at_140 rfl rfl rfl ?_
    refine Go.callVIp [] [] 145 at_142 (tw37 hw) (tw38 hw) (tw40 hw) (tw39 hw) (tw3 hw) (tw41 hw) f418 pl8 (by decide) (lenOf pd8 rfl) rfl (fun m => ef_k_size m a299) _ (k_size hw h415 zs424 a299 f421) 0 rfl (Nat.le_of_eq rfl) (by decide) (by decide) (by decide) (by decide) rfl ?_
    refine Go.iload 147 at_145 rfl rfl ?_
    refine Go.icmp_eq 152 150 at_147 (by decide) (by decide) rfl (fun c428 => ?_) (fun c428 => ?_)
    ·
      refine Go.iload 154 at_152 rfl rfl ?_
      refine Go.if_le 172 157 at_154 (by decide) (by decide) rfl (fun c429 => ?_) (fun c429 => ?_)
      ·
        refine Go.iload 174 at_172 rfl rfl ?_
        refine Go.iconst 175 (1) at_174 (by decide) rfl ?_
        refine Go.icmp_le 193 178 at_175 (by decide) (by decide) rfl (fun c430 => ?_) (fun c430 => ?_)
        ·
          refine Go.iload 195 at_193 rfl rfl ?_
          refine Go.iconst 196 (2) at_195 (by decide) rfl ?_
          refine Go.icmp_le 214 199 at_196 (by decide) (by decide) rfl (fun c431 => ?_) (fun c431 => ?_)
          ·
            refine Go.iconst 215 (1) at_214 (by decide) rfl ?_
            refine Go.nreturn (t := .boolean) (z' := (1 : Int32)) at_215 rfl (by simp) (by decide) (by decide) (by decide) ?_
            rfl
          ·
            refine Go.aload 201 at_199 rfl rfl rfl ?_
            refine Go.iconst 202 (2) at_201 (by decide) rfl ?_
            refine Go.callVIp [.int (2 : Int32)] [] 205 at_202 (tw42 hw) (tw43 hw) (tw45 hw) (tw44 hw) (tw3 hw) (tw46 hw) f418 pl9 (by decide) (lenOf pd9 rfl) rfl (fun m => ef_k_get m a299 (2 : Int32)) _ (k_get (S := (own_rem (own_rem (own_add (own_add own_init (own_i fa)) (own_i fb)) (own_i fv)) (own_i fw))) hw h415 zs424 a299 (2 : Int32) f419 f421 f422 (own_orB (own_f53 fa fb fc fv fw) (own_andB (decide_eq_true c428) (own_andB (decide_eq_true c429) (own_andB (decide_eq_true c430) (own_andB (decide_eq_true c431) rfl)))))) 0 rfl (Nat.le_of_eq rfl) (by decide) (by decide) (by decide) (by decide) rfl ?_
            refine Go.aload 207 at_205 rfl rfl rfl ?_
            refine Go.iconst 208 (2) at_207 (by decide) rfl ?_
            refine Go.iaload (x := (((own_remM (own_remM (own_addM (own_addM [0, 0, 0, 0] (own_i fa)) (own_i fb)) (own_i fv)) (own_i fw))).getD 2 0)) (2) 209 at_208 f417 (by decide) (by decide) (own_getq (own_orB (own_f54 fa fb fc fv fw) rfl)) rfl ?_
            refine Go.icmp_eq 214 212 at_209 (by decide) (by decide) rfl (fun c435 => ?_) (fun c435 => ?_)
            ·
              refine Go.iconst 215 (1) at_214 (by decide) rfl ?_
              refine Go.nreturn (t := .boolean) (z' := (1 : Int32)) at_215 rfl (by simp) (by decide) (by decide) (by decide) ?_
              rfl
            ·
              refine Go.iconst 213 (0) at_212 (by decide) rfl ?_
              refine Go.nreturn (t := .boolean) (z' := (0 : Int32)) at_213 rfl (by simp) (by decide) (by decide) (by decide) ?_
              exact ((own_orB (own_f55 fa fb fc fv fw) (own_andB (decide_eq_true c428) (own_andB (decide_eq_true c429) (own_andB (decide_eq_true c430) (own_andB (decide_eq_true c431) (own_andB (decide_eq_true c435) rfl))))))).elim
        ·
          refine Go.aload 180 at_178 rfl rfl rfl ?_
          refine Go.iconst 181 (1) at_180 (by decide) rfl ?_
          refine Go.callVIp [.int (1 : Int32)] [] 184 at_181 (tw42 hw) (tw43 hw) (tw45 hw) (tw44 hw) (tw3 hw) (tw46 hw) f418 pl9 (by decide) (lenOf pd9 rfl) rfl (fun m => ef_k_get m a299 (1 : Int32)) _ (k_get (S := (own_rem (own_rem (own_add (own_add own_init (own_i fa)) (own_i fb)) (own_i fv)) (own_i fw))) hw h415 zs424 a299 (1 : Int32) f419 f421 f422 (own_orB (own_f56 fa fb fc fv fw) (own_andB (decide_eq_true c428) (own_andB (decide_eq_true c429) (own_andB (decide_eq_true c430) rfl))))) 0 rfl (Nat.le_of_eq rfl) (by decide) (by decide) (by decide) (by decide) rfl ?_
          refine Go.aload 186 at_184 rfl rfl rfl ?_
          refine Go.iconst 187 (1) at_186 (by decide) rfl ?_
          refine Go.iaload (x := (((own_remM (own_remM (own_addM (own_addM [0, 0, 0, 0] (own_i fa)) (own_i fb)) (own_i fv)) (own_i fw))).getD 1 0)) (1) 188 at_187 f417 (by decide) (by decide) (own_getq (own_orB (own_f57 fa fb fc fv fw) rfl)) rfl ?_
          refine Go.icmp_eq 193 191 at_188 (by decide) (by decide) rfl (fun c439 => ?_) (fun c439 => ?_)
          ·
            refine Go.iload 195 at_193 rfl rfl ?_
            refine Go.iconst 196 (2) at_195 (by decide) rfl ?_
            refine Go.icmp_le 214 199 at_196 (by decide) (by decide) rfl (fun c440 => ?_) (fun c440 => ?_)
            ·
              refine Go.iconst 215 (1) at_214 (by decide) rfl ?_
              refine Go.nreturn (t := .boolean) (z' := (1 : Int32)) at_215 rfl (by simp) (by decide) (by decide) (by decide) ?_
              rfl
            ·
              refine Go.aload 201 at_199 rfl rfl rfl ?_
              refine Go.iconst 202 (2) at_201 (by decide) rfl ?_
              refine Go.callVIp [.int (2 : Int32)] [] 205 at_202 (tw42 hw) (tw43 hw) (tw45 hw) (tw44 hw) (tw3 hw) (tw46 hw) f418 pl9 (by decide) (lenOf pd9 rfl) rfl (fun m => ef_k_get m a299 (2 : Int32)) _ (k_get (S := (own_rem (own_rem (own_add (own_add own_init (own_i fa)) (own_i fb)) (own_i fv)) (own_i fw))) hw h415 zs424 a299 (2 : Int32) f419 f421 f422 (own_orB (own_f58 fa fb fc fv fw) (own_andB (decide_eq_true c428) (own_andB (decide_eq_true c429) (own_andB (decide_eq_true c430) (own_andB (decide_eq_true c439) (own_andB (decide_eq_true c440) rfl))))))) 0 rfl (Nat.le_of_eq rfl) (by decide) (by decide) (by decide) (by decide) rfl ?_
              refine Go.aload 207 at_205 rfl rfl rfl ?_
              refine Go.iconst 208 (2) at_207 (by decide) rfl ?_
              refine Go.iaload (x := (((own_remM (own_remM (own_addM (own_addM [0, 0, 0, 0] (own_i fa)) (own_i fb)) (own_i fv)) (own_i fw))).getD 2 0)) (2) 209 at_208 f417 (by decide) (by decide) (own_getq (own_orB (own_f54 fa fb fc fv fw) rfl)) rfl ?_
              refine Go.icmp_eq 214 212 at_209 (by decide) (by decide) rfl (fun c444 => ?_) (fun c444 => ?_)
              ·
                refine Go.iconst 215 (1) at_214 (by decide) rfl ?_
                refine Go.nreturn (t := .boolean) (z' := (1 : Int32)) at_215 rfl (by simp) (by decide) (by decide) (by decide) ?_
                rfl
              ·
                refine Go.iconst 213 (0) at_212 (by decide) rfl ?_
                refine Go.nreturn (t := .boolean) (z' := (0 : Int32)) at_213 rfl (by simp) (by decide) (by decide) (by decide) ?_
                exact ((own_orB (own_f59 fa fb fc fv fw) (own_andB (decide_eq_true c428) (own_andB (decide_eq_true c429) (own_andB (decide_eq_true c430) (own_andB (decide_eq_true c439) (own_andB (decide_eq_true c440) (own_andB (decide_eq_true c444) rfl)))))))).elim
          ·
            refine Go.iconst 192 (0) at_191 (by decide) rfl ?_
            refine Go.nreturn (t := .boolean) (z' := (0 : Int32)) at_192 rfl (by simp) (by decide) (by decide) (by decide) ?_
            exact ((own_orB (own_f60 fa fb fc fv fw) (own_andB (decide_eq_true c428) (own_andB (decide_eq_true c429) (own_andB (decide_eq_true c430) (own_andB (decide_eq_true c439) rfl)))))).elim
      ·
        refine Go.aload 159 at_157 rfl rfl rfl ?_
        refine Go.iconst 160 (0) at_159 (by decide) rfl ?_
        refine Go.callVIp [.int (0 : Int32)] [] 163 at_160 (tw42 hw) (tw43 hw) (tw45 hw) (tw44 hw) (tw3 hw) (tw46 hw) f418 pl9 (by decide) (lenOf pd9 rfl) rfl (fun m => ef_k_get m a299 (0 : Int32)) _ (k_get (S := (own_rem (own_rem (own_add (own_add own_init (own_i fa)) (own_i fb)) (own_i fv)) (own_i fw))) hw h415 zs424 a299 (0 : Int32) f419 f421 f422 (own_orB (own_f61 fa fb fc fv fw) (own_andB (decide_eq_true c428) (own_andB (decide_eq_true c429) rfl)))) 0 rfl (Nat.le_of_eq rfl) (by decide) (by decide) (by decide) (by decide) rfl ?_
        refine Go.aload 165 at_163 rfl rfl rfl ?_
        refine Go.iconst 166 (0) at_165 (by decide) rfl ?_
        refine Go.iaload (x := (((own_remM (own_remM (own_addM (own_addM [0, 0, 0, 0] (own_i fa)) (own_i fb)) (own_i fv)) (own_i fw))).getD 0 0)) (0) 167 at_166 f417 (by decide) (by decide) (own_getq (own_orB (own_f62 fa fb fc fv fw) rfl)) rfl ?_
        refine Go.icmp_eq 172 170 at_167 (by decide) (by decide) rfl (fun c448 => ?_) (fun c448 => ?_)
        ·
          refine Go.iload 174 at_172 rfl rfl ?_
          refine Go.iconst 175 (1) at_174 (by decide) rfl ?_
          refine Go.icmp_le 193 178 at_175 (by decide) (by decide) rfl (fun c449 => ?_) (fun c449 => ?_)
          ·
            refine Go.iload 195 at_193 rfl rfl ?_
            refine Go.iconst 196 (2) at_195 (by decide) rfl ?_
            refine Go.icmp_le 214 199 at_196 (by decide) (by decide) rfl (fun c450 => ?_) (fun c450 => ?_)
            ·
              refine Go.iconst 215 (1) at_214 (by decide) rfl ?_
              refine Go.nreturn (t := .boolean) (z' := (1 : Int32)) at_215 rfl (by simp) (by decide) (by decide) (by decide) ?_
              rfl
            ·
              refine Go.aload 201 at_199 rfl rfl rfl ?_
              refine Go.iconst 202 (2) at_201 (by decide) rfl ?_
              refine Go.callVIp [.int (2 : Int32)] [] 205 at_202 (tw42 hw) (tw43 hw) (tw45 hw) (tw44 hw) (tw3 hw) (tw46 hw) f418 pl9 (by decide) (lenOf pd9 rfl) rfl (fun m => ef_k_get m a299 (2 : Int32)) _ (k_get (S := (own_rem (own_rem (own_add (own_add own_init (own_i fa)) (own_i fb)) (own_i fv)) (own_i fw))) hw h415 zs424 a299 (2 : Int32) f419 f421 f422 (own_orB (own_f63 fa fb fc fv fw) (own_andB (decide_eq_true c428) (own_andB (decide_eq_true c429) (own_andB (decide_eq_true c448) (own_andB (decide_eq_true c449) (own_andB (decide_eq_true c450) rfl))))))) 0 rfl (Nat.le_of_eq rfl) (by decide) (by decide) (by decide) (by decide) rfl ?_
              refine Go.aload 207 at_205 rfl rfl rfl ?_
              refine Go.iconst 208 (2) at_207 (by decide) rfl ?_
              refine Go.iaload (x := (((own_remM (own_remM (own_addM (own_addM [0, 0, 0, 0] (own_i fa)) (own_i fb)) (own_i fv)) (own_i fw))).getD 2 0)) (2) 209 at_208 f417 (by decide) (by decide) (own_getq (own_orB (own_f54 fa fb fc fv fw) rfl)) rfl ?_
              refine Go.icmp_eq 214 212 at_209 (by decide) (by decide) rfl (fun c454 => ?_) (fun c454 => ?_)
              ·
                refine Go.iconst 215 (1) at_214 (by decide) rfl ?_
                refine Go.nreturn (t := .boolean) (z' := (1 : Int32)) at_215 rfl (by simp) (by decide) (by decide) (by decide) ?_
                rfl
              ·
                refine Go.iconst 213 (0) at_212 (by decide) rfl ?_
                refine Go.nreturn (t := .boolean) (z' := (0 : Int32)) at_213 rfl (by simp) (by decide) (by decide) (by decide) ?_
                exact ((own_orB (own_f64 fa fb fc fv fw) (own_andB (decide_eq_true c428) (own_andB (decide_eq_true c429) (own_andB (decide_eq_true c448) (own_andB (decide_eq_true c449) (own_andB (decide_eq_true c450) (own_andB (decide_eq_true c454) rfl)))))))).elim
          ·
            refine Go.aload 180 at_178 rfl rfl rfl ?_
            refine Go.iconst 181 (1) at_180 (by decide) rfl ?_
            refine Go.callVIp [.int (1 : Int32)] [] 184 at_181 (tw42 hw) (tw43 hw) (tw45 hw) (tw44 hw) (tw3 hw) (tw46 hw) f418 pl9 (by decide) (lenOf pd9 rfl) rfl (fun m => ef_k_get m a299 (1 : Int32)) _ (k_get (S := (own_rem (own_rem (own_add (own_add own_init (own_i fa)) (own_i fb)) (own_i fv)) (own_i fw))) hw h415 zs424 a299 (1 : Int32) f419 f421 f422 (own_orB (own_f65 fa fb fc fv fw) (own_andB (decide_eq_true c428) (own_andB (decide_eq_true c429) (own_andB (decide_eq_true c448) (own_andB (decide_eq_true c449) rfl)))))) 0 rfl (Nat.le_of_eq rfl) (by decide) (by decide) (by decide) (by decide) rfl ?_
            refine Go.aload 186 at_184 rfl rfl rfl ?_
            refine Go.iconst 187 (1) at_186 (by decide) rfl ?_
            refine Go.iaload (x := (((own_remM (own_remM (own_addM (own_addM [0, 0, 0, 0] (own_i fa)) (own_i fb)) (own_i fv)) (own_i fw))).getD 1 0)) (1) 188 at_187 f417 (by decide) (by decide) (own_getq (own_orB (own_f57 fa fb fc fv fw) rfl)) rfl ?_
            refine Go.icmp_eq 193 191 at_188 (by decide) (by decide) rfl (fun c458 => ?_) (fun c458 => ?_)
            ·
              refine Go.iload 195 at_193 rfl rfl ?_
              refine Go.iconst 196 (2) at_195 (by decide) rfl ?_
              refine Go.icmp_le 214 199 at_196 (by decide) (by decide) rfl (fun c459 => ?_) (fun c459 => ?_)
              ·
                refine Go.iconst 215 (1) at_214 (by decide) rfl ?_
                refine Go.nreturn (t := .boolean) (z' := (1 : Int32)) at_215 rfl (by simp) (by decide) (by decide) (by decide) ?_
                rfl
              ·
                refine Go.aload 201 at_199 rfl rfl rfl ?_
                refine Go.iconst 202 (2) at_201 (by decide) rfl ?_
                refine Go.callVIp [.int (2 : Int32)] [] 205 at_202 (tw42 hw) (tw43 hw) (tw45 hw) (tw44 hw) (tw3 hw) (tw46 hw) f418 pl9 (by decide) (lenOf pd9 rfl) rfl (fun m => ef_k_get m a299 (2 : Int32)) _ (k_get (S := (own_rem (own_rem (own_add (own_add own_init (own_i fa)) (own_i fb)) (own_i fv)) (own_i fw))) hw h415 zs424 a299 (2 : Int32) f419 f421 f422 (own_orB (own_f66 fa fb fc fv fw) (own_andB (decide_eq_true c428) (own_andB (decide_eq_true c429) (own_andB (decide_eq_true c448) (own_andB (decide_eq_true c449) (own_andB (decide_eq_true c458) (own_andB (decide_eq_true c459) rfl)))))))) 0 rfl (Nat.le_of_eq rfl) (by decide) (by decide) (by decide) (by decide) rfl ?_
                refine Go.aload 207 at_205 rfl rfl rfl ?_
                refine Go.iconst 208 (2) at_207 (by decide) rfl ?_
                refine Go.iaload (x := (((own_remM (own_remM (own_addM (own_addM [0, 0, 0, 0] (own_i fa)) (own_i fb)) (own_i fv)) (own_i fw))).getD 2 0)) (2) 209 at_208 f417 (by decide) (by decide) (own_getq (own_orB (own_f54 fa fb fc fv fw) rfl)) rfl ?_
                refine Go.icmp_eq 214 212 at_209 (by decide) (by decide) rfl (fun c463 => ?_) (fun c463 => ?_)
                ·
                  refine Go.iconst 215 (1) at_214 (by decide) rfl ?_
                  refine Go.nreturn (t := .boolean) (z' := (1 : Int32)) at_215 rfl (by simp) (by decide) (by decide) (by decide) ?_
                  rfl
                ·
                  refine Go.iconst 213 (0) at_212 (by decide) rfl ?_
                  refine Go.nreturn (t := .boolean) (z' := (0 : Int32)) at_213 rfl (by simp) (by decide) (by decide) (by decide) ?_
                  exact ((own_orB (own_f67 fa fb fc fv fw) (own_andB (decide_eq_true c428) (own_andB (decide_eq_true c429) (own_andB (decide_eq_true c448) (own_andB (decide_eq_true c449) (own_andB (decide_eq_true c458) (own_andB (decide_eq_true c459) (own_andB (decide_eq_true c463) rfl))))))))).elim
            ·
              refine Go.iconst 192 (0) at_191 (by decide) rfl ?_
              refine Go.nreturn (t := .boolean) (z' := (0 : Int32)) at_192 rfl (by simp) (by decide) (by decide) (by decide) ?_
              exact ((own_orB (own_f68 fa fb fc fv fw) (own_andB (decide_eq_true c428) (own_andB (decide_eq_true c429) (own_andB (decide_eq_true c448) (own_andB (decide_eq_true c449) (own_andB (decide_eq_true c458) rfl))))))).elim
        ·
          refine Go.iconst 171 (0) at_170 (by decide) rfl ?_
          refine Go.nreturn (t := .boolean) (z' := (0 : Int32)) at_171 rfl (by simp) (by decide) (by decide) (by decide) ?_
          exact ((own_orB (own_f69 fa fb fc fv fw) (own_andB (decide_eq_true c428) (own_andB (decide_eq_true c429) (own_andB (decide_eq_true c448) rfl))))).elim
    ·
      refine Go.iconst 151 (0) at_150 (by decide) rfl ?_
      refine Go.nreturn (t := .boolean) (z' := (0 : Int32)) at_151 rfl (by simp) (by decide) (by decide) (by decide) ?_
      exact ((own_orB (own_f70 fa fb fc fv fw) (own_andB (decide_eq_true c428) rfl))).elim
  ·
    subst hs12
    refine Go.iconst 33 (4) at_32 (by decide) rfl ?_
    refine Go.newI (cap := 4) (xs := [0, 0, 0, 0]) 35 at_33 (tw0 hw) rfl (by decide) (by decide) (by decide) rfl (by decide) (by decide) rfl (fun a464 h465 q466 E467 A468 => ?_)
    have ge469 : Z.heap.size ≤ a464 := (Eq.symm q466) ▸ hz
    have zs470 : Z.heap.size ≤ h465.size := Nat.le_trans hz E467.1
    refine Go.astore 37 #[.val (.int i0), .val (.int i1), .val (.int i2), .val (.int i3), .val (.int i4), .val (.int i5), .val (.int (own_i fa)), .val (.int (own_i fb)), .val (.int (own_i fc)), .val (.int (3 : Int32)), .val (.int (own_i fv)), .val (.int (own_i fw)), .val (.ref a464), .unset, .unset] at_35 rfl rfl rfl ?_
    refine Go.new 40 at_37 (tw1 hw) (tw2 hw) (tw3 hw) (by decide) (by decide) rfl (fun a471 h472 q473 E474 A475 D476 => ?_)
    have ne477 : a464 ≠ a471 := fun e => absurd A468.lt (by rw [e, q473]; exact Nat.lt_irrefl _)
    have ge478 : Z.heap.size ≤ a471 := (Eq.symm q473) ▸ zs470
    have f479 : Ari Z h472 a464 .int [0, 0, 0, 0] := A468.ext E474
    have zs480 : Z.heap.size ≤ h472.size := Nat.le_trans zs470 E474.1
    have f481 : Fld Z h472 a471 "com/example/wary_mutex/warymutex/message/IndexSet" "members" "[I" (.null) := D476 (Or.inr (tw11 hw)) (ty := (.array .int)) (by decide)
    have f482 : Fld Z h472 a471 "com/example/wary_mutex/warymutex/message/IndexSet" "positions" "[I" (.null) := D476 (Or.inr (tw13 hw)) (ty := (.array .int)) (by decide)
    have f483 : Fld Z h472 a471 "com/example/wary_mutex/warymutex/message/IndexSet" "size" "I" (.int (0 : Int32)) := D476 (Or.inl (tw24 hw)) (ty := .int) (by decide)
    refine Go.dup 41 at_40 rfl rfl ?_
    refine Go.iconst 42 (4) at_41 (by decide) rfl ?_
    refine Go.callC [.int (4 : Int32)] [.ref a471] 45 at_42 rfl (tw4 hw) (tw5 hw) (tw3 hw) (tw6 hw) pl1 (by decide) (lenOf pd1 rfl) rfl (fun m => ef_k_init m a471 (4 : Int32)) _ (k_init hw h472 zs480 a471 A475 f481 f482 f483 ge478) 1 rfl (Nat.le_of_eq rfl) (by decide) (by decide) (by decide) (by decide) rfl ?_
    rintro h485 ⟨a487, a488, g489, g490, ne491, K486, f492, f493, f494, f495, f496, f497⟩
    have ne498 : a464 ≠ a487 := Nat.ne_of_lt (Nat.lt_of_lt_of_le f479.lt g489)
    have ne499 : a471 ≠ a487 := Nat.ne_of_lt (Nat.lt_of_lt_of_le A475.lt g489)
    have ge500 : Z.heap.size ≤ a487 := Nat.le_trans zs480 g489
    have ne501 : a464 ≠ a488 := Nat.ne_of_lt (Nat.lt_of_lt_of_le f479.lt g490)
    have ne502 : a471 ≠ a488 := Nat.ne_of_lt (Nat.lt_of_lt_of_le A475.lt g490)
    have ge503 : Z.heap.size ≤ a488 := Nat.le_trans zs480 g490
    have f504 : Ari Z h485 a464 .int [0, 0, 0, 0] := f479.keep K486 (ninS ne477 nin0)
    have zs505 : Z.heap.size ≤ h485.size := Nat.le_trans zs480 K486.1
    refine Go.astore 47 #[.val (.int i0), .val (.int i1), .val (.int i2), .val (.int i3), .val (.int i4), .val (.int i5), .val (.int (own_i fa)), .val (.int (own_i fb)), .val (.int (own_i fc)), .val (.int (3 : Int32)), .val (.int (own_i fv)), .val (.int (own_i fw)), .val (.ref a464), .val (.ref a471), .unset] at_45 rfl rfl rfl ?_
    refine Go.iload 49 at_47 rfl rfl ?_
    refine Go.if_le 66 52 at_49 (by decide) (by decide) rfl (fun c => absurd c (by decide)) (fun _ => ?_)
    refine Go.aload 54 at_52 rfl rfl rfl ?_
    refine Go.iload 56 at_54 rfl rfl ?_
    refine Go.callVV [.int (own_i fa)] [] 59 at_56 (tw18 hw) (tw19 hw) (tw21 hw) (tw20 hw) (tw3 hw) (tw22 hw) f492 pl4 (by decide) (lenOf pd4 rfl) rfl (fun m => ef_k_add m a471 (own_i fa)) _ (k_add (S := own_init) hw h485 zs505 a471 (own_i fa) f492 f493 f494 f495 f496 f497 (own_orB (own_f23 fa fb fc fv fw) rfl) ge478 ge500 ge503 ne499 ne502 ne491) 0 rfl (Nat.le_of_eq rfl) (by decide) (by decide) (by decide) (by decide) rfl ?_
    rintro h508 ⟨K509, f510, f511, f512, f513, f514, f515⟩
    have f516 : Ari Z h508 a464 .int [0, 0, 0, 0] := f504.keep K509 (ninS ne477 (ninS ne498 (ninS ne501 nin0)))
    have zs517 : Z.heap.size ≤ h508.size := Nat.le_trans zs505 K509.1
    refine Go.aload 61 at_59 rfl rfl rfl ?_
    refine Go.iload 63 at_61 rfl rfl ?_
    refine Go.callSV [.ref a464, .int (own_i fa)] [] 66 at_63 (tw25 hw) (tw26 hw) (tw27 hw) (tw28 hw) pl5 (by decide) (lenOf pd5 rfl) rfl (fun m => ef_k_addM m a464 (own_i fa)) _ (k_addM hw h508 zs517 a464 (own_i fa) f516 (own_orB (own_f1 fa fb fc fv fw) rfl) ge469) 0 rfl (Nat.le_of_eq rfl) (by decide) (by decide) (by decide) (by decide) rfl ?_
    rintro h519 ⟨K520, f521⟩
    have f522 : Exa Z h519 a471 "com/example/wary_mutex/warymutex/message/IndexSet" := f510.keep K520
    have f523 : Fld Z h519 a471 "com/example/wary_mutex/warymutex/message/IndexSet" "members" "[I" (.ref a487) := f511.keep K520 (ninS (Ne.symm ne477) nin0)
    have f524 : Fld Z h519 a471 "com/example/wary_mutex/warymutex/message/IndexSet" "positions" "[I" (.ref a488) := f512.keep K520 (ninS (Ne.symm ne477) nin0)
    have f525 : Fld Z h519 a471 "com/example/wary_mutex/warymutex/message/IndexSet" "size" "I" (.int ((own_add own_init (own_i fa)).2.2)) := f513.keep K520 (ninS (Ne.symm ne477) nin0)
    have f526 : Ari Z h519 a487 .int ((own_add own_init (own_i fa)).1) := f514.keep K520 (ninS (Ne.symm ne498) nin0)
    have f527 : Ari Z h519 a488 .int ((own_add own_init (own_i fa)).2.1) := f515.keep K520 (ninS (Ne.symm ne501) nin0)
    have zs528 : Z.heap.size ≤ h519.size := Nat.le_trans zs517 K520.1
    refine Go.iload 68 at_66 rfl rfl ?_
    refine Go.iconst 69 (1) at_68 (by decide) rfl ?_
    refine Go.icmp_le 86 72 at_69 (by decide) (by decide) rfl (fun c => absurd c (by decide)) (fun _ => ?_)
    refine Go.aload 74 at_72 rfl rfl rfl ?_
    refine Go.iload 76 at_74 rfl rfl ?_
    refine Go.callVV [.int (own_i fb)] [] 79 at_76 (tw18 hw) (tw19 hw) (tw21 hw) (tw20 hw) (tw3 hw) (tw22 hw) f522 pl4 (by decide) (lenOf pd4 rfl) rfl (fun m => ef_k_add m a471 (own_i fb)) _ (k_add (S := (own_add own_init (own_i fa))) hw h519 zs528 a471 (own_i fb) f522 f523 f524 f525 f526 f527 (own_orB (own_f47 fa fb fc fv fw) rfl) ge478 ge500 ge503 ne499 ne502 ne491) 0 rfl (Nat.le_of_eq rfl) (by decide) (by decide) (by decide) (by decide) rfl ?_
    rintro h531 ⟨K532, f533, f534, f535, f536, f537, f538⟩
    have f539 : Ari Z h531 a464 .int (own_addM [0, 0, 0, 0] (own_i fa)) := f521.keep K532 (ninS ne477 (ninS ne498 (ninS ne501 nin0)))
    have zs540 : Z.heap.size ≤ h531.size := Nat.le_trans zs528 K532.1
    refine Go.aload 81 at_79 rfl rfl rfl ?_
    refine Go.iload 83 at_81 rfl rfl ?_
    refine Go.callSV [.ref a464, .int (own_i fb)] [] 86 at_83 (tw25 hw) (tw26 hw) (tw27 hw) (tw28 hw) pl5 (by decide) (lenOf pd5 rfl) rfl (fun m => ef_k_addM m a464 (own_i fb)) _ (k_addM hw h531 zs540 a464 (own_i fb) f539 (own_orB (own_f25 fa fb fc fv fw) rfl) ge469) 0 rfl (Nat.le_of_eq rfl) (by decide) (by decide) (by decide) (by decide) rfl ?_
    rintro h542 ⟨K543, f544⟩
    have f545 : Exa Z h542 a471 "com/example/wary_mutex/warymutex/message/IndexSet" := f533.keep K543
    have f546 : Fld Z h542 a471 "com/example/wary_mutex/warymutex/message/IndexSet" "members" "[I" (.ref a487) := f534.keep K543 (ninS (Ne.symm ne477) nin0)
    have f547 : Fld Z h542 a471 "com/example/wary_mutex/warymutex/message/IndexSet" "positions" "[I" (.ref a488) := f535.keep K543 (ninS (Ne.symm ne477) nin0)
    have f548 : Fld Z h542 a471 "com/example/wary_mutex/warymutex/message/IndexSet" "size" "I" (.int ((own_add (own_add own_init (own_i fa)) (own_i fb)).2.2)) := f536.keep K543 (ninS (Ne.symm ne477) nin0)
    have f549 : Ari Z h542 a487 .int ((own_add (own_add own_init (own_i fa)) (own_i fb)).1) := f537.keep K543 (ninS (Ne.symm ne498) nin0)
    have f550 : Ari Z h542 a488 .int ((own_add (own_add own_init (own_i fa)) (own_i fb)).2.1) := f538.keep K543 (ninS (Ne.symm ne501) nin0)
    have zs551 : Z.heap.size ≤ h542.size := Nat.le_trans zs540 K543.1
    refine Go.iload 88 at_86 rfl rfl ?_
    refine Go.iconst 89 (2) at_88 (by decide) rfl ?_
    refine Go.icmp_le 106 92 at_89 (by decide) (by decide) rfl (fun c => absurd c (by decide)) (fun _ => ?_)
    refine Go.aload 94 at_92 rfl rfl rfl ?_
    refine Go.iload 96 at_94 rfl rfl ?_
    refine Go.callVV [.int (own_i fc)] [] 99 at_96 (tw18 hw) (tw19 hw) (tw21 hw) (tw20 hw) (tw3 hw) (tw22 hw) f545 pl4 (by decide) (lenOf pd4 rfl) rfl (fun m => ef_k_add m a471 (own_i fc)) _ (k_add (S := (own_add (own_add own_init (own_i fa)) (own_i fb))) hw h542 zs551 a471 (own_i fc) f545 f546 f547 f548 f549 f550 (own_orB (own_f71 fa fb fc fv fw) rfl) ge478 ge500 ge503 ne499 ne502 ne491) 0 rfl (Nat.le_of_eq rfl) (by decide) (by decide) (by decide) (by decide) rfl ?_
    rintro h554 ⟨K555, f556, f557, f558, f559, f560, f561⟩
    have f562 : Ari Z h554 a464 .int (own_addM (own_addM [0, 0, 0, 0] (own_i fa)) (own_i fb)) := f544.keep K555 (ninS ne477 (ninS ne498 (ninS ne501 nin0)))
    have zs563 : Z.heap.size ≤ h554.size := Nat.le_trans zs551 K555.1
    refine Go.aload 101 at_99 rfl rfl rfl ?_
    refine Go.iload 103 at_101 rfl rfl ?_
    refine Go.callSV [.ref a464, .int (own_i fc)] [] 106 at_103 (tw25 hw) (tw26 hw) (tw27 hw) (tw28 hw) pl5 (by decide) (lenOf pd5 rfl) rfl (fun m => ef_k_addM m a464 (own_i fc)) _ (k_addM hw h554 zs563 a464 (own_i fc) f562 (own_orB (own_f49 fa fb fc fv fw) rfl) ge469) 0 rfl (Nat.le_of_eq rfl) (by decide) (by decide) (by decide) (by decide) rfl ?_
    rintro h565 ⟨K566, f567⟩
    have f568 : Exa Z h565 a471 "com/example/wary_mutex/warymutex/message/IndexSet" := f556.keep K566
    have f569 : Fld Z h565 a471 "com/example/wary_mutex/warymutex/message/IndexSet" "members" "[I" (.ref a487) := f557.keep K566 (ninS (Ne.symm ne477) nin0)
    have f570 : Fld Z h565 a471 "com/example/wary_mutex/warymutex/message/IndexSet" "positions" "[I" (.ref a488) := f558.keep K566 (ninS (Ne.symm ne477) nin0)
    have f571 : Fld Z h565 a471 "com/example/wary_mutex/warymutex/message/IndexSet" "size" "I" (.int ((own_add (own_add (own_add own_init (own_i fa)) (own_i fb)) (own_i fc)).2.2)) := f559.keep K566 (ninS (Ne.symm ne477) nin0)
    have f572 : Ari Z h565 a487 .int ((own_add (own_add (own_add own_init (own_i fa)) (own_i fb)) (own_i fc)).1) := f560.keep K566 (ninS (Ne.symm ne498) nin0)
    have f573 : Ari Z h565 a488 .int ((own_add (own_add (own_add own_init (own_i fa)) (own_i fb)) (own_i fc)).2.1) := f561.keep K566 (ninS (Ne.symm ne501) nin0)
    have zs574 : Z.heap.size ≤ h565.size := Nat.le_trans zs563 K566.1
    refine Go.aload 108 at_106 rfl rfl rfl ?_
    refine Go.iload 110 at_108 rfl rfl ?_
    refine Go.callVV [.int (own_i fv)] [] 113 at_110 (tw29 hw) (tw30 hw) (tw32 hw) (tw31 hw) (tw3 hw) (tw33 hw) f568 pl6 (by decide) (lenOf pd6 rfl) rfl (fun m => ef_k_rem m a471 (own_i fv)) _ (k_rem (S := (own_add (own_add (own_add own_init (own_i fa)) (own_i fb)) (own_i fc))) hw h565 zs574 a471 (own_i fv) f568 f569 f570 f571 f572 f573 (own_orB (own_f72 fa fb fc fv fw) rfl) ge478 ge500 ge503 ne499 ne502 ne491) 0 rfl (Nat.le_of_eq rfl) (by decide) (by decide) (by decide) (by decide) rfl ?_
    rintro h576 ⟨K577, f578, f579, f580, f581, f582, f583⟩
    have f584 : Ari Z h576 a464 .int (own_addM (own_addM (own_addM [0, 0, 0, 0] (own_i fa)) (own_i fb)) (own_i fc)) := f567.keep K577 (ninS ne477 (ninS ne498 (ninS ne501 nin0)))
    have zs585 : Z.heap.size ≤ h576.size := Nat.le_trans zs574 K577.1
    refine Go.aload 115 at_113 rfl rfl rfl ?_
    refine Go.iload 117 at_115 rfl rfl ?_
    refine Go.callSV [.ref a464, .int (own_i fv)] [] 120 at_117 (tw34 hw) (tw35 hw) (tw27 hw) (tw36 hw) pl7 (by decide) (lenOf pd7 rfl) rfl (fun m => ef_k_remM m a464 (own_i fv)) _ (k_remM hw h576 zs585 a464 (own_i fv) f584 (own_orB (own_f73 fa fb fc fv fw) rfl) ge469) 0 rfl (Nat.le_of_eq rfl) (by decide) (by decide) (by decide) (by decide) rfl ?_
    rintro h587 ⟨K588, f589⟩
    have f590 : Exa Z h587 a471 "com/example/wary_mutex/warymutex/message/IndexSet" := f578.keep K588
    have f591 : Fld Z h587 a471 "com/example/wary_mutex/warymutex/message/IndexSet" "members" "[I" (.ref a487) := f579.keep K588 (ninS (Ne.symm ne477) nin0)
    have f592 : Fld Z h587 a471 "com/example/wary_mutex/warymutex/message/IndexSet" "positions" "[I" (.ref a488) := f580.keep K588 (ninS (Ne.symm ne477) nin0)
    have f593 : Fld Z h587 a471 "com/example/wary_mutex/warymutex/message/IndexSet" "size" "I" (.int ((own_rem (own_add (own_add (own_add own_init (own_i fa)) (own_i fb)) (own_i fc)) (own_i fv)).2.2)) := f581.keep K588 (ninS (Ne.symm ne477) nin0)
    have f594 : Ari Z h587 a487 .int ((own_rem (own_add (own_add (own_add own_init (own_i fa)) (own_i fb)) (own_i fc)) (own_i fv)).1) := f582.keep K588 (ninS (Ne.symm ne498) nin0)
    have f595 : Ari Z h587 a488 .int ((own_rem (own_add (own_add (own_add own_init (own_i fa)) (own_i fb)) (own_i fc)) (own_i fv)).2.1) := f583.keep K588 (ninS (Ne.symm ne501) nin0)
    have zs596 : Z.heap.size ≤ h587.size := Nat.le_trans zs585 K588.1
    refine Go.aload 122 at_120 rfl rfl rfl ?_
    refine Go.iload 124 at_122 rfl rfl ?_
    refine Go.callVV [.int (own_i fw)] [] 127 at_124 (tw29 hw) (tw30 hw) (tw32 hw) (tw31 hw) (tw3 hw) (tw33 hw) f590 pl6 (by decide) (lenOf pd6 rfl) rfl (fun m => ef_k_rem m a471 (own_i fw)) _ (k_rem (S := (own_rem (own_add (own_add (own_add own_init (own_i fa)) (own_i fb)) (own_i fc)) (own_i fv))) hw h587 zs596 a471 (own_i fw) f590 f591 f592 f593 f594 f595 (own_orB (own_f74 fa fb fc fv fw) rfl) ge478 ge500 ge503 ne499 ne502 ne491) 0 rfl (Nat.le_of_eq rfl) (by decide) (by decide) (by decide) (by decide) rfl ?_
    rintro h598 ⟨K599, f600, f601, f602, f603, f604, f605⟩
    have f606 : Ari Z h598 a464 .int (own_remM (own_addM (own_addM (own_addM [0, 0, 0, 0] (own_i fa)) (own_i fb)) (own_i fc)) (own_i fv)) := f589.keep K599 (ninS ne477 (ninS ne498 (ninS ne501 nin0)))
    have zs607 : Z.heap.size ≤ h598.size := Nat.le_trans zs596 K599.1
    refine Go.aload 129 at_127 rfl rfl rfl ?_
    refine Go.iload 131 at_129 rfl rfl ?_
    refine Go.callSV [.ref a464, .int (own_i fw)] [] 134 at_131 (tw34 hw) (tw35 hw) (tw27 hw) (tw36 hw) pl7 (by decide) (lenOf pd7 rfl) rfl (fun m => ef_k_remM m a464 (own_i fw)) _ (k_remM hw h598 zs607 a464 (own_i fw) f606 (own_orB (own_f75 fa fb fc fv fw) rfl) ge469) 0 rfl (Nat.le_of_eq rfl) (by decide) (by decide) (by decide) (by decide) rfl ?_
    rintro h609 ⟨K610, f611⟩
    have f612 : Exa Z h609 a471 "com/example/wary_mutex/warymutex/message/IndexSet" := f600.keep K610
    have f613 : Fld Z h609 a471 "com/example/wary_mutex/warymutex/message/IndexSet" "members" "[I" (.ref a487) := f601.keep K610 (ninS (Ne.symm ne477) nin0)
    have f614 : Fld Z h609 a471 "com/example/wary_mutex/warymutex/message/IndexSet" "positions" "[I" (.ref a488) := f602.keep K610 (ninS (Ne.symm ne477) nin0)
    have f615 : Fld Z h609 a471 "com/example/wary_mutex/warymutex/message/IndexSet" "size" "I" (.int ((own_rem (own_rem (own_add (own_add (own_add own_init (own_i fa)) (own_i fb)) (own_i fc)) (own_i fv)) (own_i fw)).2.2)) := f603.keep K610 (ninS (Ne.symm ne477) nin0)
    have f616 : Ari Z h609 a487 .int ((own_rem (own_rem (own_add (own_add (own_add own_init (own_i fa)) (own_i fb)) (own_i fc)) (own_i fv)) (own_i fw)).1) := f604.keep K610 (ninS (Ne.symm ne498) nin0)
    have f617 : Ari Z h609 a488 .int ((own_rem (own_rem (own_add (own_add (own_add own_init (own_i fa)) (own_i fb)) (own_i fc)) (own_i fv)) (own_i fw)).2.1) := f605.keep K610 (ninS (Ne.symm ne501) nin0)
    have zs618 : Z.heap.size ≤ h609.size := Nat.le_trans zs607 K610.1
    refine Go.aload 136 at_134 rfl rfl rfl ?_
    refine Go.iconst 137 (3) at_136 (by decide) rfl ?_
    refine Go.iaload (x := (((own_remM (own_remM (own_addM (own_addM (own_addM [0, 0, 0, 0] (own_i fa)) (own_i fb)) (own_i fc)) (own_i fv)) (own_i fw))).getD 3 0)) (3) 138 at_137 f611 (by decide) (by decide) (own_getq (own_orB (own_f76 fa fb fc fv fw) rfl)) rfl ?_
    refine Go.istore 140 #[.val (.int i0), .val (.int i1), .val (.int i2), .val (.int i3), .val (.int i4), .val (.int i5), .val (.int (own_i fa)), .val (.int (own_i fb)), .val (.int (own_i fc)), .val (.int (3 : Int32)), .val (.int (own_i fv)), .val (.int (own_i fw)), .val (.ref a464), .val (.ref a471), .val (.int (((own_remM (own_remM (own_addM (own_addM (own_addM [0, 0, 0, 0] (own_i fa)) (own_i fb)) (own_i fc)) (own_i fv)) (own_i fw))).getD 3 0))] at_138 rfl rfl ?_
    refine Go.aload 142 at_140 rfl rfl rfl ?_
    refine Go.callVIp [] [] 145 at_142 (tw37 hw) (tw38 hw) (tw40 hw) (tw39 hw) (tw3 hw) (tw41 hw) f612 pl8 (by decide) (lenOf pd8 rfl) rfl (fun m => ef_k_size m a471) _ (k_size hw h609 zs618 a471 f615) 0 rfl (Nat.le_of_eq rfl) (by decide) (by decide) (by decide) (by decide) rfl ?_
    refine Go.iload 147 at_145 rfl rfl ?_
    refine Go.icmp_eq 152 150 at_147 (by decide) (by decide) rfl (fun c622 => ?_) (fun c622 => ?_)
    ·
      refine Go.iload 154 at_152 rfl rfl ?_
      refine Go.if_le 172 157 at_154 (by decide) (by decide) rfl (fun c623 => ?_) (fun c623 => ?_)
      ·
        refine Go.iload 174 at_172 rfl rfl ?_
        refine Go.iconst 175 (1) at_174 (by decide) rfl ?_
        refine Go.icmp_le 193 178 at_175 (by decide) (by decide) rfl (fun c624 => ?_) (fun c624 => ?_)
        ·
          refine Go.iload 195 at_193 rfl rfl ?_
          refine Go.iconst 196 (2) at_195 (by decide) rfl ?_
          refine Go.icmp_le 214 199 at_196 (by decide) (by decide) rfl (fun c625 => ?_) (fun c625 => ?_)
          ·
            refine Go.iconst 215 (1) at_214 (by decide) rfl ?_
            refine Go.nreturn (t := .boolean) (z' := (1 : Int32)) at_215 rfl (by simp) (by decide) (by decide) (by decide) ?_
            rfl
          ·
            refine Go.aload 201 at_199 rfl rfl rfl ?_
            refine Go.iconst 202 (2) at_201 (by decide) rfl ?_
            refine Go.callVIp [.int (2 : Int32)] [] 205 at_202 (tw42 hw) (tw43 hw) (tw45 hw) (tw44 hw) (tw3 hw) (tw46 hw) f612 pl9 (by decide) (lenOf pd9 rfl) rfl (fun m => ef_k_get m a471 (2 : Int32)) _ (k_get (S := (own_rem (own_rem (own_add (own_add (own_add own_init (own_i fa)) (own_i fb)) (own_i fc)) (own_i fv)) (own_i fw))) hw h609 zs618 a471 (2 : Int32) f613 f615 f616 (own_orB (own_f77 fa fb fc fv fw) (own_andB (decide_eq_true c622) (own_andB (decide_eq_true c623) (own_andB (decide_eq_true c624) (own_andB (decide_eq_true c625) rfl)))))) 0 rfl (Nat.le_of_eq rfl) (by decide) (by decide) (by decide) (by decide) rfl ?_
            refine Go.aload 207 at_205 rfl rfl rfl ?_
            refine Go.iconst 208 (2) at_207 (by decide) rfl ?_
            refine Go.iaload (x := (((own_remM (own_remM (own_addM (own_addM (own_addM [0, 0, 0, 0] (own_i fa)) (own_i fb)) (own_i fc)) (own_i fv)) (own_i fw))).getD 2 0)) (2) 209 at_208 f611 (by decide) (by decide) (own_getq (own_orB (own_f78 fa fb fc fv fw) rfl)) rfl ?_
            refine Go.icmp_eq 214 212 at_209 (by decide) (by decide) rfl (fun c629 => ?_) (fun c629 => ?_)
            ·
              refine Go.iconst 215 (1) at_214 (by decide) rfl ?_
              refine Go.nreturn (t := .boolean) (z' := (1 : Int32)) at_215 rfl (by simp) (by decide) (by decide) (by decide) ?_
              rfl
            ·
              refine Go.iconst 213 (0) at_212 (by decide) rfl ?_
              refine Go.nreturn (t := .boolean) (z' := (0 : Int32)) at_213 rfl (by simp) (by decide) (by decide) (by decide) ?_
              exact ((own_orB (own_f79 fa fb fc fv fw) (own_andB (decide_eq_true c622) (own_andB (decide_eq_true c623) (own_andB (decide_eq_true c624) (own_andB (decide_eq_true c625) (own_andB (decide_eq_true c629) rfl))))))).elim
        ·
          refine Go.aload 180 at_178 rfl rfl rfl ?_
          refine Go.iconst 181 (1) at_180 (by decide) rfl ?_
          refine Go.callVIp [.int (1 : Int32)] [] 184 at_181 (tw42 hw) (tw43 hw) (tw45 hw) (tw44 hw) (tw3 hw) (tw46 hw) f612 pl9 (by decide) (lenOf pd9 rfl) rfl (fun m => ef_k_get m a471 (1 : Int32)) _ (k_get (S := (own_rem (own_rem (own_add (own_add (own_add own_init (own_i fa)) (own_i fb)) (own_i fc)) (own_i fv)) (own_i fw))) hw h609 zs618 a471 (1 : Int32) f613 f615 f616 (own_orB (own_f80 fa fb fc fv fw) (own_andB (decide_eq_true c622) (own_andB (decide_eq_true c623) (own_andB (decide_eq_true c624) rfl))))) 0 rfl (Nat.le_of_eq rfl) (by decide) (by decide) (by decide) (by decide) rfl ?_
          refine Go.aload 186 at_184 rfl rfl rfl ?_
          refine Go.iconst 187 (1) at_186 (by decide) rfl ?_
          refine Go.iaload (x := (((own_remM (own_remM (own_addM (own_addM (own_addM [0, 0, 0, 0] (own_i fa)) (own_i fb)) (own_i fc)) (own_i fv)) (own_i fw))).getD 1 0)) (1) 188 at_187 f611 (by decide) (by decide) (own_getq (own_orB (own_f81 fa fb fc fv fw) rfl)) rfl ?_
          refine Go.icmp_eq 193 191 at_188 (by decide) (by decide) rfl (fun c633 => ?_) (fun c633 => ?_)
          ·
            refine Go.iload 195 at_193 rfl rfl ?_
            refine Go.iconst 196 (2) at_195 (by decide) rfl ?_
            refine Go.icmp_le 214 199 at_196 (by decide) (by decide) rfl (fun c634 => ?_) (fun c634 => ?_)
            ·
              refine Go.iconst 215 (1) at_214 (by decide) rfl ?_
              refine Go.nreturn (t := .boolean) (z' := (1 : Int32)) at_215 rfl (by simp) (by decide) (by decide) (by decide) ?_
              rfl
            ·
              refine Go.aload 201 at_199 rfl rfl rfl ?_
              refine Go.iconst 202 (2) at_201 (by decide) rfl ?_
              refine Go.callVIp [.int (2 : Int32)] [] 205 at_202 (tw42 hw) (tw43 hw) (tw45 hw) (tw44 hw) (tw3 hw) (tw46 hw) f612 pl9 (by decide) (lenOf pd9 rfl) rfl (fun m => ef_k_get m a471 (2 : Int32)) _ (k_get (S := (own_rem (own_rem (own_add (own_add (own_add own_init (own_i fa)) (own_i fb)) (own_i fc)) (own_i fv)) (own_i fw))) hw h609 zs618 a471 (2 : Int32) f613 f615 f616 (own_orB (own_f82 fa fb fc fv fw) (own_andB (decide_eq_true c622) (own_andB (decide_eq_true c623) (own_andB (decide_eq_true c624) (own_andB (decide_eq_true c633) (own_andB (decide_eq_true c634) rfl))))))) 0 rfl (Nat.le_of_eq rfl) (by decide) (by decide) (by decide) (by decide) rfl ?_
              refine Go.aload 207 at_205 rfl rfl rfl ?_
              refine Go.iconst 208 (2) at_207 (by decide) rfl ?_
              refine Go.iaload (x := (((own_remM (own_remM (own_addM (own_addM (own_addM [0, 0, 0, 0] (own_i fa)) (own_i fb)) (own_i fc)) (own_i fv)) (own_i fw))).getD 2 0)) (2) 209 at_208 f611 (by decide) (by decide) (own_getq (own_orB (own_f78 fa fb fc fv fw) rfl)) rfl ?_
              refine Go.icmp_eq 214 212 at_209 (by decide) (by decide) rfl (fun c638 => ?_) (fun c638 => ?_)
              ·
                refine Go.iconst 215 (1) at_214 (by decide) rfl ?_
                refine Go.nreturn (t := .boolean) (z' := (1 : Int32)) at_215 rfl (by simp) (by decide) (by decide) (by decide) ?_
                rfl
              ·
                refine Go.iconst 213 (0) at_212 (by decide) rfl ?_
                refine Go.nreturn (t := .boolean) (z' := (0 : Int32)) at_213 rfl (by simp) (by decide) (by decide) (by decide) ?_
                exact ((own_orB (own_f83 fa fb fc fv fw) (own_andB (decide_eq_true c622) (own_andB (decide_eq_true c623) (own_andB (decide_eq_true c624) (own_andB (decide_eq_true c633) (own_andB (decide_eq_true c634) (own_andB (decide_eq_true c638) rfl)))))))).elim
          ·
            refine Go.iconst 192 (0) at_191 (by decide) rfl ?_
            refine Go.nreturn (t := .boolean) (z' := (0 : Int32)) at_192 rfl (by simp) (by decide) (by decide) (by decide) ?_
            exact ((own_orB (own_f84 fa fb fc fv fw) (own_andB (decide_eq_true c622) (own_andB (decide_eq_true c623) (own_andB (decide_eq_true c624) (own_andB (decide_eq_true c633) rfl)))))).elim
      ·
        refine Go.aload 159 at_157 rfl rfl rfl ?_
        refine Go.iconst 160 (0) at_159 (by decide) rfl ?_
        refine Go.callVIp [.int (0 : Int32)] [] 163 at_160 (tw42 hw) (tw43 hw) (tw45 hw) (tw44 hw) (tw3 hw) (tw46 hw) f612 pl9 (by decide) (lenOf pd9 rfl) rfl (fun m => ef_k_get m a471 (0 : Int32)) _ (k_get (S := (own_rem (own_rem (own_add (own_add (own_add own_init (own_i fa)) (own_i fb)) (own_i fc)) (own_i fv)) (own_i fw))) hw h609 zs618 a471 (0 : Int32) f613 f615 f616 (own_orB (own_f85 fa fb fc fv fw) (own_andB (decide_eq_true c622) (own_andB (decide_eq_true c623) rfl)))) 0 rfl (Nat.le_of_eq rfl) (by decide) (by decide) (by decide) (by decide) rfl ?_
        refine Go.aload 165 at_163 rfl rfl rfl ?_
        refine Go.iconst 166 (0) at_165 (by decide) rfl ?_
        refine Go.iaload (x := (((own_remM (own_remM (own_addM (own_addM (own_addM [0, 0, 0, 0] (own_i fa)) (own_i fb)) (own_i fc)) (own_i fv)) (own_i fw))).getD 0 0)) (0) 167 at_166 f611 (by decide) (by decide) (own_getq (own_orB (own_f86 fa fb fc fv fw) rfl)) rfl ?_
        refine Go.icmp_eq 172 170 at_167 (by decide) (by decide) rfl (fun c642 => ?_) (fun c642 => ?_)
        ·
          refine Go.iload 174 at_172 rfl rfl ?_
          refine Go.iconst 175 (1) at_174 (by decide) rfl ?_
          refine Go.icmp_le 193 178 at_175 (by decide) (by decide) rfl (fun c643 => ?_) (fun c643 => ?_)
          ·
            refine Go.iload 195 at_193 rfl rfl ?_
            refine Go.iconst 196 (2) at_195 (by decide) rfl ?_
            refine Go.icmp_le 214 199 at_196 (by decide) (by decide) rfl (fun c644 => ?_) (fun c644 => ?_)
            ·
              refine Go.iconst 215 (1) at_214 (by decide) rfl ?_
              refine Go.nreturn (t := .boolean) (z' := (1 : Int32)) at_215 rfl (by simp) (by decide) (by decide) (by decide) ?_
              rfl
            ·
              refine Go.aload 201 at_199 rfl rfl rfl ?_
              refine Go.iconst 202 (2) at_201 (by decide) rfl ?_
              refine Go.callVIp [.int (2 : Int32)] [] 205 at_202 (tw42 hw) (tw43 hw) (tw45 hw) (tw44 hw) (tw3 hw) (tw46 hw) f612 pl9 (by decide) (lenOf pd9 rfl) rfl (fun m => ef_k_get m a471 (2 : Int32)) _ (k_get (S := (own_rem (own_rem (own_add (own_add (own_add own_init (own_i fa)) (own_i fb)) (own_i fc)) (own_i fv)) (own_i fw))) hw h609 zs618 a471 (2 : Int32) f613 f615 f616 (own_orB (own_f87 fa fb fc fv fw) (own_andB (decide_eq_true c622) (own_andB (decide_eq_true c623) (own_andB (decide_eq_true c642) (own_andB (decide_eq_true c643) (own_andB (decide_eq_true c644) rfl))))))) 0 rfl (Nat.le_of_eq rfl) (by decide) (by decide) (by decide) (by decide) rfl ?_
              refine Go.aload 207 at_205 rfl rfl rfl ?_
              refine Go.iconst 208 (2) at_207 (by decide) rfl ?_
              refine Go.iaload (x := (((own_remM (own_remM (own_addM (own_addM (own_addM [0, 0, 0, 0] (own_i fa)) (own_i fb)) (own_i fc)) (own_i fv)) (own_i fw))).getD 2 0)) (2) 209 at_208 f611 (by decide) (by decide) (own_getq (own_orB (own_f78 fa fb fc fv fw) rfl)) rfl ?_
              refine Go.icmp_eq 214 212 at_209 (by decide) (by decide) rfl (fun c648 => ?_) (fun c648 => ?_)
              ·
                refine Go.iconst 215 (1) at_214 (by decide) rfl ?_
                refine Go.nreturn (t := .boolean) (z' := (1 : Int32)) at_215 rfl (by simp) (by decide) (by decide) (by decide) ?_
                rfl
              ·
                refine Go.iconst 213 (0) at_212 (by decide) rfl ?_
                refine Go.nreturn (t := .boolean) (z' := (0 : Int32)) at_213 rfl (by simp) (by decide) (by decide) (by decide) ?_
                exact ((own_orB (own_f88 fa fb fc fv fw) (own_andB (decide_eq_true c622) (own_andB (decide_eq_true c623) (own_andB (decide_eq_true c642) (own_andB (decide_eq_true c643) (own_andB (decide_eq_true c644) (own_andB (decide_eq_true c648) rfl)))))))).elim
          ·
            refine Go.aload 180 at_178 rfl rfl rfl ?_
            refine Go.iconst 181 (1) at_180 (by decide) rfl ?_
            refine Go.callVIp [.int (1 : Int32)] [] 184 at_181 (tw42 hw) (tw43 hw) (tw45 hw) (tw44 hw) (tw3 hw) (tw46 hw) f612 pl9 (by decide) (lenOf pd9 rfl) rfl (fun m => ef_k_get m a471 (1 : Int32)) _ (k_get (S := (own_rem (own_rem (own_add (own_add (own_add own_init (own_i fa)) (own_i fb)) (own_i fc)) (own_i fv)) (own_i fw))) hw h609 zs618 a471 (1 : Int32) f613 f615 f616 (own_orB (own_f89 fa fb fc fv fw) (own_andB (decide_eq_true c622) (own_andB (decide_eq_true c623) (own_andB (decide_eq_true c642) (own_andB (decide_eq_true c643) rfl)))))) 0 rfl (Nat.le_of_eq rfl) (by decide) (by decide) (by decide) (by decide) rfl ?_
            refine Go.aload 186 at_184 rfl rfl rfl ?_
            refine Go.iconst 187 (1) at_186 (by decide) rfl ?_
            refine Go.iaload (x := (((own_remM (own_remM (own_addM (own_addM (own_addM [0, 0, 0, 0] (own_i fa)) (own_i fb)) (own_i fc)) (own_i fv)) (own_i fw))).getD 1 0)) (1) 188 at_187 f611 (by decide) (by decide) (own_getq (own_orB (own_f81 fa fb fc fv fw) rfl)) rfl ?_
            refine Go.icmp_eq 193 191 at_188 (by decide) (by decide) rfl (fun c652 => ?_) (fun c652 => ?_)
            ·
              refine Go.iload 195 at_193 rfl rfl ?_
              refine Go.iconst 196 (2) at_195 (by decide) rfl ?_
              refine Go.icmp_le 214 199 at_196 (by decide) (by decide) rfl (fun c653 => ?_) (fun c653 => ?_)
              ·
                refine Go.iconst 215 (1) at_214 (by decide) rfl ?_
                refine Go.nreturn (t := .boolean) (z' := (1 : Int32)) at_215 rfl (by simp) (by decide) (by decide) (by decide) ?_
                rfl
              ·
                refine Go.aload 201 at_199 rfl rfl rfl ?_
                refine Go.iconst 202 (2) at_201 (by decide) rfl ?_
                refine Go.callVIp [.int (2 : Int32)] [] 205 at_202 (tw42 hw) (tw43 hw) (tw45 hw) (tw44 hw) (tw3 hw) (tw46 hw) f612 pl9 (by decide) (lenOf pd9 rfl) rfl (fun m => ef_k_get m a471 (2 : Int32)) _ (k_get (S := (own_rem (own_rem (own_add (own_add (own_add own_init (own_i fa)) (own_i fb)) (own_i fc)) (own_i fv)) (own_i fw))) hw h609 zs618 a471 (2 : Int32) f613 f615 f616 (own_orB (own_f90 fa fb fc fv fw) (own_andB (decide_eq_true c622) (own_andB (decide_eq_true c623) (own_andB (decide_eq_true c642) (own_andB (decide_eq_true c643) (own_andB (decide_eq_true c652) (own_andB (decide_eq_true c653) rfl)))))))) 0 rfl (Nat.le_of_eq rfl) (by decide) (by decide) (by decide) (by decide) rfl ?_
                refine Go.aload 207 at_205 rfl rfl rfl ?_
                refine Go.iconst 208 (2) at_207 (by decide) rfl ?_
                refine Go.iaload (x := (((own_remM (own_remM (own_addM (own_addM (own_addM [0, 0, 0, 0] (own_i fa)) (own_i fb)) (own_i fc)) (own_i fv)) (own_i fw))).getD 2 0)) (2) 209 at_208 f611 (by decide) (by decide) (own_getq (own_orB (own_f78 fa fb fc fv fw) rfl)) rfl ?_
                refine Go.icmp_eq 214 212 at_209 (by decide) (by decide) rfl (fun c657 => ?_) (fun c657 => ?_)
                ·
                  refine Go.iconst 215 (1) at_214 (by decide) rfl ?_
                  refine Go.nreturn (t := .boolean) (z' := (1 : Int32)) at_215 rfl (by simp) (by decide) (by decide) (by decide) ?_
                  rfl
                ·
                  refine Go.iconst 213 (0) at_212 (by decide) rfl ?_
                  refine Go.nreturn (t := .boolean) (z' := (0 : Int32)) at_213 rfl (by simp) (by decide) (by decide) (by decide) ?_
                  exact ((own_orB (own_f91 fa fb fc fv fw) (own_andB (decide_eq_true c622) (own_andB (decide_eq_true c623) (own_andB (decide_eq_true c642) (own_andB (decide_eq_true c643) (own_andB (decide_eq_true c652) (own_andB (decide_eq_true c653) (own_andB (decide_eq_true c657) rfl))))))))).elim
            ·
              refine Go.iconst 192 (0) at_191 (by decide) rfl ?_
              refine Go.nreturn (t := .boolean) (z' := (0 : Int32)) at_192 rfl (by simp) (by decide) (by decide) (by decide) ?_
              exact ((own_orB (own_f92 fa fb fc fv fw) (own_andB (decide_eq_true c622) (own_andB (decide_eq_true c623) (own_andB (decide_eq_true c642) (own_andB (decide_eq_true c643) (own_andB (decide_eq_true c652) rfl))))))).elim
        ·
          refine Go.iconst 171 (0) at_170 (by decide) rfl ?_
          refine Go.nreturn (t := .boolean) (z' := (0 : Int32)) at_171 rfl (by simp) (by decide) (by decide) (by decide) ?_
          exact ((own_orB (own_f93 fa fb fc fv fw) (own_andB (decide_eq_true c622) (own_andB (decide_eq_true c623) (own_andB (decide_eq_true c642) rfl))))).elim
    ·
      refine Go.iconst 151 (0) at_150 (by decide) rfl ?_
      refine Go.nreturn (t := .boolean) (z' := (0 : Int32)) at_151 rfl (by simp) (by decide) (by decide) (by decide) ?_
      exact ((own_orB (own_f94 fa fb fc fv fw) (own_andB (decide_eq_true c622) rfl))).elim
set_option maxRecDepth 65536 in
set_option maxHeartbeats 40000000 in
theorem comes_1 {Post : Tables → Env → Array Value → State → Outcome → State → Prop} (hpost : ∀ tb e args s v u, (limb_1_1.after args s (.returned v) u = true ∧ limb_1_2.after args s (.returned v) u = true ∧ True) → FrameEnd s (.returned v) u (Jvm.fieldLocs frame_1_writes args s ++ Jvm.arrayLocs frame_1_arrays args s ++ Jvm.staticLocs frame_1_statics s) 16 128 → Post tb e args s (.returned v) u) :
    ArmFor flags0 classFile x code maxLocals ret World_1 tables_1 room_1 Calls_1 rest_1 Pre_1 Post := by
  intro l hfl _ _ p e ha hc hk s m args below hf hA hF happ hP
  obtain ⟨hcalls, hrest, hpre⟩ := hP
  obtain ⟨-, -, -, hnamed, -, -, -, hat⟩ := (Spec.applies_iff hf).mp happ
  obtain ⟨hg, hn⟩ := and_e (Cond.before_iff.mp (show (Jvm.Cond.and given_1 narrow_1).before args s = true from hpre))
  obtain ⟨h1, g0⟩ := and_e hg
  obtain ⟨w0, w1, w2, w3, w4, w5, rfl⟩ : ∃ w0 w1 w2 w3 w4 w5 : Value, args = #[w0, w1, w2, w3, w4, w5] := by
    have hs : args.size = 6 := by simpa [Cond.value, given_1] using h1
    obtain ⟨L⟩ := args
    match L, hs with
    | [w0, w1, w2, w3, w4, w5], _ => exact ⟨w0, w1, w2, w3, w4, w5, rfl⟩
  have hw := fun d (hd : d ∈ tables_1) => atoms_spec (ws := Jvm.Cond.code x code maxLocals ret :: tables_1) hat d (List.mem_cons_of_mem _ hd)
  obtain ⟨b0, g1⟩ := and_e g0
  obtain ⟨i0, ei0⟩ := is_v b0
  obtain rfl : w0 = (.int i0) := Option.some.inj ei0
  obtain ⟨b1, g2⟩ := and_e g1
  obtain ⟨i1, ei1⟩ := is_v b1
  obtain rfl : w1 = (.int i1) := Option.some.inj ei1
  obtain ⟨b2, g3⟩ := and_e g2
  obtain ⟨i2, ei2⟩ := is_v b2
  obtain rfl : w2 = (.int i2) := Option.some.inj ei2
  obtain ⟨b3, g4⟩ := and_e g3
  obtain ⟨i3, ei3⟩ := is_v b3
  obtain rfl : w3 = (.int i3) := Option.some.inj ei3
  obtain ⟨b4, g5⟩ := and_e g4
  obtain ⟨i4, ei4⟩ := is_v b4
  obtain rfl : w4 = (.int i4) := Option.some.inj ei4
  have b5 := g5
  obtain ⟨i5, ei5⟩ := is_v b5
  obtain rfl : w5 = (.int i5) := Option.some.inj ei5
  have G := law0 (l := l) hw s.heap (Nat.le_refl _) i0 i1 i2 i3 i4 i5
  obtain ⟨n, o, h1, h2, h3, _, L, rfl, ⟨⟨z, rfl, rfl⟩, N⟩, hq⟩ := Go.met (as' := #[.int i0, .int i1, .int i2, .int i3, .int i4, .int i5]) (plainFor_of_name pnx) (fun m => ef_law0 m i0 i1 i2 i3 i4 i5) G tables_1 p e ha hc hk s m _ below hf ((Spec.applies_iff_loose hf).mp happ).1 ⟨rfl, State.Warmed39.refl s, rfl⟩ trivial
  refine ⟨n, _, h1, h2, h3, hpost _ _ _ _ _ _ ⟨Cond.after_iff.mpr rfl, Cond.after_iff.mpr (eq_i res_at (Term.int_eval (1)) rfl), trivial⟩ ⟨hq.1, hq.2.1, (hq.2.2.sift fun y hy => Or.inr (N y hy)).mono (by decide) (by decide)⟩⟩
theorem main_1_1 : Claimed_1_1 := comes_1 fun _ _ _ _ _ _ h hF => ⟨h.1, hF⟩
theorem main_1_2 : Claimed_1_2 := comes_1 fun _ _ _ _ _ _ h hF => ⟨h.2.1, hF⟩
end Jvm.Pilot.@@N@@
namespace Jvm.Pilot.@@N@@
open Jvm Jvm.ClassFile Sem Op Lib Jvm.Free Jvm.Stand Jvm.Pilot.@@N@@.Jvm.D
/-! MADE BY PROGRAM (witnessworld.py) out of the Statement's table words and the real class files: 12 classes; the members and pool entries that the words name. The judged class is class 1, her method 1. -/
namespace start1
open Jvm.ClassFile
def u (s : String) : CpInfo := .utf8 (stringToUtf16 s)
/-- a pool by its gaps: so many unusable entries, then the entry; so many at the end -/
def gap : Nat → List CpInfo → List CpInfo
  | 0, r => r
  | n + 1, r => .unusable :: gap n r
def poolList (es : List (Nat × CpInfo)) (last : Nat) : List CpInfo := es.foldr (fun e r => gap e.1 (e.2 :: r)) (gap last [])
def pool (es : List (Nat × CpInfo)) (last : Nat) : Array CpInfo := ⟨poolList es last⟩
def fileOf (pool : Array CpInfo) (this : Nat) (attrs : Array Attribute := #[]) (ms : Array MethodInfo := #[]) (fl : Nat := 33) (sup : Nat := 0) (ifs : Array Nat := #[]) (fds : Array FieldInfo := #[]) : ClassFile where
  minorVersion := 0
  majorVersion := 65
  constantPool := pool
  accessFlags := fl
  thisClass := this
  superClass := sup
  interfaces := ifs
  fields := fds
  methods := ms
  attributes := attrs
def plain (name : String) (sup : Option ClassId) : Class where
  name := name
  kind := .ordinary
  loader := none
  accessFlags := 33
  super := sup
  interfaces := #[]
  cf := none
  fields := #[]
  methods := #[]
  instanceTypes := #[]
  staticTypes := #[]
  resolved := #[]
  callSites := []
  init := .initialized
  statics := none
  mirror := none

def pool0 : Array CpInfo := pool [(5, u "<init>"), (0, u "()V"), (1, .class_ 10), (1, u "java/lang/Object")] 113

def k0c0 : Code := { maxStack := 0, maxLocals := 1, code := object_method_1_code, exceptionTable := #[], attributes := #[] }
def k0m0 : Method := { name := "<init>", desc := "()V", sig := { parameters := [], returnType := none }, accessFlags := 1, code := some k0c0 }
/-- java/lang/Object -/
def k0 : Class := { plain "java/lang/Object" none with
  accessFlags := 33
  interfaces := #[]
  cf := some (fileOf pool0 8 #[] #[{ accessFlags := 1, nameIndex := 5, descriptorIndex := 6, attributes := #[] }] 33 0 #[] #[])
  fields := #[]
  methods := #[k0m0]
  instanceTypes := #[]
  staticTypes := #[]
  resolved := Array.replicate 124 none
  statics := none }

def pool1 : Array CpInfo := pool [(2, .class_ 4), (1, u "java/lang/Object"), (0, u "<init>"), (0, u "()V"), (0, .class_ 8), (0, u "com/example/wary_mutex/warymutex/message/IndexSet"), (0, .methodref 7 10), (0, .nameAndType 5 11), (0, u "(I)V"), (0, .methodref 7 13), (0, .nameAndType 14 11), (0, u "add"), (0, .methodref 16 17), (0, .class_ 18), (0, .nameAndType 19 20), (0, u "com/example/wary_mutex/warymutex/message/IndexSetRemovePinLaw"), (0, u "addModel"), (0, u "([II)V"), (0, .methodref 7 22), (0, .nameAndType 23 11), (0, u "remove"), (0, .methodref 16 25), (0, .nameAndType 26 20), (0, u "removeModel"), (0, .methodref 7 28), (0, .nameAndType 29 30), (0, u "size"), (0, u "()I"), (0, .methodref 7 32), (0, .nameAndType 33 34), (0, u "get"), (0, u "(I)I"), (2, u "law"), (0, u "(IIIIII)Z")] 5

def k1m0 : Method := { name := "<init>", desc := "()V", sig := { parameters := [], returnType := none }, accessFlags := 1, code := none }
def k1c1 : Code := { maxStack := 3, maxLocals := 15, code := code, exceptionTable := #[], attributes := #[] }
def k1m1 : Method := { name := "law", desc := "(IIIIII)Z", sig := { parameters := [.int, .int, .int, .int, .int, .int], returnType := some .boolean }, accessFlags := 9, code := some k1c1 }
def k1c2 : Code := { maxStack := 4, maxLocals := 4, code := method_3_code, exceptionTable := #[], attributes := #[] }
def k1m2 : Method := { name := "addModel", desc := "([II)V", sig := { parameters := [(.array .int), .int], returnType := none }, accessFlags := 10, code := some k1c2 }
def k1c3 : Code := { maxStack := 4, maxLocals := 4, code := method_4_code, exceptionTable := #[], attributes := #[] }
def k1m3 : Method := { name := "removeModel", desc := "([II)V", sig := { parameters := [(.array .int), .int], returnType := none }, accessFlags := 10, code := some k1c3 }
/-- com/example/wary_mutex/warymutex/message/IndexSetRemovePinLaw -/
def k1 : Class := { plain "com/example/wary_mutex/warymutex/message/IndexSetRemovePinLaw" (some 0) with
  accessFlags := 49
  interfaces := #[]
  cf := some (fileOf pool1 16 #[] #[{ accessFlags := 1, nameIndex := 5, descriptorIndex := 6, attributes := #[] }, { accessFlags := 9, nameIndex := 37, descriptorIndex := 38, attributes := #[] }, { accessFlags := 10, nameIndex := 19, descriptorIndex := 20, attributes := #[] }, { accessFlags := 10, nameIndex := 26, descriptorIndex := 20, attributes := #[] }] 49 2 #[] #[])
  fields := #[]
  methods := #[k1m0, k1m1, k1m2, k1m3]
  instanceTypes := #[]
  staticTypes := #[]
  resolved := Array.replicate 44 none
  statics := none }

def pool2 : Array CpInfo := pool [(1, .methodref 2 3), (0, .class_ 4), (0, .nameAndType 5 6), (0, u "java/lang/Object"), (0, u "<init>"), (0, u "()V"), (0, .fieldref 8 9), (0, .class_ 10), (0, .nameAndType 11 12), (0, u "com/example/wary_mutex/warymutex/message/IndexSet"), (0, u "members"), (0, u "[I"), (0, .fieldref 8 14), (0, .nameAndType 15 12), (0, u "positions"), (0, .methodref 17 18), (0, .class_ 19), (0, .nameAndType 20 21), (0, u "java/util/Arrays"), (0, u "fill"), (0, u "([II)V"), (0, .fieldref 8 23), (0, .nameAndType 24 25), (0, u "size"), (0, u "I"), (0, .methodref 27 28), (0, .class_ 29), (0, .nameAndType 30 31), (0, u "java/util/Objects"), (0, u "checkIndex"), (0, u "(II)I"), (0, u "(I)V"), (2, u "add"), (1, u "remove"), (0, u "()I"), (0, u "get"), (0, u "(I)I")] 2

def k2c0 : Code := { maxStack := 2, maxLocals := 2, code := prog_43_method_1_code, exceptionTable := #[], attributes := #[] }
def k2m0 : Method := { name := "<init>", desc := "(I)V", sig := { parameters := [.int], returnType := none }, accessFlags := 0, code := some k2c0 }
def k2c1 : Code := { maxStack := 3, maxLocals := 2, code := prog_43_method_2_code, exceptionTable := #[], attributes := #[] }
def k2m1 : Method := { name := "add", desc := "(I)V", sig := { parameters := [.int], returnType := none }, accessFlags := 0, code := some k2c1 }
def k2c2 : Code := { maxStack := 3, maxLocals := 4, code := prog_43_method_3_code, exceptionTable := #[], attributes := #[] }
def k2m2 : Method := { name := "remove", desc := "(I)V", sig := { parameters := [.int], returnType := none }, accessFlags := 0, code := some k2c2 }
def k2c3 : Code := { maxStack := 1, maxLocals := 1, code := prog_43_method_4_code, exceptionTable := #[], attributes := #[] }
def k2m3 : Method := { name := "size", desc := "()I", sig := { parameters := [], returnType := some .int }, accessFlags := 0, code := some k2c3 }
def k2c4 : Code := { maxStack := 2, maxLocals := 2, code := prog_43_method_5_code, exceptionTable := #[], attributes := #[] }
def k2m4 : Method := { name := "get", desc := "(I)I", sig := { parameters := [.int], returnType := some .int }, accessFlags := 0, code := some k2c4 }
/-- com/example/wary_mutex/warymutex/message/IndexSet -/
def k2 : Class := { plain "com/example/wary_mutex/warymutex/message/IndexSet" (some 0) with
  accessFlags := 48
  interfaces := #[]
  cf := some (fileOf pool2 8 #[] #[{ accessFlags := 0, nameIndex := 5, descriptorIndex := 32, attributes := #[] }, { accessFlags := 0, nameIndex := 35, descriptorIndex := 32, attributes := #[] }, { accessFlags := 0, nameIndex := 37, descriptorIndex := 32, attributes := #[] }, { accessFlags := 0, nameIndex := 24, descriptorIndex := 38, attributes := #[] }, { accessFlags := 0, nameIndex := 39, descriptorIndex := 40, attributes := #[] }] 48 2 #[] #[{ accessFlags := 18, nameIndex := 11, descriptorIndex := 12, attributes := #[] }, { accessFlags := 18, nameIndex := 15, descriptorIndex := 12, attributes := #[] }, { accessFlags := 2, nameIndex := 24, descriptorIndex := 25, attributes := #[] }])
  fields := #[{ name := "members", type := (.array .int), accessFlags := 18, slot := 0, constantValue := 0 }, { name := "positions", type := (.array .int), accessFlags := 18, slot := 1, constantValue := 0 }, { name := "size", type := .int, accessFlags := 2, slot := 2, constantValue := 0 }]
  methods := #[k2m0, k2m1, k2m2, k2m3, k2m4]
  instanceTypes := #[(.array .int), (.array .int), .int]
  staticTypes := #[]
  resolved := Array.replicate 43 none
  statics := none }

def pool3 : Array CpInfo := pool [(2, .class_ 4), (1, u "java/lang/Object"), (0, u "<init>"), (0, u "()V"), (7, .class_ 16), (1, u "java/util/Arrays"), (57, .class_ 76), (1, u "java/util/Arrays$NaturalOrder"), (36, .class_ 115), (1, u "java/util/Arrays$LegacyMergeSort"), (1, u "Z"), (257, .class_ 376), (0, u "java/util/Arrays$ArrayList"), (68, u "$assertionsDisabled"), (269, u "MIN_ARRAY_SORT_GRAN"), (0, u "I"), (2, u "INSERTIONSORT_THRESHOLD"), (120, u "fill"), (4, u "([II)V"), (129, .class_ 976), (0, u "java/util/Arrays$ArrayItr")] 52

def k3m0 : Method := { name := "<init>", desc := "()V", sig := { parameters := [], returnType := none }, accessFlags := 2, code := none }
def k3c1 : Code := { maxStack := 3, maxLocals := 4, code := jdk_65_method_103_code, exceptionTable := #[], attributes := #[] }
def k3m1 : Method := { name := "fill", desc := "([II)V", sig := { parameters := [(.array .int), .int], returnType := none }, accessFlags := 9, code := some k3c1 }
/-- java/util/Arrays -/
def k3 : Class := { plain "java/util/Arrays" (some 0) with
  accessFlags := 49
  interfaces := #[]
  cf := some (fileOf pool3 14 #[.nestMembers #[975, 375, 113, 74]] #[{ accessFlags := 2, nameIndex := 5, descriptorIndex := 6, attributes := #[] }, { accessFlags := 9, nameIndex := 840, descriptorIndex := 845, attributes := #[] }] 49 2 #[] #[{ accessFlags := 26, nameIndex := 715, descriptorIndex := 716, attributes := #[] }, { accessFlags := 26, nameIndex := 719, descriptorIndex := 716, attributes := #[] }, { accessFlags := 4120, nameIndex := 445, descriptorIndex := 117, attributes := #[] }])
  fields := #[{ name := "MIN_ARRAY_SORT_GRAN", type := .int, accessFlags := 26, slot := 0, constantValue := 0 }, { name := "INSERTIONSORT_THRESHOLD", type := .int, accessFlags := 26, slot := 1, constantValue := 0 }, { name := "$assertionsDisabled", type := .boolean, accessFlags := 4120, slot := 2, constantValue := 0 }]
  methods := #[k3m0, k3m1]
  instanceTypes := #[]
  staticTypes := #[.int, .int, .boolean]
  resolved := Array.replicate 1029 none
  statics := none }

def pool4 : Array CpInfo := pool [(2, .class_ 4), (1, u "java/lang/Object"), (0, u "<init>"), (0, u "()V"), (35, .class_ 44), (1, u "java/util/Objects"), (60, .methodref 106 107), (0, .class_ 108), (0, .nameAndType 109 110), (0, u "jdk/internal/util/Preconditions"), (0, u "checkIndex"), (0, u "(IILjava/util/function/BiFunction;)I"), (60, u "(II)I")] 12

def k4m0 : Method := { name := "<init>", desc := "()V", sig := { parameters := [], returnType := none }, accessFlags := 2, code := none }
def k4c1 : Code := { maxStack := 3, maxLocals := 2, code := jdk_31_method_17_code, exceptionTable := #[], attributes := #[] }
def k4m1 : Method := { name := "checkIndex", desc := "(II)I", sig := { parameters := [.int, .int], returnType := some .int }, accessFlags := 9, code := some k4c1 }
/-- java/util/Objects -/
def k4 : Class := { plain "java/util/Objects" (some 0) with
  accessFlags := 49
  interfaces := #[]
  cf := some (fileOf pool4 42 #[] #[{ accessFlags := 2, nameIndex := 5, descriptorIndex := 6, attributes := #[] }, { accessFlags := 9, nameIndex := 109, descriptorIndex := 171, attributes := #[] }] 49 2 #[] #[])
  fields := #[]
  methods := #[k4m0, k4m1]
  instanceTypes := #[]
  staticTypes := #[]
  resolved := Array.replicate 184 none
  statics := none }

def pool5 : Array CpInfo := pool [(2, .class_ 4), (1, u "java/lang/Object"), (0, u "<init>"), (0, u "()V"), (17, .class_ 26), (1, u "jdk/internal/util/Preconditions"), (6, u "checkIndex"), (21, .class_ 56), (0, u "jdk/internal/util/Preconditions$4"), (57, .class_ 115), (0, u "jdk/internal/util/Preconditions$1"), (7, u "SIOOBE_FORMATTER"), (0, u "Ljava/util/function/BiFunction;"), (0, .class_ 126), (0, u "jdk/internal/util/Preconditions$2"), (3, u "AIOOBE_FORMATTER"), (0, .class_ 132), (0, u "jdk/internal/util/Preconditions$3"), (3, u "IOOBE_FORMATTER"), (41, u "(IILjava/util/function/BiFunction;)I")] 15

def k5m0 : Method := { name := "<init>", desc := "()V", sig := { parameters := [], returnType := none }, accessFlags := 1, code := none }
def k5c1 : Code := { maxStack := 3, maxLocals := 3, code := jdk_41_method_11_code, exceptionTable := #[], attributes := #[] }
def k5m1 : Method := { name := "checkIndex", desc := "(IILjava/util/function/BiFunction;)I", sig := { parameters := [.int, .int, (.object "java/util/function/BiFunction")], returnType := some .int }, accessFlags := 9, code := some k5c1 }
/-- jdk/internal/util/Preconditions -/
def k5 : Class := { plain "jdk/internal/util/Preconditions" (some 0) with
  accessFlags := 33
  interfaces := #[]
  cf := some (fileOf pool5 24 #[.nestMembers #[55, 131, 125, 114]] #[{ accessFlags := 1, nameIndex := 5, descriptorIndex := 6, attributes := #[] }, { accessFlags := 9, nameIndex := 33, descriptorIndex := 178, attributes := #[] }] 33 2 #[] #[{ accessFlags := 25, nameIndex := 123, descriptorIndex := 124, attributes := #[] }, { accessFlags := 25, nameIndex := 130, descriptorIndex := 124, attributes := #[] }, { accessFlags := 25, nameIndex := 136, descriptorIndex := 124, attributes := #[] }])
  fields := #[{ name := "SIOOBE_FORMATTER", type := (.object "java/util/function/BiFunction"), accessFlags := 25, slot := 0, constantValue := 0 }, { name := "AIOOBE_FORMATTER", type := (.object "java/util/function/BiFunction"), accessFlags := 25, slot := 1, constantValue := 0 }, { name := "IOOBE_FORMATTER", type := (.object "java/util/function/BiFunction"), accessFlags := 25, slot := 2, constantValue := 0 }]
  methods := #[k5m0, k5m1]
  instanceTypes := #[]
  staticTypes := #[(.object "java/util/function/BiFunction"), (.object "java/util/function/BiFunction"), (.object "java/util/function/BiFunction")]
  resolved := Array.replicate 194 none
  statics := none }

def pool6 : Array CpInfo := pool [(1, u "java/lang/Cloneable"), (0, .class_ 1), (0, u "java/lang/Object"), (0, .class_ 3)] 3

/-- java/lang/Cloneable -/
def k6 : Class := { plain "java/lang/Cloneable" (some 0) with
  accessFlags := 1537
  interfaces := #[]
  cf := some (fileOf pool6 2 #[] #[] 1537 4 #[] #[])
  fields := #[]
  methods := #[]
  instanceTypes := #[]
  staticTypes := #[]
  resolved := Array.replicate 8 none
  statics := none }

def pool7 : Array CpInfo := pool [(1, u "java/io/Serializable"), (0, .class_ 1), (0, u "java/lang/Object"), (0, .class_ 3)] 3

/-- java/io/Serializable -/
def k7 : Class := { plain "java/io/Serializable" (some 0) with
  accessFlags := 1537
  interfaces := #[]
  cf := some (fileOf pool7 2 #[] #[] 1537 4 #[] #[])
  fields := #[]
  methods := #[]
  instanceTypes := #[]
  staticTypes := #[]
  resolved := Array.replicate 8 none
  statics := none }

/-- the primitive byte -/
def k8 : Class := { plain "byte" none with kind := .primitive 'B', accessFlags := 0x411 }
/-- [B -/
def k9 : Class := { plain "[B" (some 0) with kind := .array 8 .byte, interfaces := #[6, 7], accessFlags := 1041 }

/-- the primitive int -/
def k10 : Class := { plain "int" none with kind := .primitive 'I', accessFlags := 0x411 }
/-- [I -/
def k11 : Class := { plain "[I" (some 0) with kind := .array 10 .int, interfaces := #[6, 7], accessFlags := 1041 }

def heap : Heap := #[]
def classes : Array Class := #[k0, k1, k2, k3, k4, k5, k6, k7, k8, k9, k10, k11]
def interned : List (Array UInt16 × Addr) := []
def slotsUsed : Nat := 0
def theMethod : MethodId := ⟨1, 1⟩
def args0 : Array Value := #[.int 5, .int 6, .int 7, .int 3, .int 3, .int 3]
def aboutOver (below : List Frame) : State where
  vm := { classes := classes, interned := interned.toArray }
  heap := heap
  slotsUsed := slotsUsed
  threads := #[{ frames := .invoking theMethod args0 :: below }]
def below0 : List Frame := [.native { method := ⟨0, 0⟩, args := #[] }]
def about1 : State := aboutOver below0
def p0 : Program := .bare "" "" ""
def e0 : Env := launch0.env 0 0 0
theorem w_frames : about1.frames = Frame.invoking theMethod args0 :: below0 := rfl
set_option maxRecDepth 65536 in
theorem w_args : argsFit about1.vm theMethod args0 = true := by decide +kernel
set_option maxRecDepth 65536 in
theorem w_heap : heapFits about1 = true := by decide +kernel
set_option maxRecDepth 65536 in
theorem w_runnable : about1.curStatus? = some .runnable := by decide +kernel
set_option maxRecDepth 65536 in
theorem w_alone : about1.alone = true := by decide +kernel
set_option maxRecDepth 65536 in
theorem w_named : about1.methodNamed? x = some theMethod := by decide +kernel
set_option maxRecDepth 65536 in
theorem w_hears : about1.hears theMethod below0 = true := by decide +kernel
set_option maxRecDepth 65536 in
theorem w_ripe : about1.ripe theMethod args0 below0 = true := by decide +kernel
theorem w_running : about1.status = .running := rfl
set_option maxRecDepth 65536 in
theorem w_room : about1.hasRoom e0.platform room_1 = true :=
  launch0.hasRoom_least _ room_1 (by decide +kernel) (by decide +kernel) (by decide +kernel) (by decide +kernel) (by decide +kernel) (by decide +kernel)
theorem allAtoms_all (ts : List Jvm.Cond) (a : Array Jvm.Value) (st : Jvm.State) : (allAtoms ts).before a st = ts.all (fun c => c.before a st) := by
  induction ts with
  | nil => rfl
  | cons c t ih =>
    show (Jvm.Cond.and c (allAtoms t)).before a st = _
    rw [Jvm.Cond.before_and, ih, List.all_cons]
def words1 : List Jvm.Cond := Jvm.Cond.code x code maxLocals ret :: tables_1
/-- a 'code' word, met by the world's own term for the bytes: nothing is compared byte by byte -/
theorem code_word {y : MethodName} {bytes : ByteArray} {mx : Nat} {rt : Option FieldType} {a : Array Value} {s : State} {m : MethodId} {meth : Method} {c : Code} (h1 : s.methodNamed? y = some m) (h2 : s.vm.method? m = some meth) (h3 : meth.code = some c) (h4 : c.code = bytes)
    (h5 : (c.maxLocals == mx && c.exceptionTable.isEmpty && decide (c.maxStack ≤ mostOperands) && decide (meth.sig.returnType = rt) && !meth.locks && decide (parseMethodDescriptor y.desc = some meth.sig)) = true) : (Jvm.Cond.code y bytes mx rt).before a s = true := by
  simp only [Bool.and_eq_true, beq_iff_eq, Bool.not_eq_true', decide_eq_true_eq] at h5
  obtain ⟨⟨⟨⟨⟨g1, g2⟩, g3⟩, g4⟩, g5⟩, g6⟩ := h5
  simp [Cond.before, Cond.holds, Cond.value, h1, h2, h3, h4, g1, g2, g3, g4, g5, g6]
def isCode : Jvm.Cond → Bool
  | .code _ _ _ _ => true
  | _ => false
theorem all_split {L : List Jvm.Cond} {P : Jvm.Cond → Bool} (h1 : L.all (fun c => isCode c || P c) = true) (h2 : ∀ c ∈ L.filter isCode, P c = true) : L.all P = true := by
  refine List.all_eq_true.mpr fun c hc => ?_
  have h := List.all_eq_true.mp h1 c hc
  rcases Bool.eq_false_or_eq_true (isCode c) with hi | hi
  · exact h2 c (List.mem_filter.mpr ⟨hc, hi⟩)
  · simpa [hi] using h
set_option maxRecDepth 65536 in
theorem w_c0 : (Jvm.Cond.code x code maxLocals ret).before args0 about1 = true := code_word (m := ⟨1, 1⟩) (meth := k1m1) (c := k1c1) (by decide +kernel) rfl rfl rfl (by decide +kernel)
set_option maxRecDepth 65536 in
theorem w_c1 : (Jvm.Cond.code ({ cls := "com/example/wary_mutex/warymutex/message/IndexSet", name := "<init>", desc := "(I)V" } : Jvm.MethodName) prog_43_method_1_code (2 : Nat) (Option.none : Option Jvm.ClassFile.FieldType)).before args0 about1 = true := code_word (m := ⟨2, 0⟩) (meth := k2m0) (c := k2c0) (by decide +kernel) rfl rfl rfl (by decide +kernel)
set_option maxRecDepth 65536 in
theorem w_c2 : (Jvm.Cond.code ({ cls := "java/lang/Object", name := "<init>", desc := "()V" } : Jvm.MethodName) object_method_1_code (1 : Nat) (Option.none : Option Jvm.ClassFile.FieldType)).before args0 about1 = true := code_word (m := ⟨0, 0⟩) (meth := k0m0) (c := k0c0) (by decide +kernel) rfl rfl rfl (by decide +kernel)
set_option maxRecDepth 65536 in
theorem w_c3 : (Jvm.Cond.code ({ cls := "java/util/Arrays", name := "fill", desc := "([II)V" } : Jvm.MethodName) jdk_65_method_103_code (4 : Nat) (Option.none : Option Jvm.ClassFile.FieldType)).before args0 about1 = true := code_word (m := ⟨3, 1⟩) (meth := k3m1) (c := k3c1) (by decide +kernel) rfl rfl rfl (by decide +kernel)
set_option maxRecDepth 65536 in
theorem w_c4 : (Jvm.Cond.code ({ cls := "com/example/wary_mutex/warymutex/message/IndexSet", name := "add", desc := "(I)V" } : Jvm.MethodName) prog_43_method_2_code (2 : Nat) (Option.none : Option Jvm.ClassFile.FieldType)).before args0 about1 = true := code_word (m := ⟨2, 1⟩) (meth := k2m1) (c := k2c1) (by decide +kernel) rfl rfl rfl (by decide +kernel)
set_option maxRecDepth 65536 in
theorem w_c5 : (Jvm.Cond.code ({ cls := "com/example/wary_mutex/warymutex/message/IndexSetRemovePinLaw", name := "addModel", desc := "([II)V" } : Jvm.MethodName) method_3_code (4 : Nat) (Option.none : Option Jvm.ClassFile.FieldType)).before args0 about1 = true := code_word (m := ⟨1, 2⟩) (meth := k1m2) (c := k1c2) (by decide +kernel) rfl rfl rfl (by decide +kernel)
set_option maxRecDepth 65536 in
theorem w_c6 : (Jvm.Cond.code ({ cls := "com/example/wary_mutex/warymutex/message/IndexSet", name := "remove", desc := "(I)V" } : Jvm.MethodName) prog_43_method_3_code (4 : Nat) (Option.none : Option Jvm.ClassFile.FieldType)).before args0 about1 = true := code_word (m := ⟨2, 2⟩) (meth := k2m2) (c := k2c2) (by decide +kernel) rfl rfl rfl (by decide +kernel)
set_option maxRecDepth 65536 in
theorem w_c7 : (Jvm.Cond.code ({ cls := "com/example/wary_mutex/warymutex/message/IndexSetRemovePinLaw", name := "removeModel", desc := "([II)V" } : Jvm.MethodName) method_4_code (4 : Nat) (Option.none : Option Jvm.ClassFile.FieldType)).before args0 about1 = true := code_word (m := ⟨1, 3⟩) (meth := k1m3) (c := k1c3) (by decide +kernel) rfl rfl rfl (by decide +kernel)
set_option maxRecDepth 65536 in
theorem w_c8 : (Jvm.Cond.code ({ cls := "com/example/wary_mutex/warymutex/message/IndexSet", name := "size", desc := "()I" } : Jvm.MethodName) prog_43_method_4_code (1 : Nat) (Option.some Jvm.ClassFile.FieldType.int)).before args0 about1 = true := code_word (m := ⟨2, 3⟩) (meth := k2m3) (c := k2c3) (by decide +kernel) rfl rfl rfl (by decide +kernel)
set_option maxRecDepth 65536 in
theorem w_c9 : (Jvm.Cond.code ({ cls := "com/example/wary_mutex/warymutex/message/IndexSet", name := "get", desc := "(I)I" } : Jvm.MethodName) prog_43_method_5_code (2 : Nat) (Option.some Jvm.ClassFile.FieldType.int)).before args0 about1 = true := code_word (m := ⟨2, 4⟩) (meth := k2m4) (c := k2c4) (by decide +kernel) rfl rfl rfl (by decide +kernel)
set_option maxRecDepth 65536 in
theorem w_c10 : (Jvm.Cond.code ({ cls := "java/util/Objects", name := "checkIndex", desc := "(II)I" } : Jvm.MethodName) jdk_31_method_17_code (2 : Nat) (Option.some Jvm.ClassFile.FieldType.int)).before args0 about1 = true := code_word (m := ⟨4, 1⟩) (meth := k4m1) (c := k4c1) (by decide +kernel) rfl rfl rfl (by decide +kernel)
set_option maxRecDepth 65536 in
theorem w_c11 : (Jvm.Cond.code ({ cls := "jdk/internal/util/Preconditions", name := "checkIndex", desc := "(IILjava/util/function/BiFunction;)I" } : Jvm.MethodName) jdk_41_method_11_code (3 : Nat) (Option.some Jvm.ClassFile.FieldType.int)).before args0 about1 = true := code_word (m := ⟨5, 1⟩) (meth := k5m1) (c := k5c1) (by decide +kernel) rfl rfl rfl (by decide +kernel)
def codes1 : List Jvm.Cond := [Jvm.Cond.code x code maxLocals ret, Jvm.Cond.code ({ cls := "com/example/wary_mutex/warymutex/message/IndexSet", name := "<init>", desc := "(I)V" } : Jvm.MethodName) prog_43_method_1_code (2 : Nat) (Option.none : Option Jvm.ClassFile.FieldType), Jvm.Cond.code ({ cls := "java/lang/Object", name := "<init>", desc := "()V" } : Jvm.MethodName) object_method_1_code (1 : Nat) (Option.none : Option Jvm.ClassFile.FieldType), Jvm.Cond.code ({ cls := "java/util/Arrays", name := "fill", desc := "([II)V" } : Jvm.MethodName) jdk_65_method_103_code (4 : Nat) (Option.none : Option Jvm.ClassFile.FieldType), Jvm.Cond.code ({ cls := "com/example/wary_mutex/warymutex/message/IndexSet", name := "add", desc := "(I)V" } : Jvm.MethodName) prog_43_method_2_code (2 : Nat) (Option.none : Option Jvm.ClassFile.FieldType), Jvm.Cond.code ({ cls := "com/example/wary_mutex/warymutex/message/IndexSetRemovePinLaw", name := "addModel", desc := "([II)V" } : Jvm.MethodName) method_3_code (4 : Nat) (Option.none : Option Jvm.ClassFile.FieldType), Jvm.Cond.code ({ cls := "com/example/wary_mutex/warymutex/message/IndexSet", name := "remove", desc := "(I)V" } : Jvm.MethodName) prog_43_method_3_code (4 : Nat) (Option.none : Option Jvm.ClassFile.FieldType), Jvm.Cond.code ({ cls := "com/example/wary_mutex/warymutex/message/IndexSetRemovePinLaw", name := "removeModel", desc := "([II)V" } : Jvm.MethodName) method_4_code (4 : Nat) (Option.none : Option Jvm.ClassFile.FieldType), Jvm.Cond.code ({ cls := "com/example/wary_mutex/warymutex/message/IndexSet", name := "size", desc := "()I" } : Jvm.MethodName) prog_43_method_4_code (1 : Nat) (Option.some Jvm.ClassFile.FieldType.int), Jvm.Cond.code ({ cls := "com/example/wary_mutex/warymutex/message/IndexSet", name := "get", desc := "(I)I" } : Jvm.MethodName) prog_43_method_5_code (2 : Nat) (Option.some Jvm.ClassFile.FieldType.int), Jvm.Cond.code ({ cls := "java/util/Objects", name := "checkIndex", desc := "(II)I" } : Jvm.MethodName) jdk_31_method_17_code (2 : Nat) (Option.some Jvm.ClassFile.FieldType.int), Jvm.Cond.code ({ cls := "jdk/internal/util/Preconditions", name := "checkIndex", desc := "(IILjava/util/function/BiFunction;)I" } : Jvm.MethodName) jdk_41_method_11_code (3 : Nat) (Option.some Jvm.ClassFile.FieldType.int)]
set_option maxRecDepth 65536 in
theorem codes_eq : words1.filter isCode = codes1 := rfl
theorem w_codes : ∀ c ∈ words1.filter isCode, c.before args0 about1 = true := by
  rw [codes_eq]
  intro c hc
  simp only [codes1, List.mem_cons, List.not_mem_nil, or_false] at hc
  rcases hc with rfl | rfl | rfl | rfl | rfl | rfl | rfl | rfl | rfl | rfl | rfl | rfl
  · exact w_c0
  · exact w_c1
  · exact w_c2
  · exact w_c3
  · exact w_c4
  · exact w_c5
  · exact w_c6
  · exact w_c7
  · exact w_c8
  · exact w_c9
  · exact w_c10
  · exact w_c11
set_option maxRecDepth 65536 in
theorem w_t1 : (words1.take 24).all (fun c => isCode c || c.before args0 about1) = true := by decide +kernel
set_option maxRecDepth 65536 in
theorem w_t2 : ((words1.drop 24).take 24).all (fun c => isCode c || c.before args0 about1) = true := by decide +kernel
set_option maxRecDepth 65536 in
theorem w_t3 : ((words1.drop 24).drop 24).all (fun c => isCode c || c.before args0 about1) = true := by decide +kernel
theorem w_tables : (allAtoms (Jvm.Cond.code x code maxLocals ret :: tables_1)).before args0 about1 = true := by
  rw [allAtoms_all]
  show words1.all (fun c => c.before args0 about1) = true
  refine all_split ?_ w_codes
  rw [← List.take_append_drop 24 words1, List.all_append, w_t1, ← List.take_append_drop 24 (words1.drop 24), List.all_append, w_t2, w_t3]
  rfl
set_option maxRecDepth 65536 in
theorem w_case : (Jvm.Cond.and given_1 narrow_1).before args0 about1 = true := by decide +kernel
theorem w_applies : (headSpec (Jvm.Cond.code x code maxLocals ret :: tables_1) room_1).applies x e0.platform about1 = true :=
  (Spec.applies_iff w_frames).mpr ⟨w_running, w_runnable, w_alone, w_named, w_hears, w_ripe, w_room, w_tables⟩
theorem atStart : AtStart classFile x code maxLocals ret World_1 tables_1 room_1 Calls_1 rest_1 Pre_1 launch0 p0 e0 about1 theMethod args0 below0 :=
  ⟨lists_1, trivial, launch0.admits_env _ _ _, launch0.least_env, fairChoices_fair.cas, fairChoices_fair.clock, w_frames, w_args, w_heap, w_applies, trivial, trivial, w_case⟩
end start1
theorem witness_1 : WitnessClaimed_1 := ⟨start1.p0, start1.e0, start1.about1, start1.theMethod, start1.args0, start1.below0, start1.atStart⟩
end Jvm.Pilot.@@N@@
