import JvmDerived
import JvmDerived.Pilot.@@N@@Statement
import JvmDerived.Pilot.@@N@@Code
set_option linter.unusedVariables false
set_option linter.unusedSimpArgs false

namespace Jvm.OwnGo
open Sem ClassFile Op Lib Jvm.Stand Jvm.Free Jvm.LawKit Jvm.RoadKit
/-- what is known of a body while it is walked -/
def Cx (Z : State) (y : MethodName) (code : ByteArray) (ml : Nat) (ret : Option FieldType) (p : Program) (s : State) (m : MethodId) (meth : Method) (c : Code) : Prop :=
  p.tables.exec = Jvm.exec ∧ c.code = code ∧ Z.Warmed39 s.vm ∧ s.vm.findClass y.cls = some m.cls ∧ c.maxLocals = ml ∧ meth.sig.returnType = ret ∧ meth.locks = false ∧ meth.name = y.name
/-- from the frame (pc, Ls, st) over the heap h, with at most k cells and n slots made so far, the body of y returns with Q -/
def Go (l : Launch) (Z : State) (y : MethodName) (code : ByteArray) (ml : Nat) (ret : Option FieldType) (R : Room) (Q : Option Value → Heap → Prop) (k n : Nat) (h : Heap) (pc : Nat) (Ls : Array Slot) (st : List Value) : Prop :=
  ∀ (p : Program) (e : Env) (s : State) (m : MethodId) (args : Array Value) (below : List Frame) (meth : Method) (c : Code), Cx Z y code ml ret p s m meth c →
  ∀ (T : State) (L : List Loc) (k' n' : Nat), Stand p l e R s m args below meth c T L k' n' → k' ≤ k → n' ≤ n → Fr Z.heap.size L → T.heap = h →
  ∃ (v : Option Value) (T' : State) (L' : List Loc) (k'' n'' : Nat), Stand p l e R s m args below meth c T' L' k'' n'' ∧ k'' ≤ R.cells ∧ n'' ≤ R.slots ∧ Fr Z.heap.size L' ∧ Q v T'.heap ∧ (ret = none → v = none) ∧
    ∀ fs, (∀ (f : JFrame) (acts : List Action), f.method = m → f.locked = none → f.entered = [] → (doReturn e (T'.setTop f) acts v).1 = T'.setFrames fs) → Steps p.tables e below (T.setTop (mkF m pc Ls st)) (T'.setFrames fs)
/-- the shapes of an answer -/
def QI (P : Int32 → Heap → Prop) (v : Option Value) (h : Heap) : Prop := ∃ z : Int32, v = some (.int z) ∧ P z h
def QJ (P : Int64 → Heap → Prop) (v : Option Value) (h : Heap) : Prop := ∃ z : Int64, v = some (.long z) ∧ P z h
def QR (P : Value → Heap → Prop) (v : Option Value) (h : Heap) : Prop := ∃ z : Value, v = some z ∧ P z h
def QV (P : Heap → Prop) (v : Option Value) (h : Heap) : Prop := v = none ∧ P h
section Laws
variable {l : Launch} {Z : State} {y : MethodName} {code : ByteArray} {ml : Nat} {ret : Option FieldType} {R : Room} {Q : Option Value → Heap → Prop} {k n : Nat} {h : Heap} {pc : Nat} {Ls : Array Slot} {st : List Value} {a0 : Array Value}
theorem Go.pure {pc' : Nat} {Ls' : Array Slot} {st' : List Value} (g : Go l Z y code ml ret R Q k n h pc' Ls' st')
    (f : ∀ (p : Program) (e : Env) (s : State) (m : MethodId) (args : Array Value) (below : List Frame) (meth : Method) (c : Code), Cx Z y code ml ret p s m meth c → ∀ (T : State) (L : List Loc) (k' n' : Nat), Stand p l e R s m args below meth c T L k' n' → T.heap = h → ∀ target, Steps p.tables e below (T.setTop (mkF m pc' Ls' st')) target → Steps p.tables e below (T.setTop (mkF m pc Ls st)) target) :
    Go l Z y code ml ret R Q k n h pc Ls st := by
  intro p e s m args below meth c K T L k' n' X h1 h2 N hT
  obtain ⟨v, T', L', k'', n'', X', b1, b2, N', q, hv, stp⟩ := g p e s m args below meth c K T L k' n' X h1 h2 N hT
  exact ⟨v, T', L', k'', n'', X', b1, b2, N', q, hv, fun fs hl => f p e s m args below meth c K T L k' n' X hT _ (stp fs hl)⟩
/-- a step that moves the state: by a law that hands out the new Stand -/
theorem Go.move {pc' : Nat} {Ls' : Array Slot} {st' : List Value} {kk nn : Nat} {P : Heap → Prop} (g : ∀ h', P h' → Go l Z y code ml ret R Q kk nn h' pc' Ls' st')
    (f : ∀ (p : Program) (e : Env) (s : State) (m : MethodId) (args : Array Value) (below : List Frame) (meth : Method) (c : Code), Cx Z y code ml ret p s m meth c → ∀ (T : State) (L : List Loc) (k' n' : Nat), Stand p l e R s m args below meth c T L k' n' → k' ≤ k → n' ≤ n → Fr Z.heap.size L → T.heap = h →
      ∃ (T' : State) (L' : List Loc) (k'' n'' : Nat), Stand p l e R s m args below meth c T' L' k'' n'' ∧ k'' ≤ kk ∧ n'' ≤ nn ∧ Fr Z.heap.size L' ∧ P T'.heap ∧ ∀ target, Steps p.tables e below (T'.setTop (mkF m pc' Ls' st')) target → Steps p.tables e below (T.setTop (mkF m pc Ls st)) target) :
    Go l Z y code ml ret R Q k n h pc Ls st := by
  intro p e s m args below meth c K T L k' n' X h1 h2 N hT
  obtain ⟨T1, L1, k1, n1, X1, c1, c2, N1, p1, s1⟩ := f p e s m args below meth c K T L k' n' X h1 h2 N hT
  obtain ⟨v, T', L', k'', n'', X', b1, b2, N', q, hv, stp⟩ := g _ p1 p e s m args below meth c K T1 L1 k1 n1 X1 c1 c2 N1 rfl
  exact ⟨v, T', L', k'', n'', X', b1, b2, N', q, hv, fun fs hl => s1 _ (stp fs hl)⟩
theorem Go.le {k₀ n₀ : Nat} (g : Go l Z y code ml ret R Q k n h pc Ls st) (hk : k₀ ≤ k) (hn : n₀ ≤ n) : Go l Z y code ml ret R Q k₀ n₀ h pc Ls st :=
  fun p e s m args below meth c K T L k' n' X h1 h2 N hT => g p e s m args below meth c K T L k' n' X (Nat.le_trans h1 hk) (Nat.le_trans h2 hn) N hT
theorem Go.mono {Q' : Option Value → Heap → Prop} (g : Go l Z y code ml ret R Q k n h pc Ls st) (hq : ∀ v h', Q v h' → Q' v h') : Go l Z y code ml ret R Q' k n h pc Ls st := by
  intro p e s m args below meth c K T L k' n' X h1 h2 N hT
  obtain ⟨v, T', L', k'', n'', X', b1, b2, N', q, r⟩ := g p e s m args below meth c K T L k' n' X h1 h2 N hT
  exact ⟨v, T', L', k'', n'', X', b1, b2, N', hq _ _ q, r⟩
theorem Go.nameI {x : Int32} (g : ∀ v : Int32, v = x → Go l Z y code ml ret R Q k n h pc Ls (.int v :: st)) : Go l Z y code ml ret R Q k n h pc Ls (.int x :: st) := g x rfl
theorem Go.nameJ {x : Int64} (g : ∀ v : Int64, v = x → Go l Z y code ml ret R Q k n h pc Ls (.long v :: st)) : Go l Z y code ml ret R Q k n h pc Ls (.long x :: st) := g x rfl

theorem Go.iadd {x z : Int32} (q : Nat) (hd : decode code pc = .ok (.iadd, 1))  (hq : pc + 1 = q) (g : Go l Z y code ml ret R Q k n h q Ls (.int (x + z) :: st)) : Go l Z y code ml ret R Q k n h pc Ls (.int z :: .int x :: st) := by
  subst hq; exact g.pure fun p e s m args below meth c K T L k' n' X hT t r => XS.iadd X.here K.1 rfl (hb K.2.1 hd) rfl  r
theorem Go.isub {x z : Int32} (q : Nat) (hd : decode code pc = .ok (.isub, 1))  (hq : pc + 1 = q) (g : Go l Z y code ml ret R Q k n h q Ls (.int (x - z) :: st)) : Go l Z y code ml ret R Q k n h pc Ls (.int z :: .int x :: st) := by
  subst hq; exact g.pure fun p e s m args below meth c K T L k' n' X hT t r => XS.isub X.here K.1 rfl (hb K.2.1 hd) rfl  r
theorem Go.iand {x z : Int32} (q : Nat) (hd : decode code pc = .ok (.iand, 1))  (hq : pc + 1 = q) (g : Go l Z y code ml ret R Q k n h q Ls (.int (x &&& z) :: st)) : Go l Z y code ml ret R Q k n h pc Ls (.int z :: .int x :: st) := by
  subst hq; exact g.pure fun p e s m args below meth c K T L k' n' X hT t r => XS.iand X.here K.1 rfl (hb K.2.1 hd) rfl  r
theorem Go.imul {x z : Int32} (q : Nat) (hd : decode code pc = .ok (.imul, 1))  (hq : pc + 1 = q) (g : Go l Z y code ml ret R Q k n h q Ls (.int (x * z) :: st)) : Go l Z y code ml ret R Q k n h pc Ls (.int z :: .int x :: st) := by
  subst hq; exact g.pure fun p e s m args below meth c K T L k' n' X hT t r => XS.imul X.here K.1 rfl (hb K.2.1 hd) rfl  r
theorem Go.ixor {x z : Int32} (q : Nat) (hd : decode code pc = .ok (.ixor, 1))  (hq : pc + 1 = q) (g : Go l Z y code ml ret R Q k n h q Ls (.int (x ^^^ z) :: st)) : Go l Z y code ml ret R Q k n h pc Ls (.int z :: .int x :: st) := by
  subst hq; exact g.pure fun p e s m args below meth c K T L k' n' X hT t r => XT.ixor X.here K.1 rfl (hb K.2.1 hd) rfl  r
theorem Go.ior {x z : Int32} (q : Nat) (hd : decode code pc = .ok (.ior, 1))  (hq : pc + 1 = q) (g : Go l Z y code ml ret R Q k n h q Ls (.int (x ||| z) :: st)) : Go l Z y code ml ret R Q k n h pc Ls (.int z :: .int x :: st) := by
  subst hq; exact g.pure fun p e s m args below meth c K T L k' n' X hT t r => XT.ior X.here K.1 rfl (hb K.2.1 hd) rfl  r
theorem Go.ishl {x z : Int32} (q : Nat) (hd : decode code pc = .ok (.ishl, 1))  (hq : pc + 1 = q) (g : Go l Z y code ml ret R Q k n h q Ls (.int (x <<< (z &&& 31)) :: st)) : Go l Z y code ml ret R Q k n h pc Ls (.int z :: .int x :: st) := by
  subst hq; exact g.pure fun p e s m args below meth c K T L k' n' X hT t r => XT.ishl X.here K.1 rfl (hb K.2.1 hd) rfl  r
theorem Go.ishr {x z : Int32} (q : Nat) (hd : decode code pc = .ok (.ishr, 1))  (hq : pc + 1 = q) (g : Go l Z y code ml ret R Q k n h q Ls (.int (x >>> (z &&& 31)) :: st)) : Go l Z y code ml ret R Q k n h pc Ls (.int z :: .int x :: st) := by
  subst hq; exact g.pure fun p e s m args below meth c K T L k' n' X hT t r => XT.ishr X.here K.1 rfl (hb K.2.1 hd) rfl  r
theorem Go.iushr {x z : Int32} (q : Nat) (hd : decode code pc = .ok (.iushr, 1))  (hq : pc + 1 = q) (g : Go l Z y code ml ret R Q k n h q Ls (.int (XT.ushr x z) :: st)) : Go l Z y code ml ret R Q k n h pc Ls (.int z :: .int x :: st) := by
  subst hq; exact g.pure fun p e s m args below meth c K T L k' n' X hT t r => XT.iushr X.here K.1 rfl (hb K.2.1 hd) rfl  r
theorem Go.idiv {x z : Int32} (q : Nat) (hd : decode code pc = .ok (.idiv, 1)) (hz : z ≠ 0) (hq : pc + 1 = q) (g : Go l Z y code ml ret R Q k n h q Ls (.int (x / z) :: st)) : Go l Z y code ml ret R Q k n h pc Ls (.int z :: .int x :: st) := by
  subst hq; exact g.pure fun p e s m args below meth c K T L k' n' X hT t r => XS.idiv X.here K.1 rfl (hb K.2.1 hd) rfl hz r
theorem Go.irem {x z : Int32} (q : Nat) (hd : decode code pc = .ok (.irem, 1)) (hz : z ≠ 0) (hq : pc + 1 = q) (g : Go l Z y code ml ret R Q k n h q Ls (.int (x % z) :: st)) : Go l Z y code ml ret R Q k n h pc Ls (.int z :: .int x :: st) := by
  subst hq; exact g.pure fun p e s m args below meth c K T L k' n' X hT t r => iremM X K.1 rfl (hb K.2.1 hd) rfl hz r
theorem Go.ineg {x : Int32} (q : Nat) (hd : decode code pc = .ok (.ineg, 1))  (hq : pc + 1 = q) (g : Go l Z y code ml ret R Q k n h q Ls (.int (-x) :: st)) : Go l Z y code ml ret R Q k n h pc Ls (.int x :: st) := by
  subst hq; exact g.pure fun p e s m args below meth c K T L k' n' X hT t r => XS.ineg X.here K.1 rfl (hb K.2.1 hd) rfl  r
theorem Go.ladd {x z : Int64} (q : Nat) (hd : decode code pc = .ok (.ladd, 1))  (hq : pc + 1 = q) (g : Go l Z y code ml ret R Q k n h q Ls (.long (x + z) :: st)) : Go l Z y code ml ret R Q k n h pc Ls (.long z :: .long x :: st) := by
  subst hq; exact g.pure fun p e s m args below meth c K T L k' n' X hT t r => XT.ladd X.here K.1 rfl (hb K.2.1 hd) rfl  r
theorem Go.lsub {x z : Int64} (q : Nat) (hd : decode code pc = .ok (.lsub, 1))  (hq : pc + 1 = q) (g : Go l Z y code ml ret R Q k n h q Ls (.long (x - z) :: st)) : Go l Z y code ml ret R Q k n h pc Ls (.long z :: .long x :: st) := by
  subst hq; exact g.pure fun p e s m args below meth c K T L k' n' X hT t r => XT.lsub X.here K.1 rfl (hb K.2.1 hd) rfl  r
theorem Go.lmul {x z : Int64} (q : Nat) (hd : decode code pc = .ok (.lmul, 1))  (hq : pc + 1 = q) (g : Go l Z y code ml ret R Q k n h q Ls (.long (x * z) :: st)) : Go l Z y code ml ret R Q k n h pc Ls (.long z :: .long x :: st) := by
  subst hq; exact g.pure fun p e s m args below meth c K T L k' n' X hT t r => XT.lmul X.here K.1 rfl (hb K.2.1 hd) rfl  r
theorem Go.land {x z : Int64} (q : Nat) (hd : decode code pc = .ok (.land, 1))  (hq : pc + 1 = q) (g : Go l Z y code ml ret R Q k n h q Ls (.long (x &&& z) :: st)) : Go l Z y code ml ret R Q k n h pc Ls (.long z :: .long x :: st) := by
  subst hq; exact g.pure fun p e s m args below meth c K T L k' n' X hT t r => XT.land X.here K.1 rfl (hb K.2.1 hd) rfl  r
theorem Go.lor {x z : Int64} (q : Nat) (hd : decode code pc = .ok (.lor, 1))  (hq : pc + 1 = q) (g : Go l Z y code ml ret R Q k n h q Ls (.long (x ||| z) :: st)) : Go l Z y code ml ret R Q k n h pc Ls (.long z :: .long x :: st) := by
  subst hq; exact g.pure fun p e s m args below meth c K T L k' n' X hT t r => XT.lor X.here K.1 rfl (hb K.2.1 hd) rfl  r
theorem Go.lxor {x z : Int64} (q : Nat) (hd : decode code pc = .ok (.lxor, 1))  (hq : pc + 1 = q) (g : Go l Z y code ml ret R Q k n h q Ls (.long (x ^^^ z) :: st)) : Go l Z y code ml ret R Q k n h pc Ls (.long z :: .long x :: st) := by
  subst hq; exact g.pure fun p e s m args below meth c K T L k' n' X hT t r => XT.lxor X.here K.1 rfl (hb K.2.1 hd) rfl  r
theorem Go.ldiv {x z : Int64} (q : Nat) (hd : decode code pc = .ok (.ldiv, 1)) (hz : z ≠ 0) (hq : pc + 1 = q) (g : Go l Z y code ml ret R Q k n h q Ls (.long (x / z) :: st)) : Go l Z y code ml ret R Q k n h pc Ls (.long z :: .long x :: st) := by
  subst hq; exact g.pure fun p e s m args below meth c K T L k' n' X hT t r => XT.ldiv X.here K.1 rfl (hb K.2.1 hd) rfl hz r
theorem Go.lrem {x z : Int64} (q : Nat) (hd : decode code pc = .ok (.lrem, 1)) (hz : z ≠ 0) (hq : pc + 1 = q) (g : Go l Z y code ml ret R Q k n h q Ls (.long (x - (x / z) * z) :: st)) : Go l Z y code ml ret R Q k n h pc Ls (.long z :: .long x :: st) := by
  subst hq; exact g.pure fun p e s m args below meth c K T L k' n' X hT t r => XT.lrem X.here K.1 rfl (hb K.2.1 hd) rfl hz r
theorem Go.lneg {x : Int64} (q : Nat) (hd : decode code pc = .ok (.lneg, 1))  (hq : pc + 1 = q) (g : Go l Z y code ml ret R Q k n h q Ls (.long (-x) :: st)) : Go l Z y code ml ret R Q k n h pc Ls (.long x :: st) := by
  subst hq; exact g.pure fun p e s m args below meth c K T L k' n' X hT t r => XT.lneg X.here K.1 rfl (hb K.2.1 hd) rfl  r
theorem Go.lshl {x : Int64} {z : Int32} (q : Nat) (hd : decode code pc = .ok (.lshl, 1))  (hq : pc + 1 = q) (g : Go l Z y code ml ret R Q k n h q Ls (.long (x <<< (z.toInt64 &&& 63)) :: st)) : Go l Z y code ml ret R Q k n h pc Ls (.int z :: .long x :: st) := by
  subst hq; exact g.pure fun p e s m args below meth c K T L k' n' X hT t r => XT.lshl X.here K.1 rfl (hb K.2.1 hd) rfl  r
theorem Go.lshr {x : Int64} {z : Int32} (q : Nat) (hd : decode code pc = .ok (.lshr, 1))  (hq : pc + 1 = q) (g : Go l Z y code ml ret R Q k n h q Ls (.long (x >>> (z.toInt64 &&& 63)) :: st)) : Go l Z y code ml ret R Q k n h pc Ls (.int z :: .long x :: st) := by
  subst hq; exact g.pure fun p e s m args below meth c K T L k' n' X hT t r => XT.lshr X.here K.1 rfl (hb K.2.1 hd) rfl  r
theorem Go.lushr {x : Int64} {z : Int32} (q : Nat) (hd : decode code pc = .ok (.lushr, 1))  (hq : pc + 1 = q) (g : Go l Z y code ml ret R Q k n h q Ls (.long (XT.ushrL x z) :: st)) : Go l Z y code ml ret R Q k n h pc Ls (.int z :: .long x :: st) := by
  subst hq; exact g.pure fun p e s m args below meth c K T L k' n' X hT t r => XT.lushr X.here K.1 rfl (hb K.2.1 hd) rfl  r
theorem Go.lcmp {x z : Int64} (q : Nat) (hd : decode code pc = .ok (.lcmp, 1))  (hq : pc + 1 = q) (g : Go l Z y code ml ret R Q k n h q Ls (.int (XT.cmpL x z) :: st)) : Go l Z y code ml ret R Q k n h pc Ls (.long z :: .long x :: st) := by
  subst hq; exact g.pure fun p e s m args below meth c K T L k' n' X hT t r => XT.lcmp X.here K.1 rfl (hb K.2.1 hd) rfl  r
theorem Go.i2l {x : Int32} (q : Nat) (hd : decode code pc = .ok (.i2l, 1))  (hq : pc + 1 = q) (g : Go l Z y code ml ret R Q k n h q Ls (.long x.toInt64 :: st)) : Go l Z y code ml ret R Q k n h pc Ls (.int x :: st) := by
  subst hq; exact g.pure fun p e s m args below meth c K T L k' n' X hT t r => XT.i2l X.here K.1 rfl (hb K.2.1 hd) rfl  r
theorem Go.l2i {x : Int64} (q : Nat) (hd : decode code pc = .ok (.l2i, 1))  (hq : pc + 1 = q) (g : Go l Z y code ml ret R Q k n h q Ls (.int x.toInt32 :: st)) : Go l Z y code ml ret R Q k n h pc Ls (.long x :: st) := by
  subst hq; exact g.pure fun p e s m args below meth c K T L k' n' X hT t r => XT.l2i X.here K.1 rfl (hb K.2.1 hd) rfl  r
theorem Go.i2b {x : Int32} (q : Nat) (hd : decode code pc = .ok (.i2b, 1))  (hq : pc + 1 = q) (g : Go l Z y code ml ret R Q k n h q Ls (.int x.toInt8.toInt32 :: st)) : Go l Z y code ml ret R Q k n h pc Ls (.int x :: st) := by
  subst hq; exact g.pure fun p e s m args below meth c K T L k' n' X hT t r => XT.i2b X.here K.1 rfl (hb K.2.1 hd) rfl  r
theorem Go.i2c {x : Int32} (q : Nat) (hd : decode code pc = .ok (.i2c, 1))  (hq : pc + 1 = q) (g : Go l Z y code ml ret R Q k n h q Ls (.int x.toUInt32.toUInt16.toUInt32.toInt32 :: st)) : Go l Z y code ml ret R Q k n h pc Ls (.int x :: st) := by
  subst hq; exact g.pure fun p e s m args below meth c K T L k' n' X hT t r => XT.i2c X.here K.1 rfl (hb K.2.1 hd) rfl  r
theorem Go.i2s {x : Int32} (q : Nat) (hd : decode code pc = .ok (.i2s, 1))  (hq : pc + 1 = q) (g : Go l Z y code ml ret R Q k n h q Ls (.int x.toInt16.toInt32 :: st)) : Go l Z y code ml ret R Q k n h pc Ls (.int x :: st) := by
  subst hq; exact g.pure fun p e s m args below meth c K T L k' n' X hT t r => XT.i2s X.here K.1 rfl (hb K.2.1 hd) rfl  r
theorem Go.pop {x : Value} (q : Nat) (hd : decode code pc = .ok (.pop, 1)) (hc : x.category = 1) (hq : pc + 1 = q) (g : Go l Z y code ml ret R Q k n h q Ls (st)) : Go l Z y code ml ret R Q k n h pc Ls (x :: st) := by
  subst hq; exact g.pure fun p e s m args below meth c K T L k' n' X hT t r => XT.pop X.here K.1 rfl (hb K.2.1 hd) rfl hc r
theorem Go.dup {x : Value} (q : Nat) (hd : decode code pc = .ok (.dup, 1)) (hc : x.category = 1) (hq : pc + 1 = q) (g : Go l Z y code ml ret R Q k n h q Ls (x :: x :: st)) : Go l Z y code ml ret R Q k n h pc Ls (x :: st) := by
  subst hq; exact g.pure fun p e s m args below meth c K T L k' n' X hT t r => XS.dup X.here K.1 rfl (hb K.2.1 hd) rfl hc r
theorem Go.dupX1 {x z : Value} (q : Nat) (hd : decode code pc = .ok (.dup_x1, 1)) (hc : x.category = 1) (hc' : z.category = 1) (hq : pc + 1 = q) (g : Go l Z y code ml ret R Q k n h q Ls (x :: z :: x :: st)) : Go l Z y code ml ret R Q k n h pc Ls (x :: z :: st) := by
  subst hq; exact g.pure fun p e s m args below meth c K T L k' n' X hT t r => XT.dupX1 X.here K.1 rfl (hb K.2.1 hd) rfl hc hc' r
theorem Go.dup2 {x z : Value} (q : Nat) (hd : decode code pc = .ok (.dup2, 1)) (hc : x.category = 1) (hc' : z.category = 1) (hq : pc + 1 = q) (g : Go l Z y code ml ret R Q k n h q Ls (x :: z :: x :: z :: st)) : Go l Z y code ml ret R Q k n h pc Ls (x :: z :: st) := by
  subst hq; exact g.pure fun p e s m args below meth c K T L k' n' X hT t r => XT.dup2 X.here K.1 rfl (hb K.2.1 hd) rfl hc hc' r
theorem Go.dup2L {x : Int64} (q : Nat) (hd : decode code pc = .ok (.dup2, 1))  (hq : pc + 1 = q) (g : Go l Z y code ml ret R Q k n h q Ls (.long x :: .long x :: st)) : Go l Z y code ml ret R Q k n h pc Ls (.long x :: st) := by
  subst hq; exact g.pure fun p e s m args below meth c K T L k' n' X hT t r => XT.dup2L X.here K.1 rfl (hb K.2.1 hd) rfl  r
theorem Go.iconst {i : Int} (q : Nat) (v : Int32) (hd : decode code pc = .ok (.iconst i, 1)) (hv : Int32.ofInt i = v) (hq : pc + 1 = q) (g : Go l Z y code ml ret R Q k n h q Ls (.int v :: st)) : Go l Z y code ml ret R Q k n h pc Ls st := by
  subst hq; exact g.pure fun p e s m args below meth c K T L k' n' X hT t r => XT.iconstV X.here K.1 rfl v (hb K.2.1 hd) hv r
theorem Go.bipush {i : Int} (q : Nat) (v : Int32) (hd : decode code pc = .ok (.bipush i, 2)) (hv : (Int8.ofInt i).toInt32 = v) (hq : pc + 2 = q) (g : Go l Z y code ml ret R Q k n h q Ls (.int v :: st)) : Go l Z y code ml ret R Q k n h pc Ls st := by
  subst hq; exact g.pure fun p e s m args below meth c K T L k' n' X hT t r => XT.bipushV X.here K.1 rfl v (hb K.2.1 hd) hv r
theorem Go.sipush {i : Int} (q : Nat) (v : Int32) (hd : decode code pc = .ok (.sipush i, 3)) (hv : (Int16.ofInt i).toInt32 = v) (hq : pc + 3 = q) (g : Go l Z y code ml ret R Q k n h q Ls (.int v :: st)) : Go l Z y code ml ret R Q k n h pc Ls st := by
  subst hq; exact g.pure fun p e s m args below meth c K T L k' n' X hT t r => XT.sipushV X.here K.1 rfl v (hb K.2.1 hd) hv r
theorem Go.lconst {i : Fin 2} (q : Nat) (v : Int64) (hd : decode code pc = .ok (.lconst i, 1)) (hv : Int64.ofNat i = v) (hq : pc + 1 = q) (g : Go l Z y code ml ret R Q k n h q Ls (.long v :: st)) : Go l Z y code ml ret R Q k n h pc Ls st := by
  subst hq; exact g.pure fun p e s m args below meth c K T L k' n' X hT t r => XT.lconstV X.here K.1 rfl v (hb K.2.1 hd) hv r
theorem Go.aconst_null (q : Nat) (hd : decode code pc = .ok (.aconst_null, 1)) (hq : pc + 1 = q) (g : Go l Z y code ml ret R Q k n h q Ls (.null :: st)) : Go l Z y code ml ret R Q k n h pc Ls st := by
  subst hq; exact g.pure fun p e s m args below meth c K T L k' n' X hT t r => XS.aconstNull X.here K.1 rfl (hb K.2.1 hd) r
theorem Go.ldc {i : Nat} {v : Int32} (q : Nat) (hd : decode code pc = .ok (.ldc i, 2)) (w : (Cond.constant y.cls i v).before a0 Z = true) (hq : pc + 2 = q) (g : Go l Z y code ml ret R Q k n h q Ls (.int v :: st)) : Go l Z y code ml ret R Q k n h pc Ls st := by
  subst hq; exact g.pure fun p e s m args below meth c K T L k' n' X hT t r => X.ldcI K.1 K.2.2.2.1 (mvT K.2.2.1 w) rfl (hb K.2.1 hd) r
theorem Go.ldc_w {i : Nat} {v : Int32} (q : Nat) (hd : decode code pc = .ok (.ldc_w i, 3)) (w : (Cond.constant y.cls i v).before a0 Z = true) (hq : pc + 3 = q) (g : Go l Z y code ml ret R Q k n h q Ls (.int v :: st)) : Go l Z y code ml ret R Q k n h pc Ls st := by
  subst hq; exact g.pure fun p e s m args below meth c K T L k' n' X hT t r => X.ldcWI K.1 K.2.2.2.1 (mvT K.2.2.1 w) rfl (hb K.2.1 hd) r
theorem Go.ldc2_w {i : Nat} {v : Int64} (q : Nat) (hd : decode code pc = .ok (.ldc2_w i, 3)) (w : (Cond.constantLong y.cls i v).before a0 Z = true) (hq : pc + 3 = q) (g : Go l Z y code ml ret R Q k n h q Ls (.long v :: st)) : Go l Z y code ml ret R Q k n h pc Ls st := by
  subst hq; exact g.pure fun p e s m args below meth c K T L k' n' X hT t r => X.ldc2J K.1 K.2.2.2.1 (mvT K.2.2.1 w) rfl (hb K.2.1 hd) r
theorem Go.iload {i : Nat} {v : Int32} (q : Nat) (hd : decode code pc = .ok (.iload i, 2)) (hl : Ls[i]? = some (.val (.int v))) (hq : pc + 2 = q) (g : Go l Z y code ml ret R Q k n h q Ls (.int v :: st)) : Go l Z y code ml ret R Q k n h pc Ls st := by
  subst hq; exact g.pure fun p e s m args below meth c K T L k' n' X hT t r => XS.iload X.here K.1 rfl (hb K.2.1 hd) hl r
theorem Go.iload_n {i : Fin 4} {v : Int32} (q : Nat) (hd : decode code pc = .ok (.iload_n i, 1)) (hl : Ls[i.val]? = some (.val (.int v))) (hq : pc + 1 = q) (g : Go l Z y code ml ret R Q k n h q Ls (.int v :: st)) : Go l Z y code ml ret R Q k n h pc Ls st := by
  subst hq; exact g.pure fun p e s m args below meth c K T L k' n' X hT t r => XS.iloadN X.here K.1 rfl (hb K.2.1 hd) hl r
theorem Go.lload {i : Nat} {v : Int64} (q : Nat) (hd : decode code pc = .ok (.lload i, 2)) (hl : Ls[i]? = some (.val (.long v))) (hq : pc + 2 = q) (g : Go l Z y code ml ret R Q k n h q Ls (.long v :: st)) : Go l Z y code ml ret R Q k n h pc Ls st := by
  subst hq; exact g.pure fun p e s m args below meth c K T L k' n' X hT t r => XT.lload X.here K.1 rfl (hb K.2.1 hd) hl r
theorem Go.lload_n {i : Fin 4} {v : Int64} (q : Nat) (hd : decode code pc = .ok (.lload_n i, 1)) (hl : Ls[i.val]? = some (.val (.long v))) (hq : pc + 1 = q) (g : Go l Z y code ml ret R Q k n h q Ls (.long v :: st)) : Go l Z y code ml ret R Q k n h pc Ls st := by
  subst hq; exact g.pure fun p e s m args below meth c K T L k' n' X hT t r => XT.lloadN X.here K.1 rfl (hb K.2.1 hd) hl r
theorem Go.aload {i : Nat} {v : Value} (q : Nat) (hd : decode code pc = .ok (.aload i, 2)) (hl : Ls[i]? = some (.val v)) (hv : v.isRef = true) (hq : pc + 2 = q) (g : Go l Z y code ml ret R Q k n h q Ls (v :: st)) : Go l Z y code ml ret R Q k n h pc Ls st := by
  subst hq; exact g.pure fun p e s m args below meth c K T L k' n' X hT t r => XS.aload X.here K.1 rfl (hb K.2.1 hd) hl hv r
theorem Go.aload_n {i : Fin 4} {v : Value} (q : Nat) (hd : decode code pc = .ok (.aload_n i, 1)) (hl : Ls[i.val]? = some (.val v)) (hv : v.isRef = true) (hq : pc + 1 = q) (g : Go l Z y code ml ret R Q k n h q Ls (v :: st)) : Go l Z y code ml ret R Q k n h pc Ls st := by
  subst hq; exact g.pure fun p e s m args below meth c K T L k' n' X hT t r => XS.aloadN X.here K.1 rfl (hb K.2.1 hd) hl hv r
theorem Go.istore {i : Nat} {v : Int32} (q : Nat) (Ls' : Array Slot) (hd : decode code pc = .ok (.istore i, 2)) (hl : storeLocals Ls i (.int v) = some Ls') (hq : pc + 2 = q) (g : Go l Z y code ml ret R Q k n h q Ls' st) : Go l Z y code ml ret R Q k n h pc Ls (.int v :: st) := by
  subst hq; exact g.pure fun p e s m args below meth c K T L k' n' X hT t r => XS.istore X.here K.1 rfl (hb K.2.1 hd) rfl hl r
theorem Go.istore_n {i : Fin 4} {v : Int32} (q : Nat) (Ls' : Array Slot) (hd : decode code pc = .ok (.istore_n i, 1)) (hl : storeLocals Ls i.val (.int v) = some Ls') (hq : pc + 1 = q) (g : Go l Z y code ml ret R Q k n h q Ls' st) : Go l Z y code ml ret R Q k n h pc Ls (.int v :: st) := by
  subst hq; exact g.pure fun p e s m args below meth c K T L k' n' X hT t r => XS.istoreN X.here K.1 rfl (hb K.2.1 hd) rfl hl r
theorem Go.lstore {i : Nat} {v : Int64} (q : Nat) (Ls' : Array Slot) (hd : decode code pc = .ok (.lstore i, 2)) (hl : storeLocals Ls i (.long v) = some Ls') (hq : pc + 2 = q) (g : Go l Z y code ml ret R Q k n h q Ls' st) : Go l Z y code ml ret R Q k n h pc Ls (.long v :: st) := by
  subst hq; exact g.pure fun p e s m args below meth c K T L k' n' X hT t r => XT.lstore X.here K.1 rfl (hb K.2.1 hd) rfl hl r
theorem Go.lstore_n {i : Fin 4} {v : Int64} (q : Nat) (Ls' : Array Slot) (hd : decode code pc = .ok (.lstore_n i, 1)) (hl : storeLocals Ls i.val (.long v) = some Ls') (hq : pc + 1 = q) (g : Go l Z y code ml ret R Q k n h q Ls' st) : Go l Z y code ml ret R Q k n h pc Ls (.long v :: st) := by
  subst hq; exact g.pure fun p e s m args below meth c K T L k' n' X hT t r => XT.lstoreN X.here K.1 rfl (hb K.2.1 hd) rfl hl r
theorem Go.astore {i : Nat} {v : Value} (q : Nat) (Ls' : Array Slot) (hd : decode code pc = .ok (.astore i, 2)) (hv : v.isRef = true) (hl : storeLocals Ls i v = some Ls') (hq : pc + 2 = q) (g : Go l Z y code ml ret R Q k n h q Ls' st) : Go l Z y code ml ret R Q k n h pc Ls (v :: st) := by
  subst hq; exact g.pure fun p e s m args below meth c K T L k' n' X hT t r => XS.astore X.here K.1 rfl (hb K.2.1 hd) rfl hv hl r
theorem Go.astore_n {i : Fin 4} {v : Value} (q : Nat) (Ls' : Array Slot) (hd : decode code pc = .ok (.astore_n i, 1)) (hv : v.isRef = true) (hl : storeLocals Ls i.val v = some Ls') (hq : pc + 1 = q) (g : Go l Z y code ml ret R Q k n h q Ls' st) : Go l Z y code ml ret R Q k n h pc Ls (v :: st) := by
  subst hq; exact g.pure fun p e s m args below meth c K T L k' n' X hT t r => XS.astoreN X.here K.1 rfl (hb K.2.1 hd) rfl hv hl r
theorem Go.iinc {i : Nat} {cst : Int} {x : Int32} (q : Nat) (v : Int32) (Ls' : Array Slot) (hd : decode code pc = .ok (.iinc i cst, 3)) (hv : Int32.ofInt cst = v) (hl : Ls[i]? = some (.val (.int x))) (hl' : storeLocals Ls i (.int (x + v)) = some Ls') (hq : pc + 3 = q) (g : Go l Z y code ml ret R Q k n h q Ls' st) : Go l Z y code ml ret R Q k n h pc Ls st := by
  subst hq; exact g.pure fun p e s m args below meth c K T L k' n' X hT t r => XT.iincV X.here K.1 rfl v (hb K.2.1 hd) hv hl hl' r
theorem Go.goto {o : Int} (q : Nat) (hd : decode code pc = .ok (.goto o, 3)) (ho : 0 ≤ (pc : Int) + o) (hq : ((pc : Int) + o).toNat = q) (g : Go l Z y code ml ret R Q k n h q Ls st) : Go l Z y code ml ret R Q k n h pc Ls st :=
  g.pure fun p e s m args below meth c K T L k' n' X hT t r => XS.goto X.here K.1 rfl rfl (hb K.2.1 hd) ho hq r
theorem Go.icmp_eq {o : Int} {x z : Int32} (q1 q2 : Nat) (hd : decode code pc = .ok (.if_icmp .eq o, 3)) (ho : 0 ≤ (pc : Int) + o) (h1 : ((pc : Int) + o).toNat = q1) (h2 : pc + 3 = q2) (g1 : x = z → Go l Z y code ml ret R Q k n h q1 Ls st) (g2 : ¬ x = z → Go l Z y code ml ret R Q k n h q2 Ls st) : Go l Z y code ml ret R Q k n h pc Ls (.int z :: .int x :: st) := by
  subst h2
  by_cases hc : x = z
  · exact (g1 hc).pure fun p e s m args below meth c K T L k' n' X hT t r => XS.icmpYes X.here K.1 rfl rfl (hb K.2.1 hd) rfl (XT.ii_eq_t hc) ho h1 r
  · exact (g2 (by first | exact hc | exact Decidable.not_not.mp hc)).pure fun p e s m args below meth c K T L k' n' X hT t r => XS.icmpNo X.here K.1 rfl (hb K.2.1 hd) rfl (XT.ii_eq_f (by first | exact hc | exact Decidable.not_not.mp hc)) r
theorem Go.lcmp_eq {o : Int} {x z : Int64} (q1 q2 : Nat) (hd : decode code pc = .ok (.ifCond .eq o, 3)) (ho : 0 ≤ (pc : Int) + o) (h1 : ((pc : Int) + o).toNat = q1) (h2 : pc + 3 = q2) (g1 : x = z → Go l Z y code ml ret R Q k n h q1 Ls st) (g2 : ¬ x = z → Go l Z y code ml ret R Q k n h q2 Ls st) : Go l Z y code ml ret R Q k n h pc Ls (.int (XT.cmpL x z) :: st) := by
  subst h2
  by_cases hc : x = z
  · exact (g1 hc).pure fun p e s m args below meth c K T L k' n' X hT t r => XS.ifYes X.here K.1 rfl rfl (hb K.2.1 hd) rfl (XT.ll_eq_t hc) ho h1 r
  · exact (g2 (by first | exact hc | exact Decidable.not_not.mp hc)).pure fun p e s m args below meth c K T L k' n' X hT t r => XS.ifNo X.here K.1 rfl (hb K.2.1 hd) rfl (XT.ll_eq_f (by first | exact hc | exact Decidable.not_not.mp hc)) r
theorem Go.icmp_ne {o : Int} {x z : Int32} (q1 q2 : Nat) (hd : decode code pc = .ok (.if_icmp .ne o, 3)) (ho : 0 ≤ (pc : Int) + o) (h1 : ((pc : Int) + o).toNat = q1) (h2 : pc + 3 = q2) (g1 : ¬ x = z → Go l Z y code ml ret R Q k n h q1 Ls st) (g2 : x = z → Go l Z y code ml ret R Q k n h q2 Ls st) : Go l Z y code ml ret R Q k n h pc Ls (.int z :: .int x :: st) := by
  subst h2
  by_cases hc : ¬ x = z
  · exact (g1 hc).pure fun p e s m args below meth c K T L k' n' X hT t r => XS.icmpYes X.here K.1 rfl rfl (hb K.2.1 hd) rfl (XT.ii_ne_t hc) ho h1 r
  · exact (g2 (by first | exact hc | exact Decidable.not_not.mp hc)).pure fun p e s m args below meth c K T L k' n' X hT t r => XS.icmpNo X.here K.1 rfl (hb K.2.1 hd) rfl (XT.ii_ne_f (by first | exact hc | exact Decidable.not_not.mp hc)) r
theorem Go.lcmp_ne {o : Int} {x z : Int64} (q1 q2 : Nat) (hd : decode code pc = .ok (.ifCond .ne o, 3)) (ho : 0 ≤ (pc : Int) + o) (h1 : ((pc : Int) + o).toNat = q1) (h2 : pc + 3 = q2) (g1 : ¬ x = z → Go l Z y code ml ret R Q k n h q1 Ls st) (g2 : x = z → Go l Z y code ml ret R Q k n h q2 Ls st) : Go l Z y code ml ret R Q k n h pc Ls (.int (XT.cmpL x z) :: st) := by
  subst h2
  by_cases hc : ¬ x = z
  · exact (g1 hc).pure fun p e s m args below meth c K T L k' n' X hT t r => XS.ifYes X.here K.1 rfl rfl (hb K.2.1 hd) rfl (XT.ll_ne_t hc) ho h1 r
  · exact (g2 (by first | exact hc | exact Decidable.not_not.mp hc)).pure fun p e s m args below meth c K T L k' n' X hT t r => XS.ifNo X.here K.1 rfl (hb K.2.1 hd) rfl (XT.ll_ne_f (by first | exact hc | exact Decidable.not_not.mp hc)) r
theorem Go.icmp_lt {o : Int} {x z : Int32} (q1 q2 : Nat) (hd : decode code pc = .ok (.if_icmp .lt o, 3)) (ho : 0 ≤ (pc : Int) + o) (h1 : ((pc : Int) + o).toNat = q1) (h2 : pc + 3 = q2) (g1 : x < z → Go l Z y code ml ret R Q k n h q1 Ls st) (g2 : ¬ x < z → Go l Z y code ml ret R Q k n h q2 Ls st) : Go l Z y code ml ret R Q k n h pc Ls (.int z :: .int x :: st) := by
  subst h2
  by_cases hc : x < z
  · exact (g1 hc).pure fun p e s m args below meth c K T L k' n' X hT t r => XS.icmpYes X.here K.1 rfl rfl (hb K.2.1 hd) rfl (XT.ii_lt_t hc) ho h1 r
  · exact (g2 (by first | exact hc | exact Decidable.not_not.mp hc)).pure fun p e s m args below meth c K T L k' n' X hT t r => XS.icmpNo X.here K.1 rfl (hb K.2.1 hd) rfl (XT.ii_lt_f (by first | exact hc | exact Decidable.not_not.mp hc)) r
theorem Go.lcmp_lt {o : Int} {x z : Int64} (q1 q2 : Nat) (hd : decode code pc = .ok (.ifCond .lt o, 3)) (ho : 0 ≤ (pc : Int) + o) (h1 : ((pc : Int) + o).toNat = q1) (h2 : pc + 3 = q2) (g1 : x < z → Go l Z y code ml ret R Q k n h q1 Ls st) (g2 : ¬ x < z → Go l Z y code ml ret R Q k n h q2 Ls st) : Go l Z y code ml ret R Q k n h pc Ls (.int (XT.cmpL x z) :: st) := by
  subst h2
  by_cases hc : x < z
  · exact (g1 hc).pure fun p e s m args below meth c K T L k' n' X hT t r => XS.ifYes X.here K.1 rfl rfl (hb K.2.1 hd) rfl (XT.ll_lt_t hc) ho h1 r
  · exact (g2 (by first | exact hc | exact Decidable.not_not.mp hc)).pure fun p e s m args below meth c K T L k' n' X hT t r => XS.ifNo X.here K.1 rfl (hb K.2.1 hd) rfl (XT.ll_lt_f (by first | exact hc | exact Decidable.not_not.mp hc)) r
theorem Go.icmp_ge {o : Int} {x z : Int32} (q1 q2 : Nat) (hd : decode code pc = .ok (.if_icmp .ge o, 3)) (ho : 0 ≤ (pc : Int) + o) (h1 : ((pc : Int) + o).toNat = q1) (h2 : pc + 3 = q2) (g1 : ¬ x < z → Go l Z y code ml ret R Q k n h q1 Ls st) (g2 : x < z → Go l Z y code ml ret R Q k n h q2 Ls st) : Go l Z y code ml ret R Q k n h pc Ls (.int z :: .int x :: st) := by
  subst h2
  by_cases hc : ¬ x < z
  · exact (g1 hc).pure fun p e s m args below meth c K T L k' n' X hT t r => XS.icmpYes X.here K.1 rfl rfl (hb K.2.1 hd) rfl (XT.ii_ge_t hc) ho h1 r
  · exact (g2 (by first | exact hc | exact Decidable.not_not.mp hc)).pure fun p e s m args below meth c K T L k' n' X hT t r => XS.icmpNo X.here K.1 rfl (hb K.2.1 hd) rfl (XT.ii_ge_f (by first | exact hc | exact Decidable.not_not.mp hc)) r
theorem Go.lcmp_ge {o : Int} {x z : Int64} (q1 q2 : Nat) (hd : decode code pc = .ok (.ifCond .ge o, 3)) (ho : 0 ≤ (pc : Int) + o) (h1 : ((pc : Int) + o).toNat = q1) (h2 : pc + 3 = q2) (g1 : ¬ x < z → Go l Z y code ml ret R Q k n h q1 Ls st) (g2 : x < z → Go l Z y code ml ret R Q k n h q2 Ls st) : Go l Z y code ml ret R Q k n h pc Ls (.int (XT.cmpL x z) :: st) := by
  subst h2
  by_cases hc : ¬ x < z
  · exact (g1 hc).pure fun p e s m args below meth c K T L k' n' X hT t r => XS.ifYes X.here K.1 rfl rfl (hb K.2.1 hd) rfl (XT.ll_ge_t hc) ho h1 r
  · exact (g2 (by first | exact hc | exact Decidable.not_not.mp hc)).pure fun p e s m args below meth c K T L k' n' X hT t r => XS.ifNo X.here K.1 rfl (hb K.2.1 hd) rfl (XT.ll_ge_f (by first | exact hc | exact Decidable.not_not.mp hc)) r
theorem Go.icmp_gt {o : Int} {x z : Int32} (q1 q2 : Nat) (hd : decode code pc = .ok (.if_icmp .gt o, 3)) (ho : 0 ≤ (pc : Int) + o) (h1 : ((pc : Int) + o).toNat = q1) (h2 : pc + 3 = q2) (g1 : z < x → Go l Z y code ml ret R Q k n h q1 Ls st) (g2 : ¬ z < x → Go l Z y code ml ret R Q k n h q2 Ls st) : Go l Z y code ml ret R Q k n h pc Ls (.int z :: .int x :: st) := by
  subst h2
  by_cases hc : z < x
  · exact (g1 hc).pure fun p e s m args below meth c K T L k' n' X hT t r => XS.icmpYes X.here K.1 rfl rfl (hb K.2.1 hd) rfl (XT.ii_gt_t hc) ho h1 r
  · exact (g2 (by first | exact hc | exact Decidable.not_not.mp hc)).pure fun p e s m args below meth c K T L k' n' X hT t r => XS.icmpNo X.here K.1 rfl (hb K.2.1 hd) rfl (XT.ii_gt_f (by first | exact hc | exact Decidable.not_not.mp hc)) r
theorem Go.lcmp_gt {o : Int} {x z : Int64} (q1 q2 : Nat) (hd : decode code pc = .ok (.ifCond .gt o, 3)) (ho : 0 ≤ (pc : Int) + o) (h1 : ((pc : Int) + o).toNat = q1) (h2 : pc + 3 = q2) (g1 : z < x → Go l Z y code ml ret R Q k n h q1 Ls st) (g2 : ¬ z < x → Go l Z y code ml ret R Q k n h q2 Ls st) : Go l Z y code ml ret R Q k n h pc Ls (.int (XT.cmpL x z) :: st) := by
  subst h2
  by_cases hc : z < x
  · exact (g1 hc).pure fun p e s m args below meth c K T L k' n' X hT t r => XS.ifYes X.here K.1 rfl rfl (hb K.2.1 hd) rfl (XT.ll_gt_t hc) ho h1 r
  · exact (g2 (by first | exact hc | exact Decidable.not_not.mp hc)).pure fun p e s m args below meth c K T L k' n' X hT t r => XS.ifNo X.here K.1 rfl (hb K.2.1 hd) rfl (XT.ll_gt_f (by first | exact hc | exact Decidable.not_not.mp hc)) r
theorem Go.icmp_le {o : Int} {x z : Int32} (q1 q2 : Nat) (hd : decode code pc = .ok (.if_icmp .le o, 3)) (ho : 0 ≤ (pc : Int) + o) (h1 : ((pc : Int) + o).toNat = q1) (h2 : pc + 3 = q2) (g1 : ¬ z < x → Go l Z y code ml ret R Q k n h q1 Ls st) (g2 : z < x → Go l Z y code ml ret R Q k n h q2 Ls st) : Go l Z y code ml ret R Q k n h pc Ls (.int z :: .int x :: st) := by
  subst h2
  by_cases hc : ¬ z < x
  · exact (g1 hc).pure fun p e s m args below meth c K T L k' n' X hT t r => XS.icmpYes X.here K.1 rfl rfl (hb K.2.1 hd) rfl (XT.ii_le_t hc) ho h1 r
  · exact (g2 (by first | exact hc | exact Decidable.not_not.mp hc)).pure fun p e s m args below meth c K T L k' n' X hT t r => XS.icmpNo X.here K.1 rfl (hb K.2.1 hd) rfl (XT.ii_le_f (by first | exact hc | exact Decidable.not_not.mp hc)) r
theorem Go.lcmp_le {o : Int} {x z : Int64} (q1 q2 : Nat) (hd : decode code pc = .ok (.ifCond .le o, 3)) (ho : 0 ≤ (pc : Int) + o) (h1 : ((pc : Int) + o).toNat = q1) (h2 : pc + 3 = q2) (g1 : ¬ z < x → Go l Z y code ml ret R Q k n h q1 Ls st) (g2 : z < x → Go l Z y code ml ret R Q k n h q2 Ls st) : Go l Z y code ml ret R Q k n h pc Ls (.int (XT.cmpL x z) :: st) := by
  subst h2
  by_cases hc : ¬ z < x
  · exact (g1 hc).pure fun p e s m args below meth c K T L k' n' X hT t r => XS.ifYes X.here K.1 rfl rfl (hb K.2.1 hd) rfl (XT.ll_le_t hc) ho h1 r
  · exact (g2 (by first | exact hc | exact Decidable.not_not.mp hc)).pure fun p e s m args below meth c K T L k' n' X hT t r => XS.ifNo X.here K.1 rfl (hb K.2.1 hd) rfl (XT.ll_le_f (by first | exact hc | exact Decidable.not_not.mp hc)) r
theorem if0_eq_t {x : Int32} (h : x = 0) : ifCond.holds .eq x = true := by
  have e : ifCond.holds .eq x = if_icmp.holds .eq x 0 := rfl
  rw [e]; exact XT.ii_eq_t h
theorem if0_eq_f {x : Int32} (h : ¬ x = 0) : ifCond.holds .eq x = false := by
  have e : ifCond.holds .eq x = if_icmp.holds .eq x 0 := rfl
  rw [e]; exact XT.ii_eq_f h
theorem Go.if_eq {o : Int} {x : Int32} (q1 q2 : Nat) (hd : decode code pc = .ok (.ifCond .eq o, 3)) (ho : 0 ≤ (pc : Int) + o) (h1 : ((pc : Int) + o).toNat = q1) (h2 : pc + 3 = q2) (g1 : x = 0 → Go l Z y code ml ret R Q k n h q1 Ls st) (g2 : ¬ x = 0 → Go l Z y code ml ret R Q k n h q2 Ls st) : Go l Z y code ml ret R Q k n h pc Ls (.int x :: st) := by
  subst h2
  by_cases hc : x = 0
  · exact (g1 hc).pure fun p e s m args below meth c K T L k' n' X hT t r => XS.ifYes X.here K.1 rfl rfl (hb K.2.1 hd) rfl (if0_eq_t hc) ho h1 r
  · exact (g2 (by first | exact hc | exact Decidable.not_not.mp hc)).pure fun p e s m args below meth c K T L k' n' X hT t r => XS.ifNo X.here K.1 rfl (hb K.2.1 hd) rfl (if0_eq_f (by first | exact hc | exact Decidable.not_not.mp hc)) r
theorem if0_ne_t {x : Int32} (h : ¬ x = 0) : ifCond.holds .ne x = true := by
  have e : ifCond.holds .ne x = if_icmp.holds .ne x 0 := rfl
  rw [e]; exact XT.ii_ne_t h
theorem if0_ne_f {x : Int32} (h : x = 0) : ifCond.holds .ne x = false := by
  have e : ifCond.holds .ne x = if_icmp.holds .ne x 0 := rfl
  rw [e]; exact XT.ii_ne_f h
theorem Go.if_ne {o : Int} {x : Int32} (q1 q2 : Nat) (hd : decode code pc = .ok (.ifCond .ne o, 3)) (ho : 0 ≤ (pc : Int) + o) (h1 : ((pc : Int) + o).toNat = q1) (h2 : pc + 3 = q2) (g1 : ¬ x = 0 → Go l Z y code ml ret R Q k n h q1 Ls st) (g2 : x = 0 → Go l Z y code ml ret R Q k n h q2 Ls st) : Go l Z y code ml ret R Q k n h pc Ls (.int x :: st) := by
  subst h2
  by_cases hc : ¬ x = 0
  · exact (g1 hc).pure fun p e s m args below meth c K T L k' n' X hT t r => XS.ifYes X.here K.1 rfl rfl (hb K.2.1 hd) rfl (if0_ne_t hc) ho h1 r
  · exact (g2 (by first | exact hc | exact Decidable.not_not.mp hc)).pure fun p e s m args below meth c K T L k' n' X hT t r => XS.ifNo X.here K.1 rfl (hb K.2.1 hd) rfl (if0_ne_f (by first | exact hc | exact Decidable.not_not.mp hc)) r
theorem if0_lt_t {x : Int32} (h : x < 0) : ifCond.holds .lt x = true := by
  have e : ifCond.holds .lt x = if_icmp.holds .lt x 0 := rfl
  rw [e]; exact XT.ii_lt_t h
theorem if0_lt_f {x : Int32} (h : ¬ x < 0) : ifCond.holds .lt x = false := by
  have e : ifCond.holds .lt x = if_icmp.holds .lt x 0 := rfl
  rw [e]; exact XT.ii_lt_f h
theorem Go.if_lt {o : Int} {x : Int32} (q1 q2 : Nat) (hd : decode code pc = .ok (.ifCond .lt o, 3)) (ho : 0 ≤ (pc : Int) + o) (h1 : ((pc : Int) + o).toNat = q1) (h2 : pc + 3 = q2) (g1 : x < 0 → Go l Z y code ml ret R Q k n h q1 Ls st) (g2 : ¬ x < 0 → Go l Z y code ml ret R Q k n h q2 Ls st) : Go l Z y code ml ret R Q k n h pc Ls (.int x :: st) := by
  subst h2
  by_cases hc : x < 0
  · exact (g1 hc).pure fun p e s m args below meth c K T L k' n' X hT t r => XS.ifYes X.here K.1 rfl rfl (hb K.2.1 hd) rfl (if0_lt_t hc) ho h1 r
  · exact (g2 (by first | exact hc | exact Decidable.not_not.mp hc)).pure fun p e s m args below meth c K T L k' n' X hT t r => XS.ifNo X.here K.1 rfl (hb K.2.1 hd) rfl (if0_lt_f (by first | exact hc | exact Decidable.not_not.mp hc)) r
theorem if0_ge_t {x : Int32} (h : ¬ x < 0) : ifCond.holds .ge x = true := by
  have e : ifCond.holds .ge x = if_icmp.holds .ge x 0 := rfl
  rw [e]; exact XT.ii_ge_t h
theorem if0_ge_f {x : Int32} (h : x < 0) : ifCond.holds .ge x = false := by
  have e : ifCond.holds .ge x = if_icmp.holds .ge x 0 := rfl
  rw [e]; exact XT.ii_ge_f h
theorem Go.if_ge {o : Int} {x : Int32} (q1 q2 : Nat) (hd : decode code pc = .ok (.ifCond .ge o, 3)) (ho : 0 ≤ (pc : Int) + o) (h1 : ((pc : Int) + o).toNat = q1) (h2 : pc + 3 = q2) (g1 : ¬ x < 0 → Go l Z y code ml ret R Q k n h q1 Ls st) (g2 : x < 0 → Go l Z y code ml ret R Q k n h q2 Ls st) : Go l Z y code ml ret R Q k n h pc Ls (.int x :: st) := by
  subst h2
  by_cases hc : ¬ x < 0
  · exact (g1 hc).pure fun p e s m args below meth c K T L k' n' X hT t r => XS.ifYes X.here K.1 rfl rfl (hb K.2.1 hd) rfl (if0_ge_t hc) ho h1 r
  · exact (g2 (by first | exact hc | exact Decidable.not_not.mp hc)).pure fun p e s m args below meth c K T L k' n' X hT t r => XS.ifNo X.here K.1 rfl (hb K.2.1 hd) rfl (if0_ge_f (by first | exact hc | exact Decidable.not_not.mp hc)) r
theorem if0_gt_t {x : Int32} (h : 0 < x) : ifCond.holds .gt x = true := by
  have e : ifCond.holds .gt x = if_icmp.holds .gt x 0 := rfl
  rw [e]; exact XT.ii_gt_t h
theorem if0_gt_f {x : Int32} (h : ¬ 0 < x) : ifCond.holds .gt x = false := by
  have e : ifCond.holds .gt x = if_icmp.holds .gt x 0 := rfl
  rw [e]; exact XT.ii_gt_f h
theorem Go.if_gt {o : Int} {x : Int32} (q1 q2 : Nat) (hd : decode code pc = .ok (.ifCond .gt o, 3)) (ho : 0 ≤ (pc : Int) + o) (h1 : ((pc : Int) + o).toNat = q1) (h2 : pc + 3 = q2) (g1 : 0 < x → Go l Z y code ml ret R Q k n h q1 Ls st) (g2 : ¬ 0 < x → Go l Z y code ml ret R Q k n h q2 Ls st) : Go l Z y code ml ret R Q k n h pc Ls (.int x :: st) := by
  subst h2
  by_cases hc : 0 < x
  · exact (g1 hc).pure fun p e s m args below meth c K T L k' n' X hT t r => XS.ifYes X.here K.1 rfl rfl (hb K.2.1 hd) rfl (if0_gt_t hc) ho h1 r
  · exact (g2 (by first | exact hc | exact Decidable.not_not.mp hc)).pure fun p e s m args below meth c K T L k' n' X hT t r => XS.ifNo X.here K.1 rfl (hb K.2.1 hd) rfl (if0_gt_f (by first | exact hc | exact Decidable.not_not.mp hc)) r
theorem if0_le_t {x : Int32} (h : ¬ 0 < x) : ifCond.holds .le x = true := by
  have e : ifCond.holds .le x = if_icmp.holds .le x 0 := rfl
  rw [e]; exact XT.ii_le_t h
theorem if0_le_f {x : Int32} (h : 0 < x) : ifCond.holds .le x = false := by
  have e : ifCond.holds .le x = if_icmp.holds .le x 0 := rfl
  rw [e]; exact XT.ii_le_f h
theorem Go.if_le {o : Int} {x : Int32} (q1 q2 : Nat) (hd : decode code pc = .ok (.ifCond .le o, 3)) (ho : 0 ≤ (pc : Int) + o) (h1 : ((pc : Int) + o).toNat = q1) (h2 : pc + 3 = q2) (g1 : ¬ 0 < x → Go l Z y code ml ret R Q k n h q1 Ls st) (g2 : 0 < x → Go l Z y code ml ret R Q k n h q2 Ls st) : Go l Z y code ml ret R Q k n h pc Ls (.int x :: st) := by
  subst h2
  by_cases hc : ¬ 0 < x
  · exact (g1 hc).pure fun p e s m args below meth c K T L k' n' X hT t r => XS.ifYes X.here K.1 rfl rfl (hb K.2.1 hd) rfl (if0_le_t hc) ho h1 r
  · exact (g2 (by first | exact hc | exact Decidable.not_not.mp hc)).pure fun p e s m args below meth c K T L k' n' X hT t r => XS.ifNo X.here K.1 rfl (hb K.2.1 hd) rfl (if0_le_f (by first | exact hc | exact Decidable.not_not.mp hc)) r
theorem Go.ifnull_no {o : Int} {b : Addr} (q : Nat) (hd : decode code pc = .ok (.ifnull o, 3)) (hq : pc + 3 = q) (g : Go l Z y code ml ret R Q k n h q Ls st) : Go l Z y code ml ret R Q k n h pc Ls (.ref b :: st) := by
  subst hq; exact g.pure fun p e s m args below meth c K T L k' n' X hT t r => XS.ifnullNo X.here K.1 rfl (hb K.2.1 hd) rfl r
theorem Go.ifnull_yes {o : Int} (q : Nat) (hd : decode code pc = .ok (.ifnull o, 3)) (ho : 0 ≤ (pc : Int) + o) (hq : ((pc : Int) + o).toNat = q) (g : Go l Z y code ml ret R Q k n h q Ls st) : Go l Z y code ml ret R Q k n h pc Ls (.null :: st) :=
  g.pure fun p e s m args below meth c K T L k' n' X hT t r => XS.ifnullYes X.here K.1 rfl rfl (hb K.2.1 hd) rfl ho hq r
theorem Go.ifnonnull_yes {o : Int} {b : Addr} (q : Nat) (hd : decode code pc = .ok (.ifnonnull o, 3)) (ho : 0 ≤ (pc : Int) + o) (hq : ((pc : Int) + o).toNat = q) (g : Go l Z y code ml ret R Q k n h q Ls st) : Go l Z y code ml ret R Q k n h pc Ls (.ref b :: st) :=
  g.pure fun p e s m args below meth c K T L k' n' X hT t r => XT.ifnonnullYes X.here K.1 rfl rfl (hb K.2.1 hd) rfl ho hq r
theorem Go.ifnonnull_no {o : Int} (q : Nat) (hd : decode code pc = .ok (.ifnonnull o, 3)) (hq : pc + 3 = q) (g : Go l Z y code ml ret R Q k n h q Ls st) : Go l Z y code ml ret R Q k n h pc Ls (.null :: st) := by
  subst hq; exact g.pure fun p e s m args below meth c K T L k' n' X hT t r => XT.ifnonnullNo X.here K.1 rfl (hb K.2.1 hd) rfl r
theorem Go.acmp {cd : ACond} {o : Int} {x z : Value} (q : Nat) (same : Bool) (hd : decode code pc = .ok (.if_acmp cd o, 3)) (h1 : x.isRef = true) (h2 : z.isRef = true) (hs : decide (x = z) = same) (ho : 0 ≤ (pc : Int) + o) (hq : q = if acV cd same = true then ((pc : Int) + o).toNat else pc + 3) (g : Go l Z y code ml ret R Q k n h q Ls st) : Go l Z y code ml ret R Q k n h pc Ls (z :: x :: st) :=
  g.pure fun p e s m args below meth c K T L k' n' X hT t r => Jvm.RoadKit.acmp X K.1 rfl h1 h2 rfl (hb K.2.1 hd) rfl hs ho hq r
theorem Go.acmp_eq {o : Int} {x z : Addr} (q1 q2 : Nat) (hd : decode code pc = .ok (.if_acmp .eq o, 3)) (ho : 0 ≤ (pc : Int) + o) (h1 : ((pc : Int) + o).toNat = q1) (h2 : pc + 3 = q2) (g1 : x = z → Go l Z y code ml ret R Q k n h q1 Ls st) (g2 : ¬ x = z → Go l Z y code ml ret R Q k n h q2 Ls st) : Go l Z y code ml ret R Q k n h pc Ls (.ref z :: .ref x :: st) := by
  subst h1 h2
  by_cases hc : x = z
  · exact Go.acmp _ true hd rfl rfl (by simp [hc]) ho rfl (by simpa [acV] using g1 hc)
  · exact Go.acmp _ false hd rfl rfl (by simp [hc]) ho rfl (by simpa [acV] using g2 hc)
theorem Go.acmp_ne {o : Int} {x z : Addr} (q1 q2 : Nat) (hd : decode code pc = .ok (.if_acmp .ne o, 3)) (ho : 0 ≤ (pc : Int) + o) (h1 : ((pc : Int) + o).toNat = q1) (h2 : pc + 3 = q2) (g1 : ¬ x = z → Go l Z y code ml ret R Q k n h q1 Ls st) (g2 : x = z → Go l Z y code ml ret R Q k n h q2 Ls st) : Go l Z y code ml ret R Q k n h pc Ls (.ref z :: .ref x :: st) := by
  subst h1 h2
  by_cases hc : x = z
  · exact Go.acmp _ true hd rfl rfl (by simp [hc]) ho rfl (by simpa [acV] using g2 hc)
  · exact Go.acmp _ false hd rfl rfl (by simp [hc]) ho rfl (by simpa [acV] using g1 hc)

theorem Go.retV {w : Value} {t : FieldType} {i : Instr} (hd : decode code pc = .ok (i, 1)) (hret : ret = some t) (hn : narrow t w = w)
    (hi : (i = .ireturn ∧ (t = .int ∨ t = .boolean ∨ t = .byte ∨ t = .char ∨ t = .short) ∧ ∃ z, w = .int z) ∨ (i = .lreturn ∧ t = .long ∧ ∃ z, w = .long z) ∨ (i = .dreturn ∧ t = .double ∧ ∃ z, w = .double z) ∨ (i = .freturn ∧ t = .float ∧ ∃ z, w = .float z) ∨ (i = .areturn ∧ t.isReference = true ∧ w.isRef = true))
    (hk : k ≤ R.cells) (hN : n ≤ R.slots) (hQ : Q (some w) h) : Go l Z y code ml ret R Q k n h pc Ls (w :: st) := by
  intro p e s m args below meth c K T L k' n' X h1 h2 N hT
  refine ⟨some w, T, L, k', n', X, Nat.le_trans h1 hk, Nat.le_trans h2 hN, N, hT ▸ hQ, fun e => ?_, fun fs hl => ?_⟩
  · rw [hret] at e; cases e
  · exact retOut X K.1 (K.2.2.2.2.2.1.trans hret) hn hi (hb K.2.1 hd) hl
theorem Go.ireturn {z : Int32} {P : Int32 → Heap → Prop} (hd : decode code pc = .ok (.ireturn, 1)) (hret : ret = some .int) (hk : k ≤ R.cells) (hN : n ≤ R.slots) (hP : P z h) : Go l Z y code ml ret R (QI P) k n h pc Ls (.int z :: st) :=
  Go.retV hd hret rfl (Or.inl ⟨rfl, Or.inl rfl, z, rfl⟩) hk hN ⟨z, rfl, hP⟩
theorem Go.lreturn {z : Int64} {P : Int64 → Heap → Prop} (hd : decode code pc = .ok (.lreturn, 1)) (hret : ret = some .long) (hk : k ≤ R.cells) (hN : n ≤ R.slots) (hP : P z h) : Go l Z y code ml ret R (QJ P) k n h pc Ls (.long z :: st) :=
  Go.retV hd hret rfl (Or.inr (Or.inl ⟨rfl, rfl, z, rfl⟩)) hk hN ⟨z, rfl, hP⟩
theorem Go.areturn {z : Value} {t : FieldType} {P : Value → Heap → Prop} (hd : decode code pc = .ok (.areturn, 1)) (hret : ret = some t) (ht : t.isReference = true) (hz : z.isRef = true) (hk : k ≤ R.cells) (hN : n ≤ R.slots) (hP : P z h) : Go l Z y code ml ret R (QR P) k n h pc Ls (z :: st) := by
  refine Go.retV hd hret ?_ (Or.inr (Or.inr (Or.inr (Or.inr ⟨rfl, ht, hz⟩)))) hk hN ⟨z, rfl, hP⟩
  cases t <;> cases z <;> first | rfl | (simp [Value.isRef] at hz)
/-- a boolean, byte, char or short: narrowed -/
theorem Go.nreturn {z z' : Int32} {t : FieldType} {P : Int32 → Heap → Prop} (hd : decode code pc = .ok (.ireturn, 1)) (hret : ret = some t) (ht : t = .boolean ∨ t = .byte ∨ t = .char ∨ t = .short) (hz : nar t z = z') (hk : k ≤ R.cells) (hN : n ≤ R.slots) (hP : P z' h) : Go l Z y code ml ret R (QI P) k n h pc Ls (.int z :: st) := by
  subst hz
  intro p e s m args below meth c K T L k' n' X h1 h2 N hT
  refine ⟨some (.int (nar t z)), T, L, k', n', X, Nat.le_trans h1 hk, Nat.le_trans h2 hN, N, ⟨_, rfl, hT ▸ hP⟩, fun e => ?_, fun fs hl => ?_⟩
  · rw [hret] at e; cases e
  · exact retN X K.1 (K.2.2.2.2.2.1.trans hret) ht (hb K.2.1 hd) hl
theorem Go.vreturn {P : Heap → Prop} (hd : decode code pc = .ok (.return_, 1)) (hret : ret = none) (hk : k ≤ R.cells) (hN : n ≤ R.slots) (hP : P h) : Go l Z y code ml ret R (QV P) k n h pc Ls [] := by
  intro p e s m args below meth c K T L k' n' X h1 h2 N hT
  exact ⟨none, T, L, k', n', X, Nat.le_trans h1 hk, Nat.le_trans h2 hN, N, ⟨rfl, hT ▸ hP⟩, fun _ => rfl, fun fs hl => X.returnOut K.1 (K.2.2.2.2.2.1.trans hret) (hb K.2.1 hd) hl⟩
/-- the whole body, as a contract -/
theorem Go.met {as' : Array Value} (hx : plainFor y = true) (hent : ∀ m, entryFrame m as' ml = mkF m 0 Ls []) (G : Go l Z y code ml ret R Q 0 0 h 0 Ls []) (ws : List Jvm.Cond) :
    MetFree l y (head1 (Jvm.Cond.code y code ml ret :: ws) R) (fun a U => a = as' ∧ Z.Warmed39 U.vm ∧ U.heap = h) (fun _ _ _ _ _ => True) (fun _ U o U' => ∃ v L, o = .returned v ∧ (Q v U'.heap ∧ Fr Z.heap.size L) ∧ FrameEnd U o U' L R.cells R.slots) := by
  refine MetFree.of_bodySF hx hisR ?_
  intro p e s m args below meth c s₁ Bd hml hP hK
  obtain ⟨rfl, hZ, hh⟩ := hP
  have X0 : Stand p l e R s m args below meth c s₁ [] 0 0 := Stand.of_body Bd
  have e0 : s₁.heap = h := by rw [← hh, Bd.state]; rfl
  have hnm := (name_of_methodNamed Bd.named Bd.method).1
  obtain ⟨v, T', L', k'', n'', X', b1, b2, N', q, hv, stp⟩ := G p e s m args below meth c ⟨Bd.exec, Bd.bytes, hZ, findClass_of_methodNamed Bd.named, hml, Bd.returns, Bd.notSynchronized, hnm⟩ s₁ [] 0 0 X0 (Nat.le_refl _) (Nat.le_refl _) (Fr.nil _) e0
  obtain ⟨fs, hr, hrun, hended, hW, hsame⟩ := X'.leave (v := v) (fun hh => hv (by rw [← Bd.returns]; exact hh))
  refine ⟨_, _, castTop (hent m) (stp fs hr), hrun, hended, v, L', rfl, ⟨q, N'⟩, ⟨_, rfl⟩, hW, hsame.mono b1 b2⟩


theorem Go.getfield {i : Nat} {O nm d : String} {a : Addr} {v : Value} (q : Nat) (hd : decode code pc = .ok (.getfield i, 3)) (w : (Cond.fieldLink y.cls i O nm d).before a0 Z = true) (F : Fld Z h a O nm d v) (hq : pc + 3 = q) (g : Go l Z y code ml ret R Q k n h q Ls (v :: st)) : Go l Z y code ml ret R Q k n h pc Ls (.ref a :: st) := by
  subst hq
  refine Go.move (P := fun h' => h' = h) (kk := k) (nn := n) (fun h' e => e ▸ g) ?_
  intro p e s m args below meth c K T L k' n' X h1 h2 N hT
  obtain ⟨T', X', e', s'⟩ := getF X K.1 K.2.2.1 K.2.2.2.1 (host := "") (Or.inl w) Via.refl hT F (g := mkF m pc Ls (.ref a :: st)) rfl rfl (hb K.2.1 hd)
  exact ⟨T', L, k', n', X', h1, h2, N, e', s'⟩
theorem Go.getfieldN {i : Nat} {O nm d host : String} {a : Addr} {v : Value} (q : Nat) (hd : decode code pc = .ok (.getfield i, 3)) (w : (Cond.fieldLinkNest y.cls i O nm d host).before a0 Z = true) (F : Fld Z h a O nm d v) (hq : pc + 3 = q) (g : Go l Z y code ml ret R Q k n h q Ls (v :: st)) : Go l Z y code ml ret R Q k n h pc Ls (.ref a :: st) := by
  subst hq
  refine Go.move (P := fun h' => h' = h) (kk := k) (nn := n) (fun h' e => e ▸ g) ?_
  intro p e s m args below meth c K T L k' n' X h1 h2 N hT
  obtain ⟨T', X', e', s'⟩ := getF X K.1 K.2.2.1 K.2.2.2.1 (host := host) (Or.inr w) Via.refl hT F (g := mkF m pc Ls (.ref a :: st)) rfl rfl (hb K.2.1 hd)
  exact ⟨T', L, k', n', X', h1, h2, N, e', s'⟩
theorem Go.getfieldU {i : Nat} {R0 O nm d : String} {a : Addr} {v : Value} (q : Nat) (hd : decode code pc = .ok (.getfield i, 3)) (w : (Cond.fieldLink y.cls i R0 nm d).before a0 Z = true) (via : Via Z R0 O nm d) (F : Fld Z h a O nm d v) (hq : pc + 3 = q) (g : Go l Z y code ml ret R Q k n h q Ls (v :: st)) : Go l Z y code ml ret R Q k n h pc Ls (.ref a :: st) := by
  subst hq
  refine Go.move (P := fun h' => h' = h) (kk := k) (nn := n) (fun h' e => e ▸ g) ?_
  intro p e s m args below meth c K T L k' n' X h1 h2 N hT
  obtain ⟨T', X', e', s'⟩ := getF X K.1 K.2.2.1 K.2.2.2.1 (host := "") (Or.inl w) via hT F (g := mkF m pc Ls (.ref a :: st)) rfl rfl (hb K.2.1 hd)
  exact ⟨T', L, k', n', X', h1, h2, N, e', s'⟩
theorem Go.getstatic {i : Nat} {O nm d : String} {v : Value} (q : Nat) (hd : decode code pc = .ok (.getstatic i, 3)) (w : (Cond.fieldLink y.cls i O nm d).before a0 Z = true) (F : Sta Z h O nm d v) (hq : pc + 3 = q) (g : Go l Z y code ml ret R Q k n h q Ls (v :: st)) : Go l Z y code ml ret R Q k n h pc Ls st := by
  subst hq
  refine Go.move (P := fun h' => h' = h) (kk := k) (nn := n) (fun h' e => e ▸ g) ?_
  intro p e s m args below meth c K T L k' n' X h1 h2 N hT
  obtain ⟨T', X', e', s'⟩ := getS X K.1 K.2.2.1 (host := "") K.2.2.2.1 w Via.refl hT F (g := mkF m pc Ls st) rfl (hb K.2.1 hd)
  exact ⟨T', L, k', n', X', h1, h2, N, e', s'⟩
theorem Go.putfield {i kk : Nat} {C O nm d : String} {ty : FieldType} {a : Addr} {v old : Value} (q : Nat) (hd : decode code pc = .ok (.putfield i, 3)) (w : (Cond.fieldLink y.cls i O nm d).before a0 Z = true) (F : Fld Z h a O nm d old) (E : Exa Z h a C) (hL : (Cond.lays C O nm d).before a0 Z = true ∨ ((Cond.laysFinal C O nm d).before a0 Z = true ∧ y.cls = O ∧ y.name = "<init>"))
    (wi : (Cond.instantiable C kk).before a0 Z = true) (hty : parseFieldDescriptor d = some ty) (hn : narrow ty v = v) (hf : fits ty v = true) (hge : Z.heap.size ≤ a) (hq : pc + 3 = q)
    (g : ∀ h', Wr h h' a (Jvm.RoadKit.slotOf Z O nm d) v → Go l Z y code ml ret R Q k n h' q Ls st) : Go l Z y code ml ret R Q k n h pc Ls (v :: .ref a :: st) := by
  subst hq
  refine Go.move (P := fun h' => Wr h h' a (Jvm.RoadKit.slotOf Z O nm d) v) (kk := k) (nn := n) g ?_
  intro p e s m args below meth c K T L k' n' X h1 h2 N hT
  obtain ⟨T', h', X', e', W', s'⟩ := putF X K.1 K.2.2.1 K.2.2.2.1 (host := "") (Or.inl w) Via.refl hT F E (hL.imp id fun ⟨a1, a2, a3⟩ => ⟨a1, a2, K.2.2.2.2.2.2.2.trans a3⟩) wi hty hn hf (g := mkF m pc Ls (v :: .ref a :: st)) rfl rfl (hb K.2.1 hd)
  exact ⟨T', _, k', n', X', h1, h2, Fr.snoc X' N hge, e' ▸ W', s'⟩
theorem Go.putfieldU {i kk : Nat} {R0 C O nm d : String} {ty : FieldType} {a : Addr} {v old : Value} (q : Nat) (hd : decode code pc = .ok (.putfield i, 3)) (w : (Cond.fieldLink y.cls i R0 nm d).before a0 Z = true) (via : Via Z R0 O nm d) (F : Fld Z h a O nm d old) (E : Exa Z h a C) (hL : (Cond.lays C O nm d).before a0 Z = true ∨ ((Cond.laysFinal C O nm d).before a0 Z = true ∧ y.cls = O ∧ y.name = "<init>"))
    (wi : (Cond.instantiable C kk).before a0 Z = true) (hty : parseFieldDescriptor d = some ty) (hn : narrow ty v = v) (hf : fits ty v = true) (hge : Z.heap.size ≤ a) (hq : pc + 3 = q)
    (g : ∀ h', Wr h h' a (Jvm.RoadKit.slotOf Z O nm d) v → Go l Z y code ml ret R Q k n h' q Ls st) : Go l Z y code ml ret R Q k n h pc Ls (v :: .ref a :: st) := by
  subst hq
  refine Go.move (P := fun h' => Wr h h' a (Jvm.RoadKit.slotOf Z O nm d) v) (kk := k) (nn := n) g ?_
  intro p e s m args below meth c K T L k' n' X h1 h2 N hT
  obtain ⟨T', h', X', e', W', s'⟩ := putF X K.1 K.2.2.1 K.2.2.2.1 (host := "") (Or.inl w) via hT F E (hL.imp id fun ⟨a1, a2, a3⟩ => ⟨a1, a2, K.2.2.2.2.2.2.2.trans a3⟩) wi hty hn hf (g := mkF m pc Ls (v :: .ref a :: st)) rfl rfl (hb K.2.1 hd)
  exact ⟨T', _, k', n', X', h1, h2, Fr.snoc X' N hge, e' ▸ W', s'⟩
/-- a field that narrows (boolean, byte, char, short) -/
theorem Go.putfieldN {i kk : Nat} {C O nm d : String} {ty : FieldType} {a : Addr} {v v' old : Value} (q : Nat) (hd : decode code pc = .ok (.putfield i, 3)) (w : (Cond.fieldLink y.cls i O nm d).before a0 Z = true) (F : Fld Z h a O nm d old) (E : Exa Z h a C) (hL : (Cond.lays C O nm d).before a0 Z = true ∨ ((Cond.laysFinal C O nm d).before a0 Z = true ∧ y.cls = O ∧ y.name = "<init>"))
    (wi : (Cond.instantiable C kk).before a0 Z = true) (hty : parseFieldDescriptor d = some ty) (hn : narrow ty v = v') (hf : fits ty v' = true) (hge : Z.heap.size ≤ a) (hq : pc + 3 = q)
    (g : ∀ h', Wr h h' a (Jvm.RoadKit.slotOf Z O nm d) v' → Go l Z y code ml ret R Q k n h' q Ls st) : Go l Z y code ml ret R Q k n h pc Ls (v :: .ref a :: st) := by
  subst hq
  refine Go.move (P := fun h' => Wr h h' a (Jvm.RoadKit.slotOf Z O nm d) v') (kk := k) (nn := n) g ?_
  intro p e s m args below meth c K T L k' n' X h1 h2 N hT
  obtain ⟨T', h', X', e', W', s'⟩ := putFN X K.1 K.2.2.1 K.2.2.2.1 w Via.refl hT F E (hL.imp id fun ⟨a1, a2, a3⟩ => ⟨a1, a2, K.2.2.2.2.2.2.2.trans a3⟩) wi hty hn hf (g := mkF m pc Ls (v :: .ref a :: st)) rfl rfl (hb K.2.1 hd)
  exact ⟨T', _, k', n', X', h1, h2, Fr.snoc X' N hge, e' ▸ W', s'⟩
theorem Go.new {i sz : Nat} {C : String} (q : Nat) (hd : decode code pc = .ok (.new i, 3)) (w : (Cond.classLink y.cls i C).before a0 Z = true) (wi : (Cond.instantiable C sz).before a0 Z = true) (wz : (Cond.initialized C).before a0 Z = true) (hk : k + 1 ≤ R.cells) (hN : n + sz ≤ R.slots) (hq : pc + 3 = q)
    (g : ∀ (a : Addr) h', a = h.size → Ext h h' → Exa Z h' a C → (∀ {O nm d : String} {ty : FieldType}, Laid Z a0 C O nm d → parseFieldDescriptor d = some ty → Fld Z h' a O nm d (defaultValue ty)) → Go l Z y code ml ret R Q (k + 1) (n + sz) h' q Ls (.ref a :: st)) : Go l Z y code ml ret R Q k n h pc Ls st := by
  subst hq
  refine Go.move (P := fun h' => Ext h h' ∧ Exa Z h' h.size C ∧ (∀ {O nm d : String} {ty : FieldType}, Laid Z a0 C O nm d → parseFieldDescriptor d = some ty → Fld Z h' h.size O nm d (defaultValue ty))) (kk := k + 1) (nn := n + sz) (fun h' p => g h.size h' rfl p.1 p.2.1 p.2.2) ?_
  intro p e s m args below meth c K T L k' n' X h1 h2 N hT
  obtain ⟨T', h', X', e', E', A', D', -, s'⟩ := newO X K.1 K.2.2.1 K.2.2.2.1 w wi wz hT (g := mkF m pc Ls st) rfl (hb K.2.1 hd) (Nat.le_trans (Nat.add_le_add_right h1 1) hk) (Nat.le_trans (Nat.add_le_add_right h2 sz) hN)
  subst e'
  exact ⟨T', L, k' + 1, n' + sz, X', Nat.add_le_add_right h1 1, Nat.add_le_add_right h2 sz, N, ⟨E', A', D'⟩, s'⟩
theorem Go.initO {i : Nat} {a : Addr} (W : Nat) (q : Nat) (hd : decode code pc = .ok (.invokespecial i, 3)) (w1 : (Cond.methodLink y.cls i Lib.objectInit).before a0 Z = true) (w2 : (Cond.instanceMethod Lib.objectInit).before a0 Z = true) (w3 : (Cond.code Lib.objectInit ⟨#[0xb1]⟩ 1 none).before a0 Z = true)
    (hsz : Ls.size = ml) (hf : 1 ≤ R.frames) (hW : (st.map fun v => v.category).sum ≤ W) (hl : W + 12 ≤ R.locals) (hq : pc + 3 = q) (g : Go l Z y code ml ret R Q k n h q Ls st) : Go l Z y code ml ret R Q k n h pc Ls (.ref a :: st) := by
  subst hq
  refine Go.move (P := fun h' => h' = h) (kk := k) (nn := n) (fun h' e => e ▸ g) ?_
  intro p e s m args below meth c K T L k' n' X h1 h2 N hT
  obtain ⟨T', X', e', s'⟩ := Jvm.RoadKit.initO X K.1 K.2.2.1 K.2.2.2.1 w1 w2 w3 hT (g := mkF m pc Ls (.ref a :: st)) rfl (hsz.trans K.2.2.2.2.1.symm) rfl (hb K.2.1 hd) hf (W := W) (by show 2 * 0 + _ ≤ _; rw [Nat.mul_zero, Nat.zero_add]; exact hW) hl
  exact ⟨T', L, k', n', X', h1, h2, N, e', s'⟩


section Calls
variable {y' : MethodName} {code' : ByteArray} {ml' : Nat} {ret' : Option FieldType} {R' : Room} {Q' : Option Value → Heap → Prop} {Ls' : Array Slot} {i W : Nat}
theorem Go.callS (argsL : List Value) (rest : List Value) (q : Nat) (hd : decode code pc = .ok (.invokestatic i, 3)) (w1 : (Cond.methodLink y.cls i y').before a0 Z = true) (w2 : (Cond.static y').before a0 Z = true) (w3 : (Cond.initialized y'.cls).before a0 Z = true) (w4 : (Cond.code y' code' ml' ret').before a0 Z = true)
    (hpl : plainFor y' = true) (hy : y'.cls ≠ "java/lang/invoke/MethodHandle" ∧ y'.cls ≠ "java/lang/invoke/VarHandle") (hlen : ∀ sig, parseMethodDescriptor y'.desc = some sig → argsL.length = sig.parameters.length) (hst : st = argsL.reverse ++ rest) (hent : ∀ m, entryFrame m argsL.toArray ml' = mkF m 0 Ls' [])
    (G : Go l Z y' code' ml' ret' R' Q' 0 0 h 0 Ls' []) (W : Nat) (hsz : Ls.size = ml) (hW : (rest.map fun v => v.category).sum ≤ W) (hf : R'.frames + 1 ≤ R.frames) (hl : W + (ml' + 11) + R'.locals ≤ R.locals) (hk : k + R'.cells ≤ R.cells) (hN : n + R'.slots ≤ R.slots) (hq : pc + 3 = q)
    (g : ∀ v h', Q' v h' → Go l Z y code ml ret R Q (k + R'.cells) (n + R'.slots) h' q Ls (v.toList ++ rest)) : Go l Z y code ml ret R Q k n h pc Ls st := by
  subst hq
  intro p e s m args below meth c K T L k' n' X h1 h2 N hT
  obtain ⟨v, vm₁, ⟨T', L', k'', n''⟩, -, X', ⟨Lc, ⟨hQ, N'⟩, e1, e2, e3⟩, s'⟩ := Jvm.LawKit.callS X K.1 K.2.2.2.1 (mvT K.2.2.1 w1) (mvT K.2.2.1 w2) (mvT K.2.2.1 w3) (mvT K.2.2.1 w4) hy (backOf (W := W) (Q := fun v h L => Q' v h ∧ Fr Z.heap.size L) (Go.met hpl hent G []) K.2.2.1 w4 w3 hf hl) (g := mkF m pc Ls st) rfl (hsz.trans K.2.2.2.2.1.symm) (argsL := argsL) (rest := rest) hlen hst (by show 2 * 0 + _ ≤ _; rw [Nat.mul_zero, Nat.zero_add]; exact hW) (hb K.2.1 hd) (fun _ _ => ⟨rfl, hT, Nat.le_trans (Nat.add_le_add_right h1 _) hk, Nat.le_trans (Nat.add_le_add_right h2 _) hN⟩)
  dsimp only [Pt.U, Pt.locs, Pt.cells, Pt.slots] at X' e1 e2 e3 s' hQ
  subst e1 e2 e3
  obtain ⟨v2, T2, L2, k2, n2, X2, b1, b2, N2, q2, hv, stp⟩ := g v _ hQ p e s m args below meth c K T' _ _ _ X' (Nat.add_le_add_right h1 _) (Nat.add_le_add_right h2 _) (Fr.app N N') rfl
  exact ⟨v2, T2, L2, k2, n2, X2, b1, b2, N2, q2, hv, fun fs hl => s' _ (stp fs hl)⟩
theorem Go.callC {a : Addr} (argsL : List Value) (rest : List Value) (q : Nat) (hd : decode code pc = .ok (.invokespecial i, 3)) (hy1 : y'.name = "<init>") (w1 : (Cond.methodLink y.cls i y').before a0 Z = true) (w2 : (Cond.instanceMethod y').before a0 Z = true) (w3 : (Cond.initialized y'.cls).before a0 Z = true) (w4 : (Cond.code y' code' ml' none).before a0 Z = true)
    (hpl : plainFor y' = true) (hy : y'.cls ≠ "java/lang/invoke/MethodHandle" ∧ y'.cls ≠ "java/lang/invoke/VarHandle") (hlen : ∀ sig, parseMethodDescriptor y'.desc = some sig → argsL.length = sig.parameters.length) (hst : st = argsL.reverse ++ .ref a :: rest) (hent : ∀ m, entryFrame m (.ref a :: argsL).toArray ml' = mkF m 0 Ls' [])
    (P' : Heap → Prop) (G : Go l Z y' code' ml' none R' (QV P') 0 0 h 0 Ls' []) (W : Nat) (hsz : Ls.size = ml) (hW : (rest.map fun v => v.category).sum ≤ W) (hf : R'.frames + 1 ≤ R.frames) (hl : W + (ml' + 11) + R'.locals ≤ R.locals) (hk : k + R'.cells ≤ R.cells) (hN : n + R'.slots ≤ R.slots) (hq : pc + 3 = q)
    (g : ∀ h', P' h' → Go l Z y code ml ret R Q (k + R'.cells) (n + R'.slots) h' q Ls rest) : Go l Z y code ml ret R Q k n h pc Ls st := by
  subst hq
  intro p e s m args below meth c K T L k' n' X h1 h2 N hT
  obtain ⟨v, vm₁, ⟨T', L', k'', n''⟩, -, X', ⟨Lc, ⟨⟨rfl, hQ⟩, N'⟩, e1, e2, e3⟩, s'⟩ := X.specialBack K.1 hy1 K.2.2.2.1 (mvT K.2.2.1 w1) (mvT K.2.2.1 w2) (mvT K.2.2.1 w4) hy (backOf (W := W) (Q := fun v h L => QV P' v h ∧ Fr Z.heap.size L) (Go.met hpl hent G []) K.2.2.1 w4 w3 hf hl) (g := mkF m pc Ls st) rfl (hsz.trans K.2.2.2.2.1.symm) (Steps.refl _) (a := a) (argsL := argsL) (rest := rest) hlen hst (by show 2 * 0 + _ ≤ _; rw [Nat.mul_zero, Nat.zero_add]; exact hW) (hb K.2.1 hd) (fun _ _ => ⟨rfl, hT, Nat.le_trans (Nat.add_le_add_right h1 _) hk, Nat.le_trans (Nat.add_le_add_right h2 _) hN⟩)
  dsimp only [Pt.U, Pt.locs, Pt.cells, Pt.slots] at X' e1 e2 e3 s' hQ
  subst e1 e2 e3
  obtain ⟨v2, T2, L2, k2, n2, X2, b1, b2, N2, q2, hv, stp⟩ := g _ hQ p e s m args below meth c K T' _ _ _ X' (Nat.add_le_add_right h1 _) (Nat.add_le_add_right h2 _) (Fr.app N N') rfl
  exact ⟨v2, T2, L2, k2, n2, X2, b1, b2, N2, q2, hv, fun fs hl => s'.trans (stp fs hl)⟩
theorem Go.callV {a : Addr} {C : String} (argsL : List Value) (rest : List Value) (q : Nat) (hd : decode code pc = .ok (.invokevirtual i, 3)) (w1 : (Cond.methodLink y.cls i y').before a0 Z = true) (w1' : (Cond.declares y').before a0 Z = true) (w1s : (Cond.selects C y' y').before a0 Z = true) (w2 : (Cond.instanceMethod y').before a0 Z = true) (w3 : (Cond.initialized y'.cls).before a0 Z = true) (w4 : (Cond.code y' code' ml' ret').before a0 Z = true) (E : Exa Z h a C)
    (hpl : plainFor y' = true) (hy : y'.cls ≠ "java/lang/invoke/MethodHandle" ∧ y'.cls ≠ "java/lang/invoke/VarHandle") (hlen : ∀ sig, parseMethodDescriptor y'.desc = some sig → argsL.length = sig.parameters.length) (hst : st = argsL.reverse ++ .ref a :: rest) (hent : ∀ m, entryFrame m (.ref a :: argsL).toArray ml' = mkF m 0 Ls' [])
    (G : Go l Z y' code' ml' ret' R' Q' 0 0 h 0 Ls' []) (W : Nat) (hsz : Ls.size = ml) (hW : (rest.map fun v => v.category).sum ≤ W) (hf : R'.frames + 1 ≤ R.frames) (hl : W + (ml' + 11) + R'.locals ≤ R.locals) (hk : k + R'.cells ≤ R.cells) (hN : n + R'.slots ≤ R.slots) (hq : pc + 3 = q)
    (g : ∀ v h', Q' v h' → Go l Z y code ml ret R Q (k + R'.cells) (n + R'.slots) h' q Ls (v.toList ++ rest)) : Go l Z y code ml ret R Q k n h pc Ls st := by
  subst hq
  intro p e s m args below meth c K T L k' n' X h1 h2 N hT
  obtain ⟨cq, kq, qa, qb, qc⟩ := isOf K.2.2.1 hT E
  obtain ⟨v, vm₁, ⟨T', L', k'', n''⟩, -, X', ⟨Lc, ⟨hQ, N'⟩, e1, e2, e3⟩, s'⟩ := X.virtualBack K.1 K.2.2.2.1 (mvT K.2.2.1 w1) (mvT K.2.2.1 w1') (notFace_of_selects (args := #[]) (mvT K.2.2.1 w1s)) (mvT K.2.2.1 w1s) (mvT K.2.2.1 w2) hy (backOf (W := W) (Q := fun v h L => Q' v h ∧ Fr Z.heap.size L) (Go.met hpl hent G []) K.2.2.1 w4 w3 hf hl) qa qc (g := mkF m pc Ls st) rfl (hsz.trans K.2.2.2.2.1.symm) (Steps.refl _) (argsL := argsL) (rest := rest) hlen hst (by show 2 * 0 + _ ≤ _; rw [Nat.mul_zero, Nat.zero_add]; exact hW) (hb K.2.1 hd) (fun _ _ => ⟨rfl, hT, Nat.le_trans (Nat.add_le_add_right h1 _) hk, Nat.le_trans (Nat.add_le_add_right h2 _) hN⟩)
  dsimp only [Pt.U, Pt.locs, Pt.cells, Pt.slots] at X' e1 e2 e3 s' hQ
  subst e1 e2 e3
  obtain ⟨v2, T2, L2, k2, n2, X2, b1, b2, N2, q2, hv, stp⟩ := g v _ hQ p e s m args below meth c K T' _ _ _ X' (Nat.add_le_add_right h1 _) (Nat.add_le_add_right h2 _) (Fr.app N N') rfl
  exact ⟨v2, T2, L2, k2, n2, X2, b1, b2, N2, q2, hv, fun fs hl => s'.trans (stp fs hl)⟩
theorem Go.callCp {a : Addr} (argsL : List Value) (rest : List Value) (q : Nat) (hd : decode code pc = .ok (.invokespecial i, 3)) (hy1 : y'.name = "<init>") (w1 : (Cond.methodLink y.cls i y').before a0 Z = true) (w2 : (Cond.instanceMethod y').before a0 Z = true) (w3 : (Cond.initialized y'.cls).before a0 Z = true) (w4 : (Cond.code y' code' ml' none).before a0 Z = true)
    (hpl : plainFor y' = true) (hy : y'.cls ≠ "java/lang/invoke/MethodHandle" ∧ y'.cls ≠ "java/lang/invoke/VarHandle") (hlen : ∀ sig, parseMethodDescriptor y'.desc = some sig → argsL.length = sig.parameters.length) (hst : st = argsL.reverse ++ .ref a :: rest) (hent : ∀ m, entryFrame m (.ref a :: argsL).toArray ml' = mkF m 0 Ls' [])
    (G : Go l Z y' code' ml' none R' (QV fun h' => h' = h) 0 0 h 0 Ls' []) (W : Nat) (hsz : Ls.size = ml) (hW : (rest.map fun v => v.category).sum ≤ W) (hf : R'.frames + 1 ≤ R.frames) (hl : W + (ml' + 11) + R'.locals ≤ R.locals) (hk : k + R'.cells ≤ R.cells) (hN : n + R'.slots ≤ R.slots) (hq : pc + 3 = q)
    (g : Go l Z y code ml ret R Q (k + R'.cells) (n + R'.slots) h q Ls rest) : Go l Z y code ml ret R Q k n h pc Ls st :=
  Go.callC argsL rest q hd hy1 w1 w2 w3 w4 hpl hy hlen hst hent _ G W hsz hW hf hl hk hN hq (fun h' e => by subst e; exact g)
end Calls

section
variable {y' : MethodName} {code' : ByteArray} {ml' : Nat} {ret' : Option FieldType} {R' : Room} {Ls' : Array Slot} {i : Nat}
theorem Go.callSI (argsL : List Value) (rest : List Value) (q : Nat) (hd : decode code pc = .ok (.invokestatic i, 3)) (w1 : (Cond.methodLink y.cls i y').before a0 Z = true) (w2 : (Cond.static y').before a0 Z = true) (w3 : (Cond.initialized y'.cls).before a0 Z = true) (w4 : (Cond.code y' code' ml' ret').before a0 Z = true)
    (hpl : plainFor y' = true) (hy : y'.cls ≠ "java/lang/invoke/MethodHandle" ∧ y'.cls ≠ "java/lang/invoke/VarHandle") (hlen : ∀ sig, parseMethodDescriptor y'.desc = some sig → argsL.length = sig.parameters.length) (hst : st = argsL.reverse ++ rest) (hent : ∀ m, entryFrame m argsL.toArray ml' = mkF m 0 Ls' [])
    (P' : Int32 → Heap → Prop) (G : Go l Z y' code' ml' ret' R' (QI P') 0 0 h 0 Ls' []) (W : Nat) (hsz : Ls.size = ml) (hW : (rest.map fun v => v.category).sum ≤ W) (hf : R'.frames + 1 ≤ R.frames) (hl : W + (ml' + 11) + R'.locals ≤ R.locals) (hk : k + R'.cells ≤ R.cells) (hN : n + R'.slots ≤ R.slots) (hq : pc + 3 = q)
    (g : ∀ (z : Int32) h', P' z h' → Go l Z y code ml ret R Q (k + R'.cells) (n + R'.slots) h' q Ls (.int z :: rest)) : Go l Z y code ml ret R Q k n h pc Ls st := by
  exact Go.callS argsL rest q hd w1 w2 w3 w4 hpl hy hlen hst hent G W hsz hW hf hl hk hN hq (fun v h' hq' => by obtain ⟨z, e, hp⟩ := hq'; subst e; exact g z h' hp)
end
section
variable {y' : MethodName} {code' : ByteArray} {ml' : Nat} {ret' : Option FieldType} {R' : Room} {Ls' : Array Slot} {i : Nat}
theorem Go.callSIp (argsL : List Value) (rest : List Value) (q : Nat) (hd : decode code pc = .ok (.invokestatic i, 3)) (w1 : (Cond.methodLink y.cls i y').before a0 Z = true) (w2 : (Cond.static y').before a0 Z = true) (w3 : (Cond.initialized y'.cls).before a0 Z = true) (w4 : (Cond.code y' code' ml' ret').before a0 Z = true)
    (hpl : plainFor y' = true) (hy : y'.cls ≠ "java/lang/invoke/MethodHandle" ∧ y'.cls ≠ "java/lang/invoke/VarHandle") (hlen : ∀ sig, parseMethodDescriptor y'.desc = some sig → argsL.length = sig.parameters.length) (hst : st = argsL.reverse ++ rest) (hent : ∀ m, entryFrame m argsL.toArray ml' = mkF m 0 Ls' [])
    (F : Int32) (G : Go l Z y' code' ml' ret' R' (QI fun z h' => z = F ∧ h' = h) 0 0 h 0 Ls' []) (W : Nat) (hsz : Ls.size = ml) (hW : (rest.map fun v => v.category).sum ≤ W) (hf : R'.frames + 1 ≤ R.frames) (hl : W + (ml' + 11) + R'.locals ≤ R.locals) (hk : k + R'.cells ≤ R.cells) (hN : n + R'.slots ≤ R.slots) (hq : pc + 3 = q)
    (g : Go l Z y code ml ret R Q (k + R'.cells) (n + R'.slots) h q Ls (.int F :: rest)) : Go l Z y code ml ret R Q k n h pc Ls st := by
  exact Go.callS argsL rest q hd w1 w2 w3 w4 hpl hy hlen hst hent G W hsz hW hf hl hk hN hq (fun v h' hq' => by obtain ⟨z, e, hp, hh⟩ := hq'; subst e; subst hh; rw [hp]; exact g)
end
section
variable {y' : MethodName} {code' : ByteArray} {ml' : Nat} {ret' : Option FieldType} {R' : Room} {Ls' : Array Slot} {i : Nat}
theorem Go.callSIe (argsL : List Value) (rest : List Value) (q : Nat) (hd : decode code pc = .ok (.invokestatic i, 3)) (w1 : (Cond.methodLink y.cls i y').before a0 Z = true) (w2 : (Cond.static y').before a0 Z = true) (w3 : (Cond.initialized y'.cls).before a0 Z = true) (w4 : (Cond.code y' code' ml' ret').before a0 Z = true)
    (hpl : plainFor y' = true) (hy : y'.cls ≠ "java/lang/invoke/MethodHandle" ∧ y'.cls ≠ "java/lang/invoke/VarHandle") (hlen : ∀ sig, parseMethodDescriptor y'.desc = some sig → argsL.length = sig.parameters.length) (hst : st = argsL.reverse ++ rest) (hent : ∀ m, entryFrame m argsL.toArray ml' = mkF m 0 Ls' [])
    (F : Int32) (P' : Heap → Prop) (G : Go l Z y' code' ml' ret' R' (QI fun z h' => z = F ∧ P' h') 0 0 h 0 Ls' []) (W : Nat) (hsz : Ls.size = ml) (hW : (rest.map fun v => v.category).sum ≤ W) (hf : R'.frames + 1 ≤ R.frames) (hl : W + (ml' + 11) + R'.locals ≤ R.locals) (hk : k + R'.cells ≤ R.cells) (hN : n + R'.slots ≤ R.slots) (hq : pc + 3 = q)
    (g : ∀ h', P' h' → Go l Z y code ml ret R Q (k + R'.cells) (n + R'.slots) h' q Ls (.int F :: rest)) : Go l Z y code ml ret R Q k n h pc Ls st := by
  exact Go.callS argsL rest q hd w1 w2 w3 w4 hpl hy hlen hst hent G W hsz hW hf hl hk hN hq (fun v h' hq' => by obtain ⟨z, e, hp, hh⟩ := hq'; subst e; rw [hp]; exact g h' hh)
end
section
variable {y' : MethodName} {code' : ByteArray} {ml' : Nat} {ret' : Option FieldType} {R' : Room} {Ls' : Array Slot} {i : Nat}
theorem Go.callSJ (argsL : List Value) (rest : List Value) (q : Nat) (hd : decode code pc = .ok (.invokestatic i, 3)) (w1 : (Cond.methodLink y.cls i y').before a0 Z = true) (w2 : (Cond.static y').before a0 Z = true) (w3 : (Cond.initialized y'.cls).before a0 Z = true) (w4 : (Cond.code y' code' ml' ret').before a0 Z = true)
    (hpl : plainFor y' = true) (hy : y'.cls ≠ "java/lang/invoke/MethodHandle" ∧ y'.cls ≠ "java/lang/invoke/VarHandle") (hlen : ∀ sig, parseMethodDescriptor y'.desc = some sig → argsL.length = sig.parameters.length) (hst : st = argsL.reverse ++ rest) (hent : ∀ m, entryFrame m argsL.toArray ml' = mkF m 0 Ls' [])
    (P' : Int64 → Heap → Prop) (G : Go l Z y' code' ml' ret' R' (QJ P') 0 0 h 0 Ls' []) (W : Nat) (hsz : Ls.size = ml) (hW : (rest.map fun v => v.category).sum ≤ W) (hf : R'.frames + 1 ≤ R.frames) (hl : W + (ml' + 11) + R'.locals ≤ R.locals) (hk : k + R'.cells ≤ R.cells) (hN : n + R'.slots ≤ R.slots) (hq : pc + 3 = q)
    (g : ∀ (z : Int64) h', P' z h' → Go l Z y code ml ret R Q (k + R'.cells) (n + R'.slots) h' q Ls (.long z :: rest)) : Go l Z y code ml ret R Q k n h pc Ls st := by
  exact Go.callS argsL rest q hd w1 w2 w3 w4 hpl hy hlen hst hent G W hsz hW hf hl hk hN hq (fun v h' hq' => by obtain ⟨z, e, hp⟩ := hq'; subst e; exact g z h' hp)
end
section
variable {y' : MethodName} {code' : ByteArray} {ml' : Nat} {ret' : Option FieldType} {R' : Room} {Ls' : Array Slot} {i : Nat}
theorem Go.callSJp (argsL : List Value) (rest : List Value) (q : Nat) (hd : decode code pc = .ok (.invokestatic i, 3)) (w1 : (Cond.methodLink y.cls i y').before a0 Z = true) (w2 : (Cond.static y').before a0 Z = true) (w3 : (Cond.initialized y'.cls).before a0 Z = true) (w4 : (Cond.code y' code' ml' ret').before a0 Z = true)
    (hpl : plainFor y' = true) (hy : y'.cls ≠ "java/lang/invoke/MethodHandle" ∧ y'.cls ≠ "java/lang/invoke/VarHandle") (hlen : ∀ sig, parseMethodDescriptor y'.desc = some sig → argsL.length = sig.parameters.length) (hst : st = argsL.reverse ++ rest) (hent : ∀ m, entryFrame m argsL.toArray ml' = mkF m 0 Ls' [])
    (F : Int64) (G : Go l Z y' code' ml' ret' R' (QJ fun z h' => z = F ∧ h' = h) 0 0 h 0 Ls' []) (W : Nat) (hsz : Ls.size = ml) (hW : (rest.map fun v => v.category).sum ≤ W) (hf : R'.frames + 1 ≤ R.frames) (hl : W + (ml' + 11) + R'.locals ≤ R.locals) (hk : k + R'.cells ≤ R.cells) (hN : n + R'.slots ≤ R.slots) (hq : pc + 3 = q)
    (g : Go l Z y code ml ret R Q (k + R'.cells) (n + R'.slots) h q Ls (.long F :: rest)) : Go l Z y code ml ret R Q k n h pc Ls st := by
  exact Go.callS argsL rest q hd w1 w2 w3 w4 hpl hy hlen hst hent G W hsz hW hf hl hk hN hq (fun v h' hq' => by obtain ⟨z, e, hp, hh⟩ := hq'; subst e; subst hh; rw [hp]; exact g)
end
section
variable {y' : MethodName} {code' : ByteArray} {ml' : Nat} {ret' : Option FieldType} {R' : Room} {Ls' : Array Slot} {i : Nat}
theorem Go.callSJe (argsL : List Value) (rest : List Value) (q : Nat) (hd : decode code pc = .ok (.invokestatic i, 3)) (w1 : (Cond.methodLink y.cls i y').before a0 Z = true) (w2 : (Cond.static y').before a0 Z = true) (w3 : (Cond.initialized y'.cls).before a0 Z = true) (w4 : (Cond.code y' code' ml' ret').before a0 Z = true)
    (hpl : plainFor y' = true) (hy : y'.cls ≠ "java/lang/invoke/MethodHandle" ∧ y'.cls ≠ "java/lang/invoke/VarHandle") (hlen : ∀ sig, parseMethodDescriptor y'.desc = some sig → argsL.length = sig.parameters.length) (hst : st = argsL.reverse ++ rest) (hent : ∀ m, entryFrame m argsL.toArray ml' = mkF m 0 Ls' [])
    (F : Int64) (P' : Heap → Prop) (G : Go l Z y' code' ml' ret' R' (QJ fun z h' => z = F ∧ P' h') 0 0 h 0 Ls' []) (W : Nat) (hsz : Ls.size = ml) (hW : (rest.map fun v => v.category).sum ≤ W) (hf : R'.frames + 1 ≤ R.frames) (hl : W + (ml' + 11) + R'.locals ≤ R.locals) (hk : k + R'.cells ≤ R.cells) (hN : n + R'.slots ≤ R.slots) (hq : pc + 3 = q)
    (g : ∀ h', P' h' → Go l Z y code ml ret R Q (k + R'.cells) (n + R'.slots) h' q Ls (.long F :: rest)) : Go l Z y code ml ret R Q k n h pc Ls st := by
  exact Go.callS argsL rest q hd w1 w2 w3 w4 hpl hy hlen hst hent G W hsz hW hf hl hk hN hq (fun v h' hq' => by obtain ⟨z, e, hp, hh⟩ := hq'; subst e; rw [hp]; exact g h' hh)
end
section
variable {y' : MethodName} {code' : ByteArray} {ml' : Nat} {ret' : Option FieldType} {R' : Room} {Ls' : Array Slot} {i : Nat}
theorem Go.callSR (argsL : List Value) (rest : List Value) (q : Nat) (hd : decode code pc = .ok (.invokestatic i, 3)) (w1 : (Cond.methodLink y.cls i y').before a0 Z = true) (w2 : (Cond.static y').before a0 Z = true) (w3 : (Cond.initialized y'.cls).before a0 Z = true) (w4 : (Cond.code y' code' ml' ret').before a0 Z = true)
    (hpl : plainFor y' = true) (hy : y'.cls ≠ "java/lang/invoke/MethodHandle" ∧ y'.cls ≠ "java/lang/invoke/VarHandle") (hlen : ∀ sig, parseMethodDescriptor y'.desc = some sig → argsL.length = sig.parameters.length) (hst : st = argsL.reverse ++ rest) (hent : ∀ m, entryFrame m argsL.toArray ml' = mkF m 0 Ls' [])
    (P' : Value → Heap → Prop) (G : Go l Z y' code' ml' ret' R' (QR P') 0 0 h 0 Ls' []) (W : Nat) (hsz : Ls.size = ml) (hW : (rest.map fun v => v.category).sum ≤ W) (hf : R'.frames + 1 ≤ R.frames) (hl : W + (ml' + 11) + R'.locals ≤ R.locals) (hk : k + R'.cells ≤ R.cells) (hN : n + R'.slots ≤ R.slots) (hq : pc + 3 = q)
    (g : ∀ (z : Value) h', P' z h' → Go l Z y code ml ret R Q (k + R'.cells) (n + R'.slots) h' q Ls ( z :: rest)) : Go l Z y code ml ret R Q k n h pc Ls st := by
  exact Go.callS argsL rest q hd w1 w2 w3 w4 hpl hy hlen hst hent G W hsz hW hf hl hk hN hq (fun v h' hq' => by obtain ⟨z, e, hp⟩ := hq'; subst e; exact g z h' hp)
end
section
variable {y' : MethodName} {code' : ByteArray} {ml' : Nat} {ret' : Option FieldType} {R' : Room} {Ls' : Array Slot} {i : Nat}
theorem Go.callSRp (argsL : List Value) (rest : List Value) (q : Nat) (hd : decode code pc = .ok (.invokestatic i, 3)) (w1 : (Cond.methodLink y.cls i y').before a0 Z = true) (w2 : (Cond.static y').before a0 Z = true) (w3 : (Cond.initialized y'.cls).before a0 Z = true) (w4 : (Cond.code y' code' ml' ret').before a0 Z = true)
    (hpl : plainFor y' = true) (hy : y'.cls ≠ "java/lang/invoke/MethodHandle" ∧ y'.cls ≠ "java/lang/invoke/VarHandle") (hlen : ∀ sig, parseMethodDescriptor y'.desc = some sig → argsL.length = sig.parameters.length) (hst : st = argsL.reverse ++ rest) (hent : ∀ m, entryFrame m argsL.toArray ml' = mkF m 0 Ls' [])
    (F : Value) (G : Go l Z y' code' ml' ret' R' (QR fun z h' => z = F ∧ h' = h) 0 0 h 0 Ls' []) (W : Nat) (hsz : Ls.size = ml) (hW : (rest.map fun v => v.category).sum ≤ W) (hf : R'.frames + 1 ≤ R.frames) (hl : W + (ml' + 11) + R'.locals ≤ R.locals) (hk : k + R'.cells ≤ R.cells) (hN : n + R'.slots ≤ R.slots) (hq : pc + 3 = q)
    (g : Go l Z y code ml ret R Q (k + R'.cells) (n + R'.slots) h q Ls ( F :: rest)) : Go l Z y code ml ret R Q k n h pc Ls st := by
  exact Go.callS argsL rest q hd w1 w2 w3 w4 hpl hy hlen hst hent G W hsz hW hf hl hk hN hq (fun v h' hq' => by obtain ⟨z, e, hp, hh⟩ := hq'; subst e; subst hh; rw [hp]; exact g)
end
section
variable {y' : MethodName} {code' : ByteArray} {ml' : Nat} {ret' : Option FieldType} {R' : Room} {Ls' : Array Slot} {i : Nat}
theorem Go.callSRe (argsL : List Value) (rest : List Value) (q : Nat) (hd : decode code pc = .ok (.invokestatic i, 3)) (w1 : (Cond.methodLink y.cls i y').before a0 Z = true) (w2 : (Cond.static y').before a0 Z = true) (w3 : (Cond.initialized y'.cls).before a0 Z = true) (w4 : (Cond.code y' code' ml' ret').before a0 Z = true)
    (hpl : plainFor y' = true) (hy : y'.cls ≠ "java/lang/invoke/MethodHandle" ∧ y'.cls ≠ "java/lang/invoke/VarHandle") (hlen : ∀ sig, parseMethodDescriptor y'.desc = some sig → argsL.length = sig.parameters.length) (hst : st = argsL.reverse ++ rest) (hent : ∀ m, entryFrame m argsL.toArray ml' = mkF m 0 Ls' [])
    (F : Value) (P' : Heap → Prop) (G : Go l Z y' code' ml' ret' R' (QR fun z h' => z = F ∧ P' h') 0 0 h 0 Ls' []) (W : Nat) (hsz : Ls.size = ml) (hW : (rest.map fun v => v.category).sum ≤ W) (hf : R'.frames + 1 ≤ R.frames) (hl : W + (ml' + 11) + R'.locals ≤ R.locals) (hk : k + R'.cells ≤ R.cells) (hN : n + R'.slots ≤ R.slots) (hq : pc + 3 = q)
    (g : ∀ h', P' h' → Go l Z y code ml ret R Q (k + R'.cells) (n + R'.slots) h' q Ls ( F :: rest)) : Go l Z y code ml ret R Q k n h pc Ls st := by
  exact Go.callS argsL rest q hd w1 w2 w3 w4 hpl hy hlen hst hent G W hsz hW hf hl hk hN hq (fun v h' hq' => by obtain ⟨z, e, hp, hh⟩ := hq'; subst e; rw [hp]; exact g h' hh)
end
section
variable {y' : MethodName} {code' : ByteArray} {ml' : Nat} {ret' : Option FieldType} {R' : Room} {Ls' : Array Slot} {i : Nat}
theorem Go.callSV (argsL : List Value) (rest : List Value) (q : Nat) (hd : decode code pc = .ok (.invokestatic i, 3)) (w1 : (Cond.methodLink y.cls i y').before a0 Z = true) (w2 : (Cond.static y').before a0 Z = true) (w3 : (Cond.initialized y'.cls).before a0 Z = true) (w4 : (Cond.code y' code' ml' ret').before a0 Z = true)
    (hpl : plainFor y' = true) (hy : y'.cls ≠ "java/lang/invoke/MethodHandle" ∧ y'.cls ≠ "java/lang/invoke/VarHandle") (hlen : ∀ sig, parseMethodDescriptor y'.desc = some sig → argsL.length = sig.parameters.length) (hst : st = argsL.reverse ++ rest) (hent : ∀ m, entryFrame m argsL.toArray ml' = mkF m 0 Ls' [])
    (P' : Heap → Prop) (G : Go l Z y' code' ml' ret' R' (QV P') 0 0 h 0 Ls' []) (W : Nat) (hsz : Ls.size = ml) (hW : (rest.map fun v => v.category).sum ≤ W) (hf : R'.frames + 1 ≤ R.frames) (hl : W + (ml' + 11) + R'.locals ≤ R.locals) (hk : k + R'.cells ≤ R.cells) (hN : n + R'.slots ≤ R.slots) (hq : pc + 3 = q)
    (g : ∀ h', P' h' → Go l Z y code ml ret R Q (k + R'.cells) (n + R'.slots) h' q Ls rest) : Go l Z y code ml ret R Q k n h pc Ls st := by
  exact Go.callS argsL rest q hd w1 w2 w3 w4 hpl hy hlen hst hent G W hsz hW hf hl hk hN hq (fun v h' hq' => by obtain ⟨e, hp⟩ := hq'; subst e; exact g h' hp)
end
section
variable {y' : MethodName} {code' : ByteArray} {ml' : Nat} {ret' : Option FieldType} {R' : Room} {Ls' : Array Slot} {i : Nat}
theorem Go.callSVp (argsL : List Value) (rest : List Value) (q : Nat) (hd : decode code pc = .ok (.invokestatic i, 3)) (w1 : (Cond.methodLink y.cls i y').before a0 Z = true) (w2 : (Cond.static y').before a0 Z = true) (w3 : (Cond.initialized y'.cls).before a0 Z = true) (w4 : (Cond.code y' code' ml' ret').before a0 Z = true)
    (hpl : plainFor y' = true) (hy : y'.cls ≠ "java/lang/invoke/MethodHandle" ∧ y'.cls ≠ "java/lang/invoke/VarHandle") (hlen : ∀ sig, parseMethodDescriptor y'.desc = some sig → argsL.length = sig.parameters.length) (hst : st = argsL.reverse ++ rest) (hent : ∀ m, entryFrame m argsL.toArray ml' = mkF m 0 Ls' [])
    (G : Go l Z y' code' ml' ret' R' (QV fun h' => h' = h) 0 0 h 0 Ls' []) (W : Nat) (hsz : Ls.size = ml) (hW : (rest.map fun v => v.category).sum ≤ W) (hf : R'.frames + 1 ≤ R.frames) (hl : W + (ml' + 11) + R'.locals ≤ R.locals) (hk : k + R'.cells ≤ R.cells) (hN : n + R'.slots ≤ R.slots) (hq : pc + 3 = q)
    (g : Go l Z y code ml ret R Q (k + R'.cells) (n + R'.slots) h q Ls rest) : Go l Z y code ml ret R Q k n h pc Ls st := by
  exact Go.callS argsL rest q hd w1 w2 w3 w4 hpl hy hlen hst hent G W hsz hW hf hl hk hN hq (fun v h' hq' => by obtain ⟨e, hp⟩ := hq'; subst e; subst hp; exact g)
end
section
variable {y' : MethodName} {code' : ByteArray} {ml' : Nat} {ret' : Option FieldType} {R' : Room} {Ls' : Array Slot} {i : Nat}
theorem Go.callVI {a : Addr} {C : String} (argsL : List Value) (rest : List Value) (q : Nat) (hd : decode code pc = .ok (.invokevirtual i, 3)) (w1 : (Cond.methodLink y.cls i y').before a0 Z = true) (w1' : (Cond.declares y').before a0 Z = true) (w1s : (Cond.selects C y' y').before a0 Z = true) (w2 : (Cond.instanceMethod y').before a0 Z = true) (w3 : (Cond.initialized y'.cls).before a0 Z = true) (w4 : (Cond.code y' code' ml' ret').before a0 Z = true) (E : Exa Z h a C)
    (hpl : plainFor y' = true) (hy : y'.cls ≠ "java/lang/invoke/MethodHandle" ∧ y'.cls ≠ "java/lang/invoke/VarHandle") (hlen : ∀ sig, parseMethodDescriptor y'.desc = some sig → argsL.length = sig.parameters.length) (hst : st = argsL.reverse ++ .ref a :: rest) (hent : ∀ m, entryFrame m (.ref a :: argsL).toArray ml' = mkF m 0 Ls' [])
    (P' : Int32 → Heap → Prop) (G : Go l Z y' code' ml' ret' R' (QI P') 0 0 h 0 Ls' []) (W : Nat) (hsz : Ls.size = ml) (hW : (rest.map fun v => v.category).sum ≤ W) (hf : R'.frames + 1 ≤ R.frames) (hl : W + (ml' + 11) + R'.locals ≤ R.locals) (hk : k + R'.cells ≤ R.cells) (hN : n + R'.slots ≤ R.slots) (hq : pc + 3 = q)
    (g : ∀ (z : Int32) h', P' z h' → Go l Z y code ml ret R Q (k + R'.cells) (n + R'.slots) h' q Ls (.int z :: rest)) : Go l Z y code ml ret R Q k n h pc Ls st := by
  exact Go.callV argsL rest q hd w1 w1' w1s w2 w3 w4 E hpl hy hlen hst hent G W hsz hW hf hl hk hN hq (fun v h' hq' => by obtain ⟨z, e, hp⟩ := hq'; subst e; exact g z h' hp)
end
section
variable {y' : MethodName} {code' : ByteArray} {ml' : Nat} {ret' : Option FieldType} {R' : Room} {Ls' : Array Slot} {i : Nat}
theorem Go.callVIp {a : Addr} {C : String} (argsL : List Value) (rest : List Value) (q : Nat) (hd : decode code pc = .ok (.invokevirtual i, 3)) (w1 : (Cond.methodLink y.cls i y').before a0 Z = true) (w1' : (Cond.declares y').before a0 Z = true) (w1s : (Cond.selects C y' y').before a0 Z = true) (w2 : (Cond.instanceMethod y').before a0 Z = true) (w3 : (Cond.initialized y'.cls).before a0 Z = true) (w4 : (Cond.code y' code' ml' ret').before a0 Z = true) (E : Exa Z h a C)
    (hpl : plainFor y' = true) (hy : y'.cls ≠ "java/lang/invoke/MethodHandle" ∧ y'.cls ≠ "java/lang/invoke/VarHandle") (hlen : ∀ sig, parseMethodDescriptor y'.desc = some sig → argsL.length = sig.parameters.length) (hst : st = argsL.reverse ++ .ref a :: rest) (hent : ∀ m, entryFrame m (.ref a :: argsL).toArray ml' = mkF m 0 Ls' [])
    (F : Int32) (G : Go l Z y' code' ml' ret' R' (QI fun z h' => z = F ∧ h' = h) 0 0 h 0 Ls' []) (W : Nat) (hsz : Ls.size = ml) (hW : (rest.map fun v => v.category).sum ≤ W) (hf : R'.frames + 1 ≤ R.frames) (hl : W + (ml' + 11) + R'.locals ≤ R.locals) (hk : k + R'.cells ≤ R.cells) (hN : n + R'.slots ≤ R.slots) (hq : pc + 3 = q)
    (g : Go l Z y code ml ret R Q (k + R'.cells) (n + R'.slots) h q Ls (.int F :: rest)) : Go l Z y code ml ret R Q k n h pc Ls st := by
  exact Go.callV argsL rest q hd w1 w1' w1s w2 w3 w4 E hpl hy hlen hst hent G W hsz hW hf hl hk hN hq (fun v h' hq' => by obtain ⟨z, e, hp, hh⟩ := hq'; subst e; subst hh; rw [hp]; exact g)
end
section
variable {y' : MethodName} {code' : ByteArray} {ml' : Nat} {ret' : Option FieldType} {R' : Room} {Ls' : Array Slot} {i : Nat}
theorem Go.callVIe {a : Addr} {C : String} (argsL : List Value) (rest : List Value) (q : Nat) (hd : decode code pc = .ok (.invokevirtual i, 3)) (w1 : (Cond.methodLink y.cls i y').before a0 Z = true) (w1' : (Cond.declares y').before a0 Z = true) (w1s : (Cond.selects C y' y').before a0 Z = true) (w2 : (Cond.instanceMethod y').before a0 Z = true) (w3 : (Cond.initialized y'.cls).before a0 Z = true) (w4 : (Cond.code y' code' ml' ret').before a0 Z = true) (E : Exa Z h a C)
    (hpl : plainFor y' = true) (hy : y'.cls ≠ "java/lang/invoke/MethodHandle" ∧ y'.cls ≠ "java/lang/invoke/VarHandle") (hlen : ∀ sig, parseMethodDescriptor y'.desc = some sig → argsL.length = sig.parameters.length) (hst : st = argsL.reverse ++ .ref a :: rest) (hent : ∀ m, entryFrame m (.ref a :: argsL).toArray ml' = mkF m 0 Ls' [])
    (F : Int32) (P' : Heap → Prop) (G : Go l Z y' code' ml' ret' R' (QI fun z h' => z = F ∧ P' h') 0 0 h 0 Ls' []) (W : Nat) (hsz : Ls.size = ml) (hW : (rest.map fun v => v.category).sum ≤ W) (hf : R'.frames + 1 ≤ R.frames) (hl : W + (ml' + 11) + R'.locals ≤ R.locals) (hk : k + R'.cells ≤ R.cells) (hN : n + R'.slots ≤ R.slots) (hq : pc + 3 = q)
    (g : ∀ h', P' h' → Go l Z y code ml ret R Q (k + R'.cells) (n + R'.slots) h' q Ls (.int F :: rest)) : Go l Z y code ml ret R Q k n h pc Ls st := by
  exact Go.callV argsL rest q hd w1 w1' w1s w2 w3 w4 E hpl hy hlen hst hent G W hsz hW hf hl hk hN hq (fun v h' hq' => by obtain ⟨z, e, hp, hh⟩ := hq'; subst e; rw [hp]; exact g h' hh)
end
section
variable {y' : MethodName} {code' : ByteArray} {ml' : Nat} {ret' : Option FieldType} {R' : Room} {Ls' : Array Slot} {i : Nat}
theorem Go.callVJ {a : Addr} {C : String} (argsL : List Value) (rest : List Value) (q : Nat) (hd : decode code pc = .ok (.invokevirtual i, 3)) (w1 : (Cond.methodLink y.cls i y').before a0 Z = true) (w1' : (Cond.declares y').before a0 Z = true) (w1s : (Cond.selects C y' y').before a0 Z = true) (w2 : (Cond.instanceMethod y').before a0 Z = true) (w3 : (Cond.initialized y'.cls).before a0 Z = true) (w4 : (Cond.code y' code' ml' ret').before a0 Z = true) (E : Exa Z h a C)
    (hpl : plainFor y' = true) (hy : y'.cls ≠ "java/lang/invoke/MethodHandle" ∧ y'.cls ≠ "java/lang/invoke/VarHandle") (hlen : ∀ sig, parseMethodDescriptor y'.desc = some sig → argsL.length = sig.parameters.length) (hst : st = argsL.reverse ++ .ref a :: rest) (hent : ∀ m, entryFrame m (.ref a :: argsL).toArray ml' = mkF m 0 Ls' [])
    (P' : Int64 → Heap → Prop) (G : Go l Z y' code' ml' ret' R' (QJ P') 0 0 h 0 Ls' []) (W : Nat) (hsz : Ls.size = ml) (hW : (rest.map fun v => v.category).sum ≤ W) (hf : R'.frames + 1 ≤ R.frames) (hl : W + (ml' + 11) + R'.locals ≤ R.locals) (hk : k + R'.cells ≤ R.cells) (hN : n + R'.slots ≤ R.slots) (hq : pc + 3 = q)
    (g : ∀ (z : Int64) h', P' z h' → Go l Z y code ml ret R Q (k + R'.cells) (n + R'.slots) h' q Ls (.long z :: rest)) : Go l Z y code ml ret R Q k n h pc Ls st := by
  exact Go.callV argsL rest q hd w1 w1' w1s w2 w3 w4 E hpl hy hlen hst hent G W hsz hW hf hl hk hN hq (fun v h' hq' => by obtain ⟨z, e, hp⟩ := hq'; subst e; exact g z h' hp)
end
section
variable {y' : MethodName} {code' : ByteArray} {ml' : Nat} {ret' : Option FieldType} {R' : Room} {Ls' : Array Slot} {i : Nat}
theorem Go.callVJp {a : Addr} {C : String} (argsL : List Value) (rest : List Value) (q : Nat) (hd : decode code pc = .ok (.invokevirtual i, 3)) (w1 : (Cond.methodLink y.cls i y').before a0 Z = true) (w1' : (Cond.declares y').before a0 Z = true) (w1s : (Cond.selects C y' y').before a0 Z = true) (w2 : (Cond.instanceMethod y').before a0 Z = true) (w3 : (Cond.initialized y'.cls).before a0 Z = true) (w4 : (Cond.code y' code' ml' ret').before a0 Z = true) (E : Exa Z h a C)
    (hpl : plainFor y' = true) (hy : y'.cls ≠ "java/lang/invoke/MethodHandle" ∧ y'.cls ≠ "java/lang/invoke/VarHandle") (hlen : ∀ sig, parseMethodDescriptor y'.desc = some sig → argsL.length = sig.parameters.length) (hst : st = argsL.reverse ++ .ref a :: rest) (hent : ∀ m, entryFrame m (.ref a :: argsL).toArray ml' = mkF m 0 Ls' [])
    (F : Int64) (G : Go l Z y' code' ml' ret' R' (QJ fun z h' => z = F ∧ h' = h) 0 0 h 0 Ls' []) (W : Nat) (hsz : Ls.size = ml) (hW : (rest.map fun v => v.category).sum ≤ W) (hf : R'.frames + 1 ≤ R.frames) (hl : W + (ml' + 11) + R'.locals ≤ R.locals) (hk : k + R'.cells ≤ R.cells) (hN : n + R'.slots ≤ R.slots) (hq : pc + 3 = q)
    (g : Go l Z y code ml ret R Q (k + R'.cells) (n + R'.slots) h q Ls (.long F :: rest)) : Go l Z y code ml ret R Q k n h pc Ls st := by
  exact Go.callV argsL rest q hd w1 w1' w1s w2 w3 w4 E hpl hy hlen hst hent G W hsz hW hf hl hk hN hq (fun v h' hq' => by obtain ⟨z, e, hp, hh⟩ := hq'; subst e; subst hh; rw [hp]; exact g)
end
section
variable {y' : MethodName} {code' : ByteArray} {ml' : Nat} {ret' : Option FieldType} {R' : Room} {Ls' : Array Slot} {i : Nat}
theorem Go.callVJe {a : Addr} {C : String} (argsL : List Value) (rest : List Value) (q : Nat) (hd : decode code pc = .ok (.invokevirtual i, 3)) (w1 : (Cond.methodLink y.cls i y').before a0 Z = true) (w1' : (Cond.declares y').before a0 Z = true) (w1s : (Cond.selects C y' y').before a0 Z = true) (w2 : (Cond.instanceMethod y').before a0 Z = true) (w3 : (Cond.initialized y'.cls).before a0 Z = true) (w4 : (Cond.code y' code' ml' ret').before a0 Z = true) (E : Exa Z h a C)
    (hpl : plainFor y' = true) (hy : y'.cls ≠ "java/lang/invoke/MethodHandle" ∧ y'.cls ≠ "java/lang/invoke/VarHandle") (hlen : ∀ sig, parseMethodDescriptor y'.desc = some sig → argsL.length = sig.parameters.length) (hst : st = argsL.reverse ++ .ref a :: rest) (hent : ∀ m, entryFrame m (.ref a :: argsL).toArray ml' = mkF m 0 Ls' [])
    (F : Int64) (P' : Heap → Prop) (G : Go l Z y' code' ml' ret' R' (QJ fun z h' => z = F ∧ P' h') 0 0 h 0 Ls' []) (W : Nat) (hsz : Ls.size = ml) (hW : (rest.map fun v => v.category).sum ≤ W) (hf : R'.frames + 1 ≤ R.frames) (hl : W + (ml' + 11) + R'.locals ≤ R.locals) (hk : k + R'.cells ≤ R.cells) (hN : n + R'.slots ≤ R.slots) (hq : pc + 3 = q)
    (g : ∀ h', P' h' → Go l Z y code ml ret R Q (k + R'.cells) (n + R'.slots) h' q Ls (.long F :: rest)) : Go l Z y code ml ret R Q k n h pc Ls st := by
  exact Go.callV argsL rest q hd w1 w1' w1s w2 w3 w4 E hpl hy hlen hst hent G W hsz hW hf hl hk hN hq (fun v h' hq' => by obtain ⟨z, e, hp, hh⟩ := hq'; subst e; rw [hp]; exact g h' hh)
end
section
variable {y' : MethodName} {code' : ByteArray} {ml' : Nat} {ret' : Option FieldType} {R' : Room} {Ls' : Array Slot} {i : Nat}
theorem Go.callVR {a : Addr} {C : String} (argsL : List Value) (rest : List Value) (q : Nat) (hd : decode code pc = .ok (.invokevirtual i, 3)) (w1 : (Cond.methodLink y.cls i y').before a0 Z = true) (w1' : (Cond.declares y').before a0 Z = true) (w1s : (Cond.selects C y' y').before a0 Z = true) (w2 : (Cond.instanceMethod y').before a0 Z = true) (w3 : (Cond.initialized y'.cls).before a0 Z = true) (w4 : (Cond.code y' code' ml' ret').before a0 Z = true) (E : Exa Z h a C)
    (hpl : plainFor y' = true) (hy : y'.cls ≠ "java/lang/invoke/MethodHandle" ∧ y'.cls ≠ "java/lang/invoke/VarHandle") (hlen : ∀ sig, parseMethodDescriptor y'.desc = some sig → argsL.length = sig.parameters.length) (hst : st = argsL.reverse ++ .ref a :: rest) (hent : ∀ m, entryFrame m (.ref a :: argsL).toArray ml' = mkF m 0 Ls' [])
    (P' : Value → Heap → Prop) (G : Go l Z y' code' ml' ret' R' (QR P') 0 0 h 0 Ls' []) (W : Nat) (hsz : Ls.size = ml) (hW : (rest.map fun v => v.category).sum ≤ W) (hf : R'.frames + 1 ≤ R.frames) (hl : W + (ml' + 11) + R'.locals ≤ R.locals) (hk : k + R'.cells ≤ R.cells) (hN : n + R'.slots ≤ R.slots) (hq : pc + 3 = q)
    (g : ∀ (z : Value) h', P' z h' → Go l Z y code ml ret R Q (k + R'.cells) (n + R'.slots) h' q Ls ( z :: rest)) : Go l Z y code ml ret R Q k n h pc Ls st := by
  exact Go.callV argsL rest q hd w1 w1' w1s w2 w3 w4 E hpl hy hlen hst hent G W hsz hW hf hl hk hN hq (fun v h' hq' => by obtain ⟨z, e, hp⟩ := hq'; subst e; exact g z h' hp)
end
section
variable {y' : MethodName} {code' : ByteArray} {ml' : Nat} {ret' : Option FieldType} {R' : Room} {Ls' : Array Slot} {i : Nat}
theorem Go.callVRp {a : Addr} {C : String} (argsL : List Value) (rest : List Value) (q : Nat) (hd : decode code pc = .ok (.invokevirtual i, 3)) (w1 : (Cond.methodLink y.cls i y').before a0 Z = true) (w1' : (Cond.declares y').before a0 Z = true) (w1s : (Cond.selects C y' y').before a0 Z = true) (w2 : (Cond.instanceMethod y').before a0 Z = true) (w3 : (Cond.initialized y'.cls).before a0 Z = true) (w4 : (Cond.code y' code' ml' ret').before a0 Z = true) (E : Exa Z h a C)
    (hpl : plainFor y' = true) (hy : y'.cls ≠ "java/lang/invoke/MethodHandle" ∧ y'.cls ≠ "java/lang/invoke/VarHandle") (hlen : ∀ sig, parseMethodDescriptor y'.desc = some sig → argsL.length = sig.parameters.length) (hst : st = argsL.reverse ++ .ref a :: rest) (hent : ∀ m, entryFrame m (.ref a :: argsL).toArray ml' = mkF m 0 Ls' [])
    (F : Value) (G : Go l Z y' code' ml' ret' R' (QR fun z h' => z = F ∧ h' = h) 0 0 h 0 Ls' []) (W : Nat) (hsz : Ls.size = ml) (hW : (rest.map fun v => v.category).sum ≤ W) (hf : R'.frames + 1 ≤ R.frames) (hl : W + (ml' + 11) + R'.locals ≤ R.locals) (hk : k + R'.cells ≤ R.cells) (hN : n + R'.slots ≤ R.slots) (hq : pc + 3 = q)
    (g : Go l Z y code ml ret R Q (k + R'.cells) (n + R'.slots) h q Ls ( F :: rest)) : Go l Z y code ml ret R Q k n h pc Ls st := by
  exact Go.callV argsL rest q hd w1 w1' w1s w2 w3 w4 E hpl hy hlen hst hent G W hsz hW hf hl hk hN hq (fun v h' hq' => by obtain ⟨z, e, hp, hh⟩ := hq'; subst e; subst hh; rw [hp]; exact g)
end
section
variable {y' : MethodName} {code' : ByteArray} {ml' : Nat} {ret' : Option FieldType} {R' : Room} {Ls' : Array Slot} {i : Nat}
theorem Go.callVRe {a : Addr} {C : String} (argsL : List Value) (rest : List Value) (q : Nat) (hd : decode code pc = .ok (.invokevirtual i, 3)) (w1 : (Cond.methodLink y.cls i y').before a0 Z = true) (w1' : (Cond.declares y').before a0 Z = true) (w1s : (Cond.selects C y' y').before a0 Z = true) (w2 : (Cond.instanceMethod y').before a0 Z = true) (w3 : (Cond.initialized y'.cls).before a0 Z = true) (w4 : (Cond.code y' code' ml' ret').before a0 Z = true) (E : Exa Z h a C)
    (hpl : plainFor y' = true) (hy : y'.cls ≠ "java/lang/invoke/MethodHandle" ∧ y'.cls ≠ "java/lang/invoke/VarHandle") (hlen : ∀ sig, parseMethodDescriptor y'.desc = some sig → argsL.length = sig.parameters.length) (hst : st = argsL.reverse ++ .ref a :: rest) (hent : ∀ m, entryFrame m (.ref a :: argsL).toArray ml' = mkF m 0 Ls' [])
    (F : Value) (P' : Heap → Prop) (G : Go l Z y' code' ml' ret' R' (QR fun z h' => z = F ∧ P' h') 0 0 h 0 Ls' []) (W : Nat) (hsz : Ls.size = ml) (hW : (rest.map fun v => v.category).sum ≤ W) (hf : R'.frames + 1 ≤ R.frames) (hl : W + (ml' + 11) + R'.locals ≤ R.locals) (hk : k + R'.cells ≤ R.cells) (hN : n + R'.slots ≤ R.slots) (hq : pc + 3 = q)
    (g : ∀ h', P' h' → Go l Z y code ml ret R Q (k + R'.cells) (n + R'.slots) h' q Ls ( F :: rest)) : Go l Z y code ml ret R Q k n h pc Ls st := by
  exact Go.callV argsL rest q hd w1 w1' w1s w2 w3 w4 E hpl hy hlen hst hent G W hsz hW hf hl hk hN hq (fun v h' hq' => by obtain ⟨z, e, hp, hh⟩ := hq'; subst e; rw [hp]; exact g h' hh)
end
section
variable {y' : MethodName} {code' : ByteArray} {ml' : Nat} {ret' : Option FieldType} {R' : Room} {Ls' : Array Slot} {i : Nat}
theorem Go.callVV {a : Addr} {C : String} (argsL : List Value) (rest : List Value) (q : Nat) (hd : decode code pc = .ok (.invokevirtual i, 3)) (w1 : (Cond.methodLink y.cls i y').before a0 Z = true) (w1' : (Cond.declares y').before a0 Z = true) (w1s : (Cond.selects C y' y').before a0 Z = true) (w2 : (Cond.instanceMethod y').before a0 Z = true) (w3 : (Cond.initialized y'.cls).before a0 Z = true) (w4 : (Cond.code y' code' ml' ret').before a0 Z = true) (E : Exa Z h a C)
    (hpl : plainFor y' = true) (hy : y'.cls ≠ "java/lang/invoke/MethodHandle" ∧ y'.cls ≠ "java/lang/invoke/VarHandle") (hlen : ∀ sig, parseMethodDescriptor y'.desc = some sig → argsL.length = sig.parameters.length) (hst : st = argsL.reverse ++ .ref a :: rest) (hent : ∀ m, entryFrame m (.ref a :: argsL).toArray ml' = mkF m 0 Ls' [])
    (P' : Heap → Prop) (G : Go l Z y' code' ml' ret' R' (QV P') 0 0 h 0 Ls' []) (W : Nat) (hsz : Ls.size = ml) (hW : (rest.map fun v => v.category).sum ≤ W) (hf : R'.frames + 1 ≤ R.frames) (hl : W + (ml' + 11) + R'.locals ≤ R.locals) (hk : k + R'.cells ≤ R.cells) (hN : n + R'.slots ≤ R.slots) (hq : pc + 3 = q)
    (g : ∀ h', P' h' → Go l Z y code ml ret R Q (k + R'.cells) (n + R'.slots) h' q Ls rest) : Go l Z y code ml ret R Q k n h pc Ls st := by
  exact Go.callV argsL rest q hd w1 w1' w1s w2 w3 w4 E hpl hy hlen hst hent G W hsz hW hf hl hk hN hq (fun v h' hq' => by obtain ⟨e, hp⟩ := hq'; subst e; exact g h' hp)
end
section
variable {y' : MethodName} {code' : ByteArray} {ml' : Nat} {ret' : Option FieldType} {R' : Room} {Ls' : Array Slot} {i : Nat}
theorem Go.callVVp {a : Addr} {C : String} (argsL : List Value) (rest : List Value) (q : Nat) (hd : decode code pc = .ok (.invokevirtual i, 3)) (w1 : (Cond.methodLink y.cls i y').before a0 Z = true) (w1' : (Cond.declares y').before a0 Z = true) (w1s : (Cond.selects C y' y').before a0 Z = true) (w2 : (Cond.instanceMethod y').before a0 Z = true) (w3 : (Cond.initialized y'.cls).before a0 Z = true) (w4 : (Cond.code y' code' ml' ret').before a0 Z = true) (E : Exa Z h a C)
    (hpl : plainFor y' = true) (hy : y'.cls ≠ "java/lang/invoke/MethodHandle" ∧ y'.cls ≠ "java/lang/invoke/VarHandle") (hlen : ∀ sig, parseMethodDescriptor y'.desc = some sig → argsL.length = sig.parameters.length) (hst : st = argsL.reverse ++ .ref a :: rest) (hent : ∀ m, entryFrame m (.ref a :: argsL).toArray ml' = mkF m 0 Ls' [])
    (G : Go l Z y' code' ml' ret' R' (QV fun h' => h' = h) 0 0 h 0 Ls' []) (W : Nat) (hsz : Ls.size = ml) (hW : (rest.map fun v => v.category).sum ≤ W) (hf : R'.frames + 1 ≤ R.frames) (hl : W + (ml' + 11) + R'.locals ≤ R.locals) (hk : k + R'.cells ≤ R.cells) (hN : n + R'.slots ≤ R.slots) (hq : pc + 3 = q)
    (g : Go l Z y code ml ret R Q (k + R'.cells) (n + R'.slots) h q Ls rest) : Go l Z y code ml ret R Q k n h pc Ls st := by
  exact Go.callV argsL rest q hd w1 w1' w1s w2 w3 w4 E hpl hy hlen hst hent G W hsz hW hf hl hk hN hq (fun v h' hq' => by obtain ⟨e, hp⟩ := hq'; subst e; subst hp; exact g)
end



theorem own_eqf {args : Array Value} {s : State} {t : Term} {O n d : String} {v : Int32} {x : Addr} (ht : t.eval args s none [] s = some (.ref x)) (h : (Jvm.Cond.eq (Term.field t O n d) (Term.int v)).value args s none s [] = some true) : Fld s s.heap x O n d (.int v) := by
  apply Fld.start
  have e := fld_at (C := O) (n := n) (dd := d) ht
  have i : (Term.int v).eval args s none [] s = some (.int v) := Term.int_eval v
  simp only [Jvm.Cond.value, e, i] at h
  cases q : s.fieldOf? x O n d with
  | none => rw [q] at h; simp at h
  | some w =>
    rw [q] at h
    cases w <;> simp at h
    rw [h]
/-- an array of ints, shorts, chars, bytes or booleans, with its elements -/
def Ari (Z : State) (h : Heap) (a : Addr) (ty : FieldType) (xs : List Int32) : Prop := ∃ c : Cell, Arr Z h a c ty ∧ c.slots.toList = xs.map Value.int ∧ xs.length < 2147483648
def Arj (Z : State) (h : Heap) (a : Addr) (xs : List Int64) : Prop := ∃ c : Cell, Arr Z h a c .long ∧ c.slots.toList = xs.map Value.long ∧ xs.length < 2147483648
theorem Ari.lt {a : Addr} {ty : FieldType} {xs : List Int32} (F : Ari Z h a ty xs) : a < h.size := by obtain ⟨c, A, -⟩ := F; exact A.lt
theorem Arj.lt {a : Addr} {xs : List Int64} (F : Arj Z h a xs) : a < h.size := by obtain ⟨c, A, -⟩ := F; exact A.lt
theorem Ari.ext {h' : Heap} {a : Addr} {ty : FieldType} {xs : List Int32} (F : Ari Z h a ty xs) (E : Ext h h') : Ari Z h' a ty xs := by obtain ⟨c, A, r⟩ := F; exact ⟨c, A.ext E, r⟩
theorem Arj.ext {h' : Heap} {a : Addr} {xs : List Int64} (F : Arj Z h a xs) (E : Ext h h') : Arj Z h' a xs := by obtain ⟨c, A, r⟩ := F; exact ⟨c, A.ext E, r⟩
theorem Ari.other {h' : Heap} {a b : Addr} {sl : Nat} {v : Value} {ty : FieldType} {xs : List Int32} (F : Ari Z h b ty xs) (W : Wr h h' a sl v) (q : b ≠ a) : Ari Z h' b ty xs := by obtain ⟨c, A, r⟩ := F; exact ⟨c, A.other W q, r⟩
theorem Arj.other {h' : Heap} {a b : Addr} {sl : Nat} {v : Value} {xs : List Int64} (F : Arj Z h b xs) (W : Wr h h' a sl v) (q : b ≠ a) : Arj Z h' b xs := by obtain ⟨c, A, r⟩ := F; exact ⟨c, A.other W q, r⟩
theorem Ari.keep {h' : Heap} {a : Addr} {ws : List Addr} {ty : FieldType} {xs : List Int32} (F : Ari Z h a ty xs) (K : Keep h h' ws) (q : a ∉ ws) : Ari Z h' a ty xs := by obtain ⟨c, A, r⟩ := F; exact ⟨c, ⟨K.2.1 _ _ A.1 q, A.2⟩, r⟩
theorem Arj.keep {h' : Heap} {a : Addr} {ws : List Addr} {xs : List Int64} (F : Arj Z h a xs) (K : Keep h h' ws) (q : a ∉ ws) : Arj Z h' a xs := by obtain ⟨c, A, r⟩ := F; exact ⟨c, ⟨K.2.1 _ _ A.1 q, A.2⟩, r⟩
theorem own_size {c : Cell} {α : Type} {f : α → Value} {xs : List α} (e : c.slots.toList = xs.map f) : c.slots.size = xs.length := by
  have q := congrArg List.length e
  simpa using q
theorem own_at {c : Cell} {α : Type} {f : α → Value} {xs : List α} (e : c.slots.toList = xs.map f) {i : Nat} {x : α} (hx : xs[i]? = some x) : c.slots[i]? = some (f x) := by
  have q : c.slots.toList[i]? = some (f x) := by rw [e, List.getElem?_map, hx]; rfl
  simpa using q
theorem own_in {c : Cell} {α : Type} {f : α → Value} {xs : List α} (e : c.slots.toList = xs.map f) {i : Nat} {j : Int32} (hj : ¬ j < 0) (hi : j.toNatClampNeg = i) (hx : i < xs.length) : ¬ (j < 0 ∨ c.slots.size ≤ j.toNatClampNeg) := by
  rw [own_size e, hi]; intro q; rcases q with q | q
  · exact hj q
  · exact absurd hx (Nat.not_lt.mpr q)
theorem own_set {c : Cell} {α : Type} {f : α → Value} {xs : List α} (e : c.slots.toList = xs.map f) (i : Nat) (x : α) : (c.setSlot i (f x)).slots.toList = (xs.set i x).map f := by
  show (c.slots.setIfInBounds i (f x)).toList = _
  rw [Array.toList_setIfInBounds, e, List.map_set]
theorem Ari.set {h' : Heap} {a : Addr} {ty : FieldType} {xs xs' : List Int32} {i : Nat} {x : Int32} (F : Ari Z h a ty xs) (W : Wr h h' a i (.int x)) (e : xs.set i x = xs') : Ari Z h' a ty xs' := by
  subst e
  obtain ⟨c, A, r, r2⟩ := F
  exact ⟨_, A.same W, own_set r i x, by rw [List.length_set]; exact r2⟩
theorem Arj.set {h' : Heap} {a : Addr} {xs xs' : List Int64} {i : Nat} {x : Int64} (F : Arj Z h a xs) (W : Wr h h' a i (.long x)) (e : xs.set i x = xs') : Arj Z h' a xs' := by
  subst e
  obtain ⟨c, A, r, r2⟩ := F
  exact ⟨_, A.same W, own_set r i x, by rw [List.length_set]; exact r2⟩

theorem Go.iaload {a : Addr} {j x : Int32} {xs : List Int32} (i : Nat) (q : Nat) (hd : decode code pc = .ok (.iaload, 1)) (A : Ari Z h a .int xs) (hj : ¬ j < 0) (hi : j.toNatClampNeg = i) (hx : xs[i]? = some x) (hq : pc + 1 = q) (g : Go l Z y code ml ret R Q k n h q Ls (.int x :: st)) : Go l Z y code ml ret R Q k n h pc Ls (.int j :: .ref a :: st) := by
  subst hq hi
  obtain ⟨cl, A, r, r2⟩ := A
  have hv := own_at r hx
  have hin := own_in r hj rfl (List.getElem?_eq_some_iff.mp hx).1
  exact g.pure fun p e s m args below meth c K T L k' n' X hT t rr => X.iaload K.1 (cell := cl) (v := .int x) (by rw [hT]; exact A.1) (State.isArrayOf_alike K.2.2.1.alike A.2.1) A.2.2 hin hv (g := mkF m pc Ls (.int j :: .ref a :: st)) rfl rfl (hb K.2.1 hd) t rr
theorem Go.baload {a : Addr} {j x : Int32} {xs : List Int32} (i : Nat) (q : Nat) (hd : decode code pc = .ok (.baload, 1)) (A : Ari Z h a .byte xs) (hj : ¬ j < 0) (hi : j.toNatClampNeg = i) (hx : xs[i]? = some x) (hq : pc + 1 = q) (g : Go l Z y code ml ret R Q k n h q Ls (.int x :: st)) : Go l Z y code ml ret R Q k n h pc Ls (.int j :: .ref a :: st) := by
  subst hq hi
  obtain ⟨cl, A, r, r2⟩ := A
  have hv := own_at r hx
  have hin := own_in r hj rfl (List.getElem?_eq_some_iff.mp hx).1
  exact g.pure fun p e s m args below meth c K T L k' n' X hT t rr => X.baloadBytes K.1 (cell := cl) (v := .int x) (by rw [hT]; exact A.1) (State.isArrayOf_alike K.2.2.1.alike A.2.1) A.2.2 hin hv (g := mkF m pc Ls (.int j :: .ref a :: st)) rfl rfl (hb K.2.1 hd) t rr
theorem Go.zaload {a : Addr} {j x : Int32} {xs : List Int32} (i : Nat) (q : Nat) (hd : decode code pc = .ok (.baload, 1)) (A : Ari Z h a .boolean xs) (hj : ¬ j < 0) (hi : j.toNatClampNeg = i) (hx : xs[i]? = some x) (hq : pc + 1 = q) (g : Go l Z y code ml ret R Q k n h q Ls (.int x :: st)) : Go l Z y code ml ret R Q k n h pc Ls (.int j :: .ref a :: st) := by
  subst hq hi
  obtain ⟨cl, A, r, r2⟩ := A
  have hv := own_at r hx
  have hin := own_in r hj rfl (List.getElem?_eq_some_iff.mp hx).1
  exact g.pure fun p e s m args below meth c K T L k' n' X hT t rr => X.baloadBooleans K.1 (cell := cl) (v := .int x) (by rw [hT]; exact A.1) (State.isArrayOf_alike K.2.2.1.alike A.2.1) A.2.2 hin hv (g := mkF m pc Ls (.int j :: .ref a :: st)) rfl rfl (hb K.2.1 hd) t rr
theorem Go.caload {a : Addr} {j x : Int32} {xs : List Int32} (i : Nat) (q : Nat) (hd : decode code pc = .ok (.caload, 1)) (A : Ari Z h a .char xs) (hj : ¬ j < 0) (hi : j.toNatClampNeg = i) (hx : xs[i]? = some x) (hq : pc + 1 = q) (g : Go l Z y code ml ret R Q k n h q Ls (.int x :: st)) : Go l Z y code ml ret R Q k n h pc Ls (.int j :: .ref a :: st) := by
  subst hq hi
  obtain ⟨cl, A, r, r2⟩ := A
  have hv := own_at r hx
  have hin := own_in r hj rfl (List.getElem?_eq_some_iff.mp hx).1
  exact g.pure fun p e s m args below meth c K T L k' n' X hT t rr => X.caload K.1 (cell := cl) (v := .int x) (by rw [hT]; exact A.1) (State.isArrayOf_alike K.2.2.1.alike A.2.1) A.2.2 hin hv (g := mkF m pc Ls (.int j :: .ref a :: st)) rfl rfl (hb K.2.1 hd) t rr
theorem Go.laload {a : Addr} {j : Int32} {x : Int64} {xs : List Int64} (i : Nat) (q : Nat) (hd : decode code pc = .ok (.laload, 1)) (A : Arj Z h a xs) (hj : ¬ j < 0) (hi : j.toNatClampNeg = i) (hx : xs[i]? = some x) (hq : pc + 1 = q) (g : Go l Z y code ml ret R Q k n h q Ls (.long x :: st)) : Go l Z y code ml ret R Q k n h pc Ls (.int j :: .ref a :: st) := by
  subst hq hi
  obtain ⟨cl, A, r, r2⟩ := A
  have hv := own_at r hx
  have hin := own_in r hj rfl (List.getElem?_eq_some_iff.mp hx).1
  exact g.pure fun p e s m args below meth c K T L k' n' X hT t rr => X.laload K.1 (cell := cl) (v := .long x) (by rw [hT]; exact A.1) (State.isArrayOf_alike K.2.2.1.alike A.2.1) A.2.2 hin hv (g := mkF m pc Ls (.int j :: .ref a :: st)) rfl rfl (hb K.2.1 hd) t rr
theorem Go.arraylength {a : Addr} {ty : FieldType} {xs : List Int32} {z : Int32} (q : Nat) (hd : decode code pc = .ok (.arraylength, 1)) (A : Ari Z h a ty xs) (hz : xs.length.toInt32 = z) (hq : pc + 1 = q) (g : Go l Z y code ml ret R Q k n h q Ls (.int z :: st)) : Go l Z y code ml ret R Q k n h pc Ls (.ref a :: st) := by
  subst hq
  obtain ⟨cl, A, r, r2⟩ := A
  subst hz
  exact g.pure fun p e s m args below meth c K T L k' n' X hT t rr => X.arraylength K.1 (cell := cl) (by rw [hT]; exact A.1) (State.isArrayOf_alike K.2.2.1.alike A.2.1) (g := mkF m pc Ls (.ref a :: st)) rfl rfl (hb K.2.1 hd) t (by rw [own_size r]; exact rr)
theorem Go.arraylengthJ {a : Addr} {xs : List Int64} {z : Int32} (q : Nat) (hd : decode code pc = .ok (.arraylength, 1)) (A : Arj Z h a xs) (hz : xs.length.toInt32 = z) (hq : pc + 1 = q) (g : Go l Z y code ml ret R Q k n h q Ls (.int z :: st)) : Go l Z y code ml ret R Q k n h pc Ls (.ref a :: st) := by
  subst hq
  obtain ⟨cl, A, r, r2⟩ := A
  subst hz
  exact g.pure fun p e s m args below meth c K T L k' n' X hT t rr => X.arraylength K.1 (cell := cl) (by rw [hT]; exact A.1) (State.isArrayOf_alike K.2.2.1.alike A.2.1) (g := mkF m pc Ls (.ref a :: st)) rfl rfl (hb K.2.1 hd) t (by rw [own_size r]; exact rr)
theorem Go.iastore {a : Addr} {j x : Int32} {xs : List Int32} (i : Nat) (xs' : List Int32) (q : Nat) (hd : decode code pc = .ok (.iastore, 1)) (A : Ari Z h a .int xs) (hj : ¬ j < 0) (hi : j.toNatClampNeg = i) (hx : i < xs.length) (he : xs.set i (x) = xs') (hge : Z.heap.size ≤ a) (hq : pc + 1 = q)
    (g : ∀ h', Wr h h' a i (.int (x)) → Ari Z h' a .int xs' → Go l Z y code ml ret R Q k n h' q Ls st) : Go l Z y code ml ret R Q k n h pc Ls (.int x :: .int j :: .ref a :: st) := by
  subst hq hi
  refine Go.move (P := fun h' => Wr h h' a j.toNatClampNeg (.int (x))) (kk := k) (nn := n) (fun h' W => g h' W (A.set W he)) ?_
  obtain ⟨cl, A, r, r2⟩ := A
  intro p e s m args below meth c K T L k' n' X h1 h2 N hT
  obtain ⟨T', h', X', e', W', s'⟩ := stI X K.1 K.2.2.1 hT A (own_in r hj rfl hx) (g := mkF m pc Ls (.int x :: .int j :: .ref a :: st)) rfl rfl (hb K.2.1 hd)
  exact ⟨T', _, k', n', X', h1, h2, Fr.snoc X' N hge, e' ▸ W', s'⟩
theorem Go.bastore {a : Addr} {j x : Int32} {xs : List Int32} (i : Nat) (xs' : List Int32) (q : Nat) (hd : decode code pc = .ok (.bastore, 1)) (A : Ari Z h a .byte xs) (hj : ¬ j < 0) (hi : j.toNatClampNeg = i) (hx : i < xs.length) (he : xs.set i (nar .byte x) = xs') (hge : Z.heap.size ≤ a) (hq : pc + 1 = q)
    (g : ∀ h', Wr h h' a i (.int (nar .byte x)) → Ari Z h' a .byte xs' → Go l Z y code ml ret R Q k n h' q Ls st) : Go l Z y code ml ret R Q k n h pc Ls (.int x :: .int j :: .ref a :: st) := by
  subst hq hi
  refine Go.move (P := fun h' => Wr h h' a j.toNatClampNeg (.int (nar .byte x))) (kk := k) (nn := n) (fun h' W => g h' W (A.set W he)) ?_
  obtain ⟨cl, A, r, r2⟩ := A
  intro p e s m args below meth c K T L k' n' X h1 h2 N hT
  obtain ⟨T', h', X', e', W', s'⟩ := stB X K.1 K.2.2.1 hT A (own_in r hj rfl hx) (g := mkF m pc Ls (.int x :: .int j :: .ref a :: st)) rfl rfl (hb K.2.1 hd)
  exact ⟨T', _, k', n', X', h1, h2, Fr.snoc X' N hge, e' ▸ W', s'⟩
theorem Go.zastore {a : Addr} {j x : Int32} {xs : List Int32} (i : Nat) (xs' : List Int32) (q : Nat) (hd : decode code pc = .ok (.bastore, 1)) (A : Ari Z h a .boolean xs) (hj : ¬ j < 0) (hi : j.toNatClampNeg = i) (hx : i < xs.length) (he : xs.set i (nar .boolean x) = xs') (hge : Z.heap.size ≤ a) (hq : pc + 1 = q)
    (g : ∀ h', Wr h h' a i (.int (nar .boolean x)) → Ari Z h' a .boolean xs' → Go l Z y code ml ret R Q k n h' q Ls st) : Go l Z y code ml ret R Q k n h pc Ls (.int x :: .int j :: .ref a :: st) := by
  subst hq hi
  refine Go.move (P := fun h' => Wr h h' a j.toNatClampNeg (.int (nar .boolean x))) (kk := k) (nn := n) (fun h' W => g h' W (A.set W he)) ?_
  obtain ⟨cl, A, r, r2⟩ := A
  intro p e s m args below meth c K T L k' n' X h1 h2 N hT
  obtain ⟨T', h', X', e', W', s'⟩ := stZ X K.1 K.2.2.1 hT A (own_in r hj rfl hx) (g := mkF m pc Ls (.int x :: .int j :: .ref a :: st)) rfl rfl (hb K.2.1 hd)
  exact ⟨T', _, k', n', X', h1, h2, Fr.snoc X' N hge, e' ▸ W', s'⟩
theorem Go.castore {a : Addr} {j x : Int32} {xs : List Int32} (i : Nat) (xs' : List Int32) (q : Nat) (hd : decode code pc = .ok (.castore, 1)) (A : Ari Z h a .char xs) (hj : ¬ j < 0) (hi : j.toNatClampNeg = i) (hx : i < xs.length) (he : xs.set i (nar .char x) = xs') (hge : Z.heap.size ≤ a) (hq : pc + 1 = q)
    (g : ∀ h', Wr h h' a i (.int (nar .char x)) → Ari Z h' a .char xs' → Go l Z y code ml ret R Q k n h' q Ls st) : Go l Z y code ml ret R Q k n h pc Ls (.int x :: .int j :: .ref a :: st) := by
  subst hq hi
  refine Go.move (P := fun h' => Wr h h' a j.toNatClampNeg (.int (nar .char x))) (kk := k) (nn := n) (fun h' W => g h' W (A.set W he)) ?_
  obtain ⟨cl, A, r, r2⟩ := A
  intro p e s m args below meth c K T L k' n' X h1 h2 N hT
  obtain ⟨T', h', X', e', W', s'⟩ := stC X K.1 K.2.2.1 hT A (own_in r hj rfl hx) (g := mkF m pc Ls (.int x :: .int j :: .ref a :: st)) rfl rfl (hb K.2.1 hd)
  exact ⟨T', _, k', n', X', h1, h2, Fr.snoc X' N hge, e' ▸ W', s'⟩
theorem Go.lastore {a : Addr} {j : Int32} {x : Int64} {xs : List Int64} (i : Nat) (xs' : List Int64) (q : Nat) (hd : decode code pc = .ok (.lastore, 1)) (A : Arj Z h a xs) (hj : ¬ j < 0) (hi : j.toNatClampNeg = i) (hx : i < xs.length) (he : xs.set i x = xs') (hge : Z.heap.size ≤ a) (hq : pc + 1 = q)
    (g : ∀ h', Wr h h' a i (.long x) → Arj Z h' a xs' → Go l Z y code ml ret R Q k n h' q Ls st) : Go l Z y code ml ret R Q k n h pc Ls (.long x :: .int j :: .ref a :: st) := by
  subst hq hi
  refine Go.move (P := fun h' => Wr h h' a j.toNatClampNeg (.long x)) (kk := k) (nn := n) (fun h' W => g h' W (A.set W he)) ?_
  obtain ⟨cl, A, r, r2⟩ := A
  intro p e s m args below meth c K T L k' n' X h1 h2 N hT
  obtain ⟨T', h', X', e', W', s'⟩ := stJ X K.1 K.2.2.1 hT A (own_in r hj rfl hx) (g := mkF m pc Ls (.long x :: .int j :: .ref a :: st)) rfl rfl (hb K.2.1 hd)
  exact ⟨T', _, k', n', X', h1, h2, Fr.snoc X' N hge, e' ▸ W', s'⟩
theorem Go.newI {aty : ArrayType} {z : Int32} (cap : Nat) (xs : List Int32) (q : Nat) (hd : decode code pc = .ok (.newarray aty, 2)) (w : (Cond.arrayClass (newarray.typeOf aty)).before a0 Z = true) (hdv : defaultValue (newarray.typeOf aty) = .int 0) (hz : ¬ z < 0) (hcap : z.toNatClampNeg ≤ cap) (hbig : cap * 8 ≤ 536870912) (hxs : List.replicate z.toNatClampNeg 0 = xs) (hk : k + 1 ≤ R.cells) (hN : n + cap ≤ R.slots) (hq : pc + 2 = q)
    (g : ∀ (a : Addr) h', a = h.size → Ext h h' → Ari Z h' a (newarray.typeOf aty) xs → Go l Z y code ml ret R Q (k + 1) (n + cap) h' q Ls (.ref a :: st)) : Go l Z y code ml ret R Q k n h pc Ls (.int z :: st) := by
  subst hq hxs
  refine Go.move (P := fun h' => Ext h h' ∧ Ari Z h' h.size (newarray.typeOf aty) (List.replicate z.toNatClampNeg 0)) (kk := k + 1) (nn := n + cap) (fun h' p => g h.size h' rfl p.1 p.2) ?_
  intro p e s m args below meth c K T L k' n' X h1 h2 N hT
  obtain ⟨T', h', cA, X', e', E', A', s'⟩ := newP X K.1 K.2.2.1 w hT (g := mkF m pc Ls (.int z :: st)) rfl (hb K.2.1 hd) rfl hz hcap hbig (Nat.le_trans (Nat.add_le_add_right h1 1) hk) (Nat.le_trans (Nat.add_le_add_right h2 cap) hN)
  subst e'
  refine ⟨T', L, k' + 1, n' + cap, X', Nat.add_le_add_right h1 1, Nat.add_le_add_right h2 cap, N, ⟨E', _, A', ?_, ?_⟩, s'⟩
  · show (Array.replicate z.toNatClampNeg (defaultValue (newarray.typeOf aty))).toList = _
    rw [hdv]; simp [List.map_replicate]
  · rw [List.length_replicate]; omega
theorem Go.newJ {aty : ArrayType} {z : Int32} (cap : Nat) (xs : List Int64) (q : Nat) (hd : decode code pc = .ok (.newarray aty, 2)) (w : (Cond.arrayClass (newarray.typeOf aty)).before a0 Z = true) (hdv : newarray.typeOf aty = .long) (hz : ¬ z < 0) (hcap : z.toNatClampNeg ≤ cap) (hbig : cap * 8 ≤ 536870912) (hxs : List.replicate z.toNatClampNeg 0 = xs) (hk : k + 1 ≤ R.cells) (hN : n + cap ≤ R.slots) (hq : pc + 2 = q)
    (g : ∀ (a : Addr) h', a = h.size → Ext h h' → Arj Z h' a xs → Go l Z y code ml ret R Q (k + 1) (n + cap) h' q Ls (.ref a :: st)) : Go l Z y code ml ret R Q k n h pc Ls (.int z :: st) := by
  subst hq hxs
  refine Go.move (P := fun h' => Ext h h' ∧ Arj Z h' h.size (List.replicate z.toNatClampNeg 0)) (kk := k + 1) (nn := n + cap) (fun h' p => g h.size h' rfl p.1 p.2) ?_
  intro p e s m args below meth c K T L k' n' X h1 h2 N hT
  obtain ⟨T', h', cA, X', e', E', A', s'⟩ := newP X K.1 K.2.2.1 w hT (g := mkF m pc Ls (.int z :: st)) rfl (hb K.2.1 hd) rfl hz hcap hbig (Nat.le_trans (Nat.add_le_add_right h1 1) hk) (Nat.le_trans (Nat.add_le_add_right h2 cap) hN)
  subst e'
  refine ⟨T', L, k' + 1, n' + cap, X', Nat.add_le_add_right h1 1, Nat.add_le_add_right h2 cap, N, ⟨E', _, hdv ▸ A', ?_, ?_⟩, s'⟩
  · show (Array.replicate z.toNatClampNeg (defaultValue .long)).toList = _
    simp [List.map_replicate, defaultValue]
  · rw [List.length_replicate]; omega
end Laws
end Jvm.OwnGo

namespace Jvm.Pilot.@@N@@
open Jvm Jvm.ClassFile Sem Op Lib Jvm.Free Jvm.Stand Jvm.LawKit Jvm.RoadKit Bundle Jvm.OwnGo Jvm.Pilot.@@N@@.Jvm.D
theorem pnx : plainName x.cls = true := by first | (simp [x, plainName, overriddenIn]; done) | decide +kernel
theorem tw0 {a0 : Array Value} {Z : State} (hw : ∀ d ∈ tables_1, d.before a0 Z = true) : ((Jvm.Cond.classLink "com/example/wary_mutex/warymutex/message/IndexSetAddPinLaw" (7 : Nat) "com/example/wary_mutex/warymutex/message/IndexSet")).before a0 Z = true := hw _ (List.mem_of_getElem? (i := 0) rfl)
theorem tw1 {a0 : Array Value} {Z : State} (hw : ∀ d ∈ tables_1, d.before a0 Z = true) : ((Jvm.Cond.instantiable "com/example/wary_mutex/warymutex/message/IndexSet" (3 : Nat))).before a0 Z = true := hw _ (List.mem_of_getElem? (i := 1) rfl)
theorem tw2 {a0 : Array Value} {Z : State} (hw : ∀ d ∈ tables_1, d.before a0 Z = true) : ((Jvm.Cond.initialized "com/example/wary_mutex/warymutex/message/IndexSet")).before a0 Z = true := hw _ (List.mem_of_getElem? (i := 2) rfl)
theorem tw3 {a0 : Array Value} {Z : State} (hw : ∀ d ∈ tables_1, d.before a0 Z = true) : ((Jvm.Cond.methodLink "com/example/wary_mutex/warymutex/message/IndexSetAddPinLaw" (9 : Nat) ({ cls := "com/example/wary_mutex/warymutex/message/IndexSet", name := "<init>", desc := "(I)V" } : Jvm.MethodName))).before a0 Z = true := hw _ (List.mem_of_getElem? (i := 3) rfl)
theorem tw4 {a0 : Array Value} {Z : State} (hw : ∀ d ∈ tables_1, d.before a0 Z = true) : ((Jvm.Cond.instanceMethod ({ cls := "com/example/wary_mutex/warymutex/message/IndexSet", name := "<init>", desc := "(I)V" } : Jvm.MethodName))).before a0 Z = true := hw _ (List.mem_of_getElem? (i := 4) rfl)
theorem tw5 {a0 : Array Value} {Z : State} (hw : ∀ d ∈ tables_1, d.before a0 Z = true) : ((Jvm.Cond.code ({ cls := "com/example/wary_mutex/warymutex/message/IndexSet", name := "<init>", desc := "(I)V" } : Jvm.MethodName) prog_43_method_1_code (2 : Nat) (Option.none : Option Jvm.ClassFile.FieldType))).before a0 Z = true := hw _ (List.mem_of_getElem? (i := 5) rfl)
theorem tw6 {a0 : Array Value} {Z : State} (hw : ∀ d ∈ tables_1, d.before a0 Z = true) : ((Jvm.Cond.methodLink "com/example/wary_mutex/warymutex/message/IndexSet" (1 : Nat) ({ cls := "java/lang/Object", name := "<init>", desc := "()V" } : Jvm.MethodName))).before a0 Z = true := hw _ (List.mem_of_getElem? (i := 6) rfl)
theorem tw7 {a0 : Array Value} {Z : State} (hw : ∀ d ∈ tables_1, d.before a0 Z = true) : ((Jvm.Cond.instanceMethod ({ cls := "java/lang/Object", name := "<init>", desc := "()V" } : Jvm.MethodName))).before a0 Z = true := hw _ (List.mem_of_getElem? (i := 7) rfl)
theorem tw8 {a0 : Array Value} {Z : State} (hw : ∀ d ∈ tables_1, d.before a0 Z = true) : ((Jvm.Cond.code ({ cls := "java/lang/Object", name := "<init>", desc := "()V" } : Jvm.MethodName) object_method_1_code (1 : Nat) (Option.none : Option Jvm.ClassFile.FieldType))).before a0 Z = true := hw _ (List.mem_of_getElem? (i := 8) rfl)
theorem tw9 {a0 : Array Value} {Z : State} (hw : ∀ d ∈ tables_1, d.before a0 Z = true) : ((Jvm.Cond.arrayClass Jvm.ClassFile.FieldType.int)).before a0 Z = true := hw _ (List.mem_of_getElem? (i := 9) rfl)
theorem tw10 {a0 : Array Value} {Z : State} (hw : ∀ d ∈ tables_1, d.before a0 Z = true) : ((Jvm.Cond.fieldLink "com/example/wary_mutex/warymutex/message/IndexSet" (7 : Nat) "com/example/wary_mutex/warymutex/message/IndexSet" "members" "[I")).before a0 Z = true := hw _ (List.mem_of_getElem? (i := 10) rfl)
theorem tw11 {a0 : Array Value} {Z : State} (hw : ∀ d ∈ tables_1, d.before a0 Z = true) : ((Jvm.Cond.laysFinal "com/example/wary_mutex/warymutex/message/IndexSet" "com/example/wary_mutex/warymutex/message/IndexSet" "members" "[I")).before a0 Z = true := hw _ (List.mem_of_getElem? (i := 11) rfl)
theorem tw12 {a0 : Array Value} {Z : State} (hw : ∀ d ∈ tables_1, d.before a0 Z = true) : ((Jvm.Cond.fieldLink "com/example/wary_mutex/warymutex/message/IndexSet" (13 : Nat) "com/example/wary_mutex/warymutex/message/IndexSet" "positions" "[I")).before a0 Z = true := hw _ (List.mem_of_getElem? (i := 12) rfl)
theorem tw13 {a0 : Array Value} {Z : State} (hw : ∀ d ∈ tables_1, d.before a0 Z = true) : ((Jvm.Cond.laysFinal "com/example/wary_mutex/warymutex/message/IndexSet" "com/example/wary_mutex/warymutex/message/IndexSet" "positions" "[I")).before a0 Z = true := hw _ (List.mem_of_getElem? (i := 13) rfl)
theorem tw14 {a0 : Array Value} {Z : State} (hw : ∀ d ∈ tables_1, d.before a0 Z = true) : ((Jvm.Cond.methodLink "com/example/wary_mutex/warymutex/message/IndexSet" (16 : Nat) ({ cls := "java/util/Arrays", name := "fill", desc := "([II)V" } : Jvm.MethodName))).before a0 Z = true := hw _ (List.mem_of_getElem? (i := 14) rfl)
theorem tw15 {a0 : Array Value} {Z : State} (hw : ∀ d ∈ tables_1, d.before a0 Z = true) : ((Jvm.Cond.static ({ cls := "java/util/Arrays", name := "fill", desc := "([II)V" } : Jvm.MethodName))).before a0 Z = true := hw _ (List.mem_of_getElem? (i := 15) rfl)
theorem tw16 {a0 : Array Value} {Z : State} (hw : ∀ d ∈ tables_1, d.before a0 Z = true) : ((Jvm.Cond.initialized "java/util/Arrays")).before a0 Z = true := hw _ (List.mem_of_getElem? (i := 16) rfl)
theorem tw17 {a0 : Array Value} {Z : State} (hw : ∀ d ∈ tables_1, d.before a0 Z = true) : ((Jvm.Cond.code ({ cls := "java/util/Arrays", name := "fill", desc := "([II)V" } : Jvm.MethodName) jdk_65_method_103_code (4 : Nat) (Option.none : Option Jvm.ClassFile.FieldType))).before a0 Z = true := hw _ (List.mem_of_getElem? (i := 17) rfl)
theorem tw18 {a0 : Array Value} {Z : State} (hw : ∀ d ∈ tables_1, d.before a0 Z = true) : ((Jvm.Cond.methodLink "com/example/wary_mutex/warymutex/message/IndexSetAddPinLaw" (12 : Nat) ({ cls := "com/example/wary_mutex/warymutex/message/IndexSet", name := "add", desc := "(I)V" } : Jvm.MethodName))).before a0 Z = true := hw _ (List.mem_of_getElem? (i := 18) rfl)
theorem tw19 {a0 : Array Value} {Z : State} (hw : ∀ d ∈ tables_1, d.before a0 Z = true) : ((Jvm.Cond.declares ({ cls := "com/example/wary_mutex/warymutex/message/IndexSet", name := "add", desc := "(I)V" } : Jvm.MethodName))).before a0 Z = true := hw _ (List.mem_of_getElem? (i := 19) rfl)
theorem tw20 {a0 : Array Value} {Z : State} (hw : ∀ d ∈ tables_1, d.before a0 Z = true) : ((Jvm.Cond.instanceMethod ({ cls := "com/example/wary_mutex/warymutex/message/IndexSet", name := "add", desc := "(I)V" } : Jvm.MethodName))).before a0 Z = true := hw _ (List.mem_of_getElem? (i := 20) rfl)
theorem tw21 {a0 : Array Value} {Z : State} (hw : ∀ d ∈ tables_1, d.before a0 Z = true) : ((Jvm.Cond.selects "com/example/wary_mutex/warymutex/message/IndexSet" ({ cls := "com/example/wary_mutex/warymutex/message/IndexSet", name := "add", desc := "(I)V" } : Jvm.MethodName) ({ cls := "com/example/wary_mutex/warymutex/message/IndexSet", name := "add", desc := "(I)V" } : Jvm.MethodName))).before a0 Z = true := hw _ (List.mem_of_getElem? (i := 21) rfl)
theorem tw22 {a0 : Array Value} {Z : State} (hw : ∀ d ∈ tables_1, d.before a0 Z = true) : ((Jvm.Cond.code ({ cls := "com/example/wary_mutex/warymutex/message/IndexSet", name := "add", desc := "(I)V" } : Jvm.MethodName) prog_43_method_2_code (2 : Nat) (Option.none : Option Jvm.ClassFile.FieldType))).before a0 Z = true := hw _ (List.mem_of_getElem? (i := 22) rfl)
theorem tw23 {a0 : Array Value} {Z : State} (hw : ∀ d ∈ tables_1, d.before a0 Z = true) : ((Jvm.Cond.fieldLink "com/example/wary_mutex/warymutex/message/IndexSet" (22 : Nat) "com/example/wary_mutex/warymutex/message/IndexSet" "size" "I")).before a0 Z = true := hw _ (List.mem_of_getElem? (i := 23) rfl)
theorem tw24 {a0 : Array Value} {Z : State} (hw : ∀ d ∈ tables_1, d.before a0 Z = true) : ((Jvm.Cond.lays "com/example/wary_mutex/warymutex/message/IndexSet" "com/example/wary_mutex/warymutex/message/IndexSet" "size" "I")).before a0 Z = true := hw _ (List.mem_of_getElem? (i := 24) rfl)
theorem tw25 {a0 : Array Value} {Z : State} (hw : ∀ d ∈ tables_1, d.before a0 Z = true) : ((Jvm.Cond.methodLink "com/example/wary_mutex/warymutex/message/IndexSetAddPinLaw" (15 : Nat) ({ cls := "com/example/wary_mutex/warymutex/message/IndexSet", name := "size", desc := "()I" } : Jvm.MethodName))).before a0 Z = true := hw _ (List.mem_of_getElem? (i := 25) rfl)
theorem tw26 {a0 : Array Value} {Z : State} (hw : ∀ d ∈ tables_1, d.before a0 Z = true) : ((Jvm.Cond.declares ({ cls := "com/example/wary_mutex/warymutex/message/IndexSet", name := "size", desc := "()I" } : Jvm.MethodName))).before a0 Z = true := hw _ (List.mem_of_getElem? (i := 26) rfl)
theorem tw27 {a0 : Array Value} {Z : State} (hw : ∀ d ∈ tables_1, d.before a0 Z = true) : ((Jvm.Cond.instanceMethod ({ cls := "com/example/wary_mutex/warymutex/message/IndexSet", name := "size", desc := "()I" } : Jvm.MethodName))).before a0 Z = true := hw _ (List.mem_of_getElem? (i := 27) rfl)
theorem tw28 {a0 : Array Value} {Z : State} (hw : ∀ d ∈ tables_1, d.before a0 Z = true) : ((Jvm.Cond.selects "com/example/wary_mutex/warymutex/message/IndexSet" ({ cls := "com/example/wary_mutex/warymutex/message/IndexSet", name := "size", desc := "()I" } : Jvm.MethodName) ({ cls := "com/example/wary_mutex/warymutex/message/IndexSet", name := "size", desc := "()I" } : Jvm.MethodName))).before a0 Z = true := hw _ (List.mem_of_getElem? (i := 28) rfl)
theorem tw29 {a0 : Array Value} {Z : State} (hw : ∀ d ∈ tables_1, d.before a0 Z = true) : ((Jvm.Cond.code ({ cls := "com/example/wary_mutex/warymutex/message/IndexSet", name := "size", desc := "()I" } : Jvm.MethodName) prog_43_method_4_code (1 : Nat) (Option.some Jvm.ClassFile.FieldType.int))).before a0 Z = true := hw _ (List.mem_of_getElem? (i := 29) rfl)
theorem tw30 {a0 : Array Value} {Z : State} (hw : ∀ d ∈ tables_1, d.before a0 Z = true) : ((Jvm.Cond.methodLink "com/example/wary_mutex/warymutex/message/IndexSetAddPinLaw" (19 : Nat) ({ cls := "com/example/wary_mutex/warymutex/message/IndexSet", name := "get", desc := "(I)I" } : Jvm.MethodName))).before a0 Z = true := hw _ (List.mem_of_getElem? (i := 30) rfl)
theorem tw31 {a0 : Array Value} {Z : State} (hw : ∀ d ∈ tables_1, d.before a0 Z = true) : ((Jvm.Cond.declares ({ cls := "com/example/wary_mutex/warymutex/message/IndexSet", name := "get", desc := "(I)I" } : Jvm.MethodName))).before a0 Z = true := hw _ (List.mem_of_getElem? (i := 31) rfl)
theorem tw32 {a0 : Array Value} {Z : State} (hw : ∀ d ∈ tables_1, d.before a0 Z = true) : ((Jvm.Cond.instanceMethod ({ cls := "com/example/wary_mutex/warymutex/message/IndexSet", name := "get", desc := "(I)I" } : Jvm.MethodName))).before a0 Z = true := hw _ (List.mem_of_getElem? (i := 32) rfl)
theorem tw33 {a0 : Array Value} {Z : State} (hw : ∀ d ∈ tables_1, d.before a0 Z = true) : ((Jvm.Cond.selects "com/example/wary_mutex/warymutex/message/IndexSet" ({ cls := "com/example/wary_mutex/warymutex/message/IndexSet", name := "get", desc := "(I)I" } : Jvm.MethodName) ({ cls := "com/example/wary_mutex/warymutex/message/IndexSet", name := "get", desc := "(I)I" } : Jvm.MethodName))).before a0 Z = true := hw _ (List.mem_of_getElem? (i := 33) rfl)
theorem tw34 {a0 : Array Value} {Z : State} (hw : ∀ d ∈ tables_1, d.before a0 Z = true) : ((Jvm.Cond.code ({ cls := "com/example/wary_mutex/warymutex/message/IndexSet", name := "get", desc := "(I)I" } : Jvm.MethodName) prog_43_method_5_code (2 : Nat) (Option.some Jvm.ClassFile.FieldType.int))).before a0 Z = true := hw _ (List.mem_of_getElem? (i := 34) rfl)
theorem tw35 {a0 : Array Value} {Z : State} (hw : ∀ d ∈ tables_1, d.before a0 Z = true) : ((Jvm.Cond.methodLink "com/example/wary_mutex/warymutex/message/IndexSet" (26 : Nat) ({ cls := "java/util/Objects", name := "checkIndex", desc := "(II)I" } : Jvm.MethodName))).before a0 Z = true := hw _ (List.mem_of_getElem? (i := 35) rfl)
theorem tw36 {a0 : Array Value} {Z : State} (hw : ∀ d ∈ tables_1, d.before a0 Z = true) : ((Jvm.Cond.static ({ cls := "java/util/Objects", name := "checkIndex", desc := "(II)I" } : Jvm.MethodName))).before a0 Z = true := hw _ (List.mem_of_getElem? (i := 36) rfl)
theorem tw37 {a0 : Array Value} {Z : State} (hw : ∀ d ∈ tables_1, d.before a0 Z = true) : ((Jvm.Cond.initialized "java/util/Objects")).before a0 Z = true := hw _ (List.mem_of_getElem? (i := 37) rfl)
theorem tw38 {a0 : Array Value} {Z : State} (hw : ∀ d ∈ tables_1, d.before a0 Z = true) : ((Jvm.Cond.code ({ cls := "java/util/Objects", name := "checkIndex", desc := "(II)I" } : Jvm.MethodName) jdk_31_method_17_code (2 : Nat) (Option.some Jvm.ClassFile.FieldType.int))).before a0 Z = true := hw _ (List.mem_of_getElem? (i := 38) rfl)
theorem tw39 {a0 : Array Value} {Z : State} (hw : ∀ d ∈ tables_1, d.before a0 Z = true) : ((Jvm.Cond.methodLink "java/util/Objects" (105 : Nat) ({ cls := "jdk/internal/util/Preconditions", name := "checkIndex", desc := "(IILjava/util/function/BiFunction;)I" } : Jvm.MethodName))).before a0 Z = true := hw _ (List.mem_of_getElem? (i := 39) rfl)
theorem tw40 {a0 : Array Value} {Z : State} (hw : ∀ d ∈ tables_1, d.before a0 Z = true) : ((Jvm.Cond.static ({ cls := "jdk/internal/util/Preconditions", name := "checkIndex", desc := "(IILjava/util/function/BiFunction;)I" } : Jvm.MethodName))).before a0 Z = true := hw _ (List.mem_of_getElem? (i := 40) rfl)
theorem tw41 {a0 : Array Value} {Z : State} (hw : ∀ d ∈ tables_1, d.before a0 Z = true) : ((Jvm.Cond.initialized "jdk/internal/util/Preconditions")).before a0 Z = true := hw _ (List.mem_of_getElem? (i := 41) rfl)
theorem tw42 {a0 : Array Value} {Z : State} (hw : ∀ d ∈ tables_1, d.before a0 Z = true) : ((Jvm.Cond.code ({ cls := "jdk/internal/util/Preconditions", name := "checkIndex", desc := "(IILjava/util/function/BiFunction;)I" } : Jvm.MethodName) jdk_41_method_11_code (3 : Nat) (Option.some Jvm.ClassFile.FieldType.int))).before a0 Z = true := hw _ (List.mem_of_getElem? (i := 42) rfl)
theorem own_nn {x : Int32} (h : 0 ≤ x.toInt) : x.toInt = (x.toBitVec.toNat : Int) := by
  have q := BitVec.toInt_eq_toNat_cond x.toBitVec
  have e : x.toInt = x.toBitVec.toInt := rfl
  rw [e] at h ⊢
  rw [q] at h ⊢
  have := x.toBitVec.isLt
  split at h <;> rename_i c
  · rw [if_pos c]
  · omega
theorem own_nn' {x : Int32} (h : x.toBitVec.toNat < 2147483648) : x.toInt = (x.toBitVec.toNat : Int) := by
  have q := BitVec.toInt_eq_toNat_cond x.toBitVec
  have e : x.toInt = x.toBitVec.toInt := rfl
  rw [e, q, if_pos (by omega)]
theorem own_ofnat {x : Int32} (h : 0 ≤ x.toInt) : x = Int32.ofNat x.toBitVec.toNat := by
  apply Int32.toBitVec_inj.mp
  apply BitVec.eq_of_toNat_eq
  show _ = (BitVec.ofNat 32 x.toBitVec.toNat).toNat
  rw [BitVec.toNat_ofNat, Nat.mod_eq_of_lt x.toBitVec.isLt]
abbrev OwnS : Type := List Int32 × List Int32 × Int32
def own_init : OwnS := ([0, 0, 0, 0], [-1, -1, -1, -1], 0)
def own_add (S : OwnS) (x : Int32) : OwnS := if S.2.1.getD x.toNatClampNeg 0 < 0 then (S.1.set S.2.2.toNatClampNeg x, S.2.1.set x.toNatClampNeg S.2.2, S.2.2 + 1) else S
theorem own_add_pos {S : OwnS} {x : Int32} (h : S.2.1.getD x.toNatClampNeg 0 < 0) : own_add S x = (S.1.set S.2.2.toNatClampNeg x, S.2.1.set x.toNatClampNeg S.2.2, S.2.2 + 1) := if_pos h
theorem own_add_neg {S : OwnS} {x : Int32} (h : ¬ S.2.1.getD x.toNatClampNeg 0 < 0) : own_add S x = S := if_neg h
def own_okA (S : OwnS) (x : Int32) : Bool := decide (¬ x < 0 ∧ x.toNatClampNeg < S.2.1.length ∧ (S.2.1.getD x.toNatClampNeg 0 < 0 → ¬ S.2.2 < 0 ∧ S.2.2.toNatClampNeg < S.1.length))
theorem own_okA_e {S : OwnS} {x : Int32} (h : own_okA S x = true) : ¬ x < 0 ∧ x.toNatClampNeg < S.2.1.length ∧ (S.2.1.getD x.toNatClampNeg 0 < 0 → ¬ S.2.2 < 0 ∧ S.2.2.toNatClampNeg < S.1.length) := of_decide_eq_true h
def own_okG (S : OwnS) (x : Int32) : Bool := decide (¬ x < 0 ∧ x < S.2.2 ∧ x.toNatClampNeg < S.1.length)
theorem own_okG_e {S : OwnS} {x : Int32} (h : own_okG S x = true) : ¬ x < 0 ∧ x < S.2.2 ∧ x.toNatClampNeg < S.1.length := of_decide_eq_true h
theorem own_getq {xs : List Int32} {i : Nat} (h : i < xs.length) : xs[i]? = some (xs.getD i 0) := by
  rw [List.getD_eq_getElem?_getD, List.getElem?_eq_getElem h]; rfl
theorem own_four {x v : Int32} (h : v = x &&& 3) : v = 0 ∨ v = 1 ∨ v = 2 ∨ v = 3 := by
  have e : (x &&& 3).toBitVec.toNat = x.toBitVec.toNat % 4 := by
    rw [Int32.toBitVec_and, BitVec.toNat_and]
    show x.toBitVec.toNat &&& 3 = _
    exact Nat.and_two_pow_sub_one_eq_mod x.toBitVec.toNat 2
  have k := own_nn' (x := x &&& 3) (by omega)
  have q := own_ofnat (x := x &&& 3) (by omega)
  subst h
  have : (x &&& 3).toBitVec.toNat = 0 ∨ (x &&& 3).toBitVec.toNat = 1 ∨ (x &&& 3).toBitVec.toNat = 2 ∨ (x &&& 3).toBitVec.toNat = 3 := by omega
  rcases this with h | h | h | h <;> rw [h] at q <;> rw [q] <;> decide
def own_i (k : Fin 4) : Int32 := Int32.ofNat k.val
theorem own_fin4 {x v : Int32} (h : v = x &&& 3) : ∃ k : Fin 4, v = own_i k := by
  rcases own_four h with q | q | q | q
  · exact ⟨0, q⟩
  · exact ⟨1, q⟩
  · exact ⟨2, q⟩
  · exact ⟨3, q⟩
theorem own_f0 : ∀ fa fb fv : Fin 4, True → own_okA own_init (own_i fv) = true := by decide +kernel
theorem own_f1 : ∀ fa fb fv : Fin 4, ((own_init).2.2 = (0 : Int32)) ∧ (((own_add own_init (own_i fv)).2.2) = ((0 : Int32) + (1 : Int32))) ∧ True → own_okG (own_add own_init (own_i fv)) (0 : Int32) = true := by decide +kernel
theorem own_f2 : ∀ fa fb fv : Fin 4, ((own_init).2.2 = (0 : Int32)) ∧ (((own_add own_init (own_i fv)).2.2) = ((0 : Int32) + (1 : Int32))) ∧ (¬ ((own_add own_init (own_i fv)).1.getD (Int32.toNatClampNeg (0 : Int32)) 0) = (own_i fv)) ∧ True → False := by decide +kernel
theorem own_f3 : ∀ fa fb fv : Fin 4, ((own_init).2.2 = (0 : Int32)) ∧ (¬ ((own_add own_init (own_i fv)).2.2) = ((0 : Int32) + (1 : Int32))) ∧ True → False := by decide +kernel
theorem own_f4 : ∀ fa fb fv : Fin 4, (¬ (own_init).2.2 = (0 : Int32)) ∧ True → False := by decide +kernel
theorem own_f5 : ∀ fa fb fv : Fin 4, True → own_okA own_init (own_i fb) = true := by decide +kernel
theorem own_f6 : ∀ fa fb fv : Fin 4, True → own_okA (own_add own_init (own_i fb)) (own_i fv) = true := by decide +kernel
theorem own_f7 : ∀ fa fb fv : Fin 4, (((own_add own_init (own_i fb)).2.2) = (1 : Int32)) ∧ ((own_i fb) = (own_i fv)) ∧ (((own_add (own_add own_init (own_i fb)) (own_i fv)).2.2) = (1 : Int32)) ∧ True → own_okG (own_add (own_add own_init (own_i fb)) (own_i fv)) (0 : Int32) = true := by decide +kernel
theorem own_f8 : ∀ fa fb fv : Fin 4, (((own_add own_init (own_i fb)).2.2) = (1 : Int32)) ∧ ((own_i fb) = (own_i fv)) ∧ (((own_add (own_add own_init (own_i fb)) (own_i fv)).2.2) = (1 : Int32)) ∧ (¬ ((own_add (own_add own_init (own_i fb)) (own_i fv)).1.getD (Int32.toNatClampNeg (0 : Int32)) 0) = (own_i fb)) ∧ True → False := by decide +kernel
theorem own_f9 : ∀ fa fb fv : Fin 4, (((own_add own_init (own_i fb)).2.2) = (1 : Int32)) ∧ ((own_i fb) = (own_i fv)) ∧ (¬ ((own_add (own_add own_init (own_i fb)) (own_i fv)).2.2) = (1 : Int32)) ∧ True → False := by decide +kernel
theorem own_f10 : ∀ fa fb fv : Fin 4, (((own_add own_init (own_i fb)).2.2) = (1 : Int32)) ∧ (¬ (own_i fb) = (own_i fv)) ∧ (((own_add (own_add own_init (own_i fb)) (own_i fv)).2.2) = ((1 : Int32) + (1 : Int32))) ∧ True → own_okG (own_add (own_add own_init (own_i fb)) (own_i fv)) (0 : Int32) = true := by decide +kernel
theorem own_f11 : ∀ fa fb fv : Fin 4, (((own_add own_init (own_i fb)).2.2) = (1 : Int32)) ∧ (¬ (own_i fb) = (own_i fv)) ∧ (((own_add (own_add own_init (own_i fb)) (own_i fv)).2.2) = ((1 : Int32) + (1 : Int32))) ∧ (((own_add (own_add own_init (own_i fb)) (own_i fv)).1.getD (Int32.toNatClampNeg (0 : Int32)) 0) = (own_i fb)) ∧ True → own_okG (own_add (own_add own_init (own_i fb)) (own_i fv)) (1 : Int32) = true := by decide +kernel
theorem own_f12 : ∀ fa fb fv : Fin 4, (((own_add own_init (own_i fb)).2.2) = (1 : Int32)) ∧ (¬ (own_i fb) = (own_i fv)) ∧ (((own_add (own_add own_init (own_i fb)) (own_i fv)).2.2) = ((1 : Int32) + (1 : Int32))) ∧ (((own_add (own_add own_init (own_i fb)) (own_i fv)).1.getD (Int32.toNatClampNeg (0 : Int32)) 0) = (own_i fb)) ∧ (¬ ((own_add (own_add own_init (own_i fb)) (own_i fv)).1.getD (Int32.toNatClampNeg (1 : Int32)) 0) = (own_i fv)) ∧ True → False := by decide +kernel
theorem own_f13 : ∀ fa fb fv : Fin 4, (((own_add own_init (own_i fb)).2.2) = (1 : Int32)) ∧ (¬ (own_i fb) = (own_i fv)) ∧ (((own_add (own_add own_init (own_i fb)) (own_i fv)).2.2) = ((1 : Int32) + (1 : Int32))) ∧ (¬ ((own_add (own_add own_init (own_i fb)) (own_i fv)).1.getD (Int32.toNatClampNeg (0 : Int32)) 0) = (own_i fb)) ∧ True → False := by decide +kernel
theorem own_f14 : ∀ fa fb fv : Fin 4, (((own_add own_init (own_i fb)).2.2) = (1 : Int32)) ∧ (¬ (own_i fb) = (own_i fv)) ∧ (¬ ((own_add (own_add own_init (own_i fb)) (own_i fv)).2.2) = ((1 : Int32) + (1 : Int32))) ∧ True → False := by decide +kernel
theorem own_f15 : ∀ fa fb fv : Fin 4, (¬ ((own_add own_init (own_i fb)).2.2) = (1 : Int32)) ∧ True → False := by decide +kernel
theorem own_f16 : ∀ fa fb fv : Fin 4, True → own_okA own_init (own_i fa) = true := by decide +kernel
theorem own_f17 : ∀ fa fb fv : Fin 4, True → own_okA (own_add own_init (own_i fa)) (own_i fv) = true := by decide +kernel
theorem own_f18 : ∀ fa fb fv : Fin 4, (((own_add own_init (own_i fa)).2.2) = (1 : Int32)) ∧ ((own_i fa) = (own_i fv)) ∧ (((own_add (own_add own_init (own_i fa)) (own_i fv)).2.2) = (1 : Int32)) ∧ True → own_okG (own_add (own_add own_init (own_i fa)) (own_i fv)) (0 : Int32) = true := by decide +kernel
theorem own_f19 : ∀ fa fb fv : Fin 4, (((own_add own_init (own_i fa)).2.2) = (1 : Int32)) ∧ ((own_i fa) = (own_i fv)) ∧ (((own_add (own_add own_init (own_i fa)) (own_i fv)).2.2) = (1 : Int32)) ∧ (¬ ((own_add (own_add own_init (own_i fa)) (own_i fv)).1.getD (Int32.toNatClampNeg (0 : Int32)) 0) = (own_i fa)) ∧ True → False := by decide +kernel
theorem own_f20 : ∀ fa fb fv : Fin 4, (((own_add own_init (own_i fa)).2.2) = (1 : Int32)) ∧ ((own_i fa) = (own_i fv)) ∧ (¬ ((own_add (own_add own_init (own_i fa)) (own_i fv)).2.2) = (1 : Int32)) ∧ True → False := by decide +kernel
theorem own_f21 : ∀ fa fb fv : Fin 4, (((own_add own_init (own_i fa)).2.2) = (1 : Int32)) ∧ (¬ (own_i fa) = (own_i fv)) ∧ (((own_add (own_add own_init (own_i fa)) (own_i fv)).2.2) = ((1 : Int32) + (1 : Int32))) ∧ True → own_okG (own_add (own_add own_init (own_i fa)) (own_i fv)) (0 : Int32) = true := by decide +kernel
theorem own_f22 : ∀ fa fb fv : Fin 4, (((own_add own_init (own_i fa)).2.2) = (1 : Int32)) ∧ (¬ (own_i fa) = (own_i fv)) ∧ (((own_add (own_add own_init (own_i fa)) (own_i fv)).2.2) = ((1 : Int32) + (1 : Int32))) ∧ (((own_add (own_add own_init (own_i fa)) (own_i fv)).1.getD (Int32.toNatClampNeg (0 : Int32)) 0) = (own_i fa)) ∧ True → own_okG (own_add (own_add own_init (own_i fa)) (own_i fv)) (1 : Int32) = true := by decide +kernel
theorem own_f23 : ∀ fa fb fv : Fin 4, (((own_add own_init (own_i fa)).2.2) = (1 : Int32)) ∧ (¬ (own_i fa) = (own_i fv)) ∧ (((own_add (own_add own_init (own_i fa)) (own_i fv)).2.2) = ((1 : Int32) + (1 : Int32))) ∧ (((own_add (own_add own_init (own_i fa)) (own_i fv)).1.getD (Int32.toNatClampNeg (0 : Int32)) 0) = (own_i fa)) ∧ (¬ ((own_add (own_add own_init (own_i fa)) (own_i fv)).1.getD (Int32.toNatClampNeg (1 : Int32)) 0) = (own_i fv)) ∧ True → False := by decide +kernel
theorem own_f24 : ∀ fa fb fv : Fin 4, (((own_add own_init (own_i fa)).2.2) = (1 : Int32)) ∧ (¬ (own_i fa) = (own_i fv)) ∧ (((own_add (own_add own_init (own_i fa)) (own_i fv)).2.2) = ((1 : Int32) + (1 : Int32))) ∧ (¬ ((own_add (own_add own_init (own_i fa)) (own_i fv)).1.getD (Int32.toNatClampNeg (0 : Int32)) 0) = (own_i fa)) ∧ True → False := by decide +kernel
theorem own_f25 : ∀ fa fb fv : Fin 4, (((own_add own_init (own_i fa)).2.2) = (1 : Int32)) ∧ (¬ (own_i fa) = (own_i fv)) ∧ (¬ ((own_add (own_add own_init (own_i fa)) (own_i fv)).2.2) = ((1 : Int32) + (1 : Int32))) ∧ True → False := by decide +kernel
theorem own_f26 : ∀ fa fb fv : Fin 4, (¬ ((own_add own_init (own_i fa)).2.2) = (1 : Int32)) ∧ True → False := by decide +kernel
theorem own_f27 : ∀ fa fb fv : Fin 4, True → own_okA (own_add own_init (own_i fa)) (own_i fb) = true := by decide +kernel
theorem own_f28 : ∀ fa fb fv : Fin 4, True → own_okA (own_add (own_add own_init (own_i fa)) (own_i fb)) (own_i fv) = true := by decide +kernel
theorem own_f29 : ∀ fa fb fv : Fin 4, ((own_i fa) = (own_i fb)) ∧ (((own_add (own_add own_init (own_i fa)) (own_i fb)).2.2) = (1 : Int32)) ∧ ((own_i fa) = (own_i fv)) ∧ (((own_add (own_add (own_add own_init (own_i fa)) (own_i fb)) (own_i fv)).2.2) = (1 : Int32)) ∧ True → own_okG (own_add (own_add (own_add own_init (own_i fa)) (own_i fb)) (own_i fv)) (0 : Int32) = true := by decide +kernel
theorem own_f30 : ∀ fa fb fv : Fin 4, ((own_i fa) = (own_i fb)) ∧ (((own_add (own_add own_init (own_i fa)) (own_i fb)).2.2) = (1 : Int32)) ∧ ((own_i fa) = (own_i fv)) ∧ (((own_add (own_add (own_add own_init (own_i fa)) (own_i fb)) (own_i fv)).2.2) = (1 : Int32)) ∧ (¬ ((own_add (own_add (own_add own_init (own_i fa)) (own_i fb)) (own_i fv)).1.getD (Int32.toNatClampNeg (0 : Int32)) 0) = (own_i fa)) ∧ True → False := by decide +kernel
theorem own_f31 : ∀ fa fb fv : Fin 4, ((own_i fa) = (own_i fb)) ∧ (((own_add (own_add own_init (own_i fa)) (own_i fb)).2.2) = (1 : Int32)) ∧ ((own_i fa) = (own_i fv)) ∧ (¬ ((own_add (own_add (own_add own_init (own_i fa)) (own_i fb)) (own_i fv)).2.2) = (1 : Int32)) ∧ True → False := by decide +kernel
theorem own_f32 : ∀ fa fb fv : Fin 4, ((own_i fa) = (own_i fb)) ∧ (((own_add (own_add own_init (own_i fa)) (own_i fb)).2.2) = (1 : Int32)) ∧ (¬ (own_i fa) = (own_i fv)) ∧ (((own_add (own_add (own_add own_init (own_i fa)) (own_i fb)) (own_i fv)).2.2) = ((1 : Int32) + (1 : Int32))) ∧ True → own_okG (own_add (own_add (own_add own_init (own_i fa)) (own_i fb)) (own_i fv)) (0 : Int32) = true := by decide +kernel
theorem own_f33 : ∀ fa fb fv : Fin 4, ((own_i fa) = (own_i fb)) ∧ (((own_add (own_add own_init (own_i fa)) (own_i fb)).2.2) = (1 : Int32)) ∧ (¬ (own_i fa) = (own_i fv)) ∧ (((own_add (own_add (own_add own_init (own_i fa)) (own_i fb)) (own_i fv)).2.2) = ((1 : Int32) + (1 : Int32))) ∧ (((own_add (own_add (own_add own_init (own_i fa)) (own_i fb)) (own_i fv)).1.getD (Int32.toNatClampNeg (0 : Int32)) 0) = (own_i fa)) ∧ True → own_okG (own_add (own_add (own_add own_init (own_i fa)) (own_i fb)) (own_i fv)) (1 : Int32) = true := by decide +kernel
theorem own_f34 : ∀ fa fb fv : Fin 4, ((own_i fa) = (own_i fb)) ∧ (((own_add (own_add own_init (own_i fa)) (own_i fb)).2.2) = (1 : Int32)) ∧ (¬ (own_i fa) = (own_i fv)) ∧ (((own_add (own_add (own_add own_init (own_i fa)) (own_i fb)) (own_i fv)).2.2) = ((1 : Int32) + (1 : Int32))) ∧ (((own_add (own_add (own_add own_init (own_i fa)) (own_i fb)) (own_i fv)).1.getD (Int32.toNatClampNeg (0 : Int32)) 0) = (own_i fa)) ∧ (¬ ((own_add (own_add (own_add own_init (own_i fa)) (own_i fb)) (own_i fv)).1.getD (Int32.toNatClampNeg (1 : Int32)) 0) = (own_i fv)) ∧ True → False := by decide +kernel
theorem own_f35 : ∀ fa fb fv : Fin 4, ((own_i fa) = (own_i fb)) ∧ (((own_add (own_add own_init (own_i fa)) (own_i fb)).2.2) = (1 : Int32)) ∧ (¬ (own_i fa) = (own_i fv)) ∧ (((own_add (own_add (own_add own_init (own_i fa)) (own_i fb)) (own_i fv)).2.2) = ((1 : Int32) + (1 : Int32))) ∧ (¬ ((own_add (own_add (own_add own_init (own_i fa)) (own_i fb)) (own_i fv)).1.getD (Int32.toNatClampNeg (0 : Int32)) 0) = (own_i fa)) ∧ True → False := by decide +kernel
theorem own_f36 : ∀ fa fb fv : Fin 4, ((own_i fa) = (own_i fb)) ∧ (((own_add (own_add own_init (own_i fa)) (own_i fb)).2.2) = (1 : Int32)) ∧ (¬ (own_i fa) = (own_i fv)) ∧ (¬ ((own_add (own_add (own_add own_init (own_i fa)) (own_i fb)) (own_i fv)).2.2) = ((1 : Int32) + (1 : Int32))) ∧ True → False := by decide +kernel
theorem own_f37 : ∀ fa fb fv : Fin 4, ((own_i fa) = (own_i fb)) ∧ (¬ ((own_add (own_add own_init (own_i fa)) (own_i fb)).2.2) = (1 : Int32)) ∧ True → False := by decide +kernel
theorem own_f38 : ∀ fa fb fv : Fin 4, (¬ (own_i fa) = (own_i fb)) ∧ (((own_add (own_add own_init (own_i fa)) (own_i fb)).2.2) = (2 : Int32)) ∧ ((own_i fa) = (own_i fv)) ∧ (((own_add (own_add (own_add own_init (own_i fa)) (own_i fb)) (own_i fv)).2.2) = (2 : Int32)) ∧ True → own_okG (own_add (own_add (own_add own_init (own_i fa)) (own_i fb)) (own_i fv)) (0 : Int32) = true := by decide +kernel
theorem own_f39 : ∀ fa fb fv : Fin 4, (¬ (own_i fa) = (own_i fb)) ∧ (((own_add (own_add own_init (own_i fa)) (own_i fb)).2.2) = (2 : Int32)) ∧ ((own_i fa) = (own_i fv)) ∧ (((own_add (own_add (own_add own_init (own_i fa)) (own_i fb)) (own_i fv)).2.2) = (2 : Int32)) ∧ (((own_add (own_add (own_add own_init (own_i fa)) (own_i fb)) (own_i fv)).1.getD (Int32.toNatClampNeg (0 : Int32)) 0) = (own_i fa)) ∧ True → own_okG (own_add (own_add (own_add own_init (own_i fa)) (own_i fb)) (own_i fv)) (1 : Int32) = true := by decide +kernel
theorem own_f40 : ∀ fa fb fv : Fin 4, (¬ (own_i fa) = (own_i fb)) ∧ (((own_add (own_add own_init (own_i fa)) (own_i fb)).2.2) = (2 : Int32)) ∧ ((own_i fa) = (own_i fv)) ∧ (((own_add (own_add (own_add own_init (own_i fa)) (own_i fb)) (own_i fv)).2.2) = (2 : Int32)) ∧ (((own_add (own_add (own_add own_init (own_i fa)) (own_i fb)) (own_i fv)).1.getD (Int32.toNatClampNeg (0 : Int32)) 0) = (own_i fa)) ∧ (¬ ((own_add (own_add (own_add own_init (own_i fa)) (own_i fb)) (own_i fv)).1.getD (Int32.toNatClampNeg (1 : Int32)) 0) = (own_i fb)) ∧ True → False := by decide +kernel
theorem own_f41 : ∀ fa fb fv : Fin 4, (¬ (own_i fa) = (own_i fb)) ∧ (((own_add (own_add own_init (own_i fa)) (own_i fb)).2.2) = (2 : Int32)) ∧ ((own_i fa) = (own_i fv)) ∧ (((own_add (own_add (own_add own_init (own_i fa)) (own_i fb)) (own_i fv)).2.2) = (2 : Int32)) ∧ (¬ ((own_add (own_add (own_add own_init (own_i fa)) (own_i fb)) (own_i fv)).1.getD (Int32.toNatClampNeg (0 : Int32)) 0) = (own_i fa)) ∧ True → False := by decide +kernel
theorem own_f42 : ∀ fa fb fv : Fin 4, (¬ (own_i fa) = (own_i fb)) ∧ (((own_add (own_add own_init (own_i fa)) (own_i fb)).2.2) = (2 : Int32)) ∧ ((own_i fa) = (own_i fv)) ∧ (¬ ((own_add (own_add (own_add own_init (own_i fa)) (own_i fb)) (own_i fv)).2.2) = (2 : Int32)) ∧ True → False := by decide +kernel
theorem own_f43 : ∀ fa fb fv : Fin 4, (¬ (own_i fa) = (own_i fb)) ∧ (((own_add (own_add own_init (own_i fa)) (own_i fb)).2.2) = (2 : Int32)) ∧ (¬ (own_i fa) = (own_i fv)) ∧ (¬ (own_i fb) = (own_i fv)) ∧ (((own_add (own_add (own_add own_init (own_i fa)) (own_i fb)) (own_i fv)).2.2) = ((2 : Int32) + (1 : Int32))) ∧ True → own_okG (own_add (own_add (own_add own_init (own_i fa)) (own_i fb)) (own_i fv)) (0 : Int32) = true := by decide +kernel
theorem own_f44 : ∀ fa fb fv : Fin 4, (¬ (own_i fa) = (own_i fb)) ∧ (((own_add (own_add own_init (own_i fa)) (own_i fb)).2.2) = (2 : Int32)) ∧ (¬ (own_i fa) = (own_i fv)) ∧ (¬ (own_i fb) = (own_i fv)) ∧ (((own_add (own_add (own_add own_init (own_i fa)) (own_i fb)) (own_i fv)).2.2) = ((2 : Int32) + (1 : Int32))) ∧ (((own_add (own_add (own_add own_init (own_i fa)) (own_i fb)) (own_i fv)).1.getD (Int32.toNatClampNeg (0 : Int32)) 0) = (own_i fa)) ∧ True → own_okG (own_add (own_add (own_add own_init (own_i fa)) (own_i fb)) (own_i fv)) (1 : Int32) = true := by decide +kernel
theorem own_f45 : ∀ fa fb fv : Fin 4, (¬ (own_i fa) = (own_i fb)) ∧ (((own_add (own_add own_init (own_i fa)) (own_i fb)).2.2) = (2 : Int32)) ∧ (¬ (own_i fa) = (own_i fv)) ∧ (¬ (own_i fb) = (own_i fv)) ∧ (((own_add (own_add (own_add own_init (own_i fa)) (own_i fb)) (own_i fv)).2.2) = ((2 : Int32) + (1 : Int32))) ∧ (((own_add (own_add (own_add own_init (own_i fa)) (own_i fb)) (own_i fv)).1.getD (Int32.toNatClampNeg (0 : Int32)) 0) = (own_i fa)) ∧ (((own_add (own_add (own_add own_init (own_i fa)) (own_i fb)) (own_i fv)).1.getD (Int32.toNatClampNeg (1 : Int32)) 0) = (own_i fb)) ∧ True → own_okG (own_add (own_add (own_add own_init (own_i fa)) (own_i fb)) (own_i fv)) (2 : Int32) = true := by decide +kernel
theorem own_f46 : ∀ fa fb fv : Fin 4, (¬ (own_i fa) = (own_i fb)) ∧ (((own_add (own_add own_init (own_i fa)) (own_i fb)).2.2) = (2 : Int32)) ∧ (¬ (own_i fa) = (own_i fv)) ∧ (¬ (own_i fb) = (own_i fv)) ∧ (((own_add (own_add (own_add own_init (own_i fa)) (own_i fb)) (own_i fv)).2.2) = ((2 : Int32) + (1 : Int32))) ∧ (((own_add (own_add (own_add own_init (own_i fa)) (own_i fb)) (own_i fv)).1.getD (Int32.toNatClampNeg (0 : Int32)) 0) = (own_i fa)) ∧ (((own_add (own_add (own_add own_init (own_i fa)) (own_i fb)) (own_i fv)).1.getD (Int32.toNatClampNeg (1 : Int32)) 0) = (own_i fb)) ∧ (¬ ((own_add (own_add (own_add own_init (own_i fa)) (own_i fb)) (own_i fv)).1.getD (Int32.toNatClampNeg (2 : Int32)) 0) = (own_i fv)) ∧ True → False := by decide +kernel
theorem own_f47 : ∀ fa fb fv : Fin 4, (¬ (own_i fa) = (own_i fb)) ∧ (((own_add (own_add own_init (own_i fa)) (own_i fb)).2.2) = (2 : Int32)) ∧ (¬ (own_i fa) = (own_i fv)) ∧ (¬ (own_i fb) = (own_i fv)) ∧ (((own_add (own_add (own_add own_init (own_i fa)) (own_i fb)) (own_i fv)).2.2) = ((2 : Int32) + (1 : Int32))) ∧ (((own_add (own_add (own_add own_init (own_i fa)) (own_i fb)) (own_i fv)).1.getD (Int32.toNatClampNeg (0 : Int32)) 0) = (own_i fa)) ∧ (¬ ((own_add (own_add (own_add own_init (own_i fa)) (own_i fb)) (own_i fv)).1.getD (Int32.toNatClampNeg (1 : Int32)) 0) = (own_i fb)) ∧ True → False := by decide +kernel
theorem own_f48 : ∀ fa fb fv : Fin 4, (¬ (own_i fa) = (own_i fb)) ∧ (((own_add (own_add own_init (own_i fa)) (own_i fb)).2.2) = (2 : Int32)) ∧ (¬ (own_i fa) = (own_i fv)) ∧ (¬ (own_i fb) = (own_i fv)) ∧ (((own_add (own_add (own_add own_init (own_i fa)) (own_i fb)) (own_i fv)).2.2) = ((2 : Int32) + (1 : Int32))) ∧ (¬ ((own_add (own_add (own_add own_init (own_i fa)) (own_i fb)) (own_i fv)).1.getD (Int32.toNatClampNeg (0 : Int32)) 0) = (own_i fa)) ∧ True → False := by decide +kernel
theorem own_f49 : ∀ fa fb fv : Fin 4, (¬ (own_i fa) = (own_i fb)) ∧ (((own_add (own_add own_init (own_i fa)) (own_i fb)).2.2) = (2 : Int32)) ∧ (¬ (own_i fa) = (own_i fv)) ∧ (¬ (own_i fb) = (own_i fv)) ∧ (¬ ((own_add (own_add (own_add own_init (own_i fa)) (own_i fb)) (own_i fv)).2.2) = ((2 : Int32) + (1 : Int32))) ∧ True → False := by decide +kernel
theorem own_f50 : ∀ fa fb fv : Fin 4, (¬ (own_i fa) = (own_i fb)) ∧ (((own_add (own_add own_init (own_i fa)) (own_i fb)).2.2) = (2 : Int32)) ∧ (¬ (own_i fa) = (own_i fv)) ∧ ((own_i fb) = (own_i fv)) ∧ (((own_add (own_add (own_add own_init (own_i fa)) (own_i fb)) (own_i fv)).2.2) = (2 : Int32)) ∧ True → own_okG (own_add (own_add (own_add own_init (own_i fa)) (own_i fb)) (own_i fv)) (0 : Int32) = true := by decide +kernel
theorem own_f51 : ∀ fa fb fv : Fin 4, (¬ (own_i fa) = (own_i fb)) ∧ (((own_add (own_add own_init (own_i fa)) (own_i fb)).2.2) = (2 : Int32)) ∧ (¬ (own_i fa) = (own_i fv)) ∧ ((own_i fb) = (own_i fv)) ∧ (((own_add (own_add (own_add own_init (own_i fa)) (own_i fb)) (own_i fv)).2.2) = (2 : Int32)) ∧ (((own_add (own_add (own_add own_init (own_i fa)) (own_i fb)) (own_i fv)).1.getD (Int32.toNatClampNeg (0 : Int32)) 0) = (own_i fa)) ∧ True → own_okG (own_add (own_add (own_add own_init (own_i fa)) (own_i fb)) (own_i fv)) (1 : Int32) = true := by decide +kernel
theorem own_f52 : ∀ fa fb fv : Fin 4, (¬ (own_i fa) = (own_i fb)) ∧ (((own_add (own_add own_init (own_i fa)) (own_i fb)).2.2) = (2 : Int32)) ∧ (¬ (own_i fa) = (own_i fv)) ∧ ((own_i fb) = (own_i fv)) ∧ (((own_add (own_add (own_add own_init (own_i fa)) (own_i fb)) (own_i fv)).2.2) = (2 : Int32)) ∧ (((own_add (own_add (own_add own_init (own_i fa)) (own_i fb)) (own_i fv)).1.getD (Int32.toNatClampNeg (0 : Int32)) 0) = (own_i fa)) ∧ (¬ ((own_add (own_add (own_add own_init (own_i fa)) (own_i fb)) (own_i fv)).1.getD (Int32.toNatClampNeg (1 : Int32)) 0) = (own_i fb)) ∧ True → False := by decide +kernel
theorem own_f53 : ∀ fa fb fv : Fin 4, (¬ (own_i fa) = (own_i fb)) ∧ (((own_add (own_add own_init (own_i fa)) (own_i fb)).2.2) = (2 : Int32)) ∧ (¬ (own_i fa) = (own_i fv)) ∧ ((own_i fb) = (own_i fv)) ∧ (((own_add (own_add (own_add own_init (own_i fa)) (own_i fb)) (own_i fv)).2.2) = (2 : Int32)) ∧ (¬ ((own_add (own_add (own_add own_init (own_i fa)) (own_i fb)) (own_i fv)).1.getD (Int32.toNatClampNeg (0 : Int32)) 0) = (own_i fa)) ∧ True → False := by decide +kernel
theorem own_f54 : ∀ fa fb fv : Fin 4, (¬ (own_i fa) = (own_i fb)) ∧ (((own_add (own_add own_init (own_i fa)) (own_i fb)).2.2) = (2 : Int32)) ∧ (¬ (own_i fa) = (own_i fv)) ∧ ((own_i fb) = (own_i fv)) ∧ (¬ ((own_add (own_add (own_add own_init (own_i fa)) (own_i fb)) (own_i fv)).2.2) = (2 : Int32)) ∧ True → False := by decide +kernel
theorem own_f55 : ∀ fa fb fv : Fin 4, (¬ (own_i fa) = (own_i fb)) ∧ (¬ ((own_add (own_add own_init (own_i fa)) (own_i fb)).2.2) = (2 : Int32)) ∧ True → False := by decide +kernel

theorem d3_0 : decode jdk_65_method_103_code 0 = .ok (.iconst 0, 1) := by decide +kernel
theorem d3_1 : decode jdk_65_method_103_code 1 = .ok (.istore_n 2, 1) := by decide +kernel
theorem d3_2 : decode jdk_65_method_103_code 2 = .ok (.aload_n 0, 1) := by decide +kernel
theorem d3_3 : decode jdk_65_method_103_code 3 = .ok (.arraylength, 1) := by decide +kernel
theorem d3_4 : decode jdk_65_method_103_code 4 = .ok (.istore_n 3, 1) := by decide +kernel
theorem d3_5 : decode jdk_65_method_103_code 5 = .ok (.iload_n 2, 1) := by decide +kernel
theorem d3_6 : decode jdk_65_method_103_code 6 = .ok (.iload_n 3, 1) := by decide +kernel
theorem d3_7 : decode jdk_65_method_103_code 7 = .ok (.if_icmp .ge 13, 3) := by decide +kernel
theorem d3_10 : decode jdk_65_method_103_code 10 = .ok (.aload_n 0, 1) := by decide +kernel
theorem d3_11 : decode jdk_65_method_103_code 11 = .ok (.iload_n 2, 1) := by decide +kernel
theorem d3_12 : decode jdk_65_method_103_code 12 = .ok (.iload_n 1, 1) := by decide +kernel
theorem d3_13 : decode jdk_65_method_103_code 13 = .ok (.iastore, 1) := by decide +kernel
theorem d3_14 : decode jdk_65_method_103_code 14 = .ok (.iinc 2 1, 3) := by decide +kernel
theorem d3_17 : decode jdk_65_method_103_code 17 = .ok (.goto (-12), 3) := by decide +kernel
theorem d3_20 : decode jdk_65_method_103_code 20 = .ok (.return_, 1) := by decide +kernel

theorem pd3 : parseMethodDescriptor "([II)V" = some ⟨[(.array .int), .int], none⟩ := by decide +kernel
theorem pl3 : plainFor (⟨"java/util/Arrays", "fill", "([II)V"⟩ : MethodName) = true := by first | exact plainFor_of_name (by first | (simp [plainName, overriddenIn]; done) | decide +kernel) | decide +kernel

theorem ef_k_fill (m : MethodId) (x0 : Addr) (x1 : Int32) : entryFrame m #[(.ref x0), (.int x1)] 4 = mkF m 0 #[.val (.ref x0), .val (.int x1), .unset, .unset] [] := by first | (simp [entryFrame, mkF, argsToLocals, Value.category]; done) | rfl

set_option maxRecDepth 65536 in
set_option maxHeartbeats 40000000 in
theorem k_fill {l : Launch} {Z : State} {a0 : Array Value} (hw : ∀ d ∈ tables_1, d.before a0 Z = true)  (h : Heap) (hz : Z.heap.size ≤ h.size) (a : Addr) (x : Int32) (fa0 : Ari Z h a .int [0, 0, 0, 0])  (ge_a : Z.heap.size ≤ a)  : Go l Z (⟨"java/util/Arrays", "fill", "([II)V"⟩ : MethodName) jdk_65_method_103_code 4 (Option.none : Option Jvm.ClassFile.FieldType) ({ frames := 0, cells := 0, slots := 0, locals := 0 } : Room) (QV fun h' => Keep h h' [a] ∧ Ari Z h' a .int [x, x, x, x]) 0 0 h 0 #[.val (.ref a), .val (.int x), .unset, .unset] [] := by
  have kp0 : Keep h h [a] := Keep.refl _ _
  refine Go.iconst 1 (0) d3_0 (by decide) rfl ?_
  refine Go.istore_n 2 #[.val (.ref a), .val (.int x), .val (.int (0 : Int32)), .unset] d3_1 rfl rfl ?_
  refine Go.aload_n 3 d3_2 rfl rfl rfl ?_
  refine Go.arraylength (z := (4 : Int32)) 4 d3_3 fa0 (by decide) rfl ?_
  refine Go.istore_n 5 #[.val (.ref a), .val (.int x), .val (.int (0 : Int32)), .val (.int (4 : Int32))] d3_4 rfl rfl ?_
  refine Go.iload_n 6 d3_5 rfl rfl ?_
  refine Go.iload_n 7 d3_6 rfl rfl ?_
  refine Go.icmp_ge 20 10 d3_7 (by decide) (by decide) rfl (fun c => absurd c (by decide)) (fun _ => ?_)
  refine Go.aload_n 11 d3_10 rfl rfl rfl ?_
  refine Go.iload_n 12 d3_11 rfl rfl ?_
  refine Go.iload_n 13 d3_12 rfl rfl ?_
  refine Go.iastore (0) ([x, 0, 0, 0]) 14 d3_13 fa0 (by decide) (by decide) (by decide : (0 : Nat) < 4) rfl ge_a rfl (fun h2 W3 A4 => ?_)
  have zs5 : Z.heap.size ≤ h2.size := W3.size ▸ hz
  have kp6 : Keep h h2 [a] := kp0.wr W3 (Or.inl (by simp))
  refine Go.iinc 17 (1) #[.val (.ref a), .val (.int x), .val (.int ((0 : Int32) + (1 : Int32))), .val (.int (4 : Int32))] d3_14 (by decide) rfl rfl rfl ?_
  refine Go.goto 5 d3_17 (by decide) (by decide) ?_
  refine Go.iload_n 6 d3_5 rfl rfl ?_
  refine Go.iload_n 7 d3_6 rfl rfl ?_
  refine Go.icmp_ge 20 10 d3_7 (by decide) (by decide) rfl (fun c => absurd c (by decide)) (fun _ => ?_)
  refine Go.aload_n 11 d3_10 rfl rfl rfl ?_
  refine Go.iload_n 12 d3_11 rfl rfl ?_
  refine Go.iload_n 13 d3_12 rfl rfl ?_
  refine Go.iastore (1) ([x, x, 0, 0]) 14 d3_13 A4 (by decide) (by decide) (by decide : (1 : Nat) < 4) rfl ge_a rfl (fun h8 W9 A10 => ?_)
  have zs11 : Z.heap.size ≤ h8.size := W9.size ▸ zs5
  have kp12 : Keep h h8 [a] := kp6.wr W9 (Or.inl (by simp))
  refine Go.iinc 17 (1) #[.val (.ref a), .val (.int x), .val (.int (((0 : Int32) + (1 : Int32)) + (1 : Int32))), .val (.int (4 : Int32))] d3_14 (by decide) rfl rfl rfl ?_
  refine Go.goto 5 d3_17 (by decide) (by decide) ?_
  refine Go.iload_n 6 d3_5 rfl rfl ?_
  refine Go.iload_n 7 d3_6 rfl rfl ?_
  refine Go.icmp_ge 20 10 d3_7 (by decide) (by decide) rfl (fun c => absurd c (by decide)) (fun _ => ?_)
  refine Go.aload_n 11 d3_10 rfl rfl rfl ?_
  refine Go.iload_n 12 d3_11 rfl rfl ?_
  refine Go.iload_n 13 d3_12 rfl rfl ?_
  refine Go.iastore (2) ([x, x, x, 0]) 14 d3_13 A10 (by decide) (by decide) (by decide : (2 : Nat) < 4) rfl ge_a rfl (fun h14 W15 A16 => ?_)
  have zs17 : Z.heap.size ≤ h14.size := W15.size ▸ zs11
  have kp18 : Keep h h14 [a] := kp12.wr W15 (Or.inl (by simp))
  refine Go.iinc 17 (1) #[.val (.ref a), .val (.int x), .val (.int ((((0 : Int32) + (1 : Int32)) + (1 : Int32)) + (1 : Int32))), .val (.int (4 : Int32))] d3_14 (by decide) rfl rfl rfl ?_
  refine Go.goto 5 d3_17 (by decide) (by decide) ?_
  refine Go.iload_n 6 d3_5 rfl rfl ?_
  refine Go.iload_n 7 d3_6 rfl rfl ?_
  refine Go.icmp_ge 20 10 d3_7 (by decide) (by decide) rfl (fun c => absurd c (by decide)) (fun _ => ?_)
  refine Go.aload_n 11 d3_10 rfl rfl rfl ?_
  refine Go.iload_n 12 d3_11 rfl rfl ?_
  refine Go.iload_n 13 d3_12 rfl rfl ?_
  refine Go.iastore (3) ([x, x, x, x]) 14 d3_13 A16 (by decide) (by decide) (by decide : (3 : Nat) < 4) rfl ge_a rfl (fun h20 W21 A22 => ?_)
  have zs23 : Z.heap.size ≤ h20.size := W21.size ▸ zs17
  have kp24 : Keep h h20 [a] := kp18.wr W21 (Or.inl (by simp))
  refine Go.iinc 17 (1) #[.val (.ref a), .val (.int x), .val (.int (((((0 : Int32) + (1 : Int32)) + (1 : Int32)) + (1 : Int32)) + (1 : Int32))), .val (.int (4 : Int32))] d3_14 (by decide) rfl rfl rfl ?_
  refine Go.goto 5 d3_17 (by decide) (by decide) ?_
  refine Go.iload_n 6 d3_5 rfl rfl ?_
  refine Go.iload_n 7 d3_6 rfl rfl ?_
  refine Go.icmp_ge 20 10 d3_7 (by decide) (by decide) rfl (fun _ => ?_) (fun c => absurd c (by decide))
  refine Go.vreturn d3_20 rfl (by decide) (by decide) ?_
  exact ⟨kp24, A22⟩

theorem d1_0 : decode prog_43_method_1_code 0 = .ok (.aload_n 0, 1) := by decide +kernel
theorem d1_1 : decode prog_43_method_1_code 1 = .ok (.invokespecial 1, 3) := by decide +kernel
theorem d1_4 : decode prog_43_method_1_code 4 = .ok (.aload_n 0, 1) := by decide +kernel
theorem d1_5 : decode prog_43_method_1_code 5 = .ok (.iload_n 1, 1) := by decide +kernel
theorem d1_6 : decode prog_43_method_1_code 6 = .ok (.newarray .int, 2) := by decide +kernel
theorem d1_8 : decode prog_43_method_1_code 8 = .ok (.putfield 7, 3) := by decide +kernel
theorem d1_11 : decode prog_43_method_1_code 11 = .ok (.aload_n 0, 1) := by decide +kernel
theorem d1_12 : decode prog_43_method_1_code 12 = .ok (.iload_n 1, 1) := by decide +kernel
theorem d1_13 : decode prog_43_method_1_code 13 = .ok (.newarray .int, 2) := by decide +kernel
theorem d1_15 : decode prog_43_method_1_code 15 = .ok (.putfield 13, 3) := by decide +kernel
theorem d1_18 : decode prog_43_method_1_code 18 = .ok (.aload_n 0, 1) := by decide +kernel
theorem d1_19 : decode prog_43_method_1_code 19 = .ok (.getfield 13, 3) := by decide +kernel
theorem d1_22 : decode prog_43_method_1_code 22 = .ok (.iconst (-1), 1) := by decide +kernel
theorem d1_23 : decode prog_43_method_1_code 23 = .ok (.invokestatic 16, 3) := by decide +kernel
theorem d1_26 : decode prog_43_method_1_code 26 = .ok (.return_, 1) := by decide +kernel

theorem pd1 : parseMethodDescriptor "(I)V" = some ⟨[.int], none⟩ := by decide +kernel
theorem pl1 : plainFor (⟨"com/example/wary_mutex/warymutex/message/IndexSet", "<init>", "(I)V"⟩ : MethodName) = true := by first | exact plainFor_of_name (by first | (simp [plainName, overriddenIn]; done) | decide +kernel) | decide +kernel

theorem ef_k_init (m : MethodId) (x0 : Addr) (x1 : Int32) : entryFrame m #[(.ref x0), (.int x1)] 2 = mkF m 0 #[.val (.ref x0), .val (.int x1)] [] := by first | (simp [entryFrame, mkF, argsToLocals, Value.category]; done) | rfl

set_option maxRecDepth 65536 in
set_option maxHeartbeats 40000000 in
theorem k_init {l : Launch} {Z : State} {a0 : Array Value} (hw : ∀ d ∈ tables_1, d.before a0 Z = true)  (h : Heap) (hz : Z.heap.size ≤ h.size) (a : Addr) (fa0 : Exa Z h a "com/example/wary_mutex/warymutex/message/IndexSet") (fa1 : Fld Z h a "com/example/wary_mutex/warymutex/message/IndexSet" "members" "[I" (.null)) (fa2 : Fld Z h a "com/example/wary_mutex/warymutex/message/IndexSet" "positions" "[I" (.null)) (fa3 : Fld Z h a "com/example/wary_mutex/warymutex/message/IndexSet" "size" "I" (.int (0 : Int32)))  (ge_a : Z.heap.size ≤ a)  : Go l Z (⟨"com/example/wary_mutex/warymutex/message/IndexSet", "<init>", "(I)V"⟩ : MethodName) prog_43_method_1_code 2 (Option.none : Option Jvm.ClassFile.FieldType) ({ frames := 1, cells := 2, slots := 8, locals := 32 } : Room) (QV fun h' => ∃ am ap : Addr, h.size ≤ am ∧ h.size ≤ ap ∧ am ≠ ap ∧ Keep h h' [a] ∧ Exa Z h' a "com/example/wary_mutex/warymutex/message/IndexSet" ∧ Fld Z h' a "com/example/wary_mutex/warymutex/message/IndexSet" "members" "[I" (.ref am) ∧ Fld Z h' a "com/example/wary_mutex/warymutex/message/IndexSet" "positions" "[I" (.ref ap) ∧ Fld Z h' a "com/example/wary_mutex/warymutex/message/IndexSet" "size" "I" (.int (own_init).2.2) ∧ Ari Z h' am .int (own_init).1 ∧ Ari Z h' ap .int (own_init).2.1) 0 0 h 0 #[.val (.ref a), .val (.int (4 : Int32))] [] := by
  have kp0 : Keep h h [a] := Keep.refl _ _
  refine Go.aload_n 1 d1_0 rfl rfl rfl ?_
  refine Go.initO 0 4 d1_1 (tw6 hw) (tw7 hw) (tw8 hw) rfl (by decide) (Nat.le_of_eq rfl) (by decide) rfl ?_
  refine Go.aload_n 5 d1_4 rfl rfl rfl ?_
  refine Go.iload_n 6 d1_5 rfl rfl ?_
  refine Go.newI (cap := 4) (xs := [0, 0, 0, 0]) 8 d1_6 (tw9 hw) rfl (by decide) (by decide) (by decide) rfl (by decide) (by decide) rfl (fun a1 h2 q3 E4 A5 => ?_)
  have ne6 : a ≠ a1 := fun e => absurd fa0.lt (by rw [e, q3]; exact Nat.lt_irrefl _)
  have ge7 : Z.heap.size ≤ a1 := (Eq.symm q3) ▸ hz
  have fr8 : h.size ≤ a1 := by rw [q3]; exact kp0.1
  have f9 : Exa Z h2 a "com/example/wary_mutex/warymutex/message/IndexSet" := fa0.ext E4
  have f10 : Fld Z h2 a "com/example/wary_mutex/warymutex/message/IndexSet" "members" "[I" (.null) := fa1.ext E4
  have f11 : Fld Z h2 a "com/example/wary_mutex/warymutex/message/IndexSet" "positions" "[I" (.null) := fa2.ext E4
  have f12 : Fld Z h2 a "com/example/wary_mutex/warymutex/message/IndexSet" "size" "I" (.int (0 : Int32)) := fa3.ext E4
  have zs13 : Z.heap.size ≤ h2.size := Nat.le_trans hz E4.1
  have kp14 : Keep h h2 [a] := kp0.ext E4
  refine Go.putfield (ty := (.array .int)) 11 d1_8 (tw10 hw) f10 f9 (Or.inr ⟨(tw11 hw), rfl, rfl⟩) (tw1 hw) (by decide) rfl rfl ge_a rfl (fun h15 W16 => ?_)
  have f17 : Exa Z h15 a "com/example/wary_mutex/warymutex/message/IndexSet" := f9.wr W16
  have f18 : Fld Z h15 a "com/example/wary_mutex/warymutex/message/IndexSet" "members" "[I" (.ref a1) := f10.same W16
  have f19 : Fld Z h15 a "com/example/wary_mutex/warymutex/message/IndexSet" "positions" "[I" (.null) := f11.other W16 (Or.inr (slot_ne (Or.inr (tw13 hw)) (Or.inr (tw11 hw)) (by decide) (by decide +kernel : parseFieldDescriptor "[I" = some (.array .int)) (by decide +kernel : parseFieldDescriptor "[I" = some (.array .int))))
  have f20 : Fld Z h15 a "com/example/wary_mutex/warymutex/message/IndexSet" "size" "I" (.int (0 : Int32)) := f12.other W16 (Or.inr (slot_ne (Or.inl (tw24 hw)) (Or.inr (tw11 hw)) (by decide) (by decide +kernel : parseFieldDescriptor "I" = some .int) (by decide +kernel : parseFieldDescriptor "[I" = some (.array .int))))
  have f21 : Ari Z h15 a1 .int [0, 0, 0, 0] := A5.other W16 (Ne.symm ne6)
  have zs22 : Z.heap.size ≤ h15.size := W16.size ▸ zs13
  have kp23 : Keep h h15 [a] := kp14.wr W16 (Or.inl (by simp))
  refine Go.aload_n 12 d1_11 rfl rfl rfl ?_
  refine Go.iload_n 13 d1_12 rfl rfl ?_
  refine Go.newI (cap := 4) (xs := [0, 0, 0, 0]) 15 d1_13 (tw9 hw) rfl (by decide) (by decide) (by decide) rfl (by decide) (by decide) rfl (fun a24 h25 q26 E27 A28 => ?_)
  have ne29 : a ≠ a24 := fun e => absurd f17.lt (by rw [e, q26]; exact Nat.lt_irrefl _)
  have ne30 : a1 ≠ a24 := fun e => absurd f21.lt (by rw [e, q26]; exact Nat.lt_irrefl _)
  have ge31 : Z.heap.size ≤ a24 := (Eq.symm q26) ▸ zs22
  have fr32 : h.size ≤ a24 := by rw [q26]; exact kp23.1
  have f33 : Exa Z h25 a "com/example/wary_mutex/warymutex/message/IndexSet" := f17.ext E27
  have f34 : Fld Z h25 a "com/example/wary_mutex/warymutex/message/IndexSet" "members" "[I" (.ref a1) := f18.ext E27
  have f35 : Fld Z h25 a "com/example/wary_mutex/warymutex/message/IndexSet" "positions" "[I" (.null) := f19.ext E27
  have f36 : Fld Z h25 a "com/example/wary_mutex/warymutex/message/IndexSet" "size" "I" (.int (0 : Int32)) := f20.ext E27
  have f37 : Ari Z h25 a1 .int [0, 0, 0, 0] := f21.ext E27
  have zs38 : Z.heap.size ≤ h25.size := Nat.le_trans zs22 E27.1
  have kp39 : Keep h h25 [a] := kp23.ext E27
  refine Go.putfield (ty := (.array .int)) 18 d1_15 (tw12 hw) f35 f33 (Or.inr ⟨(tw13 hw), rfl, rfl⟩) (tw1 hw) (by decide) rfl rfl ge_a rfl (fun h40 W41 => ?_)
  have f42 : Exa Z h40 a "com/example/wary_mutex/warymutex/message/IndexSet" := f33.wr W41
  have f43 : Fld Z h40 a "com/example/wary_mutex/warymutex/message/IndexSet" "members" "[I" (.ref a1) := f34.other W41 (Or.inr (slot_ne (Or.inr (tw11 hw)) (Or.inr (tw13 hw)) (by decide) (by decide +kernel : parseFieldDescriptor "[I" = some (.array .int)) (by decide +kernel : parseFieldDescriptor "[I" = some (.array .int))))
  have f44 : Fld Z h40 a "com/example/wary_mutex/warymutex/message/IndexSet" "positions" "[I" (.ref a24) := f35.same W41
  have f45 : Fld Z h40 a "com/example/wary_mutex/warymutex/message/IndexSet" "size" "I" (.int (0 : Int32)) := f36.other W41 (Or.inr (slot_ne (Or.inl (tw24 hw)) (Or.inr (tw13 hw)) (by decide) (by decide +kernel : parseFieldDescriptor "I" = some .int) (by decide +kernel : parseFieldDescriptor "[I" = some (.array .int))))
  have f46 : Ari Z h40 a1 .int [0, 0, 0, 0] := f37.other W41 (Ne.symm ne6)
  have f47 : Ari Z h40 a24 .int [0, 0, 0, 0] := A28.other W41 (Ne.symm ne29)
  have zs48 : Z.heap.size ≤ h40.size := W41.size ▸ zs38
  have kp49 : Keep h h40 [a] := kp39.wr W41 (Or.inl (by simp))
  refine Go.aload_n 19 d1_18 rfl rfl rfl ?_
  refine Go.getfield 22 d1_19 (tw12 hw) f44 rfl ?_
  refine Go.iconst 23 (-1) d1_22 (by decide) rfl ?_
  refine Go.callSV [.ref a24, .int (-1 : Int32)] [] 26 d1_23 (tw14 hw) (tw15 hw) (tw16 hw) (tw17 hw) pl3 (by decide) (lenOf pd3 rfl) rfl (fun m => ef_k_fill m a24 (-1 : Int32)) _ (k_fill hw h40 zs48 a24 (-1 : Int32) f47 ge31) 0 rfl (Nat.le_of_eq rfl) (by decide) (by decide) (by decide) (by decide) rfl ?_
  rintro h51 ⟨K52, f53⟩
  have f54 : Exa Z h51 a "com/example/wary_mutex/warymutex/message/IndexSet" := f42.keep K52
  have f55 : Fld Z h51 a "com/example/wary_mutex/warymutex/message/IndexSet" "members" "[I" (.ref a1) := f43.keep K52 (ninS ne29 nin0)
  have f56 : Fld Z h51 a "com/example/wary_mutex/warymutex/message/IndexSet" "positions" "[I" (.ref a24) := f44.keep K52 (ninS ne29 nin0)
  have f57 : Fld Z h51 a "com/example/wary_mutex/warymutex/message/IndexSet" "size" "I" (.int (0 : Int32)) := f45.keep K52 (ninS ne29 nin0)
  have f58 : Ari Z h51 a1 .int [0, 0, 0, 0] := f46.keep K52 (ninS ne30 nin0)
  have zs59 : Z.heap.size ≤ h51.size := Nat.le_trans zs48 K52.1
  have kp60 : Keep h h51 [a] := kp49.trans K52 (allS (Or.inr fr32) all0)
  refine Go.vreturn d1_26 rfl (by decide) (by decide) ?_
  exact ⟨a1, a24, fr8, fr32, ne30, kp60, f54, f55, f56, f57, f58, f53⟩

theorem d4_0 : decode prog_43_method_2_code 0 = .ok (.aload_n 0, 1) := by decide +kernel
theorem d4_1 : decode prog_43_method_2_code 1 = .ok (.getfield 13, 3) := by decide +kernel
theorem d4_4 : decode prog_43_method_2_code 4 = .ok (.iload_n 1, 1) := by decide +kernel
theorem d4_5 : decode prog_43_method_2_code 5 = .ok (.iaload, 1) := by decide +kernel
theorem d4_6 : decode prog_43_method_2_code 6 = .ok (.ifCond .ge 33, 3) := by decide +kernel
theorem d4_9 : decode prog_43_method_2_code 9 = .ok (.aload_n 0, 1) := by decide +kernel
theorem d4_10 : decode prog_43_method_2_code 10 = .ok (.getfield 7, 3) := by decide +kernel
theorem d4_13 : decode prog_43_method_2_code 13 = .ok (.aload_n 0, 1) := by decide +kernel
theorem d4_14 : decode prog_43_method_2_code 14 = .ok (.getfield 22, 3) := by decide +kernel
theorem d4_17 : decode prog_43_method_2_code 17 = .ok (.iload_n 1, 1) := by decide +kernel
theorem d4_18 : decode prog_43_method_2_code 18 = .ok (.iastore, 1) := by decide +kernel
theorem d4_19 : decode prog_43_method_2_code 19 = .ok (.aload_n 0, 1) := by decide +kernel
theorem d4_20 : decode prog_43_method_2_code 20 = .ok (.getfield 13, 3) := by decide +kernel
theorem d4_23 : decode prog_43_method_2_code 23 = .ok (.iload_n 1, 1) := by decide +kernel
theorem d4_24 : decode prog_43_method_2_code 24 = .ok (.aload_n 0, 1) := by decide +kernel
theorem d4_25 : decode prog_43_method_2_code 25 = .ok (.getfield 22, 3) := by decide +kernel
theorem d4_28 : decode prog_43_method_2_code 28 = .ok (.iastore, 1) := by decide +kernel
theorem d4_29 : decode prog_43_method_2_code 29 = .ok (.aload_n 0, 1) := by decide +kernel
theorem d4_30 : decode prog_43_method_2_code 30 = .ok (.dup, 1) := by decide +kernel
theorem d4_31 : decode prog_43_method_2_code 31 = .ok (.getfield 22, 3) := by decide +kernel
theorem d4_34 : decode prog_43_method_2_code 34 = .ok (.iconst 1, 1) := by decide +kernel
theorem d4_35 : decode prog_43_method_2_code 35 = .ok (.iadd, 1) := by decide +kernel
theorem d4_36 : decode prog_43_method_2_code 36 = .ok (.putfield 22, 3) := by decide +kernel
theorem d4_39 : decode prog_43_method_2_code 39 = .ok (.return_, 1) := by decide +kernel

theorem pd4 : parseMethodDescriptor "(I)V" = some ⟨[.int], none⟩ := by decide +kernel
theorem pl4 : plainFor (⟨"com/example/wary_mutex/warymutex/message/IndexSet", "add", "(I)V"⟩ : MethodName) = true := by first | exact plainFor_of_name (by first | (simp [plainName, overriddenIn]; done) | decide +kernel) | decide +kernel

theorem ef_k_add (m : MethodId) (x0 : Addr) (x1 : Int32) : entryFrame m #[(.ref x0), (.int x1)] 2 = mkF m 0 #[.val (.ref x0), .val (.int x1)] [] := by first | (simp [entryFrame, mkF, argsToLocals, Value.category]; done) | rfl

set_option maxRecDepth 65536 in
set_option maxHeartbeats 40000000 in
theorem k_add {l : Launch} {Z : State} {a0 : Array Value} (hw : ∀ d ∈ tables_1, d.before a0 Z = true) {am : Addr} {ap : Addr} {S : OwnS} (h : Heap) (hz : Z.heap.size ≤ h.size) (a : Addr) (x : Int32) (fa0 : Exa Z h a "com/example/wary_mutex/warymutex/message/IndexSet") (fa1 : Fld Z h a "com/example/wary_mutex/warymutex/message/IndexSet" "members" "[I" (.ref am)) (fa2 : Fld Z h a "com/example/wary_mutex/warymutex/message/IndexSet" "positions" "[I" (.ref ap)) (fa3 : Fld Z h a "com/example/wary_mutex/warymutex/message/IndexSet" "size" "I" (.int (S.2.2))) (fa4 : Ari Z h am .int (S.1)) (fa5 : Ari Z h ap .int (S.2.1)) (ok : own_okA S x = true) (ge_a : Z.heap.size ≤ a) (ge_am : Z.heap.size ≤ am) (ge_ap : Z.heap.size ≤ ap) (ne_a_am : a ≠ am) (ne_a_ap : a ≠ ap) (ne_am_ap : am ≠ ap) : Go l Z (⟨"com/example/wary_mutex/warymutex/message/IndexSet", "add", "(I)V"⟩ : MethodName) prog_43_method_2_code 2 (Option.none : Option Jvm.ClassFile.FieldType) ({ frames := 0, cells := 0, slots := 0, locals := 0 } : Room) (QV fun h' => Keep h h' [a, am, ap] ∧ Exa Z h' a "com/example/wary_mutex/warymutex/message/IndexSet" ∧ Fld Z h' a "com/example/wary_mutex/warymutex/message/IndexSet" "members" "[I" (.ref am) ∧ Fld Z h' a "com/example/wary_mutex/warymutex/message/IndexSet" "positions" "[I" (.ref ap) ∧ Fld Z h' a "com/example/wary_mutex/warymutex/message/IndexSet" "size" "I" (.int (own_add S x).2.2) ∧ Ari Z h' am .int (own_add S x).1 ∧ Ari Z h' ap .int (own_add S x).2.1) 0 0 h 0 #[.val (.ref a), .val (.int x)] [] := by
  have kp0 : Keep h h [a, am, ap] := Keep.refl _ _
  refine Go.aload_n 1 d4_0 rfl rfl rfl ?_
  refine Go.getfield 4 d4_1 (tw12 hw) fa2 rfl ?_
  refine Go.iload_n 5 d4_4 rfl rfl ?_
  refine Go.iaload (x := (S.2.1.getD (Int32.toNatClampNeg x) 0)) ((Int32.toNatClampNeg x)) 6 d4_5 fa5 (own_okA_e ok).1 rfl (own_getq (own_okA_e ok).2.1) rfl ?_
  refine Go.if_ge 39 9 d4_6 (by decide) (by decide) rfl (fun c1 => ?_) (fun c1 => ?_)
  ·
    refine Go.vreturn d4_39 rfl (by decide) (by decide) ?_
    rw [own_add_neg c1]
    exact ⟨kp0, fa0, fa1, fa2, fa3, fa4, fa5⟩
  ·
    refine Go.aload_n 10 d4_9 rfl rfl rfl ?_
    refine Go.getfield 13 d4_10 (tw10 hw) fa1 rfl ?_
    refine Go.aload_n 14 d4_13 rfl rfl rfl ?_
    refine Go.getfield 17 d4_14 (tw23 hw) fa3 rfl ?_
    refine Go.iload_n 18 d4_17 rfl rfl ?_
    refine Go.iastore ((Int32.toNatClampNeg S.2.2)) ((S.1.set (Int32.toNatClampNeg S.2.2) x)) 19 d4_18 fa4 ((own_okA_e ok).2.2 c1).1 rfl ((own_okA_e ok).2.2 c1).2 rfl ge_am rfl (fun h2 W3 A4 => ?_)
    have f5 : Exa Z h2 a "com/example/wary_mutex/warymutex/message/IndexSet" := fa0.wr W3
    have f6 : Fld Z h2 a "com/example/wary_mutex/warymutex/message/IndexSet" "members" "[I" (.ref am) := fa1.other W3 (Or.inl ne_a_am)
    have f7 : Fld Z h2 a "com/example/wary_mutex/warymutex/message/IndexSet" "positions" "[I" (.ref ap) := fa2.other W3 (Or.inl ne_a_am)
    have f8 : Fld Z h2 a "com/example/wary_mutex/warymutex/message/IndexSet" "size" "I" (.int (S.2.2)) := fa3.other W3 (Or.inl ne_a_am)
    have f9 : Ari Z h2 ap .int (S.2.1) := fa5.other W3 (Ne.symm ne_am_ap)
    have zs10 : Z.heap.size ≤ h2.size := W3.size ▸ hz
    have kp11 : Keep h h2 [a, am, ap] := kp0.wr W3 (Or.inl (by simp))
    refine Go.aload_n 20 d4_19 rfl rfl rfl ?_
    refine Go.getfield 23 d4_20 (tw12 hw) f7 rfl ?_
    refine Go.iload_n 24 d4_23 rfl rfl ?_
    refine Go.aload_n 25 d4_24 rfl rfl rfl ?_
    refine Go.getfield 28 d4_25 (tw23 hw) f8 rfl ?_
    refine Go.iastore ((Int32.toNatClampNeg x)) ((S.2.1.set (Int32.toNatClampNeg x) (S.2.2))) 29 d4_28 f9 (own_okA_e ok).1 rfl (own_okA_e ok).2.1 rfl ge_ap rfl (fun h12 W13 A14 => ?_)
    have f15 : Exa Z h12 a "com/example/wary_mutex/warymutex/message/IndexSet" := f5.wr W13
    have f16 : Fld Z h12 a "com/example/wary_mutex/warymutex/message/IndexSet" "members" "[I" (.ref am) := f6.other W13 (Or.inl ne_a_ap)
    have f17 : Fld Z h12 a "com/example/wary_mutex/warymutex/message/IndexSet" "positions" "[I" (.ref ap) := f7.other W13 (Or.inl ne_a_ap)
    have f18 : Fld Z h12 a "com/example/wary_mutex/warymutex/message/IndexSet" "size" "I" (.int (S.2.2)) := f8.other W13 (Or.inl ne_a_ap)
    have f19 : Ari Z h12 am .int (S.1.set (Int32.toNatClampNeg S.2.2) x) := A4.other W13 ne_am_ap
    have zs20 : Z.heap.size ≤ h12.size := W13.size ▸ zs10
    have kp21 : Keep h h12 [a, am, ap] := kp11.wr W13 (Or.inl (by simp))
    refine Go.aload_n 30 d4_29 rfl rfl rfl ?_
    refine Go.dup 31 d4_30 rfl rfl ?_
    refine Go.getfield 34 d4_31 (tw23 hw) f18 rfl ?_
    refine Go.iconst 35 (1) d4_34 (by decide) rfl ?_
    refine Go.iadd 36 d4_35 rfl ?_
    refine Go.nameI (fun v22 e23 => ?_)
    refine Go.putfield (ty := .int) 39 d4_36 (tw23 hw) f18 f15 (Or.inl (tw24 hw)) (tw1 hw) (by decide) rfl rfl ge_a rfl (fun h24 W25 => ?_)
    have f26 : Exa Z h24 a "com/example/wary_mutex/warymutex/message/IndexSet" := f15.wr W25
    have f27 : Fld Z h24 a "com/example/wary_mutex/warymutex/message/IndexSet" "members" "[I" (.ref am) := f16.other W25 (Or.inr (slot_ne (Or.inr (tw11 hw)) (Or.inl (tw24 hw)) (by decide) (by decide +kernel : parseFieldDescriptor "[I" = some (.array .int)) (by decide +kernel : parseFieldDescriptor "I" = some .int)))
    have f28 : Fld Z h24 a "com/example/wary_mutex/warymutex/message/IndexSet" "positions" "[I" (.ref ap) := f17.other W25 (Or.inr (slot_ne (Or.inr (tw13 hw)) (Or.inl (tw24 hw)) (by decide) (by decide +kernel : parseFieldDescriptor "[I" = some (.array .int)) (by decide +kernel : parseFieldDescriptor "I" = some .int)))
    have f29 : Fld Z h24 a "com/example/wary_mutex/warymutex/message/IndexSet" "size" "I" (.int v22) := f18.same W25
    have f30 : Ari Z h24 am .int (S.1.set (Int32.toNatClampNeg S.2.2) x) := f19.other W25 (Ne.symm ne_a_am)
    have f31 : Ari Z h24 ap .int (S.2.1.set (Int32.toNatClampNeg x) (S.2.2)) := A14.other W25 (Ne.symm ne_a_ap)
    have zs32 : Z.heap.size ≤ h24.size := W25.size ▸ zs20
    have kp33 : Keep h h24 [a, am, ap] := kp21.wr W25 (Or.inl (by simp))
    refine Go.vreturn d4_39 rfl (by decide) (by decide) ?_
    rw [own_add_pos c1]
    have sz9 : Fld Z h24 a "com/example/wary_mutex/warymutex/message/IndexSet" "size" "I" (.int (S.2.2 + 1)) := e23 ▸ f29
    exact ⟨kp33, f26, f27, f28, sz9, f30, f31⟩

theorem d5_0 : decode prog_43_method_4_code 0 = .ok (.aload_n 0, 1) := by decide +kernel
theorem d5_1 : decode prog_43_method_4_code 1 = .ok (.getfield 22, 3) := by decide +kernel
theorem d5_4 : decode prog_43_method_4_code 4 = .ok (.ireturn, 1) := by decide +kernel

theorem pd5 : parseMethodDescriptor "()I" = some ⟨[], some .int⟩ := by decide +kernel
theorem pl5 : plainFor (⟨"com/example/wary_mutex/warymutex/message/IndexSet", "size", "()I"⟩ : MethodName) = true := by first | exact plainFor_of_name (by first | (simp [plainName, overriddenIn]; done) | decide +kernel) | decide +kernel

theorem ef_k_size (m : MethodId) (x0 : Addr) : entryFrame m #[(.ref x0)] 1 = mkF m 0 #[.val (.ref x0)] [] := by first | (simp [entryFrame, mkF, argsToLocals, Value.category]; done) | rfl

set_option maxRecDepth 65536 in
set_option maxHeartbeats 40000000 in
theorem k_size {l : Launch} {Z : State} {a0 : Array Value} (hw : ∀ d ∈ tables_1, d.before a0 Z = true) {n : Int32} (h : Heap) (hz : Z.heap.size ≤ h.size) (a : Addr) (fa0 : Fld Z h a "com/example/wary_mutex/warymutex/message/IndexSet" "size" "I" (.int n))    : Go l Z (⟨"com/example/wary_mutex/warymutex/message/IndexSet", "size", "()I"⟩ : MethodName) prog_43_method_4_code 1 (Option.some Jvm.ClassFile.FieldType.int) ({ frames := 0, cells := 0, slots := 0, locals := 0 } : Room) (QI fun rz h' => rz = n ∧ h' = h) 0 0 h 0 #[.val (.ref a)] [] := by
  refine Go.aload_n 1 d5_0 rfl rfl rfl ?_
  refine Go.getfield 4 d5_1 (tw23 hw) fa0 rfl ?_
  refine Go.ireturn d5_4 rfl (by decide) (by decide) ?_
  exact ⟨by rfl, rfl⟩

theorem d8_0 : decode jdk_41_method_11_code 0 = .ok (.iload_n 0, 1) := by decide +kernel
theorem d8_1 : decode jdk_41_method_11_code 1 = .ok (.ifCond .lt 8, 3) := by decide +kernel
theorem d8_4 : decode jdk_41_method_11_code 4 = .ok (.iload_n 0, 1) := by decide +kernel
theorem d8_5 : decode jdk_41_method_11_code 5 = .ok (.iload_n 1, 1) := by decide +kernel
theorem d8_6 : decode jdk_41_method_11_code 6 = .ok (.if_icmp .lt 10, 3) := by decide +kernel
theorem d8_9 : decode jdk_41_method_11_code 9 = .ok (.aload_n 2, 1) := by decide +kernel
theorem d8_10 : decode jdk_41_method_11_code 10 = .ok (.iload_n 0, 1) := by decide +kernel
theorem d8_11 : decode jdk_41_method_11_code 11 = .ok (.iload_n 1, 1) := by decide +kernel
theorem d8_12 : decode jdk_41_method_11_code 12 = .ok (.invokestatic 95, 3) := by decide +kernel
theorem d8_15 : decode jdk_41_method_11_code 15 = .ok (.athrow, 1) := by decide +kernel
theorem d8_16 : decode jdk_41_method_11_code 16 = .ok (.iload_n 0, 1) := by decide +kernel
theorem d8_17 : decode jdk_41_method_11_code 17 = .ok (.ireturn, 1) := by decide +kernel

theorem pd8 : parseMethodDescriptor "(IILjava/util/function/BiFunction;)I" = some ⟨[.int, .int, (.object "java/util/function/BiFunction")], some .int⟩ := by decide +kernel
theorem pl8 : plainFor (⟨"jdk/internal/util/Preconditions", "checkIndex", "(IILjava/util/function/BiFunction;)I"⟩ : MethodName) = true := by first | exact plainFor_of_name (by first | (simp [plainName, overriddenIn]; done) | decide +kernel) | decide +kernel

theorem ef_k_pre (m : MethodId) (x0 : Int32) (x1 : Int32) (x2 : Unit) : entryFrame m #[(.int x0), (.int x1), .null] 3 = mkF m 0 #[.val (.int x0), .val (.int x1), .val .null] [] := by first | (simp [entryFrame, mkF, argsToLocals, Value.category]; done) | rfl

set_option maxRecDepth 65536 in
set_option maxHeartbeats 40000000 in
theorem k_pre {l : Launch} {Z : State} {a0 : Array Value} (hw : ∀ d ∈ tables_1, d.before a0 Z = true)  (h : Heap) (hz : Z.heap.size ≤ h.size) (x : Int32) (n : Int32) (u : Unit)  (h1 : ¬ x < 0) (h2 : x < n)   : Go l Z (⟨"jdk/internal/util/Preconditions", "checkIndex", "(IILjava/util/function/BiFunction;)I"⟩ : MethodName) jdk_41_method_11_code 3 (Option.some Jvm.ClassFile.FieldType.int) ({ frames := 0, cells := 0, slots := 0, locals := 0 } : Room) (QI fun rz h' => rz = x ∧ h' = h) 0 0 h 0 #[.val (.int x), .val (.int n), .val (.null)] [] := by
  refine Go.iload_n 1 d8_0 rfl rfl ?_
  refine Go.if_lt 9 4 d8_1 (by decide) (by decide) rfl (fun c1 => ?_) (fun c1 => ?_)
  ·
    exact absurd c1 h1
  ·
    refine Go.iload_n 5 d8_4 rfl rfl ?_
    refine Go.iload_n 6 d8_5 rfl rfl ?_
    refine Go.icmp_lt 16 9 d8_6 (by decide) (by decide) rfl (fun c2 => ?_) (fun c2 => ?_)
    ·
      refine Go.iload_n 17 d8_16 rfl rfl ?_
      refine Go.ireturn d8_17 rfl (by decide) (by decide) ?_
      exact ⟨by rfl, rfl⟩
    ·
      exact absurd h2 c2

theorem d7_0 : decode jdk_31_method_17_code 0 = .ok (.iload_n 0, 1) := by decide +kernel
theorem d7_1 : decode jdk_31_method_17_code 1 = .ok (.iload_n 1, 1) := by decide +kernel
theorem d7_2 : decode jdk_31_method_17_code 2 = .ok (.aconst_null, 1) := by decide +kernel
theorem d7_3 : decode jdk_31_method_17_code 3 = .ok (.invokestatic 105, 3) := by decide +kernel
theorem d7_6 : decode jdk_31_method_17_code 6 = .ok (.ireturn, 1) := by decide +kernel

theorem pd7 : parseMethodDescriptor "(II)I" = some ⟨[.int, .int], some .int⟩ := by decide +kernel
theorem pl7 : plainFor (⟨"java/util/Objects", "checkIndex", "(II)I"⟩ : MethodName) = true := by first | exact plainFor_of_name (by first | (simp [plainName, overriddenIn]; done) | decide +kernel) | decide +kernel

theorem ef_k_chk (m : MethodId) (x0 : Int32) (x1 : Int32) : entryFrame m #[(.int x0), (.int x1)] 2 = mkF m 0 #[.val (.int x0), .val (.int x1)] [] := by first | (simp [entryFrame, mkF, argsToLocals, Value.category]; done) | rfl

set_option maxRecDepth 65536 in
set_option maxHeartbeats 40000000 in
theorem k_chk {l : Launch} {Z : State} {a0 : Array Value} (hw : ∀ d ∈ tables_1, d.before a0 Z = true)  (h : Heap) (hz : Z.heap.size ≤ h.size) (x : Int32) (n : Int32)  (h1 : ¬ x < 0) (h2 : x < n)   : Go l Z (⟨"java/util/Objects", "checkIndex", "(II)I"⟩ : MethodName) jdk_31_method_17_code 2 (Option.some Jvm.ClassFile.FieldType.int) ({ frames := 1, cells := 0, slots := 0, locals := 32 } : Room) (QI fun rz h' => rz = x ∧ h' = h) 0 0 h 0 #[.val (.int x), .val (.int n)] [] := by
  refine Go.iload_n 1 d7_0 rfl rfl ?_
  refine Go.iload_n 2 d7_1 rfl rfl ?_
  refine Go.aconst_null 3 d7_2 rfl ?_
  refine Go.callSIp [.int x, .int n, .null] [] 6 d7_3 (tw39 hw) (tw40 hw) (tw41 hw) (tw42 hw) pl8 (by decide) (lenOf pd8 rfl) rfl (fun m => ef_k_pre m x n ()) _ (k_pre hw h hz x n () (by assumption) (by assumption)) 0 rfl (Nat.le_of_eq rfl) (by decide) (by decide) (by decide) (by decide) rfl ?_
  refine Go.ireturn d7_6 rfl (by decide) (by decide) ?_
  exact ⟨by rfl, rfl⟩

theorem d6_0 : decode prog_43_method_5_code 0 = .ok (.iload_n 1, 1) := by decide +kernel
theorem d6_1 : decode prog_43_method_5_code 1 = .ok (.aload_n 0, 1) := by decide +kernel
theorem d6_2 : decode prog_43_method_5_code 2 = .ok (.getfield 22, 3) := by decide +kernel
theorem d6_5 : decode prog_43_method_5_code 5 = .ok (.invokestatic 26, 3) := by decide +kernel
theorem d6_8 : decode prog_43_method_5_code 8 = .ok (.pop, 1) := by decide +kernel
theorem d6_9 : decode prog_43_method_5_code 9 = .ok (.aload_n 0, 1) := by decide +kernel
theorem d6_10 : decode prog_43_method_5_code 10 = .ok (.getfield 7, 3) := by decide +kernel
theorem d6_13 : decode prog_43_method_5_code 13 = .ok (.iload_n 1, 1) := by decide +kernel
theorem d6_14 : decode prog_43_method_5_code 14 = .ok (.iaload, 1) := by decide +kernel
theorem d6_15 : decode prog_43_method_5_code 15 = .ok (.ireturn, 1) := by decide +kernel

theorem pd6 : parseMethodDescriptor "(I)I" = some ⟨[.int], some .int⟩ := by decide +kernel
theorem pl6 : plainFor (⟨"com/example/wary_mutex/warymutex/message/IndexSet", "get", "(I)I"⟩ : MethodName) = true := by first | exact plainFor_of_name (by first | (simp [plainName, overriddenIn]; done) | decide +kernel) | decide +kernel

theorem ef_k_get (m : MethodId) (x0 : Addr) (x1 : Int32) : entryFrame m #[(.ref x0), (.int x1)] 2 = mkF m 0 #[.val (.ref x0), .val (.int x1)] [] := by first | (simp [entryFrame, mkF, argsToLocals, Value.category]; done) | rfl

set_option maxRecDepth 65536 in
set_option maxHeartbeats 40000000 in
theorem k_get {l : Launch} {Z : State} {a0 : Array Value} (hw : ∀ d ∈ tables_1, d.before a0 Z = true) {am : Addr} {S : OwnS} (h : Heap) (hz : Z.heap.size ≤ h.size) (a : Addr) (x : Int32) (fa0 : Fld Z h a "com/example/wary_mutex/warymutex/message/IndexSet" "members" "[I" (.ref am)) (fa1 : Fld Z h a "com/example/wary_mutex/warymutex/message/IndexSet" "size" "I" (.int (S.2.2))) (fa2 : Ari Z h am .int (S.1)) (ok : own_okG S x = true)   : Go l Z (⟨"com/example/wary_mutex/warymutex/message/IndexSet", "get", "(I)I"⟩ : MethodName) prog_43_method_5_code 2 (Option.some Jvm.ClassFile.FieldType.int) ({ frames := 2, cells := 0, slots := 0, locals := 64 } : Room) (QI fun rz h' => rz = (S.1.getD (Int32.toNatClampNeg x) 0) ∧ h' = h) 0 0 h 0 #[.val (.ref a), .val (.int x)] [] := by
  refine Go.iload_n 1 d6_0 rfl rfl ?_
  refine Go.aload_n 2 d6_1 rfl rfl rfl ?_
  refine Go.getfield 5 d6_2 (tw23 hw) fa1 rfl ?_
  refine Go.callSIp [.int x, .int (S.2.2)] [] 8 d6_5 (tw35 hw) (tw36 hw) (tw37 hw) (tw38 hw) pl7 (by decide) (lenOf pd7 rfl) rfl (fun m => ef_k_chk m x (S.2.2)) _ (k_chk hw h hz x (S.2.2) (own_okG_e ok).1 (own_okG_e ok).2.1) 0 rfl (Nat.le_of_eq rfl) (by decide) (by decide) (by decide) (by decide) rfl ?_
  refine Go.pop 9 d6_8 rfl rfl ?_
  refine Go.aload_n 10 d6_9 rfl rfl rfl ?_
  refine Go.getfield 13 d6_10 (tw10 hw) fa0 rfl ?_
  refine Go.iload_n 14 d6_13 rfl rfl ?_
  refine Go.iaload (x := (S.1.getD (Int32.toNatClampNeg x) 0)) ((Int32.toNatClampNeg x)) 15 d6_14 fa2 (own_okG_e ok).1 rfl (own_getq (own_okG_e ok).2.2) rfl ?_
  refine Go.ireturn d6_15 rfl (by decide) (by decide) ?_
  exact ⟨by rfl, rfl⟩

theorem ef_law0 (m : MethodId) (x0 : Int32) (x1 : Int32) (x2 : Int32) (x3 : Int32) : entryFrame m #[(.int x0), (.int x1), (.int x2), (.int x3)] maxLocals = mkF m 0 #[.val (.int x0), .val (.int x1), .val (.int x2), .val (.int x3), .unset, .unset, .unset, .unset, .unset, .unset, .unset, .unset, .unset, .unset, .unset] [] := by first | (simp [entryFrame, mkF, argsToLocals, Value.category, maxLocals]; done) | rfl

set_option maxRecDepth 65536 in
set_option maxHeartbeats 40000000 in
theorem law0 {l : Launch} {Z : State} {a0 : Array Value} (hw : ∀ d ∈ tables_1, d.before a0 Z = true)  (h : Heap) (hz : Z.heap.size ≤ h.size) (i0 : Int32) (i1 : Int32) (i2 : Int32) (i3 : Int32)     : Go l Z x code maxLocals ret room_1 (QI fun z h' => z = 1) 0 0 h 0 #[.val (.int i0), .val (.int i1), .val (.int i2), .val (.int i3), .unset, .unset, .unset, .unset, .unset, .unset, .unset, .unset, .unset, .unset, .unset] [] := by
  refine Go.iload_n 1 at_0 rfl rfl ?_
  refine Go.iconst 2 (1) at_1 (by decide) rfl ?_
  refine Go.iand 3 at_2 rfl ?_
  refine Go.if_eq 10 6 at_3 (by decide) (by decide) rfl (fun c1 => ?_) (fun c1 => ?_)
  ·
    refine Go.iconst 11 (0) at_10 (by decide) rfl ?_
    refine Go.istore 13 #[.val (.int i0), .val (.int i1), .val (.int i2), .val (.int i3), .val (.int (0 : Int32)), .unset, .unset, .unset, .unset, .unset, .unset, .unset, .unset, .unset, .unset] at_11 rfl rfl ?_
    refine Go.iload_n 14 at_13 rfl rfl ?_
    refine Go.iconst 15 (2) at_14 (by decide) rfl ?_
    refine Go.iand 16 at_15 rfl ?_
    refine Go.if_eq 23 19 at_16 (by decide) (by decide) rfl (fun c2 => ?_) (fun c2 => ?_)
    ·
      refine Go.iconst 24 (0) at_23 (by decide) rfl ?_
      refine Go.istore 26 #[.val (.int i0), .val (.int i1), .val (.int i2), .val (.int i3), .val (.int (0 : Int32)), .val (.int (0 : Int32)), .unset, .unset, .unset, .unset, .unset, .unset, .unset, .unset, .unset] at_24 rfl rfl ?_
      refine Go.iload_n 27 at_26 rfl rfl ?_
      refine Go.iconst 28 (3) at_27 (by decide) rfl ?_
      refine Go.iand 29 at_28 rfl ?_
      refine Go.nameI (fun v3 e4 => ?_)
      refine Go.istore 31 #[.val (.int i0), .val (.int i1), .val (.int i2), .val (.int i3), .val (.int (0 : Int32)), .val (.int (0 : Int32)), .val (.int v3), .unset, .unset, .unset, .unset, .unset, .unset, .unset, .unset] at_29 rfl rfl ?_
      refine Go.iload_n 32 at_31 rfl rfl ?_
      refine Go.iconst 33 (3) at_32 (by decide) rfl ?_
      refine Go.iand 34 at_33 rfl ?_
      refine Go.nameI (fun v5 e6 => ?_)
      refine Go.istore 36 #[.val (.int i0), .val (.int i1), .val (.int i2), .val (.int i3), .val (.int (0 : Int32)), .val (.int (0 : Int32)), .val (.int v3), .val (.int v5), .unset, .unset, .unset, .unset, .unset, .unset, .unset] at_34 rfl rfl ?_
      refine Go.iload_n 37 at_36 rfl rfl ?_
      refine Go.iconst 38 (3) at_37 (by decide) rfl ?_
      refine Go.iand 39 at_38 rfl ?_
      refine Go.nameI (fun v7 e8 => ?_)
      refine Go.istore 41 #[.val (.int i0), .val (.int i1), .val (.int i2), .val (.int i3), .val (.int (0 : Int32)), .val (.int (0 : Int32)), .val (.int v3), .val (.int v5), .val (.int v7), .unset, .unset, .unset, .unset, .unset, .unset] at_39 rfl rfl ?_
      obtain ⟨fa, hhfa⟩ := own_fin4 e4
      rw [hhfa]
      obtain ⟨fb, hhfb⟩ := own_fin4 e6
      rw [hhfb]
      obtain ⟨fv, hhfv⟩ := own_fin4 e8
      rw [hhfv]
      refine Go.new 44 at_41 (tw0 hw) (tw1 hw) (tw2 hw) (by decide) (by decide) rfl (fun a9 h10 q11 E12 A13 D14 => ?_)
      have ge15 : Z.heap.size ≤ a9 := (Eq.symm q11) ▸ hz
      have zs16 : Z.heap.size ≤ h10.size := Nat.le_trans hz E12.1
      have f17 : Fld Z h10 a9 "com/example/wary_mutex/warymutex/message/IndexSet" "members" "[I" (.null) := D14 (Or.inr (tw11 hw)) (ty := (.array .int)) (by decide)
      have f18 : Fld Z h10 a9 "com/example/wary_mutex/warymutex/message/IndexSet" "positions" "[I" (.null) := D14 (Or.inr (tw13 hw)) (ty := (.array .int)) (by decide)
      have f19 : Fld Z h10 a9 "com/example/wary_mutex/warymutex/message/IndexSet" "size" "I" (.int (0 : Int32)) := D14 (Or.inl (tw24 hw)) (ty := .int) (by decide)
      refine Go.dup 45 at_44 rfl rfl ?_
      refine Go.iconst 46 (4) at_45 (by decide) rfl ?_
      refine Go.callC [.int (4 : Int32)] [.ref a9] 49 at_46 rfl (tw3 hw) (tw4 hw) (tw2 hw) (tw5 hw) pl1 (by decide) (lenOf pd1 rfl) rfl (fun m => ef_k_init m a9 (4 : Int32)) _ (k_init hw h10 zs16 a9 A13 f17 f18 f19 ge15) 1 rfl (Nat.le_of_eq rfl) (by decide) (by decide) (by decide) (by decide) rfl ?_
      rintro h21 ⟨a23, a24, g25, g26, ne27, K22, f28, f29, f30, f31, f32, f33⟩
      have ne34 : a9 ≠ a23 := Nat.ne_of_lt (Nat.lt_of_lt_of_le A13.lt g25)
      have ge35 : Z.heap.size ≤ a23 := Nat.le_trans zs16 g25
      have ne36 : a9 ≠ a24 := Nat.ne_of_lt (Nat.lt_of_lt_of_le A13.lt g26)
      have ge37 : Z.heap.size ≤ a24 := Nat.le_trans zs16 g26
      have zs38 : Z.heap.size ≤ h21.size := Nat.le_trans zs16 K22.1
      refine Go.astore 51 #[.val (.int i0), .val (.int i1), .val (.int i2), .val (.int i3), .val (.int (0 : Int32)), .val (.int (0 : Int32)), .val (.int (own_i fa)), .val (.int (own_i fb)), .val (.int (own_i fv)), .val (.ref a9), .unset, .unset, .unset, .unset, .unset] at_49 rfl rfl rfl ?_
      refine Go.iload 53 at_51 rfl rfl ?_
      refine Go.if_eq 63 56 at_53 (by decide) (by decide) rfl (fun _ => ?_) (fun c => absurd c (by decide))
      refine Go.iload 65 at_63 rfl rfl ?_
      refine Go.if_eq 75 68 at_65 (by decide) (by decide) rfl (fun _ => ?_) (fun c => absurd c (by decide))
      refine Go.iconst 76 (0) at_75 (by decide) rfl ?_
      refine Go.istore 78 #[.val (.int i0), .val (.int i1), .val (.int i2), .val (.int i3), .val (.int (0 : Int32)), .val (.int (0 : Int32)), .val (.int (own_i fa)), .val (.int (own_i fb)), .val (.int (own_i fv)), .val (.ref a9), .val (.int (0 : Int32)), .unset, .unset, .unset, .unset] at_76 rfl rfl ?_
      refine Go.iconst 79 (-1) at_78 (by decide) rfl ?_
      refine Go.istore 81 #[.val (.int i0), .val (.int i1), .val (.int i2), .val (.int i3), .val (.int (0 : Int32)), .val (.int (0 : Int32)), .val (.int (own_i fa)), .val (.int (own_i fb)), .val (.int (own_i fv)), .val (.ref a9), .val (.int (0 : Int32)), .val (.int (-1 : Int32)), .unset, .unset, .unset] at_79 rfl rfl ?_
      refine Go.iconst 82 (-1) at_81 (by decide) rfl ?_
      refine Go.istore 84 #[.val (.int i0), .val (.int i1), .val (.int i2), .val (.int i3), .val (.int (0 : Int32)), .val (.int (0 : Int32)), .val (.int (own_i fa)), .val (.int (own_i fb)), .val (.int (own_i fv)), .val (.ref a9), .val (.int (0 : Int32)), .val (.int (-1 : Int32)), .val (.int (-1 : Int32)), .unset, .unset] at_82 rfl rfl ?_
      refine Go.iload 86 at_84 rfl rfl ?_
      refine Go.if_eq 96 89 at_86 (by decide) (by decide) rfl (fun _ => ?_) (fun c => absurd c (by decide))
      refine Go.iload 98 at_96 rfl rfl ?_
      refine Go.if_eq 130 101 at_98 (by decide) (by decide) rfl (fun _ => ?_) (fun c => absurd c (by decide))
      refine Go.aload 132 at_130 rfl rfl rfl ?_
      refine Go.callVIp [] [] 135 at_132 (tw25 hw) (tw26 hw) (tw28 hw) (tw27 hw) (tw2 hw) (tw29 hw) f28 pl5 (by decide) (lenOf pd5 rfl) rfl (fun m => ef_k_size m a9) _ (k_size hw h21 zs38 a9 f31) 0 rfl (Nat.le_of_eq rfl) (by decide) (by decide) (by decide) (by decide) rfl ?_
      refine Go.iload 137 at_135 rfl rfl ?_
      refine Go.icmp_eq 142 140 at_137 (by decide) (by decide) rfl (fun c46 => ?_) (fun c46 => ?_)
      ·
        refine Go.aload 144 at_142 rfl rfl rfl ?_
        refine Go.iload 146 at_144 rfl rfl ?_
        refine Go.callVV [.int (own_i fv)] [] 149 at_146 (tw18 hw) (tw19 hw) (tw21 hw) (tw20 hw) (tw2 hw) (tw22 hw) f28 pl4 (by decide) (lenOf pd4 rfl) rfl (fun m => ef_k_add m a9 (own_i fv)) _ (k_add (S := own_init) hw h21 zs38 a9 (own_i fv) f28 f29 f30 f31 f32 f33 (own_f0 fa fb fv trivial) ge15 ge35 ge37 ne34 ne36 ne27) 0 rfl (Nat.le_of_eq rfl) (by decide) (by decide) (by decide) (by decide) rfl ?_
        rintro h48 ⟨K49, f50, f51, f52, f53, f54, f55⟩
        have zs56 : Z.heap.size ≤ h48.size := Nat.le_trans zs38 K49.1
        refine Go.iload 151 at_149 rfl rfl ?_
        refine Go.iconst 152 (1) at_151 (by decide) rfl ?_
        refine Go.icmp_lt 162 155 at_152 (by decide) (by decide) rfl (fun _ => ?_) (fun c => absurd c (by decide))
        refine Go.iload 164 at_162 rfl rfl ?_
        refine Go.iconst 165 (2) at_164 (by decide) rfl ?_
        refine Go.icmp_lt 179 168 at_165 (by decide) (by decide) rfl (fun _ => ?_) (fun c => absurd c (by decide))
        refine Go.iconst 180 (0) at_179 (by decide) rfl ?_
        refine Go.istore 182 #[.val (.int i0), .val (.int i1), .val (.int i2), .val (.int i3), .val (.int (0 : Int32)), .val (.int (0 : Int32)), .val (.int (own_i fa)), .val (.int (own_i fb)), .val (.int (own_i fv)), .val (.ref a9), .val (.int (0 : Int32)), .val (.int (-1 : Int32)), .val (.int (-1 : Int32)), .val (.int (0 : Int32)), .unset] at_180 rfl rfl ?_
        refine Go.iload 184 at_182 rfl rfl ?_
        refine Go.if_eq 192 187 at_184 (by decide) (by decide) rfl (fun _ => ?_) (fun c => absurd c (by decide))
        refine Go.iload 194 at_192 rfl rfl ?_
        refine Go.iconst 195 (1) at_194 (by decide) rfl ?_
        refine Go.iadd 196 at_195 rfl ?_
        refine Go.istore 198 #[.val (.int i0), .val (.int i1), .val (.int i2), .val (.int i3), .val (.int (0 : Int32)), .val (.int (0 : Int32)), .val (.int (own_i fa)), .val (.int (own_i fb)), .val (.int (own_i fv)), .val (.ref a9), .val (.int (0 : Int32)), .val (.int (-1 : Int32)), .val (.int (-1 : Int32)), .val (.int (0 : Int32)), .val (.int ((0 : Int32) + (1 : Int32)))] at_196 rfl rfl ?_
        refine Go.aload 200 at_198 rfl rfl rfl ?_
        refine Go.callVIp [] [] 203 at_200 (tw25 hw) (tw26 hw) (tw28 hw) (tw27 hw) (tw2 hw) (tw29 hw) f50 pl5 (by decide) (lenOf pd5 rfl) rfl (fun m => ef_k_size m a9) _ (k_size hw h48 zs56 a9 f53) 0 rfl (Nat.le_of_eq rfl) (by decide) (by decide) (by decide) (by decide) rfl ?_
        refine Go.iload 205 at_203 rfl rfl ?_
        refine Go.icmp_eq 210 208 at_205 (by decide) (by decide) rfl (fun c63 => ?_) (fun c63 => ?_)
        ·
          refine Go.iload 212 at_210 rfl rfl ?_
          refine Go.iconst 213 (1) at_212 (by decide) rfl ?_
          refine Go.icmp_lt 229 216 at_213 (by decide) (by decide) rfl (fun _ => ?_) (fun c => absurd c (by decide))
          refine Go.iload 231 at_229 rfl rfl ?_
          refine Go.iconst 232 (2) at_231 (by decide) rfl ?_
          refine Go.icmp_lt 248 235 at_232 (by decide) (by decide) rfl (fun _ => ?_) (fun c => absurd c (by decide))
          refine Go.iload 250 at_248 rfl rfl ?_
          refine Go.if_ne 267 253 at_250 (by decide) (by decide) rfl (fun c => absurd c (by decide)) (fun _ => ?_)
          refine Go.aload 255 at_253 rfl rfl rfl ?_
          refine Go.iload 257 at_255 rfl rfl ?_
          refine Go.callVIp [.int (0 : Int32)] [] 260 at_257 (tw30 hw) (tw31 hw) (tw33 hw) (tw32 hw) (tw2 hw) (tw34 hw) f50 pl6 (by decide) (lenOf pd6 rfl) rfl (fun m => ef_k_get m a9 (0 : Int32)) _ (k_get (S := (own_add own_init (own_i fv))) hw h48 zs56 a9 (0 : Int32) f51 f53 f54 (own_f1 fa fb fv ⟨c46, c63, trivial⟩)) 0 rfl (Nat.le_of_eq rfl) (by decide) (by decide) (by decide) (by decide) rfl ?_
          refine Go.iload 262 at_260 rfl rfl ?_
          refine Go.icmp_eq 267 265 at_262 (by decide) (by decide) rfl (fun c70 => ?_) (fun c70 => ?_)
          ·
            refine Go.iconst 268 (1) at_267 (by decide) rfl ?_
            refine Go.nreturn (t := .boolean) (z' := (1 : Int32)) at_268 rfl (by simp) (by decide) (by decide) (by decide) ?_
            rfl
          ·
            refine Go.iconst 266 (0) at_265 (by decide) rfl ?_
            refine Go.nreturn (t := .boolean) (z' := (0 : Int32)) at_266 rfl (by simp) (by decide) (by decide) (by decide) ?_
            exact ((own_f2 fa fb fv ⟨c46, c63, c70, trivial⟩)).elim
        ·
          refine Go.iconst 209 (0) at_208 (by decide) rfl ?_
          refine Go.nreturn (t := .boolean) (z' := (0 : Int32)) at_209 rfl (by simp) (by decide) (by decide) (by decide) ?_
          exact ((own_f3 fa fb fv ⟨c46, c63, trivial⟩)).elim
      ·
        refine Go.iconst 141 (0) at_140 (by decide) rfl ?_
        refine Go.nreturn (t := .boolean) (z' := (0 : Int32)) at_141 rfl (by simp) (by decide) (by decide) (by decide) ?_
        exact ((own_f4 fa fb fv ⟨c46, trivial⟩)).elim
    ·
      refine Go.iconst 20 (1) at_19 (by decide) rfl ?_
      refine Go.goto 24 at_20 (by decide) (by decide) ?_
      refine Go.istore 26 #[.val (.int i0), .val (.int i1), .val (.int i2), .val (.int i3), .val (.int (0 : Int32)), .val (.int (1 : Int32)), .unset, .unset, .unset, .unset, .unset, .unset, .unset, .unset, .unset] at_24 rfl rfl ?_
      refine Go.iload_n 27 at_26 rfl rfl ?_
      refine Go.iconst 28 (3) at_27 (by decide) rfl ?_
      refine Go.iand 29 at_28 rfl ?_
      refine Go.nameI (fun v71 e72 => ?_)
      refine Go.istore 31 #[.val (.int i0), .val (.int i1), .val (.int i2), .val (.int i3), .val (.int (0 : Int32)), .val (.int (1 : Int32)), .val (.int v71), .unset, .unset, .unset, .unset, .unset, .unset, .unset, .unset] at_29 rfl rfl ?_
      refine Go.iload_n 32 at_31 rfl rfl ?_
      refine Go.iconst 33 (3) at_32 (by decide) rfl ?_
      refine Go.iand 34 at_33 rfl ?_
      refine Go.nameI (fun v73 e74 => ?_)
      refine Go.istore 36 #[.val (.int i0), .val (.int i1), .val (.int i2), .val (.int i3), .val (.int (0 : Int32)), .val (.int (1 : Int32)), .val (.int v71), .val (.int v73), .unset, .unset, .unset, .unset, .unset, .unset, .unset] at_34 rfl rfl ?_
      refine Go.iload_n 37 at_36 rfl rfl ?_
      refine Go.iconst 38 (3) at_37 (by decide) rfl ?_
      refine Go.iand 39 at_38 rfl ?_
      refine Go.nameI (fun v75 e76 => ?_)
      refine Go.istore 41 #[.val (.int i0), .val (.int i1), .val (.int i2), .val (.int i3), .val (.int (0 : Int32)), .val (.int (1 : Int32)), .val (.int v71), .val (.int v73), .val (.int v75), .unset, .unset, .unset, .unset, .unset, .unset] at_39 rfl rfl ?_
      obtain ⟨fa, hhfa⟩ := own_fin4 e72
      rw [hhfa]
      obtain ⟨fb, hhfb⟩ := own_fin4 e74
      rw [hhfb]
      obtain ⟨fv, hhfv⟩ := own_fin4 e76
      rw [hhfv]
      refine Go.new 44 at_41 (tw0 hw) (tw1 hw) (tw2 hw) (by decide) (by decide) rfl (fun a77 h78 q79 E80 A81 D82 => ?_)
      have ge83 : Z.heap.size ≤ a77 := (Eq.symm q79) ▸ hz
      have zs84 : Z.heap.size ≤ h78.size := Nat.le_trans hz E80.1
      have f85 : Fld Z h78 a77 "com/example/wary_mutex/warymutex/message/IndexSet" "members" "[I" (.null) := D82 (Or.inr (tw11 hw)) (ty := (.array .int)) (by decide)
      have f86 : Fld Z h78 a77 "com/example/wary_mutex/warymutex/message/IndexSet" "positions" "[I" (.null) := D82 (Or.inr (tw13 hw)) (ty := (.array .int)) (by decide)
      have f87 : Fld Z h78 a77 "com/example/wary_mutex/warymutex/message/IndexSet" "size" "I" (.int (0 : Int32)) := D82 (Or.inl (tw24 hw)) (ty := .int) (by decide)
      refine Go.dup 45 at_44 rfl rfl ?_
      refine Go.iconst 46 (4) at_45 (by decide) rfl ?_
      refine Go.callC [.int (4 : Int32)] [.ref a77] 49 at_46 rfl (tw3 hw) (tw4 hw) (tw2 hw) (tw5 hw) pl1 (by decide) (lenOf pd1 rfl) rfl (fun m => ef_k_init m a77 (4 : Int32)) _ (k_init hw h78 zs84 a77 A81 f85 f86 f87 ge83) 1 rfl (Nat.le_of_eq rfl) (by decide) (by decide) (by decide) (by decide) rfl ?_
      rintro h89 ⟨a91, a92, g93, g94, ne95, K90, f96, f97, f98, f99, f100, f101⟩
      have ne102 : a77 ≠ a91 := Nat.ne_of_lt (Nat.lt_of_lt_of_le A81.lt g93)
      have ge103 : Z.heap.size ≤ a91 := Nat.le_trans zs84 g93
      have ne104 : a77 ≠ a92 := Nat.ne_of_lt (Nat.lt_of_lt_of_le A81.lt g94)
      have ge105 : Z.heap.size ≤ a92 := Nat.le_trans zs84 g94
      have zs106 : Z.heap.size ≤ h89.size := Nat.le_trans zs84 K90.1
      refine Go.astore 51 #[.val (.int i0), .val (.int i1), .val (.int i2), .val (.int i3), .val (.int (0 : Int32)), .val (.int (1 : Int32)), .val (.int (own_i fa)), .val (.int (own_i fb)), .val (.int (own_i fv)), .val (.ref a77), .unset, .unset, .unset, .unset, .unset] at_49 rfl rfl rfl ?_
      refine Go.iload 53 at_51 rfl rfl ?_
      refine Go.if_eq 63 56 at_53 (by decide) (by decide) rfl (fun _ => ?_) (fun c => absurd c (by decide))
      refine Go.iload 65 at_63 rfl rfl ?_
      refine Go.if_eq 75 68 at_65 (by decide) (by decide) rfl (fun c => absurd c (by decide)) (fun _ => ?_)
      refine Go.aload 70 at_68 rfl rfl rfl ?_
      refine Go.iload 72 at_70 rfl rfl ?_
      refine Go.callVV [.int (own_i fb)] [] 75 at_72 (tw18 hw) (tw19 hw) (tw21 hw) (tw20 hw) (tw2 hw) (tw22 hw) f96 pl4 (by decide) (lenOf pd4 rfl) rfl (fun m => ef_k_add m a77 (own_i fb)) _ (k_add (S := own_init) hw h89 zs106 a77 (own_i fb) f96 f97 f98 f99 f100 f101 (own_f5 fa fb fv trivial) ge83 ge103 ge105 ne102 ne104 ne95) 0 rfl (Nat.le_of_eq rfl) (by decide) (by decide) (by decide) (by decide) rfl ?_
      rintro h110 ⟨K111, f112, f113, f114, f115, f116, f117⟩
      have zs118 : Z.heap.size ≤ h110.size := Nat.le_trans zs106 K111.1
      refine Go.iconst 76 (0) at_75 (by decide) rfl ?_
      refine Go.istore 78 #[.val (.int i0), .val (.int i1), .val (.int i2), .val (.int i3), .val (.int (0 : Int32)), .val (.int (1 : Int32)), .val (.int (own_i fa)), .val (.int (own_i fb)), .val (.int (own_i fv)), .val (.ref a77), .val (.int (0 : Int32)), .unset, .unset, .unset, .unset] at_76 rfl rfl ?_
      refine Go.iconst 79 (-1) at_78 (by decide) rfl ?_
      refine Go.istore 81 #[.val (.int i0), .val (.int i1), .val (.int i2), .val (.int i3), .val (.int (0 : Int32)), .val (.int (1 : Int32)), .val (.int (own_i fa)), .val (.int (own_i fb)), .val (.int (own_i fv)), .val (.ref a77), .val (.int (0 : Int32)), .val (.int (-1 : Int32)), .unset, .unset, .unset] at_79 rfl rfl ?_
      refine Go.iconst 82 (-1) at_81 (by decide) rfl ?_
      refine Go.istore 84 #[.val (.int i0), .val (.int i1), .val (.int i2), .val (.int i3), .val (.int (0 : Int32)), .val (.int (1 : Int32)), .val (.int (own_i fa)), .val (.int (own_i fb)), .val (.int (own_i fv)), .val (.ref a77), .val (.int (0 : Int32)), .val (.int (-1 : Int32)), .val (.int (-1 : Int32)), .unset, .unset] at_82 rfl rfl ?_
      refine Go.iload 86 at_84 rfl rfl ?_
      refine Go.if_eq 96 89 at_86 (by decide) (by decide) rfl (fun _ => ?_) (fun c => absurd c (by decide))
      refine Go.iload 98 at_96 rfl rfl ?_
      refine Go.if_eq 130 101 at_98 (by decide) (by decide) rfl (fun c => absurd c (by decide)) (fun _ => ?_)
      refine Go.iload 103 at_101 rfl rfl ?_
      refine Go.if_ne 116 106 at_103 (by decide) (by decide) rfl (fun c => absurd c (by decide)) (fun _ => ?_)
      refine Go.iload 108 at_106 rfl rfl ?_
      refine Go.istore 110 #[.val (.int i0), .val (.int i1), .val (.int i2), .val (.int i3), .val (.int (0 : Int32)), .val (.int (1 : Int32)), .val (.int (own_i fa)), .val (.int (own_i fb)), .val (.int (own_i fv)), .val (.ref a77), .val (.int (0 : Int32)), .val (.int (own_i fb)), .val (.int (-1 : Int32)), .unset, .unset] at_108 rfl rfl ?_
      refine Go.iconst 111 (1) at_110 (by decide) rfl ?_
      refine Go.istore 113 #[.val (.int i0), .val (.int i1), .val (.int i2), .val (.int i3), .val (.int (0 : Int32)), .val (.int (1 : Int32)), .val (.int (own_i fa)), .val (.int (own_i fb)), .val (.int (own_i fv)), .val (.ref a77), .val (.int (1 : Int32)), .val (.int (own_i fb)), .val (.int (-1 : Int32)), .unset, .unset] at_111 rfl rfl ?_
      refine Go.goto 130 at_113 (by decide) (by decide) ?_
      refine Go.aload 132 at_130 rfl rfl rfl ?_
      refine Go.callVIp [] [] 135 at_132 (tw25 hw) (tw26 hw) (tw28 hw) (tw27 hw) (tw2 hw) (tw29 hw) f112 pl5 (by decide) (lenOf pd5 rfl) rfl (fun m => ef_k_size m a77) _ (k_size hw h110 zs118 a77 f115) 0 rfl (Nat.le_of_eq rfl) (by decide) (by decide) (by decide) (by decide) rfl ?_
      refine Go.iload 137 at_135 rfl rfl ?_
      refine Go.icmp_eq 142 140 at_137 (by decide) (by decide) rfl (fun c125 => ?_) (fun c125 => ?_)
      ·
        refine Go.aload 144 at_142 rfl rfl rfl ?_
        refine Go.iload 146 at_144 rfl rfl ?_
        refine Go.callVV [.int (own_i fv)] [] 149 at_146 (tw18 hw) (tw19 hw) (tw21 hw) (tw20 hw) (tw2 hw) (tw22 hw) f112 pl4 (by decide) (lenOf pd4 rfl) rfl (fun m => ef_k_add m a77 (own_i fv)) _ (k_add (S := (own_add own_init (own_i fb))) hw h110 zs118 a77 (own_i fv) f112 f113 f114 f115 f116 f117 (own_f6 fa fb fv trivial) ge83 ge103 ge105 ne102 ne104 ne95) 0 rfl (Nat.le_of_eq rfl) (by decide) (by decide) (by decide) (by decide) rfl ?_
        rintro h127 ⟨K128, f129, f130, f131, f132, f133, f134⟩
        have zs135 : Z.heap.size ≤ h127.size := Nat.le_trans zs118 K128.1
        refine Go.iload 151 at_149 rfl rfl ?_
        refine Go.iconst 152 (1) at_151 (by decide) rfl ?_
        refine Go.icmp_lt 162 155 at_152 (by decide) (by decide) rfl (fun c => absurd c (by decide)) (fun _ => ?_)
        refine Go.iload 157 at_155 rfl rfl ?_
        refine Go.iload 159 at_157 rfl rfl ?_
        refine Go.icmp_eq 175 162 at_159 (by decide) (by decide) rfl (fun c137 => ?_) (fun c137 => ?_)
        ·
          refine Go.iconst 176 (1) at_175 (by decide) rfl ?_
          refine Go.goto 180 at_176 (by decide) (by decide) ?_
          refine Go.istore 182 #[.val (.int i0), .val (.int i1), .val (.int i2), .val (.int i3), .val (.int (0 : Int32)), .val (.int (1 : Int32)), .val (.int (own_i fa)), .val (.int (own_i fb)), .val (.int (own_i fv)), .val (.ref a77), .val (.int (1 : Int32)), .val (.int (own_i fb)), .val (.int (-1 : Int32)), .val (.int (1 : Int32)), .unset] at_180 rfl rfl ?_
          refine Go.iload 184 at_182 rfl rfl ?_
          refine Go.if_eq 192 187 at_184 (by decide) (by decide) rfl (fun c => absurd c (by decide)) (fun _ => ?_)
          refine Go.iload 189 at_187 rfl rfl ?_
          refine Go.goto 196 at_189 (by decide) (by decide) ?_
          refine Go.istore 198 #[.val (.int i0), .val (.int i1), .val (.int i2), .val (.int i3), .val (.int (0 : Int32)), .val (.int (1 : Int32)), .val (.int (own_i fa)), .val (.int (own_i fb)), .val (.int (own_i fv)), .val (.ref a77), .val (.int (1 : Int32)), .val (.int (own_i fb)), .val (.int (-1 : Int32)), .val (.int (1 : Int32)), .val (.int (1 : Int32))] at_196 rfl rfl ?_
          refine Go.aload 200 at_198 rfl rfl rfl ?_
          refine Go.callVIp [] [] 203 at_200 (tw25 hw) (tw26 hw) (tw28 hw) (tw27 hw) (tw2 hw) (tw29 hw) f129 pl5 (by decide) (lenOf pd5 rfl) rfl (fun m => ef_k_size m a77) _ (k_size hw h127 zs135 a77 f132) 0 rfl (Nat.le_of_eq rfl) (by decide) (by decide) (by decide) (by decide) rfl ?_
          refine Go.iload 205 at_203 rfl rfl ?_
          refine Go.icmp_eq 210 208 at_205 (by decide) (by decide) rfl (fun c142 => ?_) (fun c142 => ?_)
          ·
            refine Go.iload 212 at_210 rfl rfl ?_
            refine Go.iconst 213 (1) at_212 (by decide) rfl ?_
            refine Go.icmp_lt 229 216 at_213 (by decide) (by decide) rfl (fun c => absurd c (by decide)) (fun _ => ?_)
            refine Go.aload 218 at_216 rfl rfl rfl ?_
            refine Go.iconst 219 (0) at_218 (by decide) rfl ?_
            refine Go.callVIp [.int (0 : Int32)] [] 222 at_219 (tw30 hw) (tw31 hw) (tw33 hw) (tw32 hw) (tw2 hw) (tw34 hw) f129 pl6 (by decide) (lenOf pd6 rfl) rfl (fun m => ef_k_get m a77 (0 : Int32)) _ (k_get (S := (own_add (own_add own_init (own_i fb)) (own_i fv))) hw h127 zs135 a77 (0 : Int32) f130 f132 f133 (own_f7 fa fb fv ⟨c125, c137, c142, trivial⟩)) 0 rfl (Nat.le_of_eq rfl) (by decide) (by decide) (by decide) (by decide) rfl ?_
            refine Go.iload 224 at_222 rfl rfl ?_
            refine Go.icmp_eq 229 227 at_224 (by decide) (by decide) rfl (fun c147 => ?_) (fun c147 => ?_)
            ·
              refine Go.iload 231 at_229 rfl rfl ?_
              refine Go.iconst 232 (2) at_231 (by decide) rfl ?_
              refine Go.icmp_lt 248 235 at_232 (by decide) (by decide) rfl (fun _ => ?_) (fun c => absurd c (by decide))
              refine Go.iload 250 at_248 rfl rfl ?_
              refine Go.if_ne 267 253 at_250 (by decide) (by decide) rfl (fun _ => ?_) (fun c => absurd c (by decide))
              refine Go.iconst 268 (1) at_267 (by decide) rfl ?_
              refine Go.nreturn (t := .boolean) (z' := (1 : Int32)) at_268 rfl (by simp) (by decide) (by decide) (by decide) ?_
              rfl
            ·
              refine Go.iconst 228 (0) at_227 (by decide) rfl ?_
              refine Go.nreturn (t := .boolean) (z' := (0 : Int32)) at_228 rfl (by simp) (by decide) (by decide) (by decide) ?_
              exact ((own_f8 fa fb fv ⟨c125, c137, c142, c147, trivial⟩)).elim
          ·
            refine Go.iconst 209 (0) at_208 (by decide) rfl ?_
            refine Go.nreturn (t := .boolean) (z' := (0 : Int32)) at_209 rfl (by simp) (by decide) (by decide) (by decide) ?_
            exact ((own_f9 fa fb fv ⟨c125, c137, c142, trivial⟩)).elim
        ·
          refine Go.iload 164 at_162 rfl rfl ?_
          refine Go.iconst 165 (2) at_164 (by decide) rfl ?_
          refine Go.icmp_lt 179 168 at_165 (by decide) (by decide) rfl (fun _ => ?_) (fun c => absurd c (by decide))
          refine Go.iconst 180 (0) at_179 (by decide) rfl ?_
          refine Go.istore 182 #[.val (.int i0), .val (.int i1), .val (.int i2), .val (.int i3), .val (.int (0 : Int32)), .val (.int (1 : Int32)), .val (.int (own_i fa)), .val (.int (own_i fb)), .val (.int (own_i fv)), .val (.ref a77), .val (.int (1 : Int32)), .val (.int (own_i fb)), .val (.int (-1 : Int32)), .val (.int (0 : Int32)), .unset] at_180 rfl rfl ?_
          refine Go.iload 184 at_182 rfl rfl ?_
          refine Go.if_eq 192 187 at_184 (by decide) (by decide) rfl (fun _ => ?_) (fun c => absurd c (by decide))
          refine Go.iload 194 at_192 rfl rfl ?_
          refine Go.iconst 195 (1) at_194 (by decide) rfl ?_
          refine Go.iadd 196 at_195 rfl ?_
          refine Go.istore 198 #[.val (.int i0), .val (.int i1), .val (.int i2), .val (.int i3), .val (.int (0 : Int32)), .val (.int (1 : Int32)), .val (.int (own_i fa)), .val (.int (own_i fb)), .val (.int (own_i fv)), .val (.ref a77), .val (.int (1 : Int32)), .val (.int (own_i fb)), .val (.int (-1 : Int32)), .val (.int (0 : Int32)), .val (.int ((1 : Int32) + (1 : Int32)))] at_196 rfl rfl ?_
          refine Go.aload 200 at_198 rfl rfl rfl ?_
          refine Go.callVIp [] [] 203 at_200 (tw25 hw) (tw26 hw) (tw28 hw) (tw27 hw) (tw2 hw) (tw29 hw) f129 pl5 (by decide) (lenOf pd5 rfl) rfl (fun m => ef_k_size m a77) _ (k_size hw h127 zs135 a77 f132) 0 rfl (Nat.le_of_eq rfl) (by decide) (by decide) (by decide) (by decide) rfl ?_
          refine Go.iload 205 at_203 rfl rfl ?_
          refine Go.icmp_eq 210 208 at_205 (by decide) (by decide) rfl (fun c155 => ?_) (fun c155 => ?_)
          ·
            refine Go.iload 212 at_210 rfl rfl ?_
            refine Go.iconst 213 (1) at_212 (by decide) rfl ?_
            refine Go.icmp_lt 229 216 at_213 (by decide) (by decide) rfl (fun c => absurd c (by decide)) (fun _ => ?_)
            refine Go.aload 218 at_216 rfl rfl rfl ?_
            refine Go.iconst 219 (0) at_218 (by decide) rfl ?_
            refine Go.callVIp [.int (0 : Int32)] [] 222 at_219 (tw30 hw) (tw31 hw) (tw33 hw) (tw32 hw) (tw2 hw) (tw34 hw) f129 pl6 (by decide) (lenOf pd6 rfl) rfl (fun m => ef_k_get m a77 (0 : Int32)) _ (k_get (S := (own_add (own_add own_init (own_i fb)) (own_i fv))) hw h127 zs135 a77 (0 : Int32) f130 f132 f133 (own_f10 fa fb fv ⟨c125, c137, c155, trivial⟩)) 0 rfl (Nat.le_of_eq rfl) (by decide) (by decide) (by decide) (by decide) rfl ?_
            refine Go.iload 224 at_222 rfl rfl ?_
            refine Go.icmp_eq 229 227 at_224 (by decide) (by decide) rfl (fun c160 => ?_) (fun c160 => ?_)
            ·
              refine Go.iload 231 at_229 rfl rfl ?_
              refine Go.iconst 232 (2) at_231 (by decide) rfl ?_
              refine Go.icmp_lt 248 235 at_232 (by decide) (by decide) rfl (fun _ => ?_) (fun c => absurd c (by decide))
              refine Go.iload 250 at_248 rfl rfl ?_
              refine Go.if_ne 267 253 at_250 (by decide) (by decide) rfl (fun c => absurd c (by decide)) (fun _ => ?_)
              refine Go.aload 255 at_253 rfl rfl rfl ?_
              refine Go.iload 257 at_255 rfl rfl ?_
              refine Go.callVIp [.int (1 : Int32)] [] 260 at_257 (tw30 hw) (tw31 hw) (tw33 hw) (tw32 hw) (tw2 hw) (tw34 hw) f129 pl6 (by decide) (lenOf pd6 rfl) rfl (fun m => ef_k_get m a77 (1 : Int32)) _ (k_get (S := (own_add (own_add own_init (own_i fb)) (own_i fv))) hw h127 zs135 a77 (1 : Int32) f130 f132 f133 (own_f11 fa fb fv ⟨c125, c137, c155, c160, trivial⟩)) 0 rfl (Nat.le_of_eq rfl) (by decide) (by decide) (by decide) (by decide) rfl ?_
              refine Go.iload 262 at_260 rfl rfl ?_
              refine Go.icmp_eq 267 265 at_262 (by decide) (by decide) rfl (fun c166 => ?_) (fun c166 => ?_)
              ·
                refine Go.iconst 268 (1) at_267 (by decide) rfl ?_
                refine Go.nreturn (t := .boolean) (z' := (1 : Int32)) at_268 rfl (by simp) (by decide) (by decide) (by decide) ?_
                rfl
              ·
                refine Go.iconst 266 (0) at_265 (by decide) rfl ?_
                refine Go.nreturn (t := .boolean) (z' := (0 : Int32)) at_266 rfl (by simp) (by decide) (by decide) (by decide) ?_
                exact ((own_f12 fa fb fv ⟨c125, c137, c155, c160, c166, trivial⟩)).elim
            ·
              refine Go.iconst 228 (0) at_227 (by decide) rfl ?_
              refine Go.nreturn (t := .boolean) (z' := (0 : Int32)) at_228 rfl (by simp) (by decide) (by decide) (by decide) ?_
              exact ((own_f13 fa fb fv ⟨c125, c137, c155, c160, trivial⟩)).elim
          ·
            refine Go.iconst 209 (0) at_208 (by decide) rfl ?_
            refine Go.nreturn (t := .boolean) (z' := (0 : Int32)) at_209 rfl (by simp) (by decide) (by decide) (by decide) ?_
            exact ((own_f14 fa fb fv ⟨c125, c137, c155, trivial⟩)).elim
      ·
        refine Go.iconst 141 (0) at_140 (by decide) rfl ?_
        refine Go.nreturn (t := .boolean) (z' := (0 : Int32)) at_141 rfl (by simp) (by decide) (by decide) (by decide) ?_
        exact ((own_f15 fa fb fv ⟨c125, trivial⟩)).elim
  ·
    refine Go.iconst 7 (1) at_6 (by decide) rfl ?_
    refine Go.goto 11 at_7 (by decide) (by decide) ?_
    refine Go.istore 13 #[.val (.int i0), .val (.int i1), .val (.int i2), .val (.int i3), .val (.int (1 : Int32)), .unset, .unset, .unset, .unset, .unset, .unset, .unset, .unset, .unset, .unset] at_11 rfl rfl ?_
    refine Go.iload_n 14 at_13 rfl rfl ?_
    refine Go.iconst 15 (2) at_14 (by decide) rfl ?_
    refine Go.iand 16 at_15 rfl ?_
    refine Go.if_eq 23 19 at_16 (by decide) (by decide) rfl (fun c167 => ?_) (fun c167 => ?_)
    ·
      refine Go.iconst 24 (0) at_23 (by decide) rfl ?_
      refine Go.istore 26 #[.val (.int i0), .val (.int i1), .val (.int i2), .val (.int i3), .val (.int (1 : Int32)), .val (.int (0 : Int32)), .unset, .unset, .unset, .unset, .unset, .unset, .unset, .unset, .unset] at_24 rfl rfl ?_
      refine Go.iload_n 27 at_26 rfl rfl ?_
      refine Go.iconst 28 (3) at_27 (by decide) rfl ?_
      refine Go.iand 29 at_28 rfl ?_
      refine Go.nameI (fun v168 e169 => ?_)
      refine Go.istore 31 #[.val (.int i0), .val (.int i1), .val (.int i2), .val (.int i3), .val (.int (1 : Int32)), .val (.int (0 : Int32)), .val (.int v168), .unset, .unset, .unset, .unset, .unset, .unset, .unset, .unset] at_29 rfl rfl ?_
      refine Go.iload_n 32 at_31 rfl rfl ?_
      refine Go.iconst 33 (3) at_32 (by decide) rfl ?_
      refine Go.iand 34 at_33 rfl ?_
      refine Go.nameI (fun v170 e171 => ?_)
      refine Go.istore 36 #[.val (.int i0), .val (.int i1), .val (.int i2), .val (.int i3), .val (.int (1 : Int32)), .val (.int (0 : Int32)), .val (.int v168), .val (.int v170), .unset, .unset, .unset, .unset, .unset, .unset, .unset] at_34 rfl rfl ?_
      refine Go.iload_n 37 at_36 rfl rfl ?_
      refine Go.iconst 38 (3) at_37 (by decide) rfl ?_
      refine Go.iand 39 at_38 rfl ?_
      refine Go.nameI (fun v172 e173 => ?_)
      refine Go.istore 41 #[.val (.int i0), .val (.int i1), .val (.int i2), .val (.int i3), .val (.int (1 : Int32)), .val (.int (0 : Int32)), .val (.int v168), .val (.int v170), .val (.int v172), .unset, .unset, .unset, .unset, .unset, .unset] at_39 rfl rfl ?_
      obtain ⟨fa, hhfa⟩ := own_fin4 e169
      rw [hhfa]
      obtain ⟨fb, hhfb⟩ := own_fin4 e171
      rw [hhfb]
      obtain ⟨fv, hhfv⟩ := own_fin4 e173
      rw [hhfv]
      refine Go.new 44 at_41 (tw0 hw) (tw1 hw) (tw2 hw) (by decide) (by decide) rfl (fun a174 h175 q176 E177 A178 D179 => ?_)
      have ge180 : Z.heap.size ≤ a174 := (Eq.symm q176) ▸ hz
      have zs181 : Z.heap.size ≤ h175.size := Nat.le_trans hz E177.1
      have f182 : Fld Z h175 a174 "com/example/wary_mutex/warymutex/message/IndexSet" "members" "[I" (.null) := D179 (Or.inr (tw11 hw)) (ty := (.array .int)) (by decide)
      have f183 : Fld Z h175 a174 "com/example/wary_mutex/warymutex/message/IndexSet" "positions" "[I" (.null) := D179 (Or.inr (tw13 hw)) (ty := (.array .int)) (by decide)
      have f184 : Fld Z h175 a174 "com/example/wary_mutex/warymutex/message/IndexSet" "size" "I" (.int (0 : Int32)) := D179 (Or.inl (tw24 hw)) (ty := .int) (by decide)
      refine Go.dup 45 at_44 rfl rfl ?_
      refine Go.iconst 46 (4) at_45 (by decide) rfl ?_
      refine Go.callC [.int (4 : Int32)] [.ref a174] 49 at_46 rfl (tw3 hw) (tw4 hw) (tw2 hw) (tw5 hw) pl1 (by decide) (lenOf pd1 rfl) rfl (fun m => ef_k_init m a174 (4 : Int32)) _ (k_init hw h175 zs181 a174 A178 f182 f183 f184 ge180) 1 rfl (Nat.le_of_eq rfl) (by decide) (by decide) (by decide) (by decide) rfl ?_
      rintro h186 ⟨a188, a189, g190, g191, ne192, K187, f193, f194, f195, f196, f197, f198⟩
      have ne199 : a174 ≠ a188 := Nat.ne_of_lt (Nat.lt_of_lt_of_le A178.lt g190)
      have ge200 : Z.heap.size ≤ a188 := Nat.le_trans zs181 g190
      have ne201 : a174 ≠ a189 := Nat.ne_of_lt (Nat.lt_of_lt_of_le A178.lt g191)
      have ge202 : Z.heap.size ≤ a189 := Nat.le_trans zs181 g191
      have zs203 : Z.heap.size ≤ h186.size := Nat.le_trans zs181 K187.1
      refine Go.astore 51 #[.val (.int i0), .val (.int i1), .val (.int i2), .val (.int i3), .val (.int (1 : Int32)), .val (.int (0 : Int32)), .val (.int (own_i fa)), .val (.int (own_i fb)), .val (.int (own_i fv)), .val (.ref a174), .unset, .unset, .unset, .unset, .unset] at_49 rfl rfl rfl ?_
      refine Go.iload 53 at_51 rfl rfl ?_
      refine Go.if_eq 63 56 at_53 (by decide) (by decide) rfl (fun c => absurd c (by decide)) (fun _ => ?_)
      refine Go.aload 58 at_56 rfl rfl rfl ?_
      refine Go.iload 60 at_58 rfl rfl ?_
      refine Go.callVV [.int (own_i fa)] [] 63 at_60 (tw18 hw) (tw19 hw) (tw21 hw) (tw20 hw) (tw2 hw) (tw22 hw) f193 pl4 (by decide) (lenOf pd4 rfl) rfl (fun m => ef_k_add m a174 (own_i fa)) _ (k_add (S := own_init) hw h186 zs203 a174 (own_i fa) f193 f194 f195 f196 f197 f198 (own_f16 fa fb fv trivial) ge180 ge200 ge202 ne199 ne201 ne192) 0 rfl (Nat.le_of_eq rfl) (by decide) (by decide) (by decide) (by decide) rfl ?_
      rintro h206 ⟨K207, f208, f209, f210, f211, f212, f213⟩
      have zs214 : Z.heap.size ≤ h206.size := Nat.le_trans zs203 K207.1
      refine Go.iload 65 at_63 rfl rfl ?_
      refine Go.if_eq 75 68 at_65 (by decide) (by decide) rfl (fun _ => ?_) (fun c => absurd c (by decide))
      refine Go.iconst 76 (0) at_75 (by decide) rfl ?_
      refine Go.istore 78 #[.val (.int i0), .val (.int i1), .val (.int i2), .val (.int i3), .val (.int (1 : Int32)), .val (.int (0 : Int32)), .val (.int (own_i fa)), .val (.int (own_i fb)), .val (.int (own_i fv)), .val (.ref a174), .val (.int (0 : Int32)), .unset, .unset, .unset, .unset] at_76 rfl rfl ?_
      refine Go.iconst 79 (-1) at_78 (by decide) rfl ?_
      refine Go.istore 81 #[.val (.int i0), .val (.int i1), .val (.int i2), .val (.int i3), .val (.int (1 : Int32)), .val (.int (0 : Int32)), .val (.int (own_i fa)), .val (.int (own_i fb)), .val (.int (own_i fv)), .val (.ref a174), .val (.int (0 : Int32)), .val (.int (-1 : Int32)), .unset, .unset, .unset] at_79 rfl rfl ?_
      refine Go.iconst 82 (-1) at_81 (by decide) rfl ?_
      refine Go.istore 84 #[.val (.int i0), .val (.int i1), .val (.int i2), .val (.int i3), .val (.int (1 : Int32)), .val (.int (0 : Int32)), .val (.int (own_i fa)), .val (.int (own_i fb)), .val (.int (own_i fv)), .val (.ref a174), .val (.int (0 : Int32)), .val (.int (-1 : Int32)), .val (.int (-1 : Int32)), .unset, .unset] at_82 rfl rfl ?_
      refine Go.iload 86 at_84 rfl rfl ?_
      refine Go.if_eq 96 89 at_86 (by decide) (by decide) rfl (fun c => absurd c (by decide)) (fun _ => ?_)
      refine Go.iload 91 at_89 rfl rfl ?_
      refine Go.istore 93 #[.val (.int i0), .val (.int i1), .val (.int i2), .val (.int i3), .val (.int (1 : Int32)), .val (.int (0 : Int32)), .val (.int (own_i fa)), .val (.int (own_i fb)), .val (.int (own_i fv)), .val (.ref a174), .val (.int (0 : Int32)), .val (.int (own_i fa)), .val (.int (-1 : Int32)), .unset, .unset] at_91 rfl rfl ?_
      refine Go.iconst 94 (1) at_93 (by decide) rfl ?_
      refine Go.istore 96 #[.val (.int i0), .val (.int i1), .val (.int i2), .val (.int i3), .val (.int (1 : Int32)), .val (.int (0 : Int32)), .val (.int (own_i fa)), .val (.int (own_i fb)), .val (.int (own_i fv)), .val (.ref a174), .val (.int (1 : Int32)), .val (.int (own_i fa)), .val (.int (-1 : Int32)), .unset, .unset] at_94 rfl rfl ?_
      refine Go.iload 98 at_96 rfl rfl ?_
      refine Go.if_eq 130 101 at_98 (by decide) (by decide) rfl (fun _ => ?_) (fun c => absurd c (by decide))
      refine Go.aload 132 at_130 rfl rfl rfl ?_
      refine Go.callVIp [] [] 135 at_132 (tw25 hw) (tw26 hw) (tw28 hw) (tw27 hw) (tw2 hw) (tw29 hw) f208 pl5 (by decide) (lenOf pd5 rfl) rfl (fun m => ef_k_size m a174) _ (k_size hw h206 zs214 a174 f211) 0 rfl (Nat.le_of_eq rfl) (by decide) (by decide) (by decide) (by decide) rfl ?_
      refine Go.iload 137 at_135 rfl rfl ?_
      refine Go.icmp_eq 142 140 at_137 (by decide) (by decide) rfl (fun c221 => ?_) (fun c221 => ?_)
      ·
        refine Go.aload 144 at_142 rfl rfl rfl ?_
        refine Go.iload 146 at_144 rfl rfl ?_
        refine Go.callVV [.int (own_i fv)] [] 149 at_146 (tw18 hw) (tw19 hw) (tw21 hw) (tw20 hw) (tw2 hw) (tw22 hw) f208 pl4 (by decide) (lenOf pd4 rfl) rfl (fun m => ef_k_add m a174 (own_i fv)) _ (k_add (S := (own_add own_init (own_i fa))) hw h206 zs214 a174 (own_i fv) f208 f209 f210 f211 f212 f213 (own_f17 fa fb fv trivial) ge180 ge200 ge202 ne199 ne201 ne192) 0 rfl (Nat.le_of_eq rfl) (by decide) (by decide) (by decide) (by decide) rfl ?_
        rintro h223 ⟨K224, f225, f226, f227, f228, f229, f230⟩
        have zs231 : Z.heap.size ≤ h223.size := Nat.le_trans zs214 K224.1
        refine Go.iload 151 at_149 rfl rfl ?_
        refine Go.iconst 152 (1) at_151 (by decide) rfl ?_
        refine Go.icmp_lt 162 155 at_152 (by decide) (by decide) rfl (fun c => absurd c (by decide)) (fun _ => ?_)
        refine Go.iload 157 at_155 rfl rfl ?_
        refine Go.iload 159 at_157 rfl rfl ?_
        refine Go.icmp_eq 175 162 at_159 (by decide) (by decide) rfl (fun c233 => ?_) (fun c233 => ?_)
        ·
          refine Go.iconst 176 (1) at_175 (by decide) rfl ?_
          refine Go.goto 180 at_176 (by decide) (by decide) ?_
          refine Go.istore 182 #[.val (.int i0), .val (.int i1), .val (.int i2), .val (.int i3), .val (.int (1 : Int32)), .val (.int (0 : Int32)), .val (.int (own_i fa)), .val (.int (own_i fb)), .val (.int (own_i fv)), .val (.ref a174), .val (.int (1 : Int32)), .val (.int (own_i fa)), .val (.int (-1 : Int32)), .val (.int (1 : Int32)), .unset] at_180 rfl rfl ?_
          refine Go.iload 184 at_182 rfl rfl ?_
          refine Go.if_eq 192 187 at_184 (by decide) (by decide) rfl (fun c => absurd c (by decide)) (fun _ => ?_)
          refine Go.iload 189 at_187 rfl rfl ?_
          refine Go.goto 196 at_189 (by decide) (by decide) ?_
          refine Go.istore 198 #[.val (.int i0), .val (.int i1), .val (.int i2), .val (.int i3), .val (.int (1 : Int32)), .val (.int (0 : Int32)), .val (.int (own_i fa)), .val (.int (own_i fb)), .val (.int (own_i fv)), .val (.ref a174), .val (.int (1 : Int32)), .val (.int (own_i fa)), .val (.int (-1 : Int32)), .val (.int (1 : Int32)), .val (.int (1 : Int32))] at_196 rfl rfl ?_
          refine Go.aload 200 at_198 rfl rfl rfl ?_
          refine Go.callVIp [] [] 203 at_200 (tw25 hw) (tw26 hw) (tw28 hw) (tw27 hw) (tw2 hw) (tw29 hw) f225 pl5 (by decide) (lenOf pd5 rfl) rfl (fun m => ef_k_size m a174) _ (k_size hw h223 zs231 a174 f228) 0 rfl (Nat.le_of_eq rfl) (by decide) (by decide) (by decide) (by decide) rfl ?_
          refine Go.iload 205 at_203 rfl rfl ?_
          refine Go.icmp_eq 210 208 at_205 (by decide) (by decide) rfl (fun c238 => ?_) (fun c238 => ?_)
          ·
            refine Go.iload 212 at_210 rfl rfl ?_
            refine Go.iconst 213 (1) at_212 (by decide) rfl ?_
            refine Go.icmp_lt 229 216 at_213 (by decide) (by decide) rfl (fun c => absurd c (by decide)) (fun _ => ?_)
            refine Go.aload 218 at_216 rfl rfl rfl ?_
            refine Go.iconst 219 (0) at_218 (by decide) rfl ?_
            refine Go.callVIp [.int (0 : Int32)] [] 222 at_219 (tw30 hw) (tw31 hw) (tw33 hw) (tw32 hw) (tw2 hw) (tw34 hw) f225 pl6 (by decide) (lenOf pd6 rfl) rfl (fun m => ef_k_get m a174 (0 : Int32)) _ (k_get (S := (own_add (own_add own_init (own_i fa)) (own_i fv))) hw h223 zs231 a174 (0 : Int32) f226 f228 f229 (own_f18 fa fb fv ⟨c221, c233, c238, trivial⟩)) 0 rfl (Nat.le_of_eq rfl) (by decide) (by decide) (by decide) (by decide) rfl ?_
            refine Go.iload 224 at_222 rfl rfl ?_
            refine Go.icmp_eq 229 227 at_224 (by decide) (by decide) rfl (fun c243 => ?_) (fun c243 => ?_)
            ·
              refine Go.iload 231 at_229 rfl rfl ?_
              refine Go.iconst 232 (2) at_231 (by decide) rfl ?_
              refine Go.icmp_lt 248 235 at_232 (by decide) (by decide) rfl (fun _ => ?_) (fun c => absurd c (by decide))
              refine Go.iload 250 at_248 rfl rfl ?_
              refine Go.if_ne 267 253 at_250 (by decide) (by decide) rfl (fun _ => ?_) (fun c => absurd c (by decide))
              refine Go.iconst 268 (1) at_267 (by decide) rfl ?_
              refine Go.nreturn (t := .boolean) (z' := (1 : Int32)) at_268 rfl (by simp) (by decide) (by decide) (by decide) ?_
              rfl
            ·
              refine Go.iconst 228 (0) at_227 (by decide) rfl ?_
              refine Go.nreturn (t := .boolean) (z' := (0 : Int32)) at_228 rfl (by simp) (by decide) (by decide) (by decide) ?_
              exact ((own_f19 fa fb fv ⟨c221, c233, c238, c243, trivial⟩)).elim
          ·
            refine Go.iconst 209 (0) at_208 (by decide) rfl ?_
            refine Go.nreturn (t := .boolean) (z' := (0 : Int32)) at_209 rfl (by simp) (by decide) (by decide) (by decide) ?_
            exact ((own_f20 fa fb fv ⟨c221, c233, c238, trivial⟩)).elim
        ·
          refine Go.iload 164 at_162 rfl rfl ?_
          refine Go.iconst 165 (2) at_164 (by decide) rfl ?_
          refine Go.icmp_lt 179 168 at_165 (by decide) (by decide) rfl (fun _ => ?_) (fun c => absurd c (by decide))
          refine Go.iconst 180 (0) at_179 (by decide) rfl ?_
          refine Go.istore 182 #[.val (.int i0), .val (.int i1), .val (.int i2), .val (.int i3), .val (.int (1 : Int32)), .val (.int (0 : Int32)), .val (.int (own_i fa)), .val (.int (own_i fb)), .val (.int (own_i fv)), .val (.ref a174), .val (.int (1 : Int32)), .val (.int (own_i fa)), .val (.int (-1 : Int32)), .val (.int (0 : Int32)), .unset] at_180 rfl rfl ?_
          refine Go.iload 184 at_182 rfl rfl ?_
          refine Go.if_eq 192 187 at_184 (by decide) (by decide) rfl (fun _ => ?_) (fun c => absurd c (by decide))
          refine Go.iload 194 at_192 rfl rfl ?_
          refine Go.iconst 195 (1) at_194 (by decide) rfl ?_
          refine Go.iadd 196 at_195 rfl ?_
          refine Go.istore 198 #[.val (.int i0), .val (.int i1), .val (.int i2), .val (.int i3), .val (.int (1 : Int32)), .val (.int (0 : Int32)), .val (.int (own_i fa)), .val (.int (own_i fb)), .val (.int (own_i fv)), .val (.ref a174), .val (.int (1 : Int32)), .val (.int (own_i fa)), .val (.int (-1 : Int32)), .val (.int (0 : Int32)), .val (.int ((1 : Int32) + (1 : Int32)))] at_196 rfl rfl ?_
          refine Go.aload 200 at_198 rfl rfl rfl ?_
          refine Go.callVIp [] [] 203 at_200 (tw25 hw) (tw26 hw) (tw28 hw) (tw27 hw) (tw2 hw) (tw29 hw) f225 pl5 (by decide) (lenOf pd5 rfl) rfl (fun m => ef_k_size m a174) _ (k_size hw h223 zs231 a174 f228) 0 rfl (Nat.le_of_eq rfl) (by decide) (by decide) (by decide) (by decide) rfl ?_
          refine Go.iload 205 at_203 rfl rfl ?_
          refine Go.icmp_eq 210 208 at_205 (by decide) (by decide) rfl (fun c251 => ?_) (fun c251 => ?_)
          ·
            refine Go.iload 212 at_210 rfl rfl ?_
            refine Go.iconst 213 (1) at_212 (by decide) rfl ?_
            refine Go.icmp_lt 229 216 at_213 (by decide) (by decide) rfl (fun c => absurd c (by decide)) (fun _ => ?_)
            refine Go.aload 218 at_216 rfl rfl rfl ?_
            refine Go.iconst 219 (0) at_218 (by decide) rfl ?_
            refine Go.callVIp [.int (0 : Int32)] [] 222 at_219 (tw30 hw) (tw31 hw) (tw33 hw) (tw32 hw) (tw2 hw) (tw34 hw) f225 pl6 (by decide) (lenOf pd6 rfl) rfl (fun m => ef_k_get m a174 (0 : Int32)) _ (k_get (S := (own_add (own_add own_init (own_i fa)) (own_i fv))) hw h223 zs231 a174 (0 : Int32) f226 f228 f229 (own_f21 fa fb fv ⟨c221, c233, c251, trivial⟩)) 0 rfl (Nat.le_of_eq rfl) (by decide) (by decide) (by decide) (by decide) rfl ?_
            refine Go.iload 224 at_222 rfl rfl ?_
            refine Go.icmp_eq 229 227 at_224 (by decide) (by decide) rfl (fun c256 => ?_) (fun c256 => ?_)
            ·
              refine Go.iload 231 at_229 rfl rfl ?_
              refine Go.iconst 232 (2) at_231 (by decide) rfl ?_
              refine Go.icmp_lt 248 235 at_232 (by decide) (by decide) rfl (fun _ => ?_) (fun c => absurd c (by decide))
              refine Go.iload 250 at_248 rfl rfl ?_
              refine Go.if_ne 267 253 at_250 (by decide) (by decide) rfl (fun c => absurd c (by decide)) (fun _ => ?_)
              refine Go.aload 255 at_253 rfl rfl rfl ?_
              refine Go.iload 257 at_255 rfl rfl ?_
              refine Go.callVIp [.int (1 : Int32)] [] 260 at_257 (tw30 hw) (tw31 hw) (tw33 hw) (tw32 hw) (tw2 hw) (tw34 hw) f225 pl6 (by decide) (lenOf pd6 rfl) rfl (fun m => ef_k_get m a174 (1 : Int32)) _ (k_get (S := (own_add (own_add own_init (own_i fa)) (own_i fv))) hw h223 zs231 a174 (1 : Int32) f226 f228 f229 (own_f22 fa fb fv ⟨c221, c233, c251, c256, trivial⟩)) 0 rfl (Nat.le_of_eq rfl) (by decide) (by decide) (by decide) (by decide) rfl ?_
              refine Go.iload 262 at_260 rfl rfl ?_
              refine Go.icmp_eq 267 265 at_262 (by decide) (by decide) rfl (fun c262 => ?_) (fun c262 => ?_)
              ·
                refine Go.iconst 268 (1) at_267 (by decide) rfl ?_
                refine Go.nreturn (t := .boolean) (z' := (1 : Int32)) at_268 rfl (by simp) (by decide) (by decide) (by decide) ?_
                rfl
              ·
                refine Go.iconst 266 (0) at_265 (by decide) rfl ?_
                refine Go.nreturn (t := .boolean) (z' := (0 : Int32)) at_266 rfl (by simp) (by decide) (by decide) (by decide) ?_
                exact ((own_f23 fa fb fv ⟨c221, c233, c251, c256, c262, trivial⟩)).elim
            ·
              refine Go.iconst 228 (0) at_227 (by decide) rfl ?_
              refine Go.nreturn (t := .boolean) (z' := (0 : Int32)) at_228 rfl (by simp) (by decide) (by decide) (by decide) ?_
              exact ((own_f24 fa fb fv ⟨c221, c233, c251, c256, trivial⟩)).elim
          ·
            refine Go.iconst 209 (0) at_208 (by decide) rfl ?_
            refine Go.nreturn (t := .boolean) (z' := (0 : Int32)) at_209 rfl (by simp) (by decide) (by decide) (by decide) ?_
            exact ((own_f25 fa fb fv ⟨c221, c233, c251, trivial⟩)).elim
      ·
        refine Go.iconst 141 (0) at_140 (by decide) rfl ?_
        refine Go.nreturn (t := .boolean) (z' := (0 : Int32)) at_141 rfl (by simp) (by decide) (by decide) (by decide) ?_
        exact ((own_f26 fa fb fv ⟨c221, trivial⟩)).elim
    ·
      refine Go.iconst 20 (1) at_19 (by decide) rfl ?_
      refine Go.goto 24 at_20 (by decide) (by decide) ?_
      refine Go.istore 26 #[.val (.int i0), .val (.int i1), .val (.int i2), .val (.int i3), .val (.int (1 : Int32)), .val (.int (1 : Int32)), .unset, .unset, .unset, .unset, .unset, .unset, .unset, .unset, .unset] at_24 rfl rfl ?_
      refine Go.iload_n 27 at_26 rfl rfl ?_
      refine Go.iconst 28 (3) at_27 (by decide) rfl ?_
      refine Go.iand 29 at_28 rfl ?_
      refine Go.nameI (fun v263 e264 => ?_)
      refine Go.istore 31 #[.val (.int i0), .val (.int i1), .val (.int i2), .val (.int i3), .val (.int (1 : Int32)), .val (.int (1 : Int32)), .val (.int v263), .unset, .unset, .unset, .unset, .unset, .unset, .unset, .unset] at_29 rfl rfl ?_
      refine Go.iload_n 32 at_31 rfl rfl ?_
      refine Go.iconst 33 (3) at_32 (by decide) rfl ?_
      refine Go.iand 34 at_33 rfl ?_
      refine Go.nameI (fun v265 e266 => ?_)
      refine Go.istore 36 #[.val (.int i0), .val (.int i1), .val (.int i2), .val (.int i3), .val (.int (1 : Int32)), .val (.int (1 : Int32)), .val (.int v263), .val (.int v265), .unset, .unset, .unset, .unset, .unset, .unset, .unset] at_34 rfl rfl ?_
      refine Go.iload_n 37 at_36 rfl rfl ?_
      refine Go.iconst 38 (3) at_37 (by decide) rfl ?_
      refine Go.iand 39 at_38 rfl ?_
      refine Go.nameI (fun v267 e268 => ?_)
      refine Go.istore 41 #[.val (.int i0), .val (.int i1), .val (.int i2), .val (.int i3), .val (.int (1 : Int32)), .val (.int (1 : Int32)), .val (.int v263), .val (.int v265), .val (.int v267), .unset, .unset, .unset, .unset, .unset, .unset] at_39 rfl rfl ?_
      obtain ⟨fa, hhfa⟩ := own_fin4 e264
      rw [hhfa]
      obtain ⟨fb, hhfb⟩ := own_fin4 e266
      rw [hhfb]
      obtain ⟨fv, hhfv⟩ := own_fin4 e268
      rw [hhfv]
      refine Go.new 44 at_41 (tw0 hw) (tw1 hw) (tw2 hw) (by decide) (by decide) rfl (fun a269 h270 q271 E272 A273 D274 => ?_)
      have ge275 : Z.heap.size ≤ a269 := (Eq.symm q271) ▸ hz
      have zs276 : Z.heap.size ≤ h270.size := Nat.le_trans hz E272.1
      have f277 : Fld Z h270 a269 "com/example/wary_mutex/warymutex/message/IndexSet" "members" "[I" (.null) := D274 (Or.inr (tw11 hw)) (ty := (.array .int)) (by decide)
      have f278 : Fld Z h270 a269 "com/example/wary_mutex/warymutex/message/IndexSet" "positions" "[I" (.null) := D274 (Or.inr (tw13 hw)) (ty := (.array .int)) (by decide)
      have f279 : Fld Z h270 a269 "com/example/wary_mutex/warymutex/message/IndexSet" "size" "I" (.int (0 : Int32)) := D274 (Or.inl (tw24 hw)) (ty := .int) (by decide)
      refine Go.dup 45 at_44 rfl rfl ?_
      refine Go.iconst 46 (4) at_45 (by decide) rfl ?_
      refine Go.callC [.int (4 : Int32)] [.ref a269] 49 at_46 rfl (tw3 hw) (tw4 hw) (tw2 hw) (tw5 hw) pl1 (by decide) (lenOf pd1 rfl) rfl (fun m => ef_k_init m a269 (4 : Int32)) _ (k_init hw h270 zs276 a269 A273 f277 f278 f279 ge275) 1 rfl (Nat.le_of_eq rfl) (by decide) (by decide) (by decide) (by decide) rfl ?_
      rintro h281 ⟨a283, a284, g285, g286, ne287, K282, f288, f289, f290, f291, f292, f293⟩
      have ne294 : a269 ≠ a283 := Nat.ne_of_lt (Nat.lt_of_lt_of_le A273.lt g285)
      have ge295 : Z.heap.size ≤ a283 := Nat.le_trans zs276 g285
      have ne296 : a269 ≠ a284 := Nat.ne_of_lt (Nat.lt_of_lt_of_le A273.lt g286)
      have ge297 : Z.heap.size ≤ a284 := Nat.le_trans zs276 g286
      have zs298 : Z.heap.size ≤ h281.size := Nat.le_trans zs276 K282.1
      refine Go.astore 51 #[.val (.int i0), .val (.int i1), .val (.int i2), .val (.int i3), .val (.int (1 : Int32)), .val (.int (1 : Int32)), .val (.int (own_i fa)), .val (.int (own_i fb)), .val (.int (own_i fv)), .val (.ref a269), .unset, .unset, .unset, .unset, .unset] at_49 rfl rfl rfl ?_
      refine Go.iload 53 at_51 rfl rfl ?_
      refine Go.if_eq 63 56 at_53 (by decide) (by decide) rfl (fun c => absurd c (by decide)) (fun _ => ?_)
      refine Go.aload 58 at_56 rfl rfl rfl ?_
      refine Go.iload 60 at_58 rfl rfl ?_
      refine Go.callVV [.int (own_i fa)] [] 63 at_60 (tw18 hw) (tw19 hw) (tw21 hw) (tw20 hw) (tw2 hw) (tw22 hw) f288 pl4 (by decide) (lenOf pd4 rfl) rfl (fun m => ef_k_add m a269 (own_i fa)) _ (k_add (S := own_init) hw h281 zs298 a269 (own_i fa) f288 f289 f290 f291 f292 f293 (own_f16 fa fb fv trivial) ge275 ge295 ge297 ne294 ne296 ne287) 0 rfl (Nat.le_of_eq rfl) (by decide) (by decide) (by decide) (by decide) rfl ?_
      rintro h301 ⟨K302, f303, f304, f305, f306, f307, f308⟩
      have zs309 : Z.heap.size ≤ h301.size := Nat.le_trans zs298 K302.1
      refine Go.iload 65 at_63 rfl rfl ?_
      refine Go.if_eq 75 68 at_65 (by decide) (by decide) rfl (fun c => absurd c (by decide)) (fun _ => ?_)
      refine Go.aload 70 at_68 rfl rfl rfl ?_
      refine Go.iload 72 at_70 rfl rfl ?_
      refine Go.callVV [.int (own_i fb)] [] 75 at_72 (tw18 hw) (tw19 hw) (tw21 hw) (tw20 hw) (tw2 hw) (tw22 hw) f303 pl4 (by decide) (lenOf pd4 rfl) rfl (fun m => ef_k_add m a269 (own_i fb)) _ (k_add (S := (own_add own_init (own_i fa))) hw h301 zs309 a269 (own_i fb) f303 f304 f305 f306 f307 f308 (own_f27 fa fb fv trivial) ge275 ge295 ge297 ne294 ne296 ne287) 0 rfl (Nat.le_of_eq rfl) (by decide) (by decide) (by decide) (by decide) rfl ?_
      rintro h312 ⟨K313, f314, f315, f316, f317, f318, f319⟩
      have zs320 : Z.heap.size ≤ h312.size := Nat.le_trans zs309 K313.1
      refine Go.iconst 76 (0) at_75 (by decide) rfl ?_
      refine Go.istore 78 #[.val (.int i0), .val (.int i1), .val (.int i2), .val (.int i3), .val (.int (1 : Int32)), .val (.int (1 : Int32)), .val (.int (own_i fa)), .val (.int (own_i fb)), .val (.int (own_i fv)), .val (.ref a269), .val (.int (0 : Int32)), .unset, .unset, .unset, .unset] at_76 rfl rfl ?_
      refine Go.iconst 79 (-1) at_78 (by decide) rfl ?_
      refine Go.istore 81 #[.val (.int i0), .val (.int i1), .val (.int i2), .val (.int i3), .val (.int (1 : Int32)), .val (.int (1 : Int32)), .val (.int (own_i fa)), .val (.int (own_i fb)), .val (.int (own_i fv)), .val (.ref a269), .val (.int (0 : Int32)), .val (.int (-1 : Int32)), .unset, .unset, .unset] at_79 rfl rfl ?_
      refine Go.iconst 82 (-1) at_81 (by decide) rfl ?_
      refine Go.istore 84 #[.val (.int i0), .val (.int i1), .val (.int i2), .val (.int i3), .val (.int (1 : Int32)), .val (.int (1 : Int32)), .val (.int (own_i fa)), .val (.int (own_i fb)), .val (.int (own_i fv)), .val (.ref a269), .val (.int (0 : Int32)), .val (.int (-1 : Int32)), .val (.int (-1 : Int32)), .unset, .unset] at_82 rfl rfl ?_
      refine Go.iload 86 at_84 rfl rfl ?_
      refine Go.if_eq 96 89 at_86 (by decide) (by decide) rfl (fun c => absurd c (by decide)) (fun _ => ?_)
      refine Go.iload 91 at_89 rfl rfl ?_
      refine Go.istore 93 #[.val (.int i0), .val (.int i1), .val (.int i2), .val (.int i3), .val (.int (1 : Int32)), .val (.int (1 : Int32)), .val (.int (own_i fa)), .val (.int (own_i fb)), .val (.int (own_i fv)), .val (.ref a269), .val (.int (0 : Int32)), .val (.int (own_i fa)), .val (.int (-1 : Int32)), .unset, .unset] at_91 rfl rfl ?_
      refine Go.iconst 94 (1) at_93 (by decide) rfl ?_
      refine Go.istore 96 #[.val (.int i0), .val (.int i1), .val (.int i2), .val (.int i3), .val (.int (1 : Int32)), .val (.int (1 : Int32)), .val (.int (own_i fa)), .val (.int (own_i fb)), .val (.int (own_i fv)), .val (.ref a269), .val (.int (1 : Int32)), .val (.int (own_i fa)), .val (.int (-1 : Int32)), .unset, .unset] at_94 rfl rfl ?_
      refine Go.iload 98 at_96 rfl rfl ?_
      refine Go.if_eq 130 101 at_98 (by decide) (by decide) rfl (fun c => absurd c (by decide)) (fun _ => ?_)
      refine Go.iload 103 at_101 rfl rfl ?_
      refine Go.if_ne 116 106 at_103 (by decide) (by decide) rfl (fun _ => ?_) (fun c => absurd c (by decide))
      refine Go.iload 118 at_116 rfl rfl ?_
      refine Go.iload 120 at_118 rfl rfl ?_
      refine Go.icmp_eq 130 123 at_120 (by decide) (by decide) rfl (fun c324 => ?_) (fun c324 => ?_)
      ·
        refine Go.aload 132 at_130 rfl rfl rfl ?_
        refine Go.callVIp [] [] 135 at_132 (tw25 hw) (tw26 hw) (tw28 hw) (tw27 hw) (tw2 hw) (tw29 hw) f314 pl5 (by decide) (lenOf pd5 rfl) rfl (fun m => ef_k_size m a269) _ (k_size hw h312 zs320 a269 f317) 0 rfl (Nat.le_of_eq rfl) (by decide) (by decide) (by decide) (by decide) rfl ?_
        refine Go.iload 137 at_135 rfl rfl ?_
        refine Go.icmp_eq 142 140 at_137 (by decide) (by decide) rfl (fun c328 => ?_) (fun c328 => ?_)
        ·
          refine Go.aload 144 at_142 rfl rfl rfl ?_
          refine Go.iload 146 at_144 rfl rfl ?_
          refine Go.callVV [.int (own_i fv)] [] 149 at_146 (tw18 hw) (tw19 hw) (tw21 hw) (tw20 hw) (tw2 hw) (tw22 hw) f314 pl4 (by decide) (lenOf pd4 rfl) rfl (fun m => ef_k_add m a269 (own_i fv)) _ (k_add (S := (own_add (own_add own_init (own_i fa)) (own_i fb))) hw h312 zs320 a269 (own_i fv) f314 f315 f316 f317 f318 f319 (own_f28 fa fb fv trivial) ge275 ge295 ge297 ne294 ne296 ne287) 0 rfl (Nat.le_of_eq rfl) (by decide) (by decide) (by decide) (by decide) rfl ?_
          rintro h330 ⟨K331, f332, f333, f334, f335, f336, f337⟩
          have zs338 : Z.heap.size ≤ h330.size := Nat.le_trans zs320 K331.1
          refine Go.iload 151 at_149 rfl rfl ?_
          refine Go.iconst 152 (1) at_151 (by decide) rfl ?_
          refine Go.icmp_lt 162 155 at_152 (by decide) (by decide) rfl (fun c => absurd c (by decide)) (fun _ => ?_)
          refine Go.iload 157 at_155 rfl rfl ?_
          refine Go.iload 159 at_157 rfl rfl ?_
          refine Go.icmp_eq 175 162 at_159 (by decide) (by decide) rfl (fun c340 => ?_) (fun c340 => ?_)
          ·
            refine Go.iconst 176 (1) at_175 (by decide) rfl ?_
            refine Go.goto 180 at_176 (by decide) (by decide) ?_
            refine Go.istore 182 #[.val (.int i0), .val (.int i1), .val (.int i2), .val (.int i3), .val (.int (1 : Int32)), .val (.int (1 : Int32)), .val (.int (own_i fa)), .val (.int (own_i fb)), .val (.int (own_i fv)), .val (.ref a269), .val (.int (1 : Int32)), .val (.int (own_i fa)), .val (.int (-1 : Int32)), .val (.int (1 : Int32)), .unset] at_180 rfl rfl ?_
            refine Go.iload 184 at_182 rfl rfl ?_
            refine Go.if_eq 192 187 at_184 (by decide) (by decide) rfl (fun c => absurd c (by decide)) (fun _ => ?_)
            refine Go.iload 189 at_187 rfl rfl ?_
            refine Go.goto 196 at_189 (by decide) (by decide) ?_
            refine Go.istore 198 #[.val (.int i0), .val (.int i1), .val (.int i2), .val (.int i3), .val (.int (1 : Int32)), .val (.int (1 : Int32)), .val (.int (own_i fa)), .val (.int (own_i fb)), .val (.int (own_i fv)), .val (.ref a269), .val (.int (1 : Int32)), .val (.int (own_i fa)), .val (.int (-1 : Int32)), .val (.int (1 : Int32)), .val (.int (1 : Int32))] at_196 rfl rfl ?_
            refine Go.aload 200 at_198 rfl rfl rfl ?_
            refine Go.callVIp [] [] 203 at_200 (tw25 hw) (tw26 hw) (tw28 hw) (tw27 hw) (tw2 hw) (tw29 hw) f332 pl5 (by decide) (lenOf pd5 rfl) rfl (fun m => ef_k_size m a269) _ (k_size hw h330 zs338 a269 f335) 0 rfl (Nat.le_of_eq rfl) (by decide) (by decide) (by decide) (by decide) rfl ?_
            refine Go.iload 205 at_203 rfl rfl ?_
            refine Go.icmp_eq 210 208 at_205 (by decide) (by decide) rfl (fun c345 => ?_) (fun c345 => ?_)
            ·
              refine Go.iload 212 at_210 rfl rfl ?_
              refine Go.iconst 213 (1) at_212 (by decide) rfl ?_
              refine Go.icmp_lt 229 216 at_213 (by decide) (by decide) rfl (fun c => absurd c (by decide)) (fun _ => ?_)
              refine Go.aload 218 at_216 rfl rfl rfl ?_
              refine Go.iconst 219 (0) at_218 (by decide) rfl ?_
              refine Go.callVIp [.int (0 : Int32)] [] 222 at_219 (tw30 hw) (tw31 hw) (tw33 hw) (tw32 hw) (tw2 hw) (tw34 hw) f332 pl6 (by decide) (lenOf pd6 rfl) rfl (fun m => ef_k_get m a269 (0 : Int32)) _ (k_get (S := (own_add (own_add (own_add own_init (own_i fa)) (own_i fb)) (own_i fv))) hw h330 zs338 a269 (0 : Int32) f333 f335 f336 (own_f29 fa fb fv ⟨c324, c328, c340, c345, trivial⟩)) 0 rfl (Nat.le_of_eq rfl) (by decide) (by decide) (by decide) (by decide) rfl ?_
              refine Go.iload 224 at_222 rfl rfl ?_
              refine Go.icmp_eq 229 227 at_224 (by decide) (by decide) rfl (fun c350 => ?_) (fun c350 => ?_)
              ·
                refine Go.iload 231 at_229 rfl rfl ?_
                refine Go.iconst 232 (2) at_231 (by decide) rfl ?_
                refine Go.icmp_lt 248 235 at_232 (by decide) (by decide) rfl (fun _ => ?_) (fun c => absurd c (by decide))
                refine Go.iload 250 at_248 rfl rfl ?_
                refine Go.if_ne 267 253 at_250 (by decide) (by decide) rfl (fun _ => ?_) (fun c => absurd c (by decide))
                refine Go.iconst 268 (1) at_267 (by decide) rfl ?_
                refine Go.nreturn (t := .boolean) (z' := (1 : Int32)) at_268 rfl (by simp) (by decide) (by decide) (by decide) ?_
                rfl
              ·
                refine Go.iconst 228 (0) at_227 (by decide) rfl ?_
                refine Go.nreturn (t := .boolean) (z' := (0 : Int32)) at_228 rfl (by simp) (by decide) (by decide) (by decide) ?_
                exact ((own_f30 fa fb fv ⟨c324, c328, c340, c345, c350, trivial⟩)).elim
            ·
              refine Go.iconst 209 (0) at_208 (by decide) rfl ?_
              refine Go.nreturn (t := .boolean) (z' := (0 : Int32)) at_209 rfl (by simp) (by decide) (by decide) (by decide) ?_
              exact ((own_f31 fa fb fv ⟨c324, c328, c340, c345, trivial⟩)).elim
          ·
            refine Go.iload 164 at_162 rfl rfl ?_
            refine Go.iconst 165 (2) at_164 (by decide) rfl ?_
            refine Go.icmp_lt 179 168 at_165 (by decide) (by decide) rfl (fun _ => ?_) (fun c => absurd c (by decide))
            refine Go.iconst 180 (0) at_179 (by decide) rfl ?_
            refine Go.istore 182 #[.val (.int i0), .val (.int i1), .val (.int i2), .val (.int i3), .val (.int (1 : Int32)), .val (.int (1 : Int32)), .val (.int (own_i fa)), .val (.int (own_i fb)), .val (.int (own_i fv)), .val (.ref a269), .val (.int (1 : Int32)), .val (.int (own_i fa)), .val (.int (-1 : Int32)), .val (.int (0 : Int32)), .unset] at_180 rfl rfl ?_
            refine Go.iload 184 at_182 rfl rfl ?_
            refine Go.if_eq 192 187 at_184 (by decide) (by decide) rfl (fun _ => ?_) (fun c => absurd c (by decide))
            refine Go.iload 194 at_192 rfl rfl ?_
            refine Go.iconst 195 (1) at_194 (by decide) rfl ?_
            refine Go.iadd 196 at_195 rfl ?_
            refine Go.istore 198 #[.val (.int i0), .val (.int i1), .val (.int i2), .val (.int i3), .val (.int (1 : Int32)), .val (.int (1 : Int32)), .val (.int (own_i fa)), .val (.int (own_i fb)), .val (.int (own_i fv)), .val (.ref a269), .val (.int (1 : Int32)), .val (.int (own_i fa)), .val (.int (-1 : Int32)), .val (.int (0 : Int32)), .val (.int ((1 : Int32) + (1 : Int32)))] at_196 rfl rfl ?_
            refine Go.aload 200 at_198 rfl rfl rfl ?_
            refine Go.callVIp [] [] 203 at_200 (tw25 hw) (tw26 hw) (tw28 hw) (tw27 hw) (tw2 hw) (tw29 hw) f332 pl5 (by decide) (lenOf pd5 rfl) rfl (fun m => ef_k_size m a269) _ (k_size hw h330 zs338 a269 f335) 0 rfl (Nat.le_of_eq rfl) (by decide) (by decide) (by decide) (by decide) rfl ?_
            refine Go.iload 205 at_203 rfl rfl ?_
            refine Go.icmp_eq 210 208 at_205 (by decide) (by decide) rfl (fun c358 => ?_) (fun c358 => ?_)
            ·
              refine Go.iload 212 at_210 rfl rfl ?_
              refine Go.iconst 213 (1) at_212 (by decide) rfl ?_
              refine Go.icmp_lt 229 216 at_213 (by decide) (by decide) rfl (fun c => absurd c (by decide)) (fun _ => ?_)
              refine Go.aload 218 at_216 rfl rfl rfl ?_
              refine Go.iconst 219 (0) at_218 (by decide) rfl ?_
              refine Go.callVIp [.int (0 : Int32)] [] 222 at_219 (tw30 hw) (tw31 hw) (tw33 hw) (tw32 hw) (tw2 hw) (tw34 hw) f332 pl6 (by decide) (lenOf pd6 rfl) rfl (fun m => ef_k_get m a269 (0 : Int32)) _ (k_get (S := (own_add (own_add (own_add own_init (own_i fa)) (own_i fb)) (own_i fv))) hw h330 zs338 a269 (0 : Int32) f333 f335 f336 (own_f32 fa fb fv ⟨c324, c328, c340, c358, trivial⟩)) 0 rfl (Nat.le_of_eq rfl) (by decide) (by decide) (by decide) (by decide) rfl ?_
              refine Go.iload 224 at_222 rfl rfl ?_
              refine Go.icmp_eq 229 227 at_224 (by decide) (by decide) rfl (fun c363 => ?_) (fun c363 => ?_)
              ·
                refine Go.iload 231 at_229 rfl rfl ?_
                refine Go.iconst 232 (2) at_231 (by decide) rfl ?_
                refine Go.icmp_lt 248 235 at_232 (by decide) (by decide) rfl (fun _ => ?_) (fun c => absurd c (by decide))
                refine Go.iload 250 at_248 rfl rfl ?_
                refine Go.if_ne 267 253 at_250 (by decide) (by decide) rfl (fun c => absurd c (by decide)) (fun _ => ?_)
                refine Go.aload 255 at_253 rfl rfl rfl ?_
                refine Go.iload 257 at_255 rfl rfl ?_
                refine Go.callVIp [.int (1 : Int32)] [] 260 at_257 (tw30 hw) (tw31 hw) (tw33 hw) (tw32 hw) (tw2 hw) (tw34 hw) f332 pl6 (by decide) (lenOf pd6 rfl) rfl (fun m => ef_k_get m a269 (1 : Int32)) _ (k_get (S := (own_add (own_add (own_add own_init (own_i fa)) (own_i fb)) (own_i fv))) hw h330 zs338 a269 (1 : Int32) f333 f335 f336 (own_f33 fa fb fv ⟨c324, c328, c340, c358, c363, trivial⟩)) 0 rfl (Nat.le_of_eq rfl) (by decide) (by decide) (by decide) (by decide) rfl ?_
                refine Go.iload 262 at_260 rfl rfl ?_
                refine Go.icmp_eq 267 265 at_262 (by decide) (by decide) rfl (fun c369 => ?_) (fun c369 => ?_)
                ·
                  refine Go.iconst 268 (1) at_267 (by decide) rfl ?_
                  refine Go.nreturn (t := .boolean) (z' := (1 : Int32)) at_268 rfl (by simp) (by decide) (by decide) (by decide) ?_
                  rfl
                ·
                  refine Go.iconst 266 (0) at_265 (by decide) rfl ?_
                  refine Go.nreturn (t := .boolean) (z' := (0 : Int32)) at_266 rfl (by simp) (by decide) (by decide) (by decide) ?_
                  exact ((own_f34 fa fb fv ⟨c324, c328, c340, c358, c363, c369, trivial⟩)).elim
              ·
                refine Go.iconst 228 (0) at_227 (by decide) rfl ?_
                refine Go.nreturn (t := .boolean) (z' := (0 : Int32)) at_228 rfl (by simp) (by decide) (by decide) (by decide) ?_
                exact ((own_f35 fa fb fv ⟨c324, c328, c340, c358, c363, trivial⟩)).elim
            ·
              refine Go.iconst 209 (0) at_208 (by decide) rfl ?_
              refine Go.nreturn (t := .boolean) (z' := (0 : Int32)) at_209 rfl (by simp) (by decide) (by decide) (by decide) ?_
              exact ((own_f36 fa fb fv ⟨c324, c328, c340, c358, trivial⟩)).elim
        ·
          refine Go.iconst 141 (0) at_140 (by decide) rfl ?_
          refine Go.nreturn (t := .boolean) (z' := (0 : Int32)) at_141 rfl (by simp) (by decide) (by decide) (by decide) ?_
          exact ((own_f37 fa fb fv ⟨c324, c328, trivial⟩)).elim
      ·
        refine Go.iload 125 at_123 rfl rfl ?_
        refine Go.istore 127 #[.val (.int i0), .val (.int i1), .val (.int i2), .val (.int i3), .val (.int (1 : Int32)), .val (.int (1 : Int32)), .val (.int (own_i fa)), .val (.int (own_i fb)), .val (.int (own_i fv)), .val (.ref a269), .val (.int (1 : Int32)), .val (.int (own_i fa)), .val (.int (own_i fb)), .unset, .unset] at_125 rfl rfl ?_
        refine Go.iconst 128 (2) at_127 (by decide) rfl ?_
        refine Go.istore 130 #[.val (.int i0), .val (.int i1), .val (.int i2), .val (.int i3), .val (.int (1 : Int32)), .val (.int (1 : Int32)), .val (.int (own_i fa)), .val (.int (own_i fb)), .val (.int (own_i fv)), .val (.ref a269), .val (.int (2 : Int32)), .val (.int (own_i fa)), .val (.int (own_i fb)), .unset, .unset] at_128 rfl rfl ?_
        refine Go.aload 132 at_130 rfl rfl rfl ?_
        refine Go.callVIp [] [] 135 at_132 (tw25 hw) (tw26 hw) (tw28 hw) (tw27 hw) (tw2 hw) (tw29 hw) f314 pl5 (by decide) (lenOf pd5 rfl) rfl (fun m => ef_k_size m a269) _ (k_size hw h312 zs320 a269 f317) 0 rfl (Nat.le_of_eq rfl) (by decide) (by decide) (by decide) (by decide) rfl ?_
        refine Go.iload 137 at_135 rfl rfl ?_
        refine Go.icmp_eq 142 140 at_137 (by decide) (by decide) rfl (fun c373 => ?_) (fun c373 => ?_)
        ·
          refine Go.aload 144 at_142 rfl rfl rfl ?_
          refine Go.iload 146 at_144 rfl rfl ?_
          refine Go.callVV [.int (own_i fv)] [] 149 at_146 (tw18 hw) (tw19 hw) (tw21 hw) (tw20 hw) (tw2 hw) (tw22 hw) f314 pl4 (by decide) (lenOf pd4 rfl) rfl (fun m => ef_k_add m a269 (own_i fv)) _ (k_add (S := (own_add (own_add own_init (own_i fa)) (own_i fb))) hw h312 zs320 a269 (own_i fv) f314 f315 f316 f317 f318 f319 (own_f28 fa fb fv trivial) ge275 ge295 ge297 ne294 ne296 ne287) 0 rfl (Nat.le_of_eq rfl) (by decide) (by decide) (by decide) (by decide) rfl ?_
          rintro h375 ⟨K376, f377, f378, f379, f380, f381, f382⟩
          have zs383 : Z.heap.size ≤ h375.size := Nat.le_trans zs320 K376.1
          refine Go.iload 151 at_149 rfl rfl ?_
          refine Go.iconst 152 (1) at_151 (by decide) rfl ?_
          refine Go.icmp_lt 162 155 at_152 (by decide) (by decide) rfl (fun c => absurd c (by decide)) (fun _ => ?_)
          refine Go.iload 157 at_155 rfl rfl ?_
          refine Go.iload 159 at_157 rfl rfl ?_
          refine Go.icmp_eq 175 162 at_159 (by decide) (by decide) rfl (fun c385 => ?_) (fun c385 => ?_)
          ·
            refine Go.iconst 176 (1) at_175 (by decide) rfl ?_
            refine Go.goto 180 at_176 (by decide) (by decide) ?_
            refine Go.istore 182 #[.val (.int i0), .val (.int i1), .val (.int i2), .val (.int i3), .val (.int (1 : Int32)), .val (.int (1 : Int32)), .val (.int (own_i fa)), .val (.int (own_i fb)), .val (.int (own_i fv)), .val (.ref a269), .val (.int (2 : Int32)), .val (.int (own_i fa)), .val (.int (own_i fb)), .val (.int (1 : Int32)), .unset] at_180 rfl rfl ?_
            refine Go.iload 184 at_182 rfl rfl ?_
            refine Go.if_eq 192 187 at_184 (by decide) (by decide) rfl (fun c => absurd c (by decide)) (fun _ => ?_)
            refine Go.iload 189 at_187 rfl rfl ?_
            refine Go.goto 196 at_189 (by decide) (by decide) ?_
            refine Go.istore 198 #[.val (.int i0), .val (.int i1), .val (.int i2), .val (.int i3), .val (.int (1 : Int32)), .val (.int (1 : Int32)), .val (.int (own_i fa)), .val (.int (own_i fb)), .val (.int (own_i fv)), .val (.ref a269), .val (.int (2 : Int32)), .val (.int (own_i fa)), .val (.int (own_i fb)), .val (.int (1 : Int32)), .val (.int (2 : Int32))] at_196 rfl rfl ?_
            refine Go.aload 200 at_198 rfl rfl rfl ?_
            refine Go.callVIp [] [] 203 at_200 (tw25 hw) (tw26 hw) (tw28 hw) (tw27 hw) (tw2 hw) (tw29 hw) f377 pl5 (by decide) (lenOf pd5 rfl) rfl (fun m => ef_k_size m a269) _ (k_size hw h375 zs383 a269 f380) 0 rfl (Nat.le_of_eq rfl) (by decide) (by decide) (by decide) (by decide) rfl ?_
            refine Go.iload 205 at_203 rfl rfl ?_
            refine Go.icmp_eq 210 208 at_205 (by decide) (by decide) rfl (fun c390 => ?_) (fun c390 => ?_)
            ·
              refine Go.iload 212 at_210 rfl rfl ?_
              refine Go.iconst 213 (1) at_212 (by decide) rfl ?_
              refine Go.icmp_lt 229 216 at_213 (by decide) (by decide) rfl (fun c => absurd c (by decide)) (fun _ => ?_)
              refine Go.aload 218 at_216 rfl rfl rfl ?_
              refine Go.iconst 219 (0) at_218 (by decide) rfl ?_
              refine Go.callVIp [.int (0 : Int32)] [] 222 at_219 (tw30 hw) (tw31 hw) (tw33 hw) (tw32 hw) (tw2 hw) (tw34 hw) f377 pl6 (by decide) (lenOf pd6 rfl) rfl (fun m => ef_k_get m a269 (0 : Int32)) _ (k_get (S := (own_add (own_add (own_add own_init (own_i fa)) (own_i fb)) (own_i fv))) hw h375 zs383 a269 (0 : Int32) f378 f380 f381 (own_f38 fa fb fv ⟨c324, c373, c385, c390, trivial⟩)) 0 rfl (Nat.le_of_eq rfl) (by decide) (by decide) (by decide) (by decide) rfl ?_
              refine Go.iload 224 at_222 rfl rfl ?_
              refine Go.icmp_eq 229 227 at_224 (by decide) (by decide) rfl (fun c395 => ?_) (fun c395 => ?_)
              ·
                refine Go.iload 231 at_229 rfl rfl ?_
                refine Go.iconst 232 (2) at_231 (by decide) rfl ?_
                refine Go.icmp_lt 248 235 at_232 (by decide) (by decide) rfl (fun c => absurd c (by decide)) (fun _ => ?_)
                refine Go.aload 237 at_235 rfl rfl rfl ?_
                refine Go.iconst 238 (1) at_237 (by decide) rfl ?_
                refine Go.callVIp [.int (1 : Int32)] [] 241 at_238 (tw30 hw) (tw31 hw) (tw33 hw) (tw32 hw) (tw2 hw) (tw34 hw) f377 pl6 (by decide) (lenOf pd6 rfl) rfl (fun m => ef_k_get m a269 (1 : Int32)) _ (k_get (S := (own_add (own_add (own_add own_init (own_i fa)) (own_i fb)) (own_i fv))) hw h375 zs383 a269 (1 : Int32) f378 f380 f381 (own_f39 fa fb fv ⟨c324, c373, c385, c390, c395, trivial⟩)) 0 rfl (Nat.le_of_eq rfl) (by decide) (by decide) (by decide) (by decide) rfl ?_
                refine Go.iload 243 at_241 rfl rfl ?_
                refine Go.icmp_eq 248 246 at_243 (by decide) (by decide) rfl (fun c400 => ?_) (fun c400 => ?_)
                ·
                  refine Go.iload 250 at_248 rfl rfl ?_
                  refine Go.if_ne 267 253 at_250 (by decide) (by decide) rfl (fun _ => ?_) (fun c => absurd c (by decide))
                  refine Go.iconst 268 (1) at_267 (by decide) rfl ?_
                  refine Go.nreturn (t := .boolean) (z' := (1 : Int32)) at_268 rfl (by simp) (by decide) (by decide) (by decide) ?_
                  rfl
                ·
                  refine Go.iconst 247 (0) at_246 (by decide) rfl ?_
                  refine Go.nreturn (t := .boolean) (z' := (0 : Int32)) at_247 rfl (by simp) (by decide) (by decide) (by decide) ?_
                  exact ((own_f40 fa fb fv ⟨c324, c373, c385, c390, c395, c400, trivial⟩)).elim
              ·
                refine Go.iconst 228 (0) at_227 (by decide) rfl ?_
                refine Go.nreturn (t := .boolean) (z' := (0 : Int32)) at_228 rfl (by simp) (by decide) (by decide) (by decide) ?_
                exact ((own_f41 fa fb fv ⟨c324, c373, c385, c390, c395, trivial⟩)).elim
            ·
              refine Go.iconst 209 (0) at_208 (by decide) rfl ?_
              refine Go.nreturn (t := .boolean) (z' := (0 : Int32)) at_209 rfl (by simp) (by decide) (by decide) (by decide) ?_
              exact ((own_f42 fa fb fv ⟨c324, c373, c385, c390, trivial⟩)).elim
          ·
            refine Go.iload 164 at_162 rfl rfl ?_
            refine Go.iconst 165 (2) at_164 (by decide) rfl ?_
            refine Go.icmp_lt 179 168 at_165 (by decide) (by decide) rfl (fun c => absurd c (by decide)) (fun _ => ?_)
            refine Go.iload 170 at_168 rfl rfl ?_
            refine Go.iload 172 at_170 rfl rfl ?_
            refine Go.icmp_ne 179 175 at_172 (by decide) (by decide) rfl (fun c403 => ?_) (fun c403 => ?_)
            ·
              refine Go.iconst 180 (0) at_179 (by decide) rfl ?_
              refine Go.istore 182 #[.val (.int i0), .val (.int i1), .val (.int i2), .val (.int i3), .val (.int (1 : Int32)), .val (.int (1 : Int32)), .val (.int (own_i fa)), .val (.int (own_i fb)), .val (.int (own_i fv)), .val (.ref a269), .val (.int (2 : Int32)), .val (.int (own_i fa)), .val (.int (own_i fb)), .val (.int (0 : Int32)), .unset] at_180 rfl rfl ?_
              refine Go.iload 184 at_182 rfl rfl ?_
              refine Go.if_eq 192 187 at_184 (by decide) (by decide) rfl (fun _ => ?_) (fun c => absurd c (by decide))
              refine Go.iload 194 at_192 rfl rfl ?_
              refine Go.iconst 195 (1) at_194 (by decide) rfl ?_
              refine Go.iadd 196 at_195 rfl ?_
              refine Go.istore 198 #[.val (.int i0), .val (.int i1), .val (.int i2), .val (.int i3), .val (.int (1 : Int32)), .val (.int (1 : Int32)), .val (.int (own_i fa)), .val (.int (own_i fb)), .val (.int (own_i fv)), .val (.ref a269), .val (.int (2 : Int32)), .val (.int (own_i fa)), .val (.int (own_i fb)), .val (.int (0 : Int32)), .val (.int ((2 : Int32) + (1 : Int32)))] at_196 rfl rfl ?_
              refine Go.aload 200 at_198 rfl rfl rfl ?_
              refine Go.callVIp [] [] 203 at_200 (tw25 hw) (tw26 hw) (tw28 hw) (tw27 hw) (tw2 hw) (tw29 hw) f377 pl5 (by decide) (lenOf pd5 rfl) rfl (fun m => ef_k_size m a269) _ (k_size hw h375 zs383 a269 f380) 0 rfl (Nat.le_of_eq rfl) (by decide) (by decide) (by decide) (by decide) rfl ?_
              refine Go.iload 205 at_203 rfl rfl ?_
              refine Go.icmp_eq 210 208 at_205 (by decide) (by decide) rfl (fun c408 => ?_) (fun c408 => ?_)
              ·
                refine Go.iload 212 at_210 rfl rfl ?_
                refine Go.iconst 213 (1) at_212 (by decide) rfl ?_
                refine Go.icmp_lt 229 216 at_213 (by decide) (by decide) rfl (fun c => absurd c (by decide)) (fun _ => ?_)
                refine Go.aload 218 at_216 rfl rfl rfl ?_
                refine Go.iconst 219 (0) at_218 (by decide) rfl ?_
                refine Go.callVIp [.int (0 : Int32)] [] 222 at_219 (tw30 hw) (tw31 hw) (tw33 hw) (tw32 hw) (tw2 hw) (tw34 hw) f377 pl6 (by decide) (lenOf pd6 rfl) rfl (fun m => ef_k_get m a269 (0 : Int32)) _ (k_get (S := (own_add (own_add (own_add own_init (own_i fa)) (own_i fb)) (own_i fv))) hw h375 zs383 a269 (0 : Int32) f378 f380 f381 (own_f43 fa fb fv ⟨c324, c373, c385, c403, c408, trivial⟩)) 0 rfl (Nat.le_of_eq rfl) (by decide) (by decide) (by decide) (by decide) rfl ?_
                refine Go.iload 224 at_222 rfl rfl ?_
                refine Go.icmp_eq 229 227 at_224 (by decide) (by decide) rfl (fun c413 => ?_) (fun c413 => ?_)
                ·
                  refine Go.iload 231 at_229 rfl rfl ?_
                  refine Go.iconst 232 (2) at_231 (by decide) rfl ?_
                  refine Go.icmp_lt 248 235 at_232 (by decide) (by decide) rfl (fun c => absurd c (by decide)) (fun _ => ?_)
                  refine Go.aload 237 at_235 rfl rfl rfl ?_
                  refine Go.iconst 238 (1) at_237 (by decide) rfl ?_
                  refine Go.callVIp [.int (1 : Int32)] [] 241 at_238 (tw30 hw) (tw31 hw) (tw33 hw) (tw32 hw) (tw2 hw) (tw34 hw) f377 pl6 (by decide) (lenOf pd6 rfl) rfl (fun m => ef_k_get m a269 (1 : Int32)) _ (k_get (S := (own_add (own_add (own_add own_init (own_i fa)) (own_i fb)) (own_i fv))) hw h375 zs383 a269 (1 : Int32) f378 f380 f381 (own_f44 fa fb fv ⟨c324, c373, c385, c403, c408, c413, trivial⟩)) 0 rfl (Nat.le_of_eq rfl) (by decide) (by decide) (by decide) (by decide) rfl ?_
                  refine Go.iload 243 at_241 rfl rfl ?_
                  refine Go.icmp_eq 248 246 at_243 (by decide) (by decide) rfl (fun c418 => ?_) (fun c418 => ?_)
                  ·
                    refine Go.iload 250 at_248 rfl rfl ?_
                    refine Go.if_ne 267 253 at_250 (by decide) (by decide) rfl (fun c => absurd c (by decide)) (fun _ => ?_)
                    refine Go.aload 255 at_253 rfl rfl rfl ?_
                    refine Go.iload 257 at_255 rfl rfl ?_
                    refine Go.callVIp [.int (2 : Int32)] [] 260 at_257 (tw30 hw) (tw31 hw) (tw33 hw) (tw32 hw) (tw2 hw) (tw34 hw) f377 pl6 (by decide) (lenOf pd6 rfl) rfl (fun m => ef_k_get m a269 (2 : Int32)) _ (k_get (S := (own_add (own_add (own_add own_init (own_i fa)) (own_i fb)) (own_i fv))) hw h375 zs383 a269 (2 : Int32) f378 f380 f381 (own_f45 fa fb fv ⟨c324, c373, c385, c403, c408, c413, c418, trivial⟩)) 0 rfl (Nat.le_of_eq rfl) (by decide) (by decide) (by decide) (by decide) rfl ?_
                    refine Go.iload 262 at_260 rfl rfl ?_
                    refine Go.icmp_eq 267 265 at_262 (by decide) (by decide) rfl (fun c423 => ?_) (fun c423 => ?_)
                    ·
                      refine Go.iconst 268 (1) at_267 (by decide) rfl ?_
                      refine Go.nreturn (t := .boolean) (z' := (1 : Int32)) at_268 rfl (by simp) (by decide) (by decide) (by decide) ?_
                      rfl
                    ·
                      refine Go.iconst 266 (0) at_265 (by decide) rfl ?_
                      refine Go.nreturn (t := .boolean) (z' := (0 : Int32)) at_266 rfl (by simp) (by decide) (by decide) (by decide) ?_
                      exact ((own_f46 fa fb fv ⟨c324, c373, c385, c403, c408, c413, c418, c423, trivial⟩)).elim
                  ·
                    refine Go.iconst 247 (0) at_246 (by decide) rfl ?_
                    refine Go.nreturn (t := .boolean) (z' := (0 : Int32)) at_247 rfl (by simp) (by decide) (by decide) (by decide) ?_
                    exact ((own_f47 fa fb fv ⟨c324, c373, c385, c403, c408, c413, c418, trivial⟩)).elim
                ·
                  refine Go.iconst 228 (0) at_227 (by decide) rfl ?_
                  refine Go.nreturn (t := .boolean) (z' := (0 : Int32)) at_228 rfl (by simp) (by decide) (by decide) (by decide) ?_
                  exact ((own_f48 fa fb fv ⟨c324, c373, c385, c403, c408, c413, trivial⟩)).elim
              ·
                refine Go.iconst 209 (0) at_208 (by decide) rfl ?_
                refine Go.nreturn (t := .boolean) (z' := (0 : Int32)) at_209 rfl (by simp) (by decide) (by decide) (by decide) ?_
                exact ((own_f49 fa fb fv ⟨c324, c373, c385, c403, c408, trivial⟩)).elim
            ·
              refine Go.iconst 176 (1) at_175 (by decide) rfl ?_
              refine Go.goto 180 at_176 (by decide) (by decide) ?_
              refine Go.istore 182 #[.val (.int i0), .val (.int i1), .val (.int i2), .val (.int i3), .val (.int (1 : Int32)), .val (.int (1 : Int32)), .val (.int (own_i fa)), .val (.int (own_i fb)), .val (.int (own_i fv)), .val (.ref a269), .val (.int (2 : Int32)), .val (.int (own_i fa)), .val (.int (own_i fb)), .val (.int (1 : Int32)), .unset] at_180 rfl rfl ?_
              refine Go.iload 184 at_182 rfl rfl ?_
              refine Go.if_eq 192 187 at_184 (by decide) (by decide) rfl (fun c => absurd c (by decide)) (fun _ => ?_)
              refine Go.iload 189 at_187 rfl rfl ?_
              refine Go.goto 196 at_189 (by decide) (by decide) ?_
              refine Go.istore 198 #[.val (.int i0), .val (.int i1), .val (.int i2), .val (.int i3), .val (.int (1 : Int32)), .val (.int (1 : Int32)), .val (.int (own_i fa)), .val (.int (own_i fb)), .val (.int (own_i fv)), .val (.ref a269), .val (.int (2 : Int32)), .val (.int (own_i fa)), .val (.int (own_i fb)), .val (.int (1 : Int32)), .val (.int (2 : Int32))] at_196 rfl rfl ?_
              refine Go.aload 200 at_198 rfl rfl rfl ?_
              refine Go.callVIp [] [] 203 at_200 (tw25 hw) (tw26 hw) (tw28 hw) (tw27 hw) (tw2 hw) (tw29 hw) f377 pl5 (by decide) (lenOf pd5 rfl) rfl (fun m => ef_k_size m a269) _ (k_size hw h375 zs383 a269 f380) 0 rfl (Nat.le_of_eq rfl) (by decide) (by decide) (by decide) (by decide) rfl ?_
              refine Go.iload 205 at_203 rfl rfl ?_
              refine Go.icmp_eq 210 208 at_205 (by decide) (by decide) rfl (fun c428 => ?_) (fun c428 => ?_)
              ·
                refine Go.iload 212 at_210 rfl rfl ?_
                refine Go.iconst 213 (1) at_212 (by decide) rfl ?_
                refine Go.icmp_lt 229 216 at_213 (by decide) (by decide) rfl (fun c => absurd c (by decide)) (fun _ => ?_)
                refine Go.aload 218 at_216 rfl rfl rfl ?_
                refine Go.iconst 219 (0) at_218 (by decide) rfl ?_
                refine Go.callVIp [.int (0 : Int32)] [] 222 at_219 (tw30 hw) (tw31 hw) (tw33 hw) (tw32 hw) (tw2 hw) (tw34 hw) f377 pl6 (by decide) (lenOf pd6 rfl) rfl (fun m => ef_k_get m a269 (0 : Int32)) _ (k_get (S := (own_add (own_add (own_add own_init (own_i fa)) (own_i fb)) (own_i fv))) hw h375 zs383 a269 (0 : Int32) f378 f380 f381 (own_f50 fa fb fv ⟨c324, c373, c385, c403, c428, trivial⟩)) 0 rfl (Nat.le_of_eq rfl) (by decide) (by decide) (by decide) (by decide) rfl ?_
                refine Go.iload 224 at_222 rfl rfl ?_
                refine Go.icmp_eq 229 227 at_224 (by decide) (by decide) rfl (fun c433 => ?_) (fun c433 => ?_)
                ·
                  refine Go.iload 231 at_229 rfl rfl ?_
                  refine Go.iconst 232 (2) at_231 (by decide) rfl ?_
                  refine Go.icmp_lt 248 235 at_232 (by decide) (by decide) rfl (fun c => absurd c (by decide)) (fun _ => ?_)
                  refine Go.aload 237 at_235 rfl rfl rfl ?_
                  refine Go.iconst 238 (1) at_237 (by decide) rfl ?_
                  refine Go.callVIp [.int (1 : Int32)] [] 241 at_238 (tw30 hw) (tw31 hw) (tw33 hw) (tw32 hw) (tw2 hw) (tw34 hw) f377 pl6 (by decide) (lenOf pd6 rfl) rfl (fun m => ef_k_get m a269 (1 : Int32)) _ (k_get (S := (own_add (own_add (own_add own_init (own_i fa)) (own_i fb)) (own_i fv))) hw h375 zs383 a269 (1 : Int32) f378 f380 f381 (own_f51 fa fb fv ⟨c324, c373, c385, c403, c428, c433, trivial⟩)) 0 rfl (Nat.le_of_eq rfl) (by decide) (by decide) (by decide) (by decide) rfl ?_
                  refine Go.iload 243 at_241 rfl rfl ?_
                  refine Go.icmp_eq 248 246 at_243 (by decide) (by decide) rfl (fun c438 => ?_) (fun c438 => ?_)
                  ·
                    refine Go.iload 250 at_248 rfl rfl ?_
                    refine Go.if_ne 267 253 at_250 (by decide) (by decide) rfl (fun _ => ?_) (fun c => absurd c (by decide))
                    refine Go.iconst 268 (1) at_267 (by decide) rfl ?_
                    refine Go.nreturn (t := .boolean) (z' := (1 : Int32)) at_268 rfl (by simp) (by decide) (by decide) (by decide) ?_
                    rfl
                  ·
                    refine Go.iconst 247 (0) at_246 (by decide) rfl ?_
                    refine Go.nreturn (t := .boolean) (z' := (0 : Int32)) at_247 rfl (by simp) (by decide) (by decide) (by decide) ?_
                    exact ((own_f52 fa fb fv ⟨c324, c373, c385, c403, c428, c433, c438, trivial⟩)).elim
                ·
                  refine Go.iconst 228 (0) at_227 (by decide) rfl ?_
                  refine Go.nreturn (t := .boolean) (z' := (0 : Int32)) at_228 rfl (by simp) (by decide) (by decide) (by decide) ?_
                  exact ((own_f53 fa fb fv ⟨c324, c373, c385, c403, c428, c433, trivial⟩)).elim
              ·
                refine Go.iconst 209 (0) at_208 (by decide) rfl ?_
                refine Go.nreturn (t := .boolean) (z' := (0 : Int32)) at_209 rfl (by simp) (by decide) (by decide) (by decide) ?_
                exact ((own_f54 fa fb fv ⟨c324, c373, c385, c403, c428, trivial⟩)).elim
        ·
          refine Go.iconst 141 (0) at_140 (by decide) rfl ?_
          refine Go.nreturn (t := .boolean) (z' := (0 : Int32)) at_141 rfl (by simp) (by decide) (by decide) (by decide) ?_
          exact ((own_f55 fa fb fv ⟨c324, c373, trivial⟩)).elim
set_option maxRecDepth 65536 in
set_option maxHeartbeats 40000000 in
theorem comes_1 {Post : Tables → Env → Array Value → State → Outcome → State → Prop} (hpost : ∀ tb e args s v u, (limb_1_1.after args s (.returned v) u = true ∧ limb_1_2.after args s (.returned v) u = true ∧ True) → FrameEnd s (.returned v) u (Jvm.fieldLocs frame_1_writes args s ++ Jvm.arrayLocs frame_1_arrays args s ++ Jvm.staticLocs frame_1_statics s) 16 128 → Post tb e args s (.returned v) u) :
    ArmFor flags0 classFile x code maxLocals ret World_1 tables_1 room_1 Calls_1 rest_1 Pre_1 Post := by
  intro l hfl _ _ p e ha hc hk s m args below hf hA hF happ hP
  obtain ⟨hcalls, hrest, hpre⟩ := hP
  obtain ⟨-, -, -, hnamed, -, -, -, hat⟩ := (Spec.applies_iff hf).mp happ
  obtain ⟨hg, hn⟩ := and_e (Cond.before_iff.mp (show (Jvm.Cond.and given_1 narrow_1).before args s = true from hpre))
  obtain ⟨h1, g0⟩ := and_e hg
  obtain ⟨w0, w1, w2, w3, rfl⟩ : ∃ w0 w1 w2 w3 : Value, args = #[w0, w1, w2, w3] := by
    have hs : args.size = 4 := by simpa [Cond.value, given_1] using h1
    obtain ⟨L⟩ := args
    match L, hs with
    | [w0, w1, w2, w3], _ => exact ⟨w0, w1, w2, w3, rfl⟩
  have hw := fun d (hd : d ∈ tables_1) => atoms_spec (ws := Jvm.Cond.code x code maxLocals ret :: tables_1) hat d (List.mem_cons_of_mem _ hd)
  obtain ⟨b0, g1⟩ := and_e g0
  obtain ⟨i0, ei0⟩ := is_v b0
  obtain rfl : w0 = (.int i0) := Option.some.inj ei0
  obtain ⟨b1, g2⟩ := and_e g1
  obtain ⟨i1, ei1⟩ := is_v b1
  obtain rfl : w1 = (.int i1) := Option.some.inj ei1
  obtain ⟨b2, g3⟩ := and_e g2
  obtain ⟨i2, ei2⟩ := is_v b2
  obtain rfl : w2 = (.int i2) := Option.some.inj ei2
  have b3 := g3
  obtain ⟨i3, ei3⟩ := is_v b3
  obtain rfl : w3 = (.int i3) := Option.some.inj ei3
  have G := law0 (l := l) hw s.heap (Nat.le_refl _) i0 i1 i2 i3
  obtain ⟨n, o, h1, h2, h3, _, L, rfl, ⟨⟨z, rfl, rfl⟩, N⟩, hq⟩ := Go.met (as' := #[.int i0, .int i1, .int i2, .int i3]) (plainFor_of_name pnx) (fun m => ef_law0 m i0 i1 i2 i3) G tables_1 p e ha hc hk s m _ below hf ((Spec.applies_iff_loose hf).mp happ).1 ⟨rfl, State.Warmed39.refl s, rfl⟩ trivial
  refine ⟨n, _, h1, h2, h3, hpost _ _ _ _ _ _ ⟨Cond.after_iff.mpr rfl, Cond.after_iff.mpr (eq_i res_at (Term.int_eval (1)) rfl), trivial⟩ ⟨hq.1, hq.2.1, (hq.2.2.sift fun y hy => Or.inr (N y hy)).mono (by decide) (by decide)⟩⟩
theorem main_1_1 : Claimed_1_1 := comes_1 fun _ _ _ _ _ _ h hF => ⟨h.1, hF⟩
theorem main_1_2 : Claimed_1_2 := comes_1 fun _ _ _ _ _ _ h hF => ⟨h.2.1, hF⟩
end Jvm.Pilot.@@N@@
namespace Jvm.Pilot.@@N@@
open Jvm Jvm.ClassFile Sem Op Lib Jvm.Free Jvm.Stand Jvm.Pilot.@@N@@.Jvm.D
/-! MADE BY PROGRAM (witnessworld.py) out of the Statement's table words and the real class files: 12 classes; the members and pool entries that the words name. The judged class is class 1, her method 1. -/
namespace start1
open Jvm.ClassFile
def u (s : String) : CpInfo := .utf8 (stringToUtf16 s)
/-- a pool by its gaps: so many unusable entries, then the entry; so many at the end -/
def gap : Nat → List CpInfo → List CpInfo
  | 0, r => r
  | n + 1, r => .unusable :: gap n r
def poolList (es : List (Nat × CpInfo)) (last : Nat) : List CpInfo := es.foldr (fun e r => gap e.1 (e.2 :: r)) (gap last [])
def pool (es : List (Nat × CpInfo)) (last : Nat) : Array CpInfo := ⟨poolList es last⟩
def fileOf (pool : Array CpInfo) (this : Nat) (attrs : Array Attribute := #[]) (ms : Array MethodInfo := #[]) (fl : Nat := 33) (sup : Nat := 0) (ifs : Array Nat := #[]) (fds : Array FieldInfo := #[]) : ClassFile where
  minorVersion := 0
  majorVersion := 65
  constantPool := pool
  accessFlags := fl
  thisClass := this
  superClass := sup
  interfaces := ifs
  fields := fds
  methods := ms
  attributes := attrs
def plain (name : String) (sup : Option ClassId) : Class where
  name := name
  kind := .ordinary
  loader := none
  accessFlags := 33
  super := sup
  interfaces := #[]
  cf := none
  fields := #[]
  methods := #[]
  instanceTypes := #[]
  staticTypes := #[]
  resolved := #[]
  callSites := []
  init := .initialized
  statics := none
  mirror := none

def pool0 : Array CpInfo := pool [(5, u "<init>"), (0, u "()V"), (1, .class_ 10), (1, u "java/lang/Object")] 113

def k0c0 : Code := { maxStack := 0, maxLocals := 1, code := object_method_1_code, exceptionTable := #[], attributes := #[] }
def k0m0 : Method := { name := "<init>", desc := "()V", sig := { parameters := [], returnType := none }, accessFlags := 1, code := some k0c0 }
/-- java/lang/Object -/
def k0 : Class := { plain "java/lang/Object" none with
  accessFlags := 33
  interfaces := #[]
  cf := some (fileOf pool0 8 #[] #[{ accessFlags := 1, nameIndex := 5, descriptorIndex := 6, attributes := #[] }] 33 0 #[] #[])
  fields := #[]
  methods := #[k0m0]
  instanceTypes := #[]
  staticTypes := #[]
  resolved := Array.replicate 124 none
  statics := none }

def pool1 : Array CpInfo := pool [(2, .class_ 4), (1, u "java/lang/Object"), (0, u "<init>"), (0, u "()V"), (0, .class_ 8), (0, u "com/example/wary_mutex/warymutex/message/IndexSet"), (0, .methodref 7 10), (0, .nameAndType 5 11), (0, u "(I)V"), (0, .methodref 7 13), (0, .nameAndType 14 11), (0, u "add"), (0, .methodref 7 16), (0, .nameAndType 17 18), (0, u "size"), (0, u "()I"), (0, .methodref 7 20), (0, .nameAndType 21 22), (0, u "get"), (0, u "(I)I"), (0, .class_ 24), (0, u "com/example/wary_mutex/warymutex/message/IndexSetAddPinLaw"), (2, u "law"), (0, u "(IIII)Z")] 3

def k1m0 : Method := { name := "<init>", desc := "()V", sig := { parameters := [], returnType := none }, accessFlags := 1, code := none }
def k1c1 : Code := { maxStack := 3, maxLocals := 15, code := code, exceptionTable := #[], attributes := #[] }
def k1m1 : Method := { name := "law", desc := "(IIII)Z", sig := { parameters := [.int, .int, .int, .int], returnType := some .boolean }, accessFlags := 9, code := some k1c1 }
/-- com/example/wary_mutex/warymutex/message/IndexSetAddPinLaw -/
def k1 : Class := { plain "com/example/wary_mutex/warymutex/message/IndexSetAddPinLaw" (some 0) with
  accessFlags := 49
  interfaces := #[]
  cf := some (fileOf pool1 23 #[] #[{ accessFlags := 1, nameIndex := 5, descriptorIndex := 6, attributes := #[] }, { accessFlags := 9, nameIndex := 27, descriptorIndex := 28, attributes := #[] }] 49 2 #[] #[])
  fields := #[]
  methods := #[k1m0, k1m1]
  instanceTypes := #[]
  staticTypes := #[]
  resolved := Array.replicate 32 none
  statics := none }

def pool2 : Array CpInfo := pool [(1, .methodref 2 3), (0, .class_ 4), (0, .nameAndType 5 6), (0, u "java/lang/Object"), (0, u "<init>"), (0, u "()V"), (0, .fieldref 8 9), (0, .class_ 10), (0, .nameAndType 11 12), (0, u "com/example/wary_mutex/warymutex/message/IndexSet"), (0, u "members"), (0, u "[I"), (0, .fieldref 8 14), (0, .nameAndType 15 12), (0, u "positions"), (0, .methodref 17 18), (0, .class_ 19), (0, .nameAndType 20 21), (0, u "java/util/Arrays"), (0, u "fill"), (0, u "([II)V"), (0, .fieldref 8 23), (0, .nameAndType 24 25), (0, u "size"), (0, u "I"), (0, .methodref 27 28), (0, .class_ 29), (0, .nameAndType 30 31), (0, u "java/util/Objects"), (0, u "checkIndex"), (0, u "(II)I"), (0, u "(I)V"), (2, u "add"), (2, u "()I"), (0, u "get"), (0, u "(I)I")] 2

def k2c0 : Code := { maxStack := 2, maxLocals := 2, code := prog_43_method_1_code, exceptionTable := #[], attributes := #[] }
def k2m0 : Method := { name := "<init>", desc := "(I)V", sig := { parameters := [.int], returnType := none }, accessFlags := 0, code := some k2c0 }
def k2c1 : Code := { maxStack := 3, maxLocals := 2, code := prog_43_method_2_code, exceptionTable := #[], attributes := #[] }
def k2m1 : Method := { name := "add", desc := "(I)V", sig := { parameters := [.int], returnType := none }, accessFlags := 0, code := some k2c1 }
def k2c2 : Code := { maxStack := 1, maxLocals := 1, code := prog_43_method_4_code, exceptionTable := #[], attributes := #[] }
def k2m2 : Method := { name := "size", desc := "()I", sig := { parameters := [], returnType := some .int }, accessFlags := 0, code := some k2c2 }
def k2c3 : Code := { maxStack := 2, maxLocals := 2, code := prog_43_method_5_code, exceptionTable := #[], attributes := #[] }
def k2m3 : Method := { name := "get", desc := "(I)I", sig := { parameters := [.int], returnType := some .int }, accessFlags := 0, code := some k2c3 }
/-- com/example/wary_mutex/warymutex/message/IndexSet -/
def k2 : Class := { plain "com/example/wary_mutex/warymutex/message/IndexSet" (some 0) with
  accessFlags := 48
  interfaces := #[]
  cf := some (fileOf pool2 8 #[] #[{ accessFlags := 0, nameIndex := 5, descriptorIndex := 32, attributes := #[] }, { accessFlags := 0, nameIndex := 35, descriptorIndex := 32, attributes := #[] }, { accessFlags := 0, nameIndex := 24, descriptorIndex := 38, attributes := #[] }, { accessFlags := 0, nameIndex := 39, descriptorIndex := 40, attributes := #[] }] 48 2 #[] #[{ accessFlags := 18, nameIndex := 11, descriptorIndex := 12, attributes := #[] }, { accessFlags := 18, nameIndex := 15, descriptorIndex := 12, attributes := #[] }, { accessFlags := 2, nameIndex := 24, descriptorIndex := 25, attributes := #[] }])
  fields := #[{ name := "members", type := (.array .int), accessFlags := 18, slot := 0, constantValue := 0 }, { name := "positions", type := (.array .int), accessFlags := 18, slot := 1, constantValue := 0 }, { name := "size", type := .int, accessFlags := 2, slot := 2, constantValue := 0 }]
  methods := #[k2m0, k2m1, k2m2, k2m3]
  instanceTypes := #[(.array .int), (.array .int), .int]
  staticTypes := #[]
  resolved := Array.replicate 43 none
  statics := none }

def pool3 : Array CpInfo := pool [(2, .class_ 4), (1, u "java/lang/Object"), (0, u "<init>"), (0, u "()V"), (7, .class_ 16), (1, u "java/util/Arrays"), (57, .class_ 76), (1, u "java/util/Arrays$NaturalOrder"), (36, .class_ 115), (1, u "java/util/Arrays$LegacyMergeSort"), (1, u "Z"), (257, .class_ 376), (0, u "java/util/Arrays$ArrayList"), (68, u "$assertionsDisabled"), (269, u "MIN_ARRAY_SORT_GRAN"), (0, u "I"), (2, u "INSERTIONSORT_THRESHOLD"), (120, u "fill"), (4, u "([II)V"), (129, .class_ 976), (0, u "java/util/Arrays$ArrayItr")] 52

def k3m0 : Method := { name := "<init>", desc := "()V", sig := { parameters := [], returnType := none }, accessFlags := 2, code := none }
def k3c1 : Code := { maxStack := 3, maxLocals := 4, code := jdk_65_method_103_code, exceptionTable := #[], attributes := #[] }
def k3m1 : Method := { name := "fill", desc := "([II)V", sig := { parameters := [(.array .int), .int], returnType := none }, accessFlags := 9, code := some k3c1 }
/-- java/util/Arrays -/
def k3 : Class := { plain "java/util/Arrays" (some 0) with
  accessFlags := 49
  interfaces := #[]
  cf := some (fileOf pool3 14 #[.nestMembers #[975, 375, 113, 74]] #[{ accessFlags := 2, nameIndex := 5, descriptorIndex := 6, attributes := #[] }, { accessFlags := 9, nameIndex := 840, descriptorIndex := 845, attributes := #[] }] 49 2 #[] #[{ accessFlags := 26, nameIndex := 715, descriptorIndex := 716, attributes := #[] }, { accessFlags := 26, nameIndex := 719, descriptorIndex := 716, attributes := #[] }, { accessFlags := 4120, nameIndex := 445, descriptorIndex := 117, attributes := #[] }])
  fields := #[{ name := "MIN_ARRAY_SORT_GRAN", type := .int, accessFlags := 26, slot := 0, constantValue := 0 }, { name := "INSERTIONSORT_THRESHOLD", type := .int, accessFlags := 26, slot := 1, constantValue := 0 }, { name := "$assertionsDisabled", type := .boolean, accessFlags := 4120, slot := 2, constantValue := 0 }]
  methods := #[k3m0, k3m1]
  instanceTypes := #[]
  staticTypes := #[.int, .int, .boolean]
  resolved := Array.replicate 1029 none
  statics := none }

def pool4 : Array CpInfo := pool [(2, .class_ 4), (1, u "java/lang/Object"), (0, u "<init>"), (0, u "()V"), (35, .class_ 44), (1, u "java/util/Objects"), (60, .methodref 106 107), (0, .class_ 108), (0, .nameAndType 109 110), (0, u "jdk/internal/util/Preconditions"), (0, u "checkIndex"), (0, u "(IILjava/util/function/BiFunction;)I"), (60, u "(II)I")] 12

def k4m0 : Method := { name := "<init>", desc := "()V", sig := { parameters := [], returnType := none }, accessFlags := 2, code := none }
def k4c1 : Code := { maxStack := 3, maxLocals := 2, code := jdk_31_method_17_code, exceptionTable := #[], attributes := #[] }
def k4m1 : Method := { name := "checkIndex", desc := "(II)I", sig := { parameters := [.int, .int], returnType := some .int }, accessFlags := 9, code := some k4c1 }
/-- java/util/Objects -/
def k4 : Class := { plain "java/util/Objects" (some 0) with
  accessFlags := 49
  interfaces := #[]
  cf := some (fileOf pool4 42 #[] #[{ accessFlags := 2, nameIndex := 5, descriptorIndex := 6, attributes := #[] }, { accessFlags := 9, nameIndex := 109, descriptorIndex := 171, attributes := #[] }] 49 2 #[] #[])
  fields := #[]
  methods := #[k4m0, k4m1]
  instanceTypes := #[]
  staticTypes := #[]
  resolved := Array.replicate 184 none
  statics := none }

def pool5 : Array CpInfo := pool [(2, .class_ 4), (1, u "java/lang/Object"), (0, u "<init>"), (0, u "()V"), (17, .class_ 26), (1, u "jdk/internal/util/Preconditions"), (6, u "checkIndex"), (21, .class_ 56), (0, u "jdk/internal/util/Preconditions$4"), (57, .class_ 115), (0, u "jdk/internal/util/Preconditions$1"), (7, u "SIOOBE_FORMATTER"), (0, u "Ljava/util/function/BiFunction;"), (0, .class_ 126), (0, u "jdk/internal/util/Preconditions$2"), (3, u "AIOOBE_FORMATTER"), (0, .class_ 132), (0, u "jdk/internal/util/Preconditions$3"), (3, u "IOOBE_FORMATTER"), (41, u "(IILjava/util/function/BiFunction;)I")] 15

def k5m0 : Method := { name := "<init>", desc := "()V", sig := { parameters := [], returnType := none }, accessFlags := 1, code := none }
def k5c1 : Code := { maxStack := 3, maxLocals := 3, code := jdk_41_method_11_code, exceptionTable := #[], attributes := #[] }
def k5m1 : Method := { name := "checkIndex", desc := "(IILjava/util/function/BiFunction;)I", sig := { parameters := [.int, .int, (.object "java/util/function/BiFunction")], returnType := some .int }, accessFlags := 9, code := some k5c1 }
/-- jdk/internal/util/Preconditions -/
def k5 : Class := { plain "jdk/internal/util/Preconditions" (some 0) with
  accessFlags := 33
  interfaces := #[]
  cf := some (fileOf pool5 24 #[.nestMembers #[55, 131, 125, 114]] #[{ accessFlags := 1, nameIndex := 5, descriptorIndex := 6, attributes := #[] }, { accessFlags := 9, nameIndex := 33, descriptorIndex := 178, attributes := #[] }] 33 2 #[] #[{ accessFlags := 25, nameIndex := 123, descriptorIndex := 124, attributes := #[] }, { accessFlags := 25, nameIndex := 130, descriptorIndex := 124, attributes := #[] }, { accessFlags := 25, nameIndex := 136, descriptorIndex := 124, attributes := #[] }])
  fields := #[{ name := "SIOOBE_FORMATTER", type := (.object "java/util/function/BiFunction"), accessFlags := 25, slot := 0, constantValue := 0 }, { name := "AIOOBE_FORMATTER", type := (.object "java/util/function/BiFunction"), accessFlags := 25, slot := 1, constantValue := 0 }, { name := "IOOBE_FORMATTER", type := (.object "java/util/function/BiFunction"), accessFlags := 25, slot := 2, constantValue := 0 }]
  methods := #[k5m0, k5m1]
  instanceTypes := #[]
  staticTypes := #[(.object "java/util/function/BiFunction"), (.object "java/util/function/BiFunction"), (.object "java/util/function/BiFunction")]
  resolved := Array.replicate 194 none
  statics := none }

def pool6 : Array CpInfo := pool [(1, u "java/lang/Cloneable"), (0, .class_ 1), (0, u "java/lang/Object"), (0, .class_ 3)] 3

/-- java/lang/Cloneable -/
def k6 : Class := { plain "java/lang/Cloneable" (some 0) with
  accessFlags := 1537
  interfaces := #[]
  cf := some (fileOf pool6 2 #[] #[] 1537 4 #[] #[])
  fields := #[]
  methods := #[]
  instanceTypes := #[]
  staticTypes := #[]
  resolved := Array.replicate 8 none
  statics := none }

def pool7 : Array CpInfo := pool [(1, u "java/io/Serializable"), (0, .class_ 1), (0, u "java/lang/Object"), (0, .class_ 3)] 3

/-- java/io/Serializable -/
def k7 : Class := { plain "java/io/Serializable" (some 0) with
  accessFlags := 1537
  interfaces := #[]
  cf := some (fileOf pool7 2 #[] #[] 1537 4 #[] #[])
  fields := #[]
  methods := #[]
  instanceTypes := #[]
  staticTypes := #[]
  resolved := Array.replicate 8 none
  statics := none }

/-- the primitive byte -/
def k8 : Class := { plain "byte" none with kind := .primitive 'B', accessFlags := 0x411 }
/-- [B -/
def k9 : Class := { plain "[B" (some 0) with kind := .array 8 .byte, interfaces := #[6, 7], accessFlags := 1041 }

/-- the primitive int -/
def k10 : Class := { plain "int" none with kind := .primitive 'I', accessFlags := 0x411 }
/-- [I -/
def k11 : Class := { plain "[I" (some 0) with kind := .array 10 .int, interfaces := #[6, 7], accessFlags := 1041 }

def heap : Heap := #[]
def classes : Array Class := #[k0, k1, k2, k3, k4, k5, k6, k7, k8, k9, k10, k11]
def interned : List (Array UInt16 × Addr) := []
def slotsUsed : Nat := 0
def theMethod : MethodId := ⟨1, 1⟩
def args0 : Array Value := #[.int 5, .int 6, .int 7, .int 3]
def aboutOver (below : List Frame) : State where
  vm := { classes := classes, interned := interned.toArray }
  heap := heap
  slotsUsed := slotsUsed
  threads := #[{ frames := .invoking theMethod args0 :: below }]
def below0 : List Frame := [.native { method := ⟨0, 0⟩, args := #[] }]
def about1 : State := aboutOver below0
def p0 : Program := .bare "" "" ""
def e0 : Env := launch0.env 0 0 0
theorem w_frames : about1.frames = Frame.invoking theMethod args0 :: below0 := rfl
set_option maxRecDepth 65536 in
theorem w_args : argsFit about1.vm theMethod args0 = true := by decide +kernel
set_option maxRecDepth 65536 in
theorem w_heap : heapFits about1 = true := by decide +kernel
set_option maxRecDepth 65536 in
theorem w_runnable : about1.curStatus? = some .runnable := by decide +kernel
set_option maxRecDepth 65536 in
theorem w_alone : about1.alone = true := by decide +kernel
set_option maxRecDepth 65536 in
theorem w_named : about1.methodNamed? x = some theMethod := by decide +kernel
set_option maxRecDepth 65536 in
theorem w_hears : about1.hears theMethod below0 = true := by decide +kernel
set_option maxRecDepth 65536 in
theorem w_ripe : about1.ripe theMethod args0 below0 = true := by decide +kernel
theorem w_running : about1.status = .running := rfl
set_option maxRecDepth 65536 in
theorem w_room : about1.hasRoom e0.platform room_1 = true :=
  launch0.hasRoom_least _ room_1 (by decide +kernel) (by decide +kernel) (by decide +kernel) (by decide +kernel) (by decide +kernel) (by decide +kernel)
theorem allAtoms_all (ts : List Jvm.Cond) (a : Array Jvm.Value) (st : Jvm.State) : (allAtoms ts).before a st = ts.all (fun c => c.before a st) := by
  induction ts with
  | nil => rfl
  | cons c t ih =>
    show (Jvm.Cond.and c (allAtoms t)).before a st = _
    rw [Jvm.Cond.before_and, ih, List.all_cons]
def words1 : List Jvm.Cond := Jvm.Cond.code x code maxLocals ret :: tables_1
/-- a 'code' word, met by the world's own term for the bytes: nothing is compared byte by byte -/
theorem code_word {y : MethodName} {bytes : ByteArray} {mx : Nat} {rt : Option FieldType} {a : Array Value} {s : State} {m : MethodId} {meth : Method} {c : Code} (h1 : s.methodNamed? y = some m) (h2 : s.vm.method? m = some meth) (h3 : meth.code = some c) (h4 : c.code = bytes)
    (h5 : (c.maxLocals == mx && c.exceptionTable.isEmpty && decide (c.maxStack ≤ mostOperands) && decide (meth.sig.returnType = rt) && !meth.locks && decide (parseMethodDescriptor y.desc = some meth.sig)) = true) : (Jvm.Cond.code y bytes mx rt).before a s = true := by
  simp only [Bool.and_eq_true, beq_iff_eq, Bool.not_eq_true', decide_eq_true_eq] at h5
  obtain ⟨⟨⟨⟨⟨g1, g2⟩, g3⟩, g4⟩, g5⟩, g6⟩ := h5
  simp [Cond.before, Cond.holds, Cond.value, h1, h2, h3, h4, g1, g2, g3, g4, g5, g6]
def isCode : Jvm.Cond → Bool
  | .code _ _ _ _ => true
  | _ => false
theorem all_split {L : List Jvm.Cond} {P : Jvm.Cond → Bool} (h1 : L.all (fun c => isCode c || P c) = true) (h2 : ∀ c ∈ L.filter isCode, P c = true) : L.all P = true := by
  refine List.all_eq_true.mpr fun c hc => ?_
  have h := List.all_eq_true.mp h1 c hc
  rcases Bool.eq_false_or_eq_true (isCode c) with hi | hi
  · exact h2 c (List.mem_filter.mpr ⟨hc, hi⟩)
  · simpa [hi] using h
set_option maxRecDepth 65536 in
theorem w_c0 : (Jvm.Cond.code x code maxLocals ret).before args0 about1 = true := code_word (m := ⟨1, 1⟩) (meth := k1m1) (c := k1c1) (by decide +kernel) rfl rfl rfl (by decide +kernel)
set_option maxRecDepth 65536 in
theorem w_c1 : (Jvm.Cond.code ({ cls := "com/example/wary_mutex/warymutex/message/IndexSet", name := "<init>", desc := "(I)V" } : Jvm.MethodName) prog_43_method_1_code (2 : Nat) (Option.none : Option Jvm.ClassFile.FieldType)).before args0 about1 = true := code_word (m := ⟨2, 0⟩) (meth := k2m0) (c := k2c0) (by decide +kernel) rfl rfl rfl (by decide +kernel)
set_option maxRecDepth 65536 in
theorem w_c2 : (Jvm.Cond.code ({ cls := "java/lang/Object", name := "<init>", desc := "()V" } : Jvm.MethodName) object_method_1_code (1 : Nat) (Option.none : Option Jvm.ClassFile.FieldType)).before args0 about1 = true := code_word (m := ⟨0, 0⟩) (meth := k0m0) (c := k0c0) (by decide +kernel) rfl rfl rfl (by decide +kernel)
set_option maxRecDepth 65536 in
theorem w_c3 : (Jvm.Cond.code ({ cls := "java/util/Arrays", name := "fill", desc := "([II)V" } : Jvm.MethodName) jdk_65_method_103_code (4 : Nat) (Option.none : Option Jvm.ClassFile.FieldType)).before args0 about1 = true := code_word (m := ⟨3, 1⟩) (meth := k3m1) (c := k3c1) (by decide +kernel) rfl rfl rfl (by decide +kernel)
set_option maxRecDepth 65536 in
theorem w_c4 : (Jvm.Cond.code ({ cls := "com/example/wary_mutex/warymutex/message/IndexSet", name := "add", desc := "(I)V" } : Jvm.MethodName) prog_43_method_2_code (2 : Nat) (Option.none : Option Jvm.ClassFile.FieldType)).before args0 about1 = true := code_word (m := ⟨2, 1⟩) (meth := k2m1) (c := k2c1) (by decide +kernel) rfl rfl rfl (by decide +kernel)
set_option maxRecDepth 65536 in
theorem w_c5 : (Jvm.Cond.code ({ cls := "com/example/wary_mutex/warymutex/message/IndexSet", name := "size", desc := "()I" } : Jvm.MethodName) prog_43_method_4_code (1 : Nat) (Option.some Jvm.ClassFile.FieldType.int)).before args0 about1 = true := code_word (m := ⟨2, 2⟩) (meth := k2m2) (c := k2c2) (by decide +kernel) rfl rfl rfl (by decide +kernel)
set_option maxRecDepth 65536 in
theorem w_c6 : (Jvm.Cond.code ({ cls := "com/example/wary_mutex/warymutex/message/IndexSet", name := "get", desc := "(I)I" } : Jvm.MethodName) prog_43_method_5_code (2 : Nat) (Option.some Jvm.ClassFile.FieldType.int)).before args0 about1 = true := code_word (m := ⟨2, 3⟩) (meth := k2m3) (c := k2c3) (by decide +kernel) rfl rfl rfl (by decide +kernel)
set_option maxRecDepth 65536 in
theorem w_c7 : (Jvm.Cond.code ({ cls := "java/util/Objects", name := "checkIndex", desc := "(II)I" } : Jvm.MethodName) jdk_31_method_17_code (2 : Nat) (Option.some Jvm.ClassFile.FieldType.int)).before args0 about1 = true := code_word (m := ⟨4, 1⟩) (meth := k4m1) (c := k4c1) (by decide +kernel) rfl rfl rfl (by decide +kernel)
set_option maxRecDepth 65536 in
theorem w_c8 : (Jvm.Cond.code ({ cls := "jdk/internal/util/Preconditions", name := "checkIndex", desc := "(IILjava/util/function/BiFunction;)I" } : Jvm.MethodName) jdk_41_method_11_code (3 : Nat) (Option.some Jvm.ClassFile.FieldType.int)).before args0 about1 = true := code_word (m := ⟨5, 1⟩) (meth := k5m1) (c := k5c1) (by decide +kernel) rfl rfl rfl (by decide +kernel)
def codes1 : List Jvm.Cond := [Jvm.Cond.code x code maxLocals ret, Jvm.Cond.code ({ cls := "com/example/wary_mutex/warymutex/message/IndexSet", name := "<init>", desc := "(I)V" } : Jvm.MethodName) prog_43_method_1_code (2 : Nat) (Option.none : Option Jvm.ClassFile.FieldType), Jvm.Cond.code ({ cls := "java/lang/Object", name := "<init>", desc := "()V" } : Jvm.MethodName) object_method_1_code (1 : Nat) (Option.none : Option Jvm.ClassFile.FieldType), Jvm.Cond.code ({ cls := "java/util/Arrays", name := "fill", desc := "([II)V" } : Jvm.MethodName) jdk_65_method_103_code (4 : Nat) (Option.none : Option Jvm.ClassFile.FieldType), Jvm.Cond.code ({ cls := "com/example/wary_mutex/warymutex/message/IndexSet", name := "add", desc := "(I)V" } : Jvm.MethodName) prog_43_method_2_code (2 : Nat) (Option.none : Option Jvm.ClassFile.FieldType), Jvm.Cond.code ({ cls := "com/example/wary_mutex/warymutex/message/IndexSet", name := "size", desc := "()I" } : Jvm.MethodName) prog_43_method_4_code (1 : Nat) (Option.some Jvm.ClassFile.FieldType.int), Jvm.Cond.code ({ cls := "com/example/wary_mutex/warymutex/message/IndexSet", name := "get", desc := "(I)I" } : Jvm.MethodName) prog_43_method_5_code (2 : Nat) (Option.some Jvm.ClassFile.FieldType.int), Jvm.Cond.code ({ cls := "java/util/Objects", name := "checkIndex", desc := "(II)I" } : Jvm.MethodName) jdk_31_method_17_code (2 : Nat) (Option.some Jvm.ClassFile.FieldType.int), Jvm.Cond.code ({ cls := "jdk/internal/util/Preconditions", name := "checkIndex", desc := "(IILjava/util/function/BiFunction;)I" } : Jvm.MethodName) jdk_41_method_11_code (3 : Nat) (Option.some Jvm.ClassFile.FieldType.int)]
set_option maxRecDepth 65536 in
theorem codes_eq : words1.filter isCode = codes1 := rfl
theorem w_codes : ∀ c ∈ words1.filter isCode, c.before args0 about1 = true := by
  rw [codes_eq]
  intro c hc
  simp only [codes1, List.mem_cons, List.not_mem_nil, or_false] at hc
  rcases hc with rfl | rfl | rfl | rfl | rfl | rfl | rfl | rfl | rfl
  · exact w_c0
  · exact w_c1
  · exact w_c2
  · exact w_c3
  · exact w_c4
  · exact w_c5
  · exact w_c6
  · exact w_c7
  · exact w_c8
set_option maxRecDepth 65536 in
theorem w_t1 : (words1.take 24).all (fun c => isCode c || c.before args0 about1) = true := by decide +kernel
set_option maxRecDepth 65536 in
theorem w_t2 : (words1.drop 24).all (fun c => isCode c || c.before args0 about1) = true := by decide +kernel
theorem w_tables : (allAtoms (Jvm.Cond.code x code maxLocals ret :: tables_1)).before args0 about1 = true := by
  rw [allAtoms_all]
  show words1.all (fun c => c.before args0 about1) = true
  refine all_split ?_ w_codes
  rw [← List.take_append_drop 24 words1, List.all_append, w_t1, w_t2]
  rfl
set_option maxRecDepth 65536 in
theorem w_case : (Jvm.Cond.and given_1 narrow_1).before args0 about1 = true := by decide +kernel
theorem w_applies : (headSpec (Jvm.Cond.code x code maxLocals ret :: tables_1) room_1).applies x e0.platform about1 = true :=
  (Spec.applies_iff w_frames).mpr ⟨w_running, w_runnable, w_alone, w_named, w_hears, w_ripe, w_room, w_tables⟩
theorem atStart : AtStart classFile x code maxLocals ret World_1 tables_1 room_1 Calls_1 rest_1 Pre_1 launch0 p0 e0 about1 theMethod args0 below0 :=
  ⟨lists_1, trivial, launch0.admits_env _ _ _, launch0.least_env, fairChoices_fair.cas, fairChoices_fair.clock, w_frames, w_args, w_heap, w_applies, trivial, trivial, w_case⟩
end start1
theorem witness_1 : WitnessClaimed_1 := ⟨start1.p0, start1.e0, start1.about1, start1.theMethod, start1.args0, start1.below0, start1.atStart⟩
end Jvm.Pilot.@@N@@
