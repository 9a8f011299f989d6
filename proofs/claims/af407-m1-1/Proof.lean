import JvmDerived
import JvmDerived.Pilot.@@N@@Statement
import JvmDerived.Pilot.@@N@@Code
set_option linter.unusedVariables false
set_option linter.unusedSimpArgs false

namespace Jvm.OwnGo
open Sem ClassFile Op Lib Jvm.Stand Jvm.Free Jvm.LawKit Jvm.RoadKit
/-- what is known of a body while it is walked -/
def Cx (Z : State) (y : MethodName) (code : ByteArray) (ml : Nat) (ret : Option FieldType) (p : Program) (s : State) (m : MethodId) (meth : Method) (c : Code) : Prop :=
  p.tables.exec = Jvm.exec ∧ c.code = code ∧ Z.Warmed39 s.vm ∧ s.vm.findClass y.cls = some m.cls ∧ c.maxLocals = ml ∧ meth.sig.returnType = ret ∧ meth.locks = false ∧ meth.name = y.name
/-- from the frame (pc, Ls, st) over the heap h, with at most k cells and n slots made so far, the body of y returns with Q -/
def Go (l : Launch) (Z : State) (y : MethodName) (code : ByteArray) (ml : Nat) (ret : Option FieldType) (R : Room) (Q : Option Value → Heap → Prop) (k n : Nat) (h : Heap) (pc : Nat) (Ls : Array Slot) (st : List Value) : Prop :=
  ∀ (p : Program) (e : Env) (s : State) (m : MethodId) (args : Array Value) (below : List Frame) (meth : Method) (c : Code), Cx Z y code ml ret p s m meth c →
  ∀ (T : State) (L : List Loc) (k' n' : Nat), Stand p l e R s m args below meth c T L k' n' → k' ≤ k → n' ≤ n → Fr Z.heap.size L → T.heap = h →
  ∃ (v : Option Value) (T' : State) (L' : List Loc) (k'' n'' : Nat), Stand p l e R s m args below meth c T' L' k'' n'' ∧ k'' ≤ R.cells ∧ n'' ≤ R.slots ∧ Fr Z.heap.size L' ∧ Q v T'.heap ∧ (ret = none → v = none) ∧
    ∀ fs, (∀ (f : JFrame) (acts : List Action), f.method = m → f.locked = none → f.entered = [] → (doReturn e (T'.setTop f) acts v).1 = T'.setFrames fs) → Steps p.tables e below (T.setTop (mkF m pc Ls st)) (T'.setFrames fs)
/-- the shapes of an answer -/
def QI (P : Int32 → Heap → Prop) (v : Option Value) (h : Heap) : Prop := ∃ z : Int32, v = some (.int z) ∧ P z h
def QJ (P : Int64 → Heap → Prop) (v : Option Value) (h : Heap) : Prop := ∃ z : Int64, v = some (.long z) ∧ P z h
def QR (P : Value → Heap → Prop) (v : Option Value) (h : Heap) : Prop := ∃ z : Value, v = some z ∧ P z h
def QV (P : Heap → Prop) (v : Option Value) (h : Heap) : Prop := v = none ∧ P h
section Laws
variable {l : Launch} {Z : State} {y : MethodName} {code : ByteArray} {ml : Nat} {ret : Option FieldType} {R : Room} {Q : Option Value → Heap → Prop} {k n : Nat} {h : Heap} {pc : Nat} {Ls : Array Slot} {st : List Value} {a0 : Array Value}
theorem Go.pure {pc' : Nat} {Ls' : Array Slot} {st' : List Value} (g : Go l Z y code ml ret R Q k n h pc' Ls' st')
    (f : ∀ (p : Program) (e : Env) (s : State) (m : MethodId) (args : Array Value) (below : List Frame) (meth : Method) (c : Code), Cx Z y code ml ret p s m meth c → ∀ (T : State) (L : List Loc) (k' n' : Nat), Stand p l e R s m args below meth c T L k' n' → T.heap = h → ∀ target, Steps p.tables e below (T.setTop (mkF m pc' Ls' st')) target → Steps p.tables e below (T.setTop (mkF m pc Ls st)) target) :
    Go l Z y code ml ret R Q k n h pc Ls st := by
  intro p e s m args below meth c K T L k' n' X h1 h2 N hT
  obtain ⟨v, T', L', k'', n'', X', b1, b2, N', q, hv, stp⟩ := g p e s m args below meth c K T L k' n' X h1 h2 N hT
  exact ⟨v, T', L', k'', n'', X', b1, b2, N', q, hv, fun fs hl => f p e s m args below meth c K T L k' n' X hT _ (stp fs hl)⟩
/-- a step that moves the state: by a law that hands out the new Stand -/
theorem Go.move {pc' : Nat} {Ls' : Array Slot} {st' : List Value} {kk nn : Nat} {P : Heap → Prop} (g : ∀ h', P h' → Go l Z y code ml ret R Q kk nn h' pc' Ls' st')
    (f : ∀ (p : Program) (e : Env) (s : State) (m : MethodId) (args : Array Value) (below : List Frame) (meth : Method) (c : Code), Cx Z y code ml ret p s m meth c → ∀ (T : State) (L : List Loc) (k' n' : Nat), Stand p l e R s m args below meth c T L k' n' → k' ≤ k → n' ≤ n → Fr Z.heap.size L → T.heap = h →
      ∃ (T' : State) (L' : List Loc) (k'' n'' : Nat), Stand p l e R s m args below meth c T' L' k'' n'' ∧ k'' ≤ kk ∧ n'' ≤ nn ∧ Fr Z.heap.size L' ∧ P T'.heap ∧ ∀ target, Steps p.tables e below (T'.setTop (mkF m pc' Ls' st')) target → Steps p.tables e below (T.setTop (mkF m pc Ls st)) target) :
    Go l Z y code ml ret R Q k n h pc Ls st := by
  intro p e s m args below meth c K T L k' n' X h1 h2 N hT
  obtain ⟨T1, L1, k1, n1, X1, c1, c2, N1, p1, s1⟩ := f p e s m args below meth c K T L k' n' X h1 h2 N hT
  obtain ⟨v, T', L', k'', n'', X', b1, b2, N', q, hv, stp⟩ := g _ p1 p e s m args below meth c K T1 L1 k1 n1 X1 c1 c2 N1 rfl
  exact ⟨v, T', L', k'', n'', X', b1, b2, N', q, hv, fun fs hl => s1 _ (stp fs hl)⟩
theorem Go.le {k₀ n₀ : Nat} (g : Go l Z y code ml ret R Q k n h pc Ls st) (hk : k₀ ≤ k) (hn : n₀ ≤ n) : Go l Z y code ml ret R Q k₀ n₀ h pc Ls st :=
  fun p e s m args below meth c K T L k' n' X h1 h2 N hT => g p e s m args below meth c K T L k' n' X (Nat.le_trans h1 hk) (Nat.le_trans h2 hn) N hT
theorem Go.mono {Q' : Option Value → Heap → Prop} (g : Go l Z y code ml ret R Q k n h pc Ls st) (hq : ∀ v h', Q v h' → Q' v h') : Go l Z y code ml ret R Q' k n h pc Ls st := by
  intro p e s m args below meth c K T L k' n' X h1 h2 N hT
  obtain ⟨v, T', L', k'', n'', X', b1, b2, N', q, r⟩ := g p e s m args below meth c K T L k' n' X h1 h2 N hT
  exact ⟨v, T', L', k'', n'', X', b1, b2, N', hq _ _ q, r⟩
theorem Go.nameI {x : Int32} (g : ∀ v : Int32, v = x → Go l Z y code ml ret R Q k n h pc Ls (.int v :: st)) : Go l Z y code ml ret R Q k n h pc Ls (.int x :: st) := g x rfl
theorem Go.nameJ {x : Int64} (g : ∀ v : Int64, v = x → Go l Z y code ml ret R Q k n h pc Ls (.long v :: st)) : Go l Z y code ml ret R Q k n h pc Ls (.long x :: st) := g x rfl

theorem Go.iadd {x z : Int32} (q : Nat) (hd : decode code pc = .ok (.iadd, 1))  (hq : pc + 1 = q) (g : Go l Z y code ml ret R Q k n h q Ls (.int (x + z) :: st)) : Go l Z y code ml ret R Q k n h pc Ls (.int z :: .int x :: st) := by
  subst hq; exact g.pure fun p e s m args below meth c K T L k' n' X hT t r => XS.iadd X.here K.1 rfl (hb K.2.1 hd) rfl  r
theorem Go.isub {x z : Int32} (q : Nat) (hd : decode code pc = .ok (.isub, 1))  (hq : pc + 1 = q) (g : Go l Z y code ml ret R Q k n h q Ls (.int (x - z) :: st)) : Go l Z y code ml ret R Q k n h pc Ls (.int z :: .int x :: st) := by
  subst hq; exact g.pure fun p e s m args below meth c K T L k' n' X hT t r => XS.isub X.here K.1 rfl (hb K.2.1 hd) rfl  r
theorem Go.iand {x z : Int32} (q : Nat) (hd : decode code pc = .ok (.iand, 1))  (hq : pc + 1 = q) (g : Go l Z y code ml ret R Q k n h q Ls (.int (x &&& z) :: st)) : Go l Z y code ml ret R Q k n h pc Ls (.int z :: .int x :: st) := by
  subst hq; exact g.pure fun p e s m args below meth c K T L k' n' X hT t r => XS.iand X.here K.1 rfl (hb K.2.1 hd) rfl  r
theorem Go.imul {x z : Int32} (q : Nat) (hd : decode code pc = .ok (.imul, 1))  (hq : pc + 1 = q) (g : Go l Z y code ml ret R Q k n h q Ls (.int (x * z) :: st)) : Go l Z y code ml ret R Q k n h pc Ls (.int z :: .int x :: st) := by
  subst hq; exact g.pure fun p e s m args below meth c K T L k' n' X hT t r => XS.imul X.here K.1 rfl (hb K.2.1 hd) rfl  r
theorem Go.ixor {x z : Int32} (q : Nat) (hd : decode code pc = .ok (.ixor, 1))  (hq : pc + 1 = q) (g : Go l Z y code ml ret R Q k n h q Ls (.int (x ^^^ z) :: st)) : Go l Z y code ml ret R Q k n h pc Ls (.int z :: .int x :: st) := by
  subst hq; exact g.pure fun p e s m args below meth c K T L k' n' X hT t r => XT.ixor X.here K.1 rfl (hb K.2.1 hd) rfl  r
theorem Go.ior {x z : Int32} (q : Nat) (hd : decode code pc = .ok (.ior, 1))  (hq : pc + 1 = q) (g : Go l Z y code ml ret R Q k n h q Ls (.int (x ||| z) :: st)) : Go l Z y code ml ret R Q k n h pc Ls (.int z :: .int x :: st) := by
  subst hq; exact g.pure fun p e s m args below meth c K T L k' n' X hT t r => XT.ior X.here K.1 rfl (hb K.2.1 hd) rfl  r
theorem Go.ishl {x z : Int32} (q : Nat) (hd : decode code pc = .ok (.ishl, 1))  (hq : pc + 1 = q) (g : Go l Z y code ml ret R Q k n h q Ls (.int (x <<< (z &&& 31)) :: st)) : Go l Z y code ml ret R Q k n h pc Ls (.int z :: .int x :: st) := by
  subst hq; exact g.pure fun p e s m args below meth c K T L k' n' X hT t r => XT.ishl X.here K.1 rfl (hb K.2.1 hd) rfl  r
theorem Go.ishr {x z : Int32} (q : Nat) (hd : decode code pc = .ok (.ishr, 1))  (hq : pc + 1 = q) (g : Go l Z y code ml ret R Q k n h q Ls (.int (x >>> (z &&& 31)) :: st)) : Go l Z y code ml ret R Q k n h pc Ls (.int z :: .int x :: st) := by
  subst hq; exact g.pure fun p e s m args below meth c K T L k' n' X hT t r => XT.ishr X.here K.1 rfl (hb K.2.1 hd) rfl  r
theorem Go.iushr {x z : Int32} (q : Nat) (hd : decode code pc = .ok (.iushr, 1))  (hq : pc + 1 = q) (g : Go l Z y code ml ret R Q k n h q Ls (.int (XT.ushr x z) :: st)) : Go l Z y code ml ret R Q k n h pc Ls (.int z :: .int x :: st) := by
  subst hq; exact g.pure fun p e s m args below meth c K T L k' n' X hT t r => XT.iushr X.here K.1 rfl (hb K.2.1 hd) rfl  r
theorem Go.idiv {x z : Int32} (q : Nat) (hd : decode code pc = .ok (.idiv, 1)) (hz : z ≠ 0) (hq : pc + 1 = q) (g : Go l Z y code ml ret R Q k n h q Ls (.int (x / z) :: st)) : Go l Z y code ml ret R Q k n h pc Ls (.int z :: .int x :: st) := by
  subst hq; exact g.pure fun p e s m args below meth c K T L k' n' X hT t r => XS.idiv X.here K.1 rfl (hb K.2.1 hd) rfl hz r
theorem Go.irem {x z : Int32} (q : Nat) (hd : decode code pc = .ok (.irem, 1)) (hz : z ≠ 0) (hq : pc + 1 = q) (g : Go l Z y code ml ret R Q k n h q Ls (.int (x % z) :: st)) : Go l Z y code ml ret R Q k n h pc Ls (.int z :: .int x :: st) := by
  subst hq; exact g.pure fun p e s m args below meth c K T L k' n' X hT t r => iremM X K.1 rfl (hb K.2.1 hd) rfl hz r
theorem Go.ineg {x : Int32} (q : Nat) (hd : decode code pc = .ok (.ineg, 1))  (hq : pc + 1 = q) (g : Go l Z y code ml ret R Q k n h q Ls (.int (-x) :: st)) : Go l Z y code ml ret R Q k n h pc Ls (.int x :: st) := by
  subst hq; exact g.pure fun p e s m args below meth c K T L k' n' X hT t r => XS.ineg X.here K.1 rfl (hb K.2.1 hd) rfl  r
theorem Go.ladd {x z : Int64} (q : Nat) (hd : decode code pc = .ok (.ladd, 1))  (hq : pc + 1 = q) (g : Go l Z y code ml ret R Q k n h q Ls (.long (x + z) :: st)) : Go l Z y code ml ret R Q k n h pc Ls (.long z :: .long x :: st) := by
  subst hq; exact g.pure fun p e s m args below meth c K T L k' n' X hT t r => XT.ladd X.here K.1 rfl (hb K.2.1 hd) rfl  r
theorem Go.lsub {x z : Int64} (q : Nat) (hd : decode code pc = .ok (.lsub, 1))  (hq : pc + 1 = q) (g : Go l Z y code ml ret R Q k n h q Ls (.long (x - z) :: st)) : Go l Z y code ml ret R Q k n h pc Ls (.long z :: .long x :: st) := by
  subst hq; exact g.pure fun p e s m args below meth c K T L k' n' X hT t r => XT.lsub X.here K.1 rfl (hb K.2.1 hd) rfl  r
theorem Go.lmul {x z : Int64} (q : Nat) (hd : decode code pc = .ok (.lmul, 1))  (hq : pc + 1 = q) (g : Go l Z y code ml ret R Q k n h q Ls (.long (x * z) :: st)) : Go l Z y code ml ret R Q k n h pc Ls (.long z :: .long x :: st) := by
  subst hq; exact g.pure fun p e s m args below meth c K T L k' n' X hT t r => XT.lmul X.here K.1 rfl (hb K.2.1 hd) rfl  r
theorem Go.land {x z : Int64} (q : Nat) (hd : decode code pc = .ok (.land, 1))  (hq : pc + 1 = q) (g : Go l Z y code ml ret R Q k n h q Ls (.long (x &&& z) :: st)) : Go l Z y code ml ret R Q k n h pc Ls (.long z :: .long x :: st) := by
  subst hq; exact g.pure fun p e s m args below meth c K T L k' n' X hT t r => XT.land X.here K.1 rfl (hb K.2.1 hd) rfl  r
theorem Go.lor {x z : Int64} (q : Nat) (hd : decode code pc = .ok (.lor, 1))  (hq : pc + 1 = q) (g : Go l Z y code ml ret R Q k n h q Ls (.long (x ||| z) :: st)) : Go l Z y code ml ret R Q k n h pc Ls (.long z :: .long x :: st) := by
  subst hq; exact g.pure fun p e s m args below meth c K T L k' n' X hT t r => XT.lor X.here K.1 rfl (hb K.2.1 hd) rfl  r
theorem Go.lxor {x z : Int64} (q : Nat) (hd : decode code pc = .ok (.lxor, 1))  (hq : pc + 1 = q) (g : Go l Z y code ml ret R Q k n h q Ls (.long (x ^^^ z) :: st)) : Go l Z y code ml ret R Q k n h pc Ls (.long z :: .long x :: st) := by
  subst hq; exact g.pure fun p e s m args below meth c K T L k' n' X hT t r => XT.lxor X.here K.1 rfl (hb K.2.1 hd) rfl  r
theorem Go.ldiv {x z : Int64} (q : Nat) (hd : decode code pc = .ok (.ldiv, 1)) (hz : z ≠ 0) (hq : pc + 1 = q) (g : Go l Z y code ml ret R Q k n h q Ls (.long (x / z) :: st)) : Go l Z y code ml ret R Q k n h pc Ls (.long z :: .long x :: st) := by
  subst hq; exact g.pure fun p e s m args below meth c K T L k' n' X hT t r => XT.ldiv X.here K.1 rfl (hb K.2.1 hd) rfl hz r
theorem Go.lrem {x z : Int64} (q : Nat) (hd : decode code pc = .ok (.lrem, 1)) (hz : z ≠ 0) (hq : pc + 1 = q) (g : Go l Z y code ml ret R Q k n h q Ls (.long (x - (x / z) * z) :: st)) : Go l Z y code ml ret R Q k n h pc Ls (.long z :: .long x :: st) := by
  subst hq; exact g.pure fun p e s m args below meth c K T L k' n' X hT t r => XT.lrem X.here K.1 rfl (hb K.2.1 hd) rfl hz r
theorem Go.lneg {x : Int64} (q : Nat) (hd : decode code pc = .ok (.lneg, 1))  (hq : pc + 1 = q) (g : Go l Z y code ml ret R Q k n h q Ls (.long (-x) :: st)) : Go l Z y code ml ret R Q k n h pc Ls (.long x :: st) := by
  subst hq; exact g.pure fun p e s m args below meth c K T L k' n' X hT t r => XT.lneg X.here K.1 rfl (hb K.2.1 hd) rfl  r
theorem Go.lshl {x : Int64} {z : Int32} (q : Nat) (hd : decode code pc = .ok (.lshl, 1))  (hq : pc + 1 = q) (g : Go l Z y code ml ret R Q k n h q Ls (.long (x <<< (z.toInt64 &&& 63)) :: st)) : Go l Z y code ml ret R Q k n h pc Ls (.int z :: .long x :: st) := by
  subst hq; exact g.pure fun p e s m args below meth c K T L k' n' X hT t r => XT.lshl X.here K.1 rfl (hb K.2.1 hd) rfl  r
theorem Go.lshr {x : Int64} {z : Int32} (q : Nat) (hd : decode code pc = .ok (.lshr, 1))  (hq : pc + 1 = q) (g : Go l Z y code ml ret R Q k n h q Ls (.long (x >>> (z.toInt64 &&& 63)) :: st)) : Go l Z y code ml ret R Q k n h pc Ls (.int z :: .long x :: st) := by
  subst hq; exact g.pure fun p e s m args below meth c K T L k' n' X hT t r => XT.lshr X.here K.1 rfl (hb K.2.1 hd) rfl  r
theorem Go.lushr {x : Int64} {z : Int32} (q : Nat) (hd : decode code pc = .ok (.lushr, 1))  (hq : pc + 1 = q) (g : Go l Z y code ml ret R Q k n h q Ls (.long (XT.ushrL x z) :: st)) : Go l Z y code ml ret R Q k n h pc Ls (.int z :: .long x :: st) := by
  subst hq; exact g.pure fun p e s m args below meth c K T L k' n' X hT t r => XT.lushr X.here K.1 rfl (hb K.2.1 hd) rfl  r
theorem Go.lcmp {x z : Int64} (q : Nat) (hd : decode code pc = .ok (.lcmp, 1))  (hq : pc + 1 = q) (g : Go l Z y code ml ret R Q k n h q Ls (.int (XT.cmpL x z) :: st)) : Go l Z y code ml ret R Q k n h pc Ls (.long z :: .long x :: st) := by
  subst hq; exact g.pure fun p e s m args below meth c K T L k' n' X hT t r => XT.lcmp X.here K.1 rfl (hb K.2.1 hd) rfl  r
theorem Go.i2l {x : Int32} (q : Nat) (hd : decode code pc = .ok (.i2l, 1))  (hq : pc + 1 = q) (g : Go l Z y code ml ret R Q k n h q Ls (.long x.toInt64 :: st)) : Go l Z y code ml ret R Q k n h pc Ls (.int x :: st) := by
  subst hq; exact g.pure fun p e s m args below meth c K T L k' n' X hT t r => XT.i2l X.here K.1 rfl (hb K.2.1 hd) rfl  r
theorem Go.l2i {x : Int64} (q : Nat) (hd : decode code pc = .ok (.l2i, 1))  (hq : pc + 1 = q) (g : Go l Z y code ml ret R Q k n h q Ls (.int x.toInt32 :: st)) : Go l Z y code ml ret R Q k n h pc Ls (.long x :: st) := by
  subst hq; exact g.pure fun p e s m args below meth c K T L k' n' X hT t r => XT.l2i X.here K.1 rfl (hb K.2.1 hd) rfl  r
theorem Go.i2b {x : Int32} (q : Nat) (hd : decode code pc = .ok (.i2b, 1))  (hq : pc + 1 = q) (g : Go l Z y code ml ret R Q k n h q Ls (.int x.toInt8.toInt32 :: st)) : Go l Z y code ml ret R Q k n h pc Ls (.int x :: st) := by
  subst hq; exact g.pure fun p e s m args below meth c K T L k' n' X hT t r => XT.i2b X.here K.1 rfl (hb K.2.1 hd) rfl  r
theorem Go.i2c {x : Int32} (q : Nat) (hd : decode code pc = .ok (.i2c, 1))  (hq : pc + 1 = q) (g : Go l Z y code ml ret R Q k n h q Ls (.int x.toUInt32.toUInt16.toUInt32.toInt32 :: st)) : Go l Z y code ml ret R Q k n h pc Ls (.int x :: st) := by
  subst hq; exact g.pure fun p e s m args below meth c K T L k' n' X hT t r => XT.i2c X.here K.1 rfl (hb K.2.1 hd) rfl  r
theorem Go.i2s {x : Int32} (q : Nat) (hd : decode code pc = .ok (.i2s, 1))  (hq : pc + 1 = q) (g : Go l Z y code ml ret R Q k n h q Ls (.int x.toInt16.toInt32 :: st)) : Go l Z y code ml ret R Q k n h pc Ls (.int x :: st) := by
  subst hq; exact g.pure fun p e s m args below meth c K T L k' n' X hT t r => XT.i2s X.here K.1 rfl (hb K.2.1 hd) rfl  r
theorem Go.pop {x : Value} (q : Nat) (hd : decode code pc = .ok (.pop, 1)) (hc : x.category = 1) (hq : pc + 1 = q) (g : Go l Z y code ml ret R Q k n h q Ls (st)) : Go l Z y code ml ret R Q k n h pc Ls (x :: st) := by
  subst hq; exact g.pure fun p e s m args below meth c K T L k' n' X hT t r => XT.pop X.here K.1 rfl (hb K.2.1 hd) rfl hc r
theorem Go.dup {x : Value} (q : Nat) (hd : decode code pc = .ok (.dup, 1)) (hc : x.category = 1) (hq : pc + 1 = q) (g : Go l Z y code ml ret R Q k n h q Ls (x :: x :: st)) : Go l Z y code ml ret R Q k n h pc Ls (x :: st) := by
  subst hq; exact g.pure fun p e s m args below meth c K T L k' n' X hT t r => XS.dup X.here K.1 rfl (hb K.2.1 hd) rfl hc r
theorem Go.dupX1 {x z : Value} (q : Nat) (hd : decode code pc = .ok (.dup_x1, 1)) (hc : x.category = 1) (hc' : z.category = 1) (hq : pc + 1 = q) (g : Go l Z y code ml ret R Q k n h q Ls (x :: z :: x :: st)) : Go l Z y code ml ret R Q k n h pc Ls (x :: z :: st) := by
  subst hq; exact g.pure fun p e s m args below meth c K T L k' n' X hT t r => XT.dupX1 X.here K.1 rfl (hb K.2.1 hd) rfl hc hc' r
theorem Go.dup2 {x z : Value} (q : Nat) (hd : decode code pc = .ok (.dup2, 1)) (hc : x.category = 1) (hc' : z.category = 1) (hq : pc + 1 = q) (g : Go l Z y code ml ret R Q k n h q Ls (x :: z :: x :: z :: st)) : Go l Z y code ml ret R Q k n h pc Ls (x :: z :: st) := by
  subst hq; exact g.pure fun p e s m args below meth c K T L k' n' X hT t r => XT.dup2 X.here K.1 rfl (hb K.2.1 hd) rfl hc hc' r
theorem Go.dup2L {x : Int64} (q : Nat) (hd : decode code pc = .ok (.dup2, 1))  (hq : pc + 1 = q) (g : Go l Z y code ml ret R Q k n h q Ls (.long x :: .long x :: st)) : Go l Z y code ml ret R Q k n h pc Ls (.long x :: st) := by
  subst hq; exact g.pure fun p e s m args below meth c K T L k' n' X hT t r => XT.dup2L X.here K.1 rfl (hb K.2.1 hd) rfl  r
theorem Go.iconst {i : Int} (q : Nat) (v : Int32) (hd : decode code pc = .ok (.iconst i, 1)) (hv : Int32.ofInt i = v) (hq : pc + 1 = q) (g : Go l Z y code ml ret R Q k n h q Ls (.int v :: st)) : Go l Z y code ml ret R Q k n h pc Ls st := by
  subst hq; exact g.pure fun p e s m args below meth c K T L k' n' X hT t r => XT.iconstV X.here K.1 rfl v (hb K.2.1 hd) hv r
theorem Go.bipush {i : Int} (q : Nat) (v : Int32) (hd : decode code pc = .ok (.bipush i, 2)) (hv : (Int8.ofInt i).toInt32 = v) (hq : pc + 2 = q) (g : Go l Z y code ml ret R Q k n h q Ls (.int v :: st)) : Go l Z y code ml ret R Q k n h pc Ls st := by
  subst hq; exact g.pure fun p e s m args below meth c K T L k' n' X hT t r => XT.bipushV X.here K.1 rfl v (hb K.2.1 hd) hv r
theorem Go.sipush {i : Int} (q : Nat) (v : Int32) (hd : decode code pc = .ok (.sipush i, 3)) (hv : (Int16.ofInt i).toInt32 = v) (hq : pc + 3 = q) (g : Go l Z y code ml ret R Q k n h q Ls (.int v :: st)) : Go l Z y code ml ret R Q k n h pc Ls st := by
  subst hq; exact g.pure fun p e s m args below meth c K T L k' n' X hT t r => XT.sipushV X.here K.1 rfl v (hb K.2.1 hd) hv r
theorem Go.lconst {i : Fin 2} (q : Nat) (v : Int64) (hd : decode code pc = .ok (.lconst i, 1)) (hv : Int64.ofNat i = v) (hq : pc + 1 = q) (g : Go l Z y code ml ret R Q k n h q Ls (.long v :: st)) : Go l Z y code ml ret R Q k n h pc Ls st := by
  subst hq; exact g.pure fun p e s m args below meth c K T L k' n' X hT t r => XT.lconstV X.here K.1 rfl v (hb K.2.1 hd) hv r
theorem Go.aconst_null (q : Nat) (hd : decode code pc = .ok (.aconst_null, 1)) (hq : pc + 1 = q) (g : Go l Z y code ml ret R Q k n h q Ls (.null :: st)) : Go l Z y code ml ret R Q k n h pc Ls st := by
  subst hq; exact g.pure fun p e s m args below meth c K T L k' n' X hT t r => XS.aconstNull X.here K.1 rfl (hb K.2.1 hd) r
theorem Go.ldc {i : Nat} {v : Int32} (q : Nat) (hd : decode code pc = .ok (.ldc i, 2)) (w : (Cond.constant y.cls i v).before a0 Z = true) (hq : pc + 2 = q) (g : Go l Z y code ml ret R Q k n h q Ls (.int v :: st)) : Go l Z y code ml ret R Q k n h pc Ls st := by
  subst hq; exact g.pure fun p e s m args below meth c K T L k' n' X hT t r => X.ldcI K.1 K.2.2.2.1 (mvT K.2.2.1 w) rfl (hb K.2.1 hd) r
theorem Go.ldc_w {i : Nat} {v : Int32} (q : Nat) (hd : decode code pc = .ok (.ldc_w i, 3)) (w : (Cond.constant y.cls i v).before a0 Z = true) (hq : pc + 3 = q) (g : Go l Z y code ml ret R Q k n h q Ls (.int v :: st)) : Go l Z y code ml ret R Q k n h pc Ls st := by
  subst hq; exact g.pure fun p e s m args below meth c K T L k' n' X hT t r => X.ldcWI K.1 K.2.2.2.1 (mvT K.2.2.1 w) rfl (hb K.2.1 hd) r
theorem Go.ldc2_w {i : Nat} {v : Int64} (q : Nat) (hd : decode code pc = .ok (.ldc2_w i, 3)) (w : (Cond.constantLong y.cls i v).before a0 Z = true) (hq : pc + 3 = q) (g : Go l Z y code ml ret R Q k n h q Ls (.long v :: st)) : Go l Z y code ml ret R Q k n h pc Ls st := by
  subst hq; exact g.pure fun p e s m args below meth c K T L k' n' X hT t r => X.ldc2J K.1 K.2.2.2.1 (mvT K.2.2.1 w) rfl (hb K.2.1 hd) r
theorem Go.iload {i : Nat} {v : Int32} (q : Nat) (hd : decode code pc = .ok (.iload i, 2)) (hl : Ls[i]? = some (.val (.int v))) (hq : pc + 2 = q) (g : Go l Z y code ml ret R Q k n h q Ls (.int v :: st)) : Go l Z y code ml ret R Q k n h pc Ls st := by
  subst hq; exact g.pure fun p e s m args below meth c K T L k' n' X hT t r => XS.iload X.here K.1 rfl (hb K.2.1 hd) hl r
theorem Go.iload_n {i : Fin 4} {v : Int32} (q : Nat) (hd : decode code pc = .ok (.iload_n i, 1)) (hl : Ls[i.val]? = some (.val (.int v))) (hq : pc + 1 = q) (g : Go l Z y code ml ret R Q k n h q Ls (.int v :: st)) : Go l Z y code ml ret R Q k n h pc Ls st := by
  subst hq; exact g.pure fun p e s m args below meth c K T L k' n' X hT t r => XS.iloadN X.here K.1 rfl (hb K.2.1 hd) hl r
theorem Go.lload {i : Nat} {v : Int64} (q : Nat) (hd : decode code pc = .ok (.lload i, 2)) (hl : Ls[i]? = some (.val (.long v))) (hq : pc + 2 = q) (g : Go l Z y code ml ret R Q k n h q Ls (.long v :: st)) : Go l Z y code ml ret R Q k n h pc Ls st := by
  subst hq; exact g.pure fun p e s m args below meth c K T L k' n' X hT t r => XT.lload X.here K.1 rfl (hb K.2.1 hd) hl r
theorem Go.lload_n {i : Fin 4} {v : Int64} (q : Nat) (hd : decode code pc = .ok (.lload_n i, 1)) (hl : Ls[i.val]? = some (.val (.long v))) (hq : pc + 1 = q) (g : Go l Z y code ml ret R Q k n h q Ls (.long v :: st)) : Go l Z y code ml ret R Q k n h pc Ls st := by
  subst hq; exact g.pure fun p e s m args below meth c K T L k' n' X hT t r => XT.lloadN X.here K.1 rfl (hb K.2.1 hd) hl r
theorem Go.aload {i : Nat} {v : Value} (q : Nat) (hd : decode code pc = .ok (.aload i, 2)) (hl : Ls[i]? = some (.val v)) (hv : v.isRef = true) (hq : pc + 2 = q) (g : Go l Z y code ml ret R Q k n h q Ls (v :: st)) : Go l Z y code ml ret R Q k n h pc Ls st := by
  subst hq; exact g.pure fun p e s m args below meth c K T L k' n' X hT t r => XS.aload X.here K.1 rfl (hb K.2.1 hd) hl hv r
theorem Go.aload_n {i : Fin 4} {v : Value} (q : Nat) (hd : decode code pc = .ok (.aload_n i, 1)) (hl : Ls[i.val]? = some (.val v)) (hv : v.isRef = true) (hq : pc + 1 = q) (g : Go l Z y code ml ret R Q k n h q Ls (v :: st)) : Go l Z y code ml ret R Q k n h pc Ls st := by
  subst hq; exact g.pure fun p e s m args below meth c K T L k' n' X hT t r => XS.aloadN X.here K.1 rfl (hb K.2.1 hd) hl hv r
theorem Go.istore {i : Nat} {v : Int32} (q : Nat) (Ls' : Array Slot) (hd : decode code pc = .ok (.istore i, 2)) (hl : storeLocals Ls i (.int v) = some Ls') (hq : pc + 2 = q) (g : Go l Z y code ml ret R Q k n h q Ls' st) : Go l Z y code ml ret R Q k n h pc Ls (.int v :: st) := by
  subst hq; exact g.pure fun p e s m args below meth c K T L k' n' X hT t r => XS.istore X.here K.1 rfl (hb K.2.1 hd) rfl hl r
theorem Go.istore_n {i : Fin 4} {v : Int32} (q : Nat) (Ls' : Array Slot) (hd : decode code pc = .ok (.istore_n i, 1)) (hl : storeLocals Ls i.val (.int v) = some Ls') (hq : pc + 1 = q) (g : Go l Z y code ml ret R Q k n h q Ls' st) : Go l Z y code ml ret R Q k n h pc Ls (.int v :: st) := by
  subst hq; exact g.pure fun p e s m args below meth c K T L k' n' X hT t r => XS.istoreN X.here K.1 rfl (hb K.2.1 hd) rfl hl r
theorem Go.lstore {i : Nat} {v : Int64} (q : Nat) (Ls' : Array Slot) (hd : decode code pc = .ok (.lstore i, 2)) (hl : storeLocals Ls i (.long v) = some Ls') (hq : pc + 2 = q) (g : Go l Z y code ml ret R Q k n h q Ls' st) : Go l Z y code ml ret R Q k n h pc Ls (.long v :: st) := by
  subst hq; exact g.pure fun p e s m args below meth c K T L k' n' X hT t r => XT.lstore X.here K.1 rfl (hb K.2.1 hd) rfl hl r
theorem Go.lstore_n {i : Fin 4} {v : Int64} (q : Nat) (Ls' : Array Slot) (hd : decode code pc = .ok (.lstore_n i, 1)) (hl : storeLocals Ls i.val (.long v) = some Ls') (hq : pc + 1 = q) (g : Go l Z y code ml ret R Q k n h q Ls' st) : Go l Z y code ml ret R Q k n h pc Ls (.long v :: st) := by
  subst hq; exact g.pure fun p e s m args below meth c K T L k' n' X hT t r => XT.lstoreN X.here K.1 rfl (hb K.2.1 hd) rfl hl r
theorem Go.astore {i : Nat} {v : Value} (q : Nat) (Ls' : Array Slot) (hd : decode code pc = .ok (.astore i, 2)) (hv : v.isRef = true) (hl : storeLocals Ls i v = some Ls') (hq : pc + 2 = q) (g : Go l Z y code ml ret R Q k n h q Ls' st) : Go l Z y code ml ret R Q k n h pc Ls (v :: st) := by
  subst hq; exact g.pure fun p e s m args below meth c K T L k' n' X hT t r => XS.astore X.here K.1 rfl (hb K.2.1 hd) rfl hv hl r
theorem Go.astore_n {i : Fin 4} {v : Value} (q : Nat) (Ls' : Array Slot) (hd : decode code pc = .ok (.astore_n i, 1)) (hv : v.isRef = true) (hl : storeLocals Ls i.val v = some Ls') (hq : pc + 1 = q) (g : Go l Z y code ml ret R Q k n h q Ls' st) : Go l Z y code ml ret R Q k n h pc Ls (v :: st) := by
  subst hq; exact g.pure fun p e s m args below meth c K T L k' n' X hT t r => XS.astoreN X.here K.1 rfl (hb K.2.1 hd) rfl hv hl r
theorem Go.iinc {i : Nat} {cst : Int} {x : Int32} (q : Nat) (v : Int32) (Ls' : Array Slot) (hd : decode code pc = .ok (.iinc i cst, 3)) (hv : Int32.ofInt cst = v) (hl : Ls[i]? = some (.val (.int x))) (hl' : storeLocals Ls i (.int (x + v)) = some Ls') (hq : pc + 3 = q) (g : Go l Z y code ml ret R Q k n h q Ls' st) : Go l Z y code ml ret R Q k n h pc Ls st := by
  subst hq; exact g.pure fun p e s m args below meth c K T L k' n' X hT t r => XT.iincV X.here K.1 rfl v (hb K.2.1 hd) hv hl hl' r
theorem Go.goto {o : Int} (q : Nat) (hd : decode code pc = .ok (.goto o, 3)) (ho : 0 ≤ (pc : Int) + o) (hq : ((pc : Int) + o).toNat = q) (g : Go l Z y code ml ret R Q k n h q Ls st) : Go l Z y code ml ret R Q k n h pc Ls st :=
  g.pure fun p e s m args below meth c K T L k' n' X hT t r => XS.goto X.here K.1 rfl rfl (hb K.2.1 hd) ho hq r
theorem Go.icmp_eq {o : Int} {x z : Int32} (q1 q2 : Nat) (hd : decode code pc = .ok (.if_icmp .eq o, 3)) (ho : 0 ≤ (pc : Int) + o) (h1 : ((pc : Int) + o).toNat = q1) (h2 : pc + 3 = q2) (g1 : x = z → Go l Z y code ml ret R Q k n h q1 Ls st) (g2 : ¬ x = z → Go l Z y code ml ret R Q k n h q2 Ls st) : Go l Z y code ml ret R Q k n h pc Ls (.int z :: .int x :: st) := by
  subst h2
  by_cases hc : x = z
  · exact (g1 hc).pure fun p e s m args below meth c K T L k' n' X hT t r => XS.icmpYes X.here K.1 rfl rfl (hb K.2.1 hd) rfl (XT.ii_eq_t hc) ho h1 r
  · exact (g2 (by first | exact hc | exact Decidable.not_not.mp hc)).pure fun p e s m args below meth c K T L k' n' X hT t r => XS.icmpNo X.here K.1 rfl (hb K.2.1 hd) rfl (XT.ii_eq_f (by first | exact hc | exact Decidable.not_not.mp hc)) r
theorem Go.lcmp_eq {o : Int} {x z : Int64} (q1 q2 : Nat) (hd : decode code pc = .ok (.ifCond .eq o, 3)) (ho : 0 ≤ (pc : Int) + o) (h1 : ((pc : Int) + o).toNat = q1) (h2 : pc + 3 = q2) (g1 : x = z → Go l Z y code ml ret R Q k n h q1 Ls st) (g2 : ¬ x = z → Go l Z y code ml ret R Q k n h q2 Ls st) : Go l Z y code ml ret R Q k n h pc Ls (.int (XT.cmpL x z) :: st) := by
  subst h2
  by_cases hc : x = z
  · exact (g1 hc).pure fun p e s m args below meth c K T L k' n' X hT t r => XS.ifYes X.here K.1 rfl rfl (hb K.2.1 hd) rfl (XT.ll_eq_t hc) ho h1 r
  · exact (g2 (by first | exact hc | exact Decidable.not_not.mp hc)).pure fun p e s m args below meth c K T L k' n' X hT t r => XS.ifNo X.here K.1 rfl (hb K.2.1 hd) rfl (XT.ll_eq_f (by first | exact hc | exact Decidable.not_not.mp hc)) r
theorem Go.icmp_ne {o : Int} {x z : Int32} (q1 q2 : Nat) (hd : decode code pc = .ok (.if_icmp .ne o, 3)) (ho : 0 ≤ (pc : Int) + o) (h1 : ((pc : Int) + o).toNat = q1) (h2 : pc + 3 = q2) (g1 : ¬ x = z → Go l Z y code ml ret R Q k n h q1 Ls st) (g2 : x = z → Go l Z y code ml ret R Q k n h q2 Ls st) : Go l Z y code ml ret R Q k n h pc Ls (.int z :: .int x :: st) := by
  subst h2
  by_cases hc : ¬ x = z
  · exact (g1 hc).pure fun p e s m args below meth c K T L k' n' X hT t r => XS.icmpYes X.here K.1 rfl rfl (hb K.2.1 hd) rfl (XT.ii_ne_t hc) ho h1 r
  · exact (g2 (by first | exact hc | exact Decidable.not_not.mp hc)).pure fun p e s m args below meth c K T L k' n' X hT t r => XS.icmpNo X.here K.1 rfl (hb K.2.1 hd) rfl (XT.ii_ne_f (by first | exact hc | exact Decidable.not_not.mp hc)) r
theorem Go.lcmp_ne {o : Int} {x z : Int64} (q1 q2 : Nat) (hd : decode code pc = .ok (.ifCond .ne o, 3)) (ho : 0 ≤ (pc : Int) + o) (h1 : ((pc : Int) + o).toNat = q1) (h2 : pc + 3 = q2) (g1 : ¬ x = z → Go l Z y code ml ret R Q k n h q1 Ls st) (g2 : x = z → Go l Z y code ml ret R Q k n h q2 Ls st) : Go l Z y code ml ret R Q k n h pc Ls (.int (XT.cmpL x z) :: st) := by
  subst h2
  by_cases hc : ¬ x = z
  · exact (g1 hc).pure fun p e s m args below meth c K T L k' n' X hT t r => XS.ifYes X.here K.1 rfl rfl (hb K.2.1 hd) rfl (XT.ll_ne_t hc) ho h1 r
  · exact (g2 (by first | exact hc | exact Decidable.not_not.mp hc)).pure fun p e s m args below meth c K T L k' n' X hT t r => XS.ifNo X.here K.1 rfl (hb K.2.1 hd) rfl (XT.ll_ne_f (by first | exact hc | exact Decidable.not_not.mp hc)) r
theorem Go.icmp_lt {o : Int} {x z : Int32} (q1 q2 : Nat) (hd : decode code pc = .ok (.if_icmp .lt o, 3)) (ho : 0 ≤ (pc : Int) + o) (h1 : ((pc : Int) + o).toNat = q1) (h2 : pc + 3 = q2) (g1 : x < z → Go l Z y code ml ret R Q k n h q1 Ls st) (g2 : ¬ x < z → Go l Z y code ml ret R Q k n h q2 Ls st) : Go l Z y code ml ret R Q k n h pc Ls (.int z :: .int x :: st) := by
  subst h2
  by_cases hc : x < z
  · exact (g1 hc).pure fun p e s m args below meth c K T L k' n' X hT t r => XS.icmpYes X.here K.1 rfl rfl (hb K.2.1 hd) rfl (XT.ii_lt_t hc) ho h1 r
  · exact (g2 (by first | exact hc | exact Decidable.not_not.mp hc)).pure fun p e s m args below meth c K T L k' n' X hT t r => XS.icmpNo X.here K.1 rfl (hb K.2.1 hd) rfl (XT.ii_lt_f (by first | exact hc | exact Decidable.not_not.mp hc)) r
theorem Go.lcmp_lt {o : Int} {x z : Int64} (q1 q2 : Nat) (hd : decode code pc = .ok (.ifCond .lt o, 3)) (ho : 0 ≤ (pc : Int) + o) (h1 : ((pc : Int) + o).toNat = q1) (h2 : pc + 3 = q2) (g1 : x < z → Go l Z y code ml ret R Q k n h q1 Ls st) (g2 : ¬ x < z → Go l Z y code ml ret R Q k n h q2 Ls st) : Go l Z y code ml ret R Q k n h pc Ls (.int (XT.cmpL x z) :: st) := by
  subst h2
  by_cases hc : x < z
  · exact (g1 hc).pure fun p e s m args below meth c K T L k' n' X hT t r => XS.ifYes X.here K.1 rfl rfl (hb K.2.1 hd) rfl (XT.ll_lt_t hc) ho h1 r
  · exact (g2 (by first | exact hc | exact Decidable.not_not.mp hc)).pure fun p e s m args below meth c K T L k' n' X hT t r => XS.ifNo X.here K.1 rfl (hb K.2.1 hd) rfl (XT.ll_lt_f (by first | exact hc | exact Decidable.not_not.mp hc)) r
theorem Go.icmp_ge {o : Int} {x z : Int32} (q1 q2 : Nat) (hd : decode code pc = .ok (.if_icmp .ge o, 3)) (ho : 0 ≤ (pc : Int) + o) (h1 : ((pc : Int) + o).toNat = q1) (h2 : pc + 3 = q2) (g1 : ¬ x < z → Go l Z y code ml ret R Q k n h q1 Ls st) (g2 : x < z → Go l Z y code ml ret R Q k n h q2 Ls st) : Go l Z y code ml ret R Q k n h pc Ls (.int z :: .int x :: st) := by
  subst h2
  by_cases hc : ¬ x < z
  · exact (g1 hc).pure fun p e s m args below meth c K T L k' n' X hT t r => XS.icmpYes X.here K.1 rfl rfl (hb K.2.1 hd) rfl (XT.ii_ge_t hc) ho h1 r
  · exact (g2 (by first | exact hc | exact Decidable.not_not.mp hc)).pure fun p e s m args below meth c K T L k' n' X hT t r => XS.icmpNo X.here K.1 rfl (hb K.2.1 hd) rfl (XT.ii_ge_f (by first | exact hc | exact Decidable.not_not.mp hc)) r
theorem Go.lcmp_ge {o : Int} {x z : Int64} (q1 q2 : Nat) (hd : decode code pc = .ok (.ifCond .ge o, 3)) (ho : 0 ≤ (pc : Int) + o) (h1 : ((pc : Int) + o).toNat = q1) (h2 : pc + 3 = q2) (g1 : ¬ x < z → Go l Z y code ml ret R Q k n h q1 Ls st) (g2 : x < z → Go l Z y code ml ret R Q k n h q2 Ls st) : Go l Z y code ml ret R Q k n h pc Ls (.int (XT.cmpL x z) :: st) := by
  subst h2
  by_cases hc : ¬ x < z
  · exact (g1 hc).pure fun p e s m args below meth c K T L k' n' X hT t r => XS.ifYes X.here K.1 rfl rfl (hb K.2.1 hd) rfl (XT.ll_ge_t hc) ho h1 r
  · exact (g2 (by first | exact hc | exact Decidable.not_not.mp hc)).pure fun p e s m args below meth c K T L k' n' X hT t r => XS.ifNo X.here K.1 rfl (hb K.2.1 hd) rfl (XT.ll_ge_f (by first | exact hc | exact Decidable.not_not.mp hc)) r
theorem Go.icmp_gt {o : Int} {x z : Int32} (q1 q2 : Nat) (hd : decode code pc = .ok (.if_icmp .gt o, 3)) (ho : 0 ≤ (pc : Int) + o) (h1 : ((pc : Int) + o).toNat = q1) (h2 : pc + 3 = q2) (g1 : z < x → Go l Z y code ml ret R Q k n h q1 Ls st) (g2 : ¬ z < x → Go l Z y code ml ret R Q k n h q2 Ls st) : Go l Z y code ml ret R Q k n h pc Ls (.int z :: .int x :: st) := by
  subst h2
  by_cases hc : z < x
  · exact (g1 hc).pure fun p e s m args below meth c K T L k' n' X hT t r => XS.icmpYes X.here K.1 rfl rfl (hb K.2.1 hd) rfl (XT.ii_gt_t hc) ho h1 r
  · exact (g2 (by first | exact hc | exact Decidable.not_not.mp hc)).pure fun p e s m args below meth c K T L k' n' X hT t r => XS.icmpNo X.here K.1 rfl (hb K.2.1 hd) rfl (XT.ii_gt_f (by first | exact hc | exact Decidable.not_not.mp hc)) r
theorem Go.lcmp_gt {o : Int} {x z : Int64} (q1 q2 : Nat) (hd : decode code pc = .ok (.ifCond .gt o, 3)) (ho : 0 ≤ (pc : Int) + o) (h1 : ((pc : Int) + o).toNat = q1) (h2 : pc + 3 = q2) (g1 : z < x → Go l Z y code ml ret R Q k n h q1 Ls st) (g2 : ¬ z < x → Go l Z y code ml ret R Q k n h q2 Ls st) : Go l Z y code ml ret R Q k n h pc Ls (.int (XT.cmpL x z) :: st) := by
  subst h2
  by_cases hc : z < x
  · exact (g1 hc).pure fun p e s m args below meth c K T L k' n' X hT t r => XS.ifYes X.here K.1 rfl rfl (hb K.2.1 hd) rfl (XT.ll_gt_t hc) ho h1 r
  · exact (g2 (by first | exact hc | exact Decidable.not_not.mp hc)).pure fun p e s m args below meth c K T L k' n' X hT t r => XS.ifNo X.here K.1 rfl (hb K.2.1 hd) rfl (XT.ll_gt_f (by first | exact hc | exact Decidable.not_not.mp hc)) r
theorem Go.icmp_le {o : Int} {x z : Int32} (q1 q2 : Nat) (hd : decode code pc = .ok (.if_icmp .le o, 3)) (ho : 0 ≤ (pc : Int) + o) (h1 : ((pc : Int) + o).toNat = q1) (h2 : pc + 3 = q2) (g1 : ¬ z < x → Go l Z y code ml ret R Q k n h q1 Ls st) (g2 : z < x → Go l Z y code ml ret R Q k n h q2 Ls st) : Go l Z y code ml ret R Q k n h pc Ls (.int z :: .int x :: st) := by
  subst h2
  by_cases hc : ¬ z < x
  · exact (g1 hc).pure fun p e s m args below meth c K T L k' n' X hT t r => XS.icmpYes X.here K.1 rfl rfl (hb K.2.1 hd) rfl (XT.ii_le_t hc) ho h1 r
  · exact (g2 (by first | exact hc | exact Decidable.not_not.mp hc)).pure fun p e s m args below meth c K T L k' n' X hT t r => XS.icmpNo X.here K.1 rfl (hb K.2.1 hd) rfl (XT.ii_le_f (by first | exact hc | exact Decidable.not_not.mp hc)) r
theorem Go.lcmp_le {o : Int} {x z : Int64} (q1 q2 : Nat) (hd : decode code pc = .ok (.ifCond .le o, 3)) (ho : 0 ≤ (pc : Int) + o) (h1 : ((pc : Int) + o).toNat = q1) (h2 : pc + 3 = q2) (g1 : ¬ z < x → Go l Z y code ml ret R Q k n h q1 Ls st) (g2 : z < x → Go l Z y code ml ret R Q k n h q2 Ls st) : Go l Z y code ml ret R Q k n h pc Ls (.int (XT.cmpL x z) :: st) := by
  subst h2
  by_cases hc : ¬ z < x
  · exact (g1 hc).pure fun p e s m args below meth c K T L k' n' X hT t r => XS.ifYes X.here K.1 rfl rfl (hb K.2.1 hd) rfl (XT.ll_le_t hc) ho h1 r
  · exact (g2 (by first | exact hc | exact Decidable.not_not.mp hc)).pure fun p e s m args below meth c K T L k' n' X hT t r => XS.ifNo X.here K.1 rfl (hb K.2.1 hd) rfl (XT.ll_le_f (by first | exact hc | exact Decidable.not_not.mp hc)) r
theorem if0_eq_t {x : Int32} (h : x = 0) : ifCond.holds .eq x = true := by
  have e : ifCond.holds .eq x = if_icmp.holds .eq x 0 := rfl
  rw [e]; exact XT.ii_eq_t h
theorem if0_eq_f {x : Int32} (h : ¬ x = 0) : ifCond.holds .eq x = false := by
  have e : ifCond.holds .eq x = if_icmp.holds .eq x 0 := rfl
  rw [e]; exact XT.ii_eq_f h
theorem Go.if_eq {o : Int} {x : Int32} (q1 q2 : Nat) (hd : decode code pc = .ok (.ifCond .eq o, 3)) (ho : 0 ≤ (pc : Int) + o) (h1 : ((pc : Int) + o).toNat = q1) (h2 : pc + 3 = q2) (g1 : x = 0 → Go l Z y code ml ret R Q k n h q1 Ls st) (g2 : ¬ x = 0 → Go l Z y code ml ret R Q k n h q2 Ls st) : Go l Z y code ml ret R Q k n h pc Ls (.int x :: st) := by
  subst h2
  by_cases hc : x = 0
  · exact (g1 hc).pure fun p e s m args below meth c K T L k' n' X hT t r => XS.ifYes X.here K.1 rfl rfl (hb K.2.1 hd) rfl (if0_eq_t hc) ho h1 r
  · exact (g2 (by first | exact hc | exact Decidable.not_not.mp hc)).pure fun p e s m args below meth c K T L k' n' X hT t r => XS.ifNo X.here K.1 rfl (hb K.2.1 hd) rfl (if0_eq_f (by first | exact hc | exact Decidable.not_not.mp hc)) r
theorem if0_ne_t {x : Int32} (h : ¬ x = 0) : ifCond.holds .ne x = true := by
  have e : ifCond.holds .ne x = if_icmp.holds .ne x 0 := rfl
  rw [e]; exact XT.ii_ne_t h
theorem if0_ne_f {x : Int32} (h : x = 0) : ifCond.holds .ne x = false := by
  have e : ifCond.holds .ne x = if_icmp.holds .ne x 0 := rfl
  rw [e]; exact XT.ii_ne_f h
theorem Go.if_ne {o : Int} {x : Int32} (q1 q2 : Nat) (hd : decode code pc = .ok (.ifCond .ne o, 3)) (ho : 0 ≤ (pc : Int) + o) (h1 : ((pc : Int) + o).toNat = q1) (h2 : pc + 3 = q2) (g1 : ¬ x = 0 → Go l Z y code ml ret R Q k n h q1 Ls st) (g2 : x = 0 → Go l Z y code ml ret R Q k n h q2 Ls st) : Go l Z y code ml ret R Q k n h pc Ls (.int x :: st) := by
  subst h2
  by_cases hc : ¬ x = 0
  · exact (g1 hc).pure fun p e s m args below meth c K T L k' n' X hT t r => XS.ifYes X.here K.1 rfl rfl (hb K.2.1 hd) rfl (if0_ne_t hc) ho h1 r
  · exact (g2 (by first | exact hc | exact Decidable.not_not.mp hc)).pure fun p e s m args below meth c K T L k' n' X hT t r => XS.ifNo X.here K.1 rfl (hb K.2.1 hd) rfl (if0_ne_f (by first | exact hc | exact Decidable.not_not.mp hc)) r
theorem if0_lt_t {x : Int32} (h : x < 0) : ifCond.holds .lt x = true := by
  have e : ifCond.holds .lt x = if_icmp.holds .lt x 0 := rfl
  rw [e]; exact XT.ii_lt_t h
theorem if0_lt_f {x : Int32} (h : ¬ x < 0) : ifCond.holds .lt x = false := by
  have e : ifCond.holds .lt x = if_icmp.holds .lt x 0 := rfl
  rw [e]; exact XT.ii_lt_f h
theorem Go.if_lt {o : Int} {x : Int32} (q1 q2 : Nat) (hd : decode code pc = .ok (.ifCond .lt o, 3)) (ho : 0 ≤ (pc : Int) + o) (h1 : ((pc : Int) + o).toNat = q1) (h2 : pc + 3 = q2) (g1 : x < 0 → Go l Z y code ml ret R Q k n h q1 Ls st) (g2 : ¬ x < 0 → Go l Z y code ml ret R Q k n h q2 Ls st) : Go l Z y code ml ret R Q k n h pc Ls (.int x :: st) := by
  subst h2
  by_cases hc : x < 0
  · exact (g1 hc).pure fun p e s m args below meth c K T L k' n' X hT t r => XS.ifYes X.here K.1 rfl rfl (hb K.2.1 hd) rfl (if0_lt_t hc) ho h1 r
  · exact (g2 (by first | exact hc | exact Decidable.not_not.mp hc)).pure fun p e s m args below meth c K T L k' n' X hT t r => XS.ifNo X.here K.1 rfl (hb K.2.1 hd) rfl (if0_lt_f (by first | exact hc | exact Decidable.not_not.mp hc)) r
theorem if0_ge_t {x : Int32} (h : ¬ x < 0) : ifCond.holds .ge x = true := by
  have e : ifCond.holds .ge x = if_icmp.holds .ge x 0 := rfl
  rw [e]; exact XT.ii_ge_t h
theorem if0_ge_f {x : Int32} (h : x < 0) : ifCond.holds .ge x = false := by
  have e : ifCond.holds .ge x = if_icmp.holds .ge x 0 := rfl
  rw [e]; exact XT.ii_ge_f h
theorem Go.if_ge {o : Int} {x : Int32} (q1 q2 : Nat) (hd : decode code pc = .ok (.ifCond .ge o, 3)) (ho : 0 ≤ (pc : Int) + o) (h1 : ((pc : Int) + o).toNat = q1) (h2 : pc + 3 = q2) (g1 : ¬ x < 0 → Go l Z y code ml ret R Q k n h q1 Ls st) (g2 : x < 0 → Go l Z y code ml ret R Q k n h q2 Ls st) : Go l Z y code ml ret R Q k n h pc Ls (.int x :: st) := by
  subst h2
  by_cases hc : ¬ x < 0
  · exact (g1 hc).pure fun p e s m args below meth c K T L k' n' X hT t r => XS.ifYes X.here K.1 rfl rfl (hb K.2.1 hd) rfl (if0_ge_t hc) ho h1 r
  · exact (g2 (by first | exact hc | exact Decidable.not_not.mp hc)).pure fun p e s m args below meth c K T L k' n' X hT t r => XS.ifNo X.here K.1 rfl (hb K.2.1 hd) rfl (if0_ge_f (by first | exact hc | exact Decidable.not_not.mp hc)) r
theorem if0_gt_t {x : Int32} (h : 0 < x) : ifCond.holds .gt x = true := by
  have e : ifCond.holds .gt x = if_icmp.holds .gt x 0 := rfl
  rw [e]; exact XT.ii_gt_t h
theorem if0_gt_f {x : Int32} (h : ¬ 0 < x) : ifCond.holds .gt x = false := by
  have e : ifCond.holds .gt x = if_icmp.holds .gt x 0 := rfl
  rw [e]; exact XT.ii_gt_f h
theorem Go.if_gt {o : Int} {x : Int32} (q1 q2 : Nat) (hd : decode code pc = .ok (.ifCond .gt o, 3)) (ho : 0 ≤ (pc : Int) + o) (h1 : ((pc : Int) + o).toNat = q1) (h2 : pc + 3 = q2) (g1 : 0 < x → Go l Z y code ml ret R Q k n h q1 Ls st) (g2 : ¬ 0 < x → Go l Z y code ml ret R Q k n h q2 Ls st) : Go l Z y code ml ret R Q k n h pc Ls (.int x :: st) := by
  subst h2
  by_cases hc : 0 < x
  · exact (g1 hc).pure fun p e s m args below meth c K T L k' n' X hT t r => XS.ifYes X.here K.1 rfl rfl (hb K.2.1 hd) rfl (if0_gt_t hc) ho h1 r
  · exact (g2 (by first | exact hc | exact Decidable.not_not.mp hc)).pure fun p e s m args below meth c K T L k' n' X hT t r => XS.ifNo X.here K.1 rfl (hb K.2.1 hd) rfl (if0_gt_f (by first | exact hc | exact Decidable.not_not.mp hc)) r
theorem if0_le_t {x : Int32} (h : ¬ 0 < x) : ifCond.holds .le x = true := by
  have e : ifCond.holds .le x = if_icmp.holds .le x 0 := rfl
  rw [e]; exact XT.ii_le_t h
theorem if0_le_f {x : Int32} (h : 0 < x) : ifCond.holds .le x = false := by
  have e : ifCond.holds .le x = if_icmp.holds .le x 0 := rfl
  rw [e]; exact XT.ii_le_f h
theorem Go.if_le {o : Int} {x : Int32} (q1 q2 : Nat) (hd : decode code pc = .ok (.ifCond .le o, 3)) (ho : 0 ≤ (pc : Int) + o) (h1 : ((pc : Int) + o).toNat = q1) (h2 : pc + 3 = q2) (g1 : ¬ 0 < x → Go l Z y code ml ret R Q k n h q1 Ls st) (g2 : 0 < x → Go l Z y code ml ret R Q k n h q2 Ls st) : Go l Z y code ml ret R Q k n h pc Ls (.int x :: st) := by
  subst h2
  by_cases hc : ¬ 0 < x
  · exact (g1 hc).pure fun p e s m args below meth c K T L k' n' X hT t r => XS.ifYes X.here K.1 rfl rfl (hb K.2.1 hd) rfl (if0_le_t hc) ho h1 r
  · exact (g2 (by first | exact hc | exact Decidable.not_not.mp hc)).pure fun p e s m args below meth c K T L k' n' X hT t r => XS.ifNo X.here K.1 rfl (hb K.2.1 hd) rfl (if0_le_f (by first | exact hc | exact Decidable.not_not.mp hc)) r
theorem Go.ifnull_no {o : Int} {b : Addr} (q : Nat) (hd : decode code pc = .ok (.ifnull o, 3)) (hq : pc + 3 = q) (g : Go l Z y code ml ret R Q k n h q Ls st) : Go l Z y code ml ret R Q k n h pc Ls (.ref b :: st) := by
  subst hq; exact g.pure fun p e s m args below meth c K T L k' n' X hT t r => XS.ifnullNo X.here K.1 rfl (hb K.2.1 hd) rfl r
theorem Go.ifnull_yes {o : Int} (q : Nat) (hd : decode code pc = .ok (.ifnull o, 3)) (ho : 0 ≤ (pc : Int) + o) (hq : ((pc : Int) + o).toNat = q) (g : Go l Z y code ml ret R Q k n h q Ls st) : Go l Z y code ml ret R Q k n h pc Ls (.null :: st) :=
  g.pure fun p e s m args below meth c K T L k' n' X hT t r => XS.ifnullYes X.here K.1 rfl rfl (hb K.2.1 hd) rfl ho hq r
theorem Go.ifnonnull_yes {o : Int} {b : Addr} (q : Nat) (hd : decode code pc = .ok (.ifnonnull o, 3)) (ho : 0 ≤ (pc : Int) + o) (hq : ((pc : Int) + o).toNat = q) (g : Go l Z y code ml ret R Q k n h q Ls st) : Go l Z y code ml ret R Q k n h pc Ls (.ref b :: st) :=
  g.pure fun p e s m args below meth c K T L k' n' X hT t r => XT.ifnonnullYes X.here K.1 rfl rfl (hb K.2.1 hd) rfl ho hq r
theorem Go.ifnonnull_no {o : Int} (q : Nat) (hd : decode code pc = .ok (.ifnonnull o, 3)) (hq : pc + 3 = q) (g : Go l Z y code ml ret R Q k n h q Ls st) : Go l Z y code ml ret R Q k n h pc Ls (.null :: st) := by
  subst hq; exact g.pure fun p e s m args below meth c K T L k' n' X hT t r => XT.ifnonnullNo X.here K.1 rfl (hb K.2.1 hd) rfl r
theorem Go.acmp {cd : ACond} {o : Int} {x z : Value} (q : Nat) (same : Bool) (hd : decode code pc = .ok (.if_acmp cd o, 3)) (h1 : x.isRef = true) (h2 : z.isRef = true) (hs : decide (x = z) = same) (ho : 0 ≤ (pc : Int) + o) (hq : q = if acV cd same = true then ((pc : Int) + o).toNat else pc + 3) (g : Go l Z y code ml ret R Q k n h q Ls st) : Go l Z y code ml ret R Q k n h pc Ls (z :: x :: st) :=
  g.pure fun p e s m args below meth c K T L k' n' X hT t r => Jvm.RoadKit.acmp X K.1 rfl h1 h2 rfl (hb K.2.1 hd) rfl hs ho hq r

theorem Go.retV {w : Value} {t : FieldType} {i : Instr} (hd : decode code pc = .ok (i, 1)) (hret : ret = some t) (hn : narrow t w = w)
    (hi : (i = .ireturn ∧ (t = .int ∨ t = .boolean ∨ t = .byte ∨ t = .char ∨ t = .short) ∧ ∃ z, w = .int z) ∨ (i = .lreturn ∧ t = .long ∧ ∃ z, w = .long z) ∨ (i = .dreturn ∧ t = .double ∧ ∃ z, w = .double z) ∨ (i = .freturn ∧ t = .float ∧ ∃ z, w = .float z) ∨ (i = .areturn ∧ t.isReference = true ∧ w.isRef = true))
    (hk : k ≤ R.cells) (hN : n ≤ R.slots) (hQ : Q (some w) h) : Go l Z y code ml ret R Q k n h pc Ls (w :: st) := by
  intro p e s m args below meth c K T L k' n' X h1 h2 N hT
  refine ⟨some w, T, L, k', n', X, Nat.le_trans h1 hk, Nat.le_trans h2 hN, N, hT ▸ hQ, fun e => ?_, fun fs hl => ?_⟩
  · rw [hret] at e; cases e
  · exact retOut X K.1 (K.2.2.2.2.2.1.trans hret) hn hi (hb K.2.1 hd) hl
theorem Go.ireturn {z : Int32} {P : Int32 → Heap → Prop} (hd : decode code pc = .ok (.ireturn, 1)) (hret : ret = some .int) (hk : k ≤ R.cells) (hN : n ≤ R.slots) (hP : P z h) : Go l Z y code ml ret R (QI P) k n h pc Ls (.int z :: st) :=
  Go.retV hd hret rfl (Or.inl ⟨rfl, Or.inl rfl, z, rfl⟩) hk hN ⟨z, rfl, hP⟩
theorem Go.lreturn {z : Int64} {P : Int64 → Heap → Prop} (hd : decode code pc = .ok (.lreturn, 1)) (hret : ret = some .long) (hk : k ≤ R.cells) (hN : n ≤ R.slots) (hP : P z h) : Go l Z y code ml ret R (QJ P) k n h pc Ls (.long z :: st) :=
  Go.retV hd hret rfl (Or.inr (Or.inl ⟨rfl, rfl, z, rfl⟩)) hk hN ⟨z, rfl, hP⟩
theorem Go.areturn {z : Value} {t : FieldType} {P : Value → Heap → Prop} (hd : decode code pc = .ok (.areturn, 1)) (hret : ret = some t) (ht : t.isReference = true) (hz : z.isRef = true) (hk : k ≤ R.cells) (hN : n ≤ R.slots) (hP : P z h) : Go l Z y code ml ret R (QR P) k n h pc Ls (z :: st) := by
  refine Go.retV hd hret ?_ (Or.inr (Or.inr (Or.inr (Or.inr ⟨rfl, ht, hz⟩)))) hk hN ⟨z, rfl, hP⟩
  cases t <;> cases z <;> first | rfl | (simp [Value.isRef] at hz)
/-- a boolean, byte, char or short: narrowed -/
theorem Go.nreturn {z z' : Int32} {t : FieldType} {P : Int32 → Heap → Prop} (hd : decode code pc = .ok (.ireturn, 1)) (hret : ret = some t) (ht : t = .boolean ∨ t = .byte ∨ t = .char ∨ t = .short) (hz : nar t z = z') (hk : k ≤ R.cells) (hN : n ≤ R.slots) (hP : P z' h) : Go l Z y code ml ret R (QI P) k n h pc Ls (.int z :: st) := by
  subst hz
  intro p e s m args below meth c K T L k' n' X h1 h2 N hT
  refine ⟨some (.int (nar t z)), T, L, k', n', X, Nat.le_trans h1 hk, Nat.le_trans h2 hN, N, ⟨_, rfl, hT ▸ hP⟩, fun e => ?_, fun fs hl => ?_⟩
  · rw [hret] at e; cases e
  · exact retN X K.1 (K.2.2.2.2.2.1.trans hret) ht (hb K.2.1 hd) hl
theorem Go.vreturn {P : Heap → Prop} (hd : decode code pc = .ok (.return_, 1)) (hret : ret = none) (hk : k ≤ R.cells) (hN : n ≤ R.slots) (hP : P h) : Go l Z y code ml ret R (QV P) k n h pc Ls [] := by
  intro p e s m args below meth c K T L k' n' X h1 h2 N hT
  exact ⟨none, T, L, k', n', X, Nat.le_trans h1 hk, Nat.le_trans h2 hN, N, ⟨rfl, hT ▸ hP⟩, fun _ => rfl, fun fs hl => X.returnOut K.1 (K.2.2.2.2.2.1.trans hret) (hb K.2.1 hd) hl⟩
/-- the whole body, as a contract -/
theorem Go.met {as' : Array Value} (hx : plainFor y = true) (hent : ∀ m, entryFrame m as' ml = mkF m 0 Ls []) (G : Go l Z y code ml ret R Q 0 0 h 0 Ls []) (ws : List Jvm.Cond) :
    MetFree l y (head1 (Jvm.Cond.code y code ml ret :: ws) R) (fun a U => a = as' ∧ Z.Warmed39 U.vm ∧ U.heap = h) (fun _ _ _ _ _ => True) (fun _ U o U' => ∃ v L, o = .returned v ∧ (Q v U'.heap ∧ Fr Z.heap.size L) ∧ FrameEnd U o U' L R.cells R.slots) := by
  refine MetFree.of_bodySF hx hisR ?_
  intro p e s m args below meth c s₁ Bd hml hP hK
  obtain ⟨rfl, hZ, hh⟩ := hP
  have X0 : Stand p l e R s m args below meth c s₁ [] 0 0 := Stand.of_body Bd
  have e0 : s₁.heap = h := by rw [← hh, Bd.state]; rfl
  have hnm := (name_of_methodNamed Bd.named Bd.method).1
  obtain ⟨v, T', L', k'', n'', X', b1, b2, N', q, hv, stp⟩ := G p e s m args below meth c ⟨Bd.exec, Bd.bytes, hZ, findClass_of_methodNamed Bd.named, hml, Bd.returns, Bd.notSynchronized, hnm⟩ s₁ [] 0 0 X0 (Nat.le_refl _) (Nat.le_refl _) (Fr.nil _) e0
  obtain ⟨fs, hr, hrun, hended, hW, hsame⟩ := X'.leave (v := v) (fun hh => hv (by rw [← Bd.returns]; exact hh))
  refine ⟨_, _, castTop (hent m) (stp fs hr), hrun, hended, v, L', rfl, ⟨q, N'⟩, ⟨_, rfl⟩, hW, hsame.mono b1 b2⟩


theorem Go.getfield {i : Nat} {O nm d : String} {a : Addr} {v : Value} (q : Nat) (hd : decode code pc = .ok (.getfield i, 3)) (w : (Cond.fieldLink y.cls i O nm d).before a0 Z = true) (F : Fld Z h a O nm d v) (hq : pc + 3 = q) (g : Go l Z y code ml ret R Q k n h q Ls (v :: st)) : Go l Z y code ml ret R Q k n h pc Ls (.ref a :: st) := by
  subst hq
  refine Go.move (P := fun h' => h' = h) (kk := k) (nn := n) (fun h' e => e ▸ g) ?_
  intro p e s m args below meth c K T L k' n' X h1 h2 N hT
  obtain ⟨T', X', e', s'⟩ := getF X K.1 K.2.2.1 K.2.2.2.1 (host := "") (Or.inl w) Via.refl hT F (g := mkF m pc Ls (.ref a :: st)) rfl rfl (hb K.2.1 hd)
  exact ⟨T', L, k', n', X', h1, h2, N, e', s'⟩
theorem Go.getfieldN {i : Nat} {O nm d host : String} {a : Addr} {v : Value} (q : Nat) (hd : decode code pc = .ok (.getfield i, 3)) (w : (Cond.fieldLinkNest y.cls i O nm d host).before a0 Z = true) (F : Fld Z h a O nm d v) (hq : pc + 3 = q) (g : Go l Z y code ml ret R Q k n h q Ls (v :: st)) : Go l Z y code ml ret R Q k n h pc Ls (.ref a :: st) := by
  subst hq
  refine Go.move (P := fun h' => h' = h) (kk := k) (nn := n) (fun h' e => e ▸ g) ?_
  intro p e s m args below meth c K T L k' n' X h1 h2 N hT
  obtain ⟨T', X', e', s'⟩ := getF X K.1 K.2.2.1 K.2.2.2.1 (host := host) (Or.inr w) Via.refl hT F (g := mkF m pc Ls (.ref a :: st)) rfl rfl (hb K.2.1 hd)
  exact ⟨T', L, k', n', X', h1, h2, N, e', s'⟩
theorem Go.getfieldU {i : Nat} {R0 O nm d : String} {a : Addr} {v : Value} (q : Nat) (hd : decode code pc = .ok (.getfield i, 3)) (w : (Cond.fieldLink y.cls i R0 nm d).before a0 Z = true) (via : Via Z R0 O nm d) (F : Fld Z h a O nm d v) (hq : pc + 3 = q) (g : Go l Z y code ml ret R Q k n h q Ls (v :: st)) : Go l Z y code ml ret R Q k n h pc Ls (.ref a :: st) := by
  subst hq
  refine Go.move (P := fun h' => h' = h) (kk := k) (nn := n) (fun h' e => e ▸ g) ?_
  intro p e s m args below meth c K T L k' n' X h1 h2 N hT
  obtain ⟨T', X', e', s'⟩ := getF X K.1 K.2.2.1 K.2.2.2.1 (host := "") (Or.inl w) via hT F (g := mkF m pc Ls (.ref a :: st)) rfl rfl (hb K.2.1 hd)
  exact ⟨T', L, k', n', X', h1, h2, N, e', s'⟩
theorem Go.getstatic {i : Nat} {O nm d : String} {v : Value} (q : Nat) (hd : decode code pc = .ok (.getstatic i, 3)) (w : (Cond.fieldLink y.cls i O nm d).before a0 Z = true) (F : Sta Z h O nm d v) (hq : pc + 3 = q) (g : Go l Z y code ml ret R Q k n h q Ls (v :: st)) : Go l Z y code ml ret R Q k n h pc Ls st := by
  subst hq
  refine Go.move (P := fun h' => h' = h) (kk := k) (nn := n) (fun h' e => e ▸ g) ?_
  intro p e s m args below meth c K T L k' n' X h1 h2 N hT
  obtain ⟨T', X', e', s'⟩ := getS X K.1 K.2.2.1 (host := "") K.2.2.2.1 w Via.refl hT F (g := mkF m pc Ls st) rfl (hb K.2.1 hd)
  exact ⟨T', L, k', n', X', h1, h2, N, e', s'⟩
theorem Go.putfield {i kk : Nat} {C O nm d : String} {ty : FieldType} {a : Addr} {v old : Value} (q : Nat) (hd : decode code pc = .ok (.putfield i, 3)) (w : (Cond.fieldLink y.cls i O nm d).before a0 Z = true) (F : Fld Z h a O nm d old) (E : Exa Z h a C) (hL : (Cond.lays C O nm d).before a0 Z = true ∨ ((Cond.laysFinal C O nm d).before a0 Z = true ∧ y.cls = O ∧ y.name = "<init>"))
    (wi : (Cond.instantiable C kk).before a0 Z = true) (hty : parseFieldDescriptor d = some ty) (hn : narrow ty v = v) (hf : fits ty v = true) (hge : Z.heap.size ≤ a) (hq : pc + 3 = q)
    (g : ∀ h', Wr h h' a (Jvm.RoadKit.slotOf Z O nm d) v → Go l Z y code ml ret R Q k n h' q Ls st) : Go l Z y code ml ret R Q k n h pc Ls (v :: .ref a :: st) := by
  subst hq
  refine Go.move (P := fun h' => Wr h h' a (Jvm.RoadKit.slotOf Z O nm d) v) (kk := k) (nn := n) g ?_
  intro p e s m args below meth c K T L k' n' X h1 h2 N hT
  obtain ⟨T', h', X', e', W', s'⟩ := putF X K.1 K.2.2.1 K.2.2.2.1 (host := "") (Or.inl w) Via.refl hT F E (hL.imp id fun ⟨a1, a2, a3⟩ => ⟨a1, a2, K.2.2.2.2.2.2.2.trans a3⟩) wi hty hn hf (g := mkF m pc Ls (v :: .ref a :: st)) rfl rfl (hb K.2.1 hd)
  exact ⟨T', _, k', n', X', h1, h2, Fr.snoc X' N hge, e' ▸ W', s'⟩
theorem Go.putfieldU {i kk : Nat} {R0 C O nm d : String} {ty : FieldType} {a : Addr} {v old : Value} (q : Nat) (hd : decode code pc = .ok (.putfield i, 3)) (w : (Cond.fieldLink y.cls i R0 nm d).before a0 Z = true) (via : Via Z R0 O nm d) (F : Fld Z h a O nm d old) (E : Exa Z h a C) (hL : (Cond.lays C O nm d).before a0 Z = true ∨ ((Cond.laysFinal C O nm d).before a0 Z = true ∧ y.cls = O ∧ y.name = "<init>"))
    (wi : (Cond.instantiable C kk).before a0 Z = true) (hty : parseFieldDescriptor d = some ty) (hn : narrow ty v = v) (hf : fits ty v = true) (hge : Z.heap.size ≤ a) (hq : pc + 3 = q)
    (g : ∀ h', Wr h h' a (Jvm.RoadKit.slotOf Z O nm d) v → Go l Z y code ml ret R Q k n h' q Ls st) : Go l Z y code ml ret R Q k n h pc Ls (v :: .ref a :: st) := by
  subst hq
  refine Go.move (P := fun h' => Wr h h' a (Jvm.RoadKit.slotOf Z O nm d) v) (kk := k) (nn := n) g ?_
  intro p e s m args below meth c K T L k' n' X h1 h2 N hT
  obtain ⟨T', h', X', e', W', s'⟩ := putF X K.1 K.2.2.1 K.2.2.2.1 (host := "") (Or.inl w) via hT F E (hL.imp id fun ⟨a1, a2, a3⟩ => ⟨a1, a2, K.2.2.2.2.2.2.2.trans a3⟩) wi hty hn hf (g := mkF m pc Ls (v :: .ref a :: st)) rfl rfl (hb K.2.1 hd)
  exact ⟨T', _, k', n', X', h1, h2, Fr.snoc X' N hge, e' ▸ W', s'⟩
/-- a field that narrows (boolean, byte, char, short) -/
theorem Go.putfieldN {i kk : Nat} {C O nm d : String} {ty : FieldType} {a : Addr} {v v' old : Value} (q : Nat) (hd : decode code pc = .ok (.putfield i, 3)) (w : (Cond.fieldLink y.cls i O nm d).before a0 Z = true) (F : Fld Z h a O nm d old) (E : Exa Z h a C) (hL : (Cond.lays C O nm d).before a0 Z = true ∨ ((Cond.laysFinal C O nm d).before a0 Z = true ∧ y.cls = O ∧ y.name = "<init>"))
    (wi : (Cond.instantiable C kk).before a0 Z = true) (hty : parseFieldDescriptor d = some ty) (hn : narrow ty v = v') (hf : fits ty v' = true) (hge : Z.heap.size ≤ a) (hq : pc + 3 = q)
    (g : ∀ h', Wr h h' a (Jvm.RoadKit.slotOf Z O nm d) v' → Go l Z y code ml ret R Q k n h' q Ls st) : Go l Z y code ml ret R Q k n h pc Ls (v :: .ref a :: st) := by
  subst hq
  refine Go.move (P := fun h' => Wr h h' a (Jvm.RoadKit.slotOf Z O nm d) v') (kk := k) (nn := n) g ?_
  intro p e s m args below meth c K T L k' n' X h1 h2 N hT
  obtain ⟨T', h', X', e', W', s'⟩ := putFN X K.1 K.2.2.1 K.2.2.2.1 w Via.refl hT F E (hL.imp id fun ⟨a1, a2, a3⟩ => ⟨a1, a2, K.2.2.2.2.2.2.2.trans a3⟩) wi hty hn hf (g := mkF m pc Ls (v :: .ref a :: st)) rfl rfl (hb K.2.1 hd)
  exact ⟨T', _, k', n', X', h1, h2, Fr.snoc X' N hge, e' ▸ W', s'⟩
theorem Go.new {i sz : Nat} {C : String} (q : Nat) (hd : decode code pc = .ok (.new i, 3)) (w : (Cond.classLink y.cls i C).before a0 Z = true) (wi : (Cond.instantiable C sz).before a0 Z = true) (wz : (Cond.initialized C).before a0 Z = true) (hk : k + 1 ≤ R.cells) (hN : n + sz ≤ R.slots) (hq : pc + 3 = q)
    (g : ∀ (a : Addr) h', a = h.size → Ext h h' → Exa Z h' a C → (∀ {O nm d : String} {ty : FieldType}, Laid Z a0 C O nm d → parseFieldDescriptor d = some ty → Fld Z h' a O nm d (defaultValue ty)) → Go l Z y code ml ret R Q (k + 1) (n + sz) h' q Ls (.ref a :: st)) : Go l Z y code ml ret R Q k n h pc Ls st := by
  subst hq
  refine Go.move (P := fun h' => Ext h h' ∧ Exa Z h' h.size C ∧ (∀ {O nm d : String} {ty : FieldType}, Laid Z a0 C O nm d → parseFieldDescriptor d = some ty → Fld Z h' h.size O nm d (defaultValue ty))) (kk := k + 1) (nn := n + sz) (fun h' p => g h.size h' rfl p.1 p.2.1 p.2.2) ?_
  intro p e s m args below meth c K T L k' n' X h1 h2 N hT
  obtain ⟨T', h', X', e', E', A', D', -, s'⟩ := newO X K.1 K.2.2.1 K.2.2.2.1 w wi wz hT (g := mkF m pc Ls st) rfl (hb K.2.1 hd) (Nat.le_trans (Nat.add_le_add_right h1 1) hk) (Nat.le_trans (Nat.add_le_add_right h2 sz) hN)
  subst e'
  exact ⟨T', L, k' + 1, n' + sz, X', Nat.add_le_add_right h1 1, Nat.add_le_add_right h2 sz, N, ⟨E', A', D'⟩, s'⟩
theorem Go.initO {i : Nat} {a : Addr} (W : Nat) (q : Nat) (hd : decode code pc = .ok (.invokespecial i, 3)) (w1 : (Cond.methodLink y.cls i Lib.objectInit).before a0 Z = true) (w2 : (Cond.instanceMethod Lib.objectInit).before a0 Z = true) (w3 : (Cond.code Lib.objectInit ⟨#[0xb1]⟩ 1 none).before a0 Z = true)
    (hsz : Ls.size = ml) (hf : 1 ≤ R.frames) (hW : (st.map fun v => v.category).sum ≤ W) (hl : W + 12 ≤ R.locals) (hq : pc + 3 = q) (g : Go l Z y code ml ret R Q k n h q Ls st) : Go l Z y code ml ret R Q k n h pc Ls (.ref a :: st) := by
  subst hq
  refine Go.move (P := fun h' => h' = h) (kk := k) (nn := n) (fun h' e => e ▸ g) ?_
  intro p e s m args below meth c K T L k' n' X h1 h2 N hT
  obtain ⟨T', X', e', s'⟩ := Jvm.RoadKit.initO X K.1 K.2.2.1 K.2.2.2.1 w1 w2 w3 hT (g := mkF m pc Ls (.ref a :: st)) rfl (hsz.trans K.2.2.2.2.1.symm) rfl (hb K.2.1 hd) hf (W := W) (by show 2 * 0 + _ ≤ _; rw [Nat.mul_zero, Nat.zero_add]; exact hW) hl
  exact ⟨T', L, k', n', X', h1, h2, N, e', s'⟩


section Calls
variable {y' : MethodName} {code' : ByteArray} {ml' : Nat} {ret' : Option FieldType} {R' : Room} {Q' : Option Value → Heap → Prop} {Ls' : Array Slot} {i W : Nat}
theorem Go.callS (argsL : List Value) (rest : List Value) (q : Nat) (hd : decode code pc = .ok (.invokestatic i, 3)) (w1 : (Cond.methodLink y.cls i y').before a0 Z = true) (w2 : (Cond.static y').before a0 Z = true) (w3 : (Cond.initialized y'.cls).before a0 Z = true) (w4 : (Cond.code y' code' ml' ret').before a0 Z = true)
    (hpl : plainFor y' = true) (hy : y'.cls ≠ "java/lang/invoke/MethodHandle" ∧ y'.cls ≠ "java/lang/invoke/VarHandle") (hlen : ∀ sig, parseMethodDescriptor y'.desc = some sig → argsL.length = sig.parameters.length) (hst : st = argsL.reverse ++ rest) (hent : ∀ m, entryFrame m argsL.toArray ml' = mkF m 0 Ls' [])
    (G : Go l Z y' code' ml' ret' R' Q' 0 0 h 0 Ls' []) (W : Nat) (hsz : Ls.size = ml) (hW : (rest.map fun v => v.category).sum ≤ W) (hf : R'.frames + 1 ≤ R.frames) (hl : W + (ml' + 11) + R'.locals ≤ R.locals) (hk : k + R'.cells ≤ R.cells) (hN : n + R'.slots ≤ R.slots) (hq : pc + 3 = q)
    (g : ∀ v h', Q' v h' → Go l Z y code ml ret R Q (k + R'.cells) (n + R'.slots) h' q Ls (v.toList ++ rest)) : Go l Z y code ml ret R Q k n h pc Ls st := by
  subst hq
  intro p e s m args below meth c K T L k' n' X h1 h2 N hT
  obtain ⟨v, vm₁, ⟨T', L', k'', n''⟩, -, X', ⟨Lc, ⟨hQ, N'⟩, e1, e2, e3⟩, s'⟩ := Jvm.LawKit.callS X K.1 K.2.2.2.1 (mvT K.2.2.1 w1) (mvT K.2.2.1 w2) (mvT K.2.2.1 w3) (mvT K.2.2.1 w4) hy (backOf (W := W) (Q := fun v h L => Q' v h ∧ Fr Z.heap.size L) (Go.met hpl hent G []) K.2.2.1 w4 w3 hf hl) (g := mkF m pc Ls st) rfl (hsz.trans K.2.2.2.2.1.symm) (argsL := argsL) (rest := rest) hlen hst (by show 2 * 0 + _ ≤ _; rw [Nat.mul_zero, Nat.zero_add]; exact hW) (hb K.2.1 hd) (fun _ _ => ⟨rfl, hT, Nat.le_trans (Nat.add_le_add_right h1 _) hk, Nat.le_trans (Nat.add_le_add_right h2 _) hN⟩)
  dsimp only [Pt.U, Pt.locs, Pt.cells, Pt.slots] at X' e1 e2 e3 s' hQ
  subst e1 e2 e3
  obtain ⟨v2, T2, L2, k2, n2, X2, b1, b2, N2, q2, hv, stp⟩ := g v _ hQ p e s m args below meth c K T' _ _ _ X' (Nat.add_le_add_right h1 _) (Nat.add_le_add_right h2 _) (Fr.app N N') rfl
  exact ⟨v2, T2, L2, k2, n2, X2, b1, b2, N2, q2, hv, fun fs hl => s' _ (stp fs hl)⟩
theorem Go.callC {a : Addr} (argsL : List Value) (rest : List Value) (q : Nat) (hd : decode code pc = .ok (.invokespecial i, 3)) (hy1 : y'.name = "<init>") (w1 : (Cond.methodLink y.cls i y').before a0 Z = true) (w2 : (Cond.instanceMethod y').before a0 Z = true) (w3 : (Cond.initialized y'.cls).before a0 Z = true) (w4 : (Cond.code y' code' ml' none).before a0 Z = true)
    (hpl : plainFor y' = true) (hy : y'.cls ≠ "java/lang/invoke/MethodHandle" ∧ y'.cls ≠ "java/lang/invoke/VarHandle") (hlen : ∀ sig, parseMethodDescriptor y'.desc = some sig → argsL.length = sig.parameters.length) (hst : st = argsL.reverse ++ .ref a :: rest) (hent : ∀ m, entryFrame m (.ref a :: argsL).toArray ml' = mkF m 0 Ls' [])
    (P' : Heap → Prop) (G : Go l Z y' code' ml' none R' (QV P') 0 0 h 0 Ls' []) (W : Nat) (hsz : Ls.size = ml) (hW : (rest.map fun v => v.category).sum ≤ W) (hf : R'.frames + 1 ≤ R.frames) (hl : W + (ml' + 11) + R'.locals ≤ R.locals) (hk : k + R'.cells ≤ R.cells) (hN : n + R'.slots ≤ R.slots) (hq : pc + 3 = q)
    (g : ∀ h', P' h' → Go l Z y code ml ret R Q (k + R'.cells) (n + R'.slots) h' q Ls rest) : Go l Z y code ml ret R Q k n h pc Ls st := by
  subst hq
  intro p e s m args below meth c K T L k' n' X h1 h2 N hT
  obtain ⟨v, vm₁, ⟨T', L', k'', n''⟩, -, X', ⟨Lc, ⟨⟨rfl, hQ⟩, N'⟩, e1, e2, e3⟩, s'⟩ := X.specialBack K.1 hy1 K.2.2.2.1 (mvT K.2.2.1 w1) (mvT K.2.2.1 w2) (mvT K.2.2.1 w4) hy (backOf (W := W) (Q := fun v h L => QV P' v h ∧ Fr Z.heap.size L) (Go.met hpl hent G []) K.2.2.1 w4 w3 hf hl) (g := mkF m pc Ls st) rfl (hsz.trans K.2.2.2.2.1.symm) (Steps.refl _) (a := a) (argsL := argsL) (rest := rest) hlen hst (by show 2 * 0 + _ ≤ _; rw [Nat.mul_zero, Nat.zero_add]; exact hW) (hb K.2.1 hd) (fun _ _ => ⟨rfl, hT, Nat.le_trans (Nat.add_le_add_right h1 _) hk, Nat.le_trans (Nat.add_le_add_right h2 _) hN⟩)
  dsimp only [Pt.U, Pt.locs, Pt.cells, Pt.slots] at X' e1 e2 e3 s' hQ
  subst e1 e2 e3
  obtain ⟨v2, T2, L2, k2, n2, X2, b1, b2, N2, q2, hv, stp⟩ := g _ hQ p e s m args below meth c K T' _ _ _ X' (Nat.add_le_add_right h1 _) (Nat.add_le_add_right h2 _) (Fr.app N N') rfl
  exact ⟨v2, T2, L2, k2, n2, X2, b1, b2, N2, q2, hv, fun fs hl => s'.trans (stp fs hl)⟩
theorem Go.callV {a : Addr} {C : String} (argsL : List Value) (rest : List Value) (q : Nat) (hd : decode code pc = .ok (.invokevirtual i, 3)) (w1 : (Cond.methodLink y.cls i y').before a0 Z = true) (w1' : (Cond.declares y').before a0 Z = true) (w1s : (Cond.selects C y' y').before a0 Z = true) (w2 : (Cond.instanceMethod y').before a0 Z = true) (w3 : (Cond.initialized y'.cls).before a0 Z = true) (w4 : (Cond.code y' code' ml' ret').before a0 Z = true) (E : Exa Z h a C)
    (hpl : plainFor y' = true) (hy : y'.cls ≠ "java/lang/invoke/MethodHandle" ∧ y'.cls ≠ "java/lang/invoke/VarHandle") (hlen : ∀ sig, parseMethodDescriptor y'.desc = some sig → argsL.length = sig.parameters.length) (hst : st = argsL.reverse ++ .ref a :: rest) (hent : ∀ m, entryFrame m (.ref a :: argsL).toArray ml' = mkF m 0 Ls' [])
    (G : Go l Z y' code' ml' ret' R' Q' 0 0 h 0 Ls' []) (W : Nat) (hsz : Ls.size = ml) (hW : (rest.map fun v => v.category).sum ≤ W) (hf : R'.frames + 1 ≤ R.frames) (hl : W + (ml' + 11) + R'.locals ≤ R.locals) (hk : k + R'.cells ≤ R.cells) (hN : n + R'.slots ≤ R.slots) (hq : pc + 3 = q)
    (g : ∀ v h', Q' v h' → Go l Z y code ml ret R Q (k + R'.cells) (n + R'.slots) h' q Ls (v.toList ++ rest)) : Go l Z y code ml ret R Q k n h pc Ls st := by
  subst hq
  intro p e s m args below meth c K T L k' n' X h1 h2 N hT
  obtain ⟨cq, kq, qa, qb, qc⟩ := isOf K.2.2.1 hT E
  obtain ⟨v, vm₁, ⟨T', L', k'', n''⟩, -, X', ⟨Lc, ⟨hQ, N'⟩, e1, e2, e3⟩, s'⟩ := X.virtualBack K.1 K.2.2.2.1 (mvT K.2.2.1 w1) (mvT K.2.2.1 w1') (notFace_of_selects (args := #[]) (mvT K.2.2.1 w1s)) (mvT K.2.2.1 w1s) (mvT K.2.2.1 w2) hy (backOf (W := W) (Q := fun v h L => Q' v h ∧ Fr Z.heap.size L) (Go.met hpl hent G []) K.2.2.1 w4 w3 hf hl) qa qc (g := mkF m pc Ls st) rfl (hsz.trans K.2.2.2.2.1.symm) (Steps.refl _) (argsL := argsL) (rest := rest) hlen hst (by show 2 * 0 + _ ≤ _; rw [Nat.mul_zero, Nat.zero_add]; exact hW) (hb K.2.1 hd) (fun _ _ => ⟨rfl, hT, Nat.le_trans (Nat.add_le_add_right h1 _) hk, Nat.le_trans (Nat.add_le_add_right h2 _) hN⟩)
  dsimp only [Pt.U, Pt.locs, Pt.cells, Pt.slots] at X' e1 e2 e3 s' hQ
  subst e1 e2 e3
  obtain ⟨v2, T2, L2, k2, n2, X2, b1, b2, N2, q2, hv, stp⟩ := g v _ hQ p e s m args below meth c K T' _ _ _ X' (Nat.add_le_add_right h1 _) (Nat.add_le_add_right h2 _) (Fr.app N N') rfl
  exact ⟨v2, T2, L2, k2, n2, X2, b1, b2, N2, q2, hv, fun fs hl => s'.trans (stp fs hl)⟩
theorem Go.callCp {a : Addr} (argsL : List Value) (rest : List Value) (q : Nat) (hd : decode code pc = .ok (.invokespecial i, 3)) (hy1 : y'.name = "<init>") (w1 : (Cond.methodLink y.cls i y').before a0 Z = true) (w2 : (Cond.instanceMethod y').before a0 Z = true) (w3 : (Cond.initialized y'.cls).before a0 Z = true) (w4 : (Cond.code y' code' ml' none).before a0 Z = true)
    (hpl : plainFor y' = true) (hy : y'.cls ≠ "java/lang/invoke/MethodHandle" ∧ y'.cls ≠ "java/lang/invoke/VarHandle") (hlen : ∀ sig, parseMethodDescriptor y'.desc = some sig → argsL.length = sig.parameters.length) (hst : st = argsL.reverse ++ .ref a :: rest) (hent : ∀ m, entryFrame m (.ref a :: argsL).toArray ml' = mkF m 0 Ls' [])
    (G : Go l Z y' code' ml' none R' (QV fun h' => h' = h) 0 0 h 0 Ls' []) (W : Nat) (hsz : Ls.size = ml) (hW : (rest.map fun v => v.category).sum ≤ W) (hf : R'.frames + 1 ≤ R.frames) (hl : W + (ml' + 11) + R'.locals ≤ R.locals) (hk : k + R'.cells ≤ R.cells) (hN : n + R'.slots ≤ R.slots) (hq : pc + 3 = q)
    (g : Go l Z y code ml ret R Q (k + R'.cells) (n + R'.slots) h q Ls rest) : Go l Z y code ml ret R Q k n h pc Ls st :=
  Go.callC argsL rest q hd hy1 w1 w2 w3 w4 hpl hy hlen hst hent _ G W hsz hW hf hl hk hN hq (fun h' e => by subst e; exact g)
end Calls

section
variable {y' : MethodName} {code' : ByteArray} {ml' : Nat} {ret' : Option FieldType} {R' : Room} {Ls' : Array Slot} {i : Nat}
theorem Go.callSI (argsL : List Value) (rest : List Value) (q : Nat) (hd : decode code pc = .ok (.invokestatic i, 3)) (w1 : (Cond.methodLink y.cls i y').before a0 Z = true) (w2 : (Cond.static y').before a0 Z = true) (w3 : (Cond.initialized y'.cls).before a0 Z = true) (w4 : (Cond.code y' code' ml' ret').before a0 Z = true)
    (hpl : plainFor y' = true) (hy : y'.cls ≠ "java/lang/invoke/MethodHandle" ∧ y'.cls ≠ "java/lang/invoke/VarHandle") (hlen : ∀ sig, parseMethodDescriptor y'.desc = some sig → argsL.length = sig.parameters.length) (hst : st = argsL.reverse ++ rest) (hent : ∀ m, entryFrame m argsL.toArray ml' = mkF m 0 Ls' [])
    (P' : Int32 → Heap → Prop) (G : Go l Z y' code' ml' ret' R' (QI P') 0 0 h 0 Ls' []) (W : Nat) (hsz : Ls.size = ml) (hW : (rest.map fun v => v.category).sum ≤ W) (hf : R'.frames + 1 ≤ R.frames) (hl : W + (ml' + 11) + R'.locals ≤ R.locals) (hk : k + R'.cells ≤ R.cells) (hN : n + R'.slots ≤ R.slots) (hq : pc + 3 = q)
    (g : ∀ (z : Int32) h', P' z h' → Go l Z y code ml ret R Q (k + R'.cells) (n + R'.slots) h' q Ls (.int z :: rest)) : Go l Z y code ml ret R Q k n h pc Ls st := by
  exact Go.callS argsL rest q hd w1 w2 w3 w4 hpl hy hlen hst hent G W hsz hW hf hl hk hN hq (fun v h' hq' => by obtain ⟨z, e, hp⟩ := hq'; subst e; exact g z h' hp)
end
section
variable {y' : MethodName} {code' : ByteArray} {ml' : Nat} {ret' : Option FieldType} {R' : Room} {Ls' : Array Slot} {i : Nat}
theorem Go.callSIp (argsL : List Value) (rest : List Value) (q : Nat) (hd : decode code pc = .ok (.invokestatic i, 3)) (w1 : (Cond.methodLink y.cls i y').before a0 Z = true) (w2 : (Cond.static y').before a0 Z = true) (w3 : (Cond.initialized y'.cls).before a0 Z = true) (w4 : (Cond.code y' code' ml' ret').before a0 Z = true)
    (hpl : plainFor y' = true) (hy : y'.cls ≠ "java/lang/invoke/MethodHandle" ∧ y'.cls ≠ "java/lang/invoke/VarHandle") (hlen : ∀ sig, parseMethodDescriptor y'.desc = some sig → argsL.length = sig.parameters.length) (hst : st = argsL.reverse ++ rest) (hent : ∀ m, entryFrame m argsL.toArray ml' = mkF m 0 Ls' [])
    (F : Int32) (G : Go l Z y' code' ml' ret' R' (QI fun z h' => z = F ∧ h' = h) 0 0 h 0 Ls' []) (W : Nat) (hsz : Ls.size = ml) (hW : (rest.map fun v => v.category).sum ≤ W) (hf : R'.frames + 1 ≤ R.frames) (hl : W + (ml' + 11) + R'.locals ≤ R.locals) (hk : k + R'.cells ≤ R.cells) (hN : n + R'.slots ≤ R.slots) (hq : pc + 3 = q)
    (g : Go l Z y code ml ret R Q (k + R'.cells) (n + R'.slots) h q Ls (.int F :: rest)) : Go l Z y code ml ret R Q k n h pc Ls st := by
  exact Go.callS argsL rest q hd w1 w2 w3 w4 hpl hy hlen hst hent G W hsz hW hf hl hk hN hq (fun v h' hq' => by obtain ⟨z, e, hp, hh⟩ := hq'; subst e; subst hh; rw [hp]; exact g)
end
section
variable {y' : MethodName} {code' : ByteArray} {ml' : Nat} {ret' : Option FieldType} {R' : Room} {Ls' : Array Slot} {i : Nat}
theorem Go.callSIe (argsL : List Value) (rest : List Value) (q : Nat) (hd : decode code pc = .ok (.invokestatic i, 3)) (w1 : (Cond.methodLink y.cls i y').before a0 Z = true) (w2 : (Cond.static y').before a0 Z = true) (w3 : (Cond.initialized y'.cls).before a0 Z = true) (w4 : (Cond.code y' code' ml' ret').before a0 Z = true)
    (hpl : plainFor y' = true) (hy : y'.cls ≠ "java/lang/invoke/MethodHandle" ∧ y'.cls ≠ "java/lang/invoke/VarHandle") (hlen : ∀ sig, parseMethodDescriptor y'.desc = some sig → argsL.length = sig.parameters.length) (hst : st = argsL.reverse ++ rest) (hent : ∀ m, entryFrame m argsL.toArray ml' = mkF m 0 Ls' [])
    (F : Int32) (P' : Heap → Prop) (G : Go l Z y' code' ml' ret' R' (QI fun z h' => z = F ∧ P' h') 0 0 h 0 Ls' []) (W : Nat) (hsz : Ls.size = ml) (hW : (rest.map fun v => v.category).sum ≤ W) (hf : R'.frames + 1 ≤ R.frames) (hl : W + (ml' + 11) + R'.locals ≤ R.locals) (hk : k + R'.cells ≤ R.cells) (hN : n + R'.slots ≤ R.slots) (hq : pc + 3 = q)
    (g : ∀ h', P' h' → Go l Z y code ml ret R Q (k + R'.cells) (n + R'.slots) h' q Ls (.int F :: rest)) : Go l Z y code ml ret R Q k n h pc Ls st := by
  exact Go.callS argsL rest q hd w1 w2 w3 w4 hpl hy hlen hst hent G W hsz hW hf hl hk hN hq (fun v h' hq' => by obtain ⟨z, e, hp, hh⟩ := hq'; subst e; rw [hp]; exact g h' hh)
end
section
variable {y' : MethodName} {code' : ByteArray} {ml' : Nat} {ret' : Option FieldType} {R' : Room} {Ls' : Array Slot} {i : Nat}
theorem Go.callSJ (argsL : List Value) (rest : List Value) (q : Nat) (hd : decode code pc = .ok (.invokestatic i, 3)) (w1 : (Cond.methodLink y.cls i y').before a0 Z = true) (w2 : (Cond.static y').before a0 Z = true) (w3 : (Cond.initialized y'.cls).before a0 Z = true) (w4 : (Cond.code y' code' ml' ret').before a0 Z = true)
    (hpl : plainFor y' = true) (hy : y'.cls ≠ "java/lang/invoke/MethodHandle" ∧ y'.cls ≠ "java/lang/invoke/VarHandle") (hlen : ∀ sig, parseMethodDescriptor y'.desc = some sig → argsL.length = sig.parameters.length) (hst : st = argsL.reverse ++ rest) (hent : ∀ m, entryFrame m argsL.toArray ml' = mkF m 0 Ls' [])
    (P' : Int64 → Heap → Prop) (G : Go l Z y' code' ml' ret' R' (QJ P') 0 0 h 0 Ls' []) (W : Nat) (hsz : Ls.size = ml) (hW : (rest.map fun v => v.category).sum ≤ W) (hf : R'.frames + 1 ≤ R.frames) (hl : W + (ml' + 11) + R'.locals ≤ R.locals) (hk : k + R'.cells ≤ R.cells) (hN : n + R'.slots ≤ R.slots) (hq : pc + 3 = q)
    (g : ∀ (z : Int64) h', P' z h' → Go l Z y code ml ret R Q (k + R'.cells) (n + R'.slots) h' q Ls (.long z :: rest)) : Go l Z y code ml ret R Q k n h pc Ls st := by
  exact Go.callS argsL rest q hd w1 w2 w3 w4 hpl hy hlen hst hent G W hsz hW hf hl hk hN hq (fun v h' hq' => by obtain ⟨z, e, hp⟩ := hq'; subst e; exact g z h' hp)
end
section
variable {y' : MethodName} {code' : ByteArray} {ml' : Nat} {ret' : Option FieldType} {R' : Room} {Ls' : Array Slot} {i : Nat}
theorem Go.callSJp (argsL : List Value) (rest : List Value) (q : Nat) (hd : decode code pc = .ok (.invokestatic i, 3)) (w1 : (Cond.methodLink y.cls i y').before a0 Z = true) (w2 : (Cond.static y').before a0 Z = true) (w3 : (Cond.initialized y'.cls).before a0 Z = true) (w4 : (Cond.code y' code' ml' ret').before a0 Z = true)
    (hpl : plainFor y' = true) (hy : y'.cls ≠ "java/lang/invoke/MethodHandle" ∧ y'.cls ≠ "java/lang/invoke/VarHandle") (hlen : ∀ sig, parseMethodDescriptor y'.desc = some sig → argsL.length = sig.parameters.length) (hst : st = argsL.reverse ++ rest) (hent : ∀ m, entryFrame m argsL.toArray ml' = mkF m 0 Ls' [])
    (F : Int64) (G : Go l Z y' code' ml' ret' R' (QJ fun z h' => z = F ∧ h' = h) 0 0 h 0 Ls' []) (W : Nat) (hsz : Ls.size = ml) (hW : (rest.map fun v => v.category).sum ≤ W) (hf : R'.frames + 1 ≤ R.frames) (hl : W + (ml' + 11) + R'.locals ≤ R.locals) (hk : k + R'.cells ≤ R.cells) (hN : n + R'.slots ≤ R.slots) (hq : pc + 3 = q)
    (g : Go l Z y code ml ret R Q (k + R'.cells) (n + R'.slots) h q Ls (.long F :: rest)) : Go l Z y code ml ret R Q k n h pc Ls st := by
  exact Go.callS argsL rest q hd w1 w2 w3 w4 hpl hy hlen hst hent G W hsz hW hf hl hk hN hq (fun v h' hq' => by obtain ⟨z, e, hp, hh⟩ := hq'; subst e; subst hh; rw [hp]; exact g)
end
section
variable {y' : MethodName} {code' : ByteArray} {ml' : Nat} {ret' : Option FieldType} {R' : Room} {Ls' : Array Slot} {i : Nat}
theorem Go.callSJe (argsL : List Value) (rest : List Value) (q : Nat) (hd : decode code pc = .ok (.invokestatic i, 3)) (w1 : (Cond.methodLink y.cls i y').before a0 Z = true) (w2 : (Cond.static y').before a0 Z = true) (w3 : (Cond.initialized y'.cls).before a0 Z = true) (w4 : (Cond.code y' code' ml' ret').before a0 Z = true)
    (hpl : plainFor y' = true) (hy : y'.cls ≠ "java/lang/invoke/MethodHandle" ∧ y'.cls ≠ "java/lang/invoke/VarHandle") (hlen : ∀ sig, parseMethodDescriptor y'.desc = some sig → argsL.length = sig.parameters.length) (hst : st = argsL.reverse ++ rest) (hent : ∀ m, entryFrame m argsL.toArray ml' = mkF m 0 Ls' [])
    (F : Int64) (P' : Heap → Prop) (G : Go l Z y' code' ml' ret' R' (QJ fun z h' => z = F ∧ P' h') 0 0 h 0 Ls' []) (W : Nat) (hsz : Ls.size = ml) (hW : (rest.map fun v => v.category).sum ≤ W) (hf : R'.frames + 1 ≤ R.frames) (hl : W + (ml' + 11) + R'.locals ≤ R.locals) (hk : k + R'.cells ≤ R.cells) (hN : n + R'.slots ≤ R.slots) (hq : pc + 3 = q)
    (g : ∀ h', P' h' → Go l Z y code ml ret R Q (k + R'.cells) (n + R'.slots) h' q Ls (.long F :: rest)) : Go l Z y code ml ret R Q k n h pc Ls st := by
  exact Go.callS argsL rest q hd w1 w2 w3 w4 hpl hy hlen hst hent G W hsz hW hf hl hk hN hq (fun v h' hq' => by obtain ⟨z, e, hp, hh⟩ := hq'; subst e; rw [hp]; exact g h' hh)
end
section
variable {y' : MethodName} {code' : ByteArray} {ml' : Nat} {ret' : Option FieldType} {R' : Room} {Ls' : Array Slot} {i : Nat}
theorem Go.callSR (argsL : List Value) (rest : List Value) (q : Nat) (hd : decode code pc = .ok (.invokestatic i, 3)) (w1 : (Cond.methodLink y.cls i y').before a0 Z = true) (w2 : (Cond.static y').before a0 Z = true) (w3 : (Cond.initialized y'.cls).before a0 Z = true) (w4 : (Cond.code y' code' ml' ret').before a0 Z = true)
    (hpl : plainFor y' = true) (hy : y'.cls ≠ "java/lang/invoke/MethodHandle" ∧ y'.cls ≠ "java/lang/invoke/VarHandle") (hlen : ∀ sig, parseMethodDescriptor y'.desc = some sig → argsL.length = sig.parameters.length) (hst : st = argsL.reverse ++ rest) (hent : ∀ m, entryFrame m argsL.toArray ml' = mkF m 0 Ls' [])
    (P' : Value → Heap → Prop) (G : Go l Z y' code' ml' ret' R' (QR P') 0 0 h 0 Ls' []) (W : Nat) (hsz : Ls.size = ml) (hW : (rest.map fun v => v.category).sum ≤ W) (hf : R'.frames + 1 ≤ R.frames) (hl : W + (ml' + 11) + R'.locals ≤ R.locals) (hk : k + R'.cells ≤ R.cells) (hN : n + R'.slots ≤ R.slots) (hq : pc + 3 = q)
    (g : ∀ (z : Value) h', P' z h' → Go l Z y code ml ret R Q (k + R'.cells) (n + R'.slots) h' q Ls ( z :: rest)) : Go l Z y code ml ret R Q k n h pc Ls st := by
  exact Go.callS argsL rest q hd w1 w2 w3 w4 hpl hy hlen hst hent G W hsz hW hf hl hk hN hq (fun v h' hq' => by obtain ⟨z, e, hp⟩ := hq'; subst e; exact g z h' hp)
end
section
variable {y' : MethodName} {code' : ByteArray} {ml' : Nat} {ret' : Option FieldType} {R' : Room} {Ls' : Array Slot} {i : Nat}
theorem Go.callSRp (argsL : List Value) (rest : List Value) (q : Nat) (hd : decode code pc = .ok (.invokestatic i, 3)) (w1 : (Cond.methodLink y.cls i y').before a0 Z = true) (w2 : (Cond.static y').before a0 Z = true) (w3 : (Cond.initialized y'.cls).before a0 Z = true) (w4 : (Cond.code y' code' ml' ret').before a0 Z = true)
    (hpl : plainFor y' = true) (hy : y'.cls ≠ "java/lang/invoke/MethodHandle" ∧ y'.cls ≠ "java/lang/invoke/VarHandle") (hlen : ∀ sig, parseMethodDescriptor y'.desc = some sig → argsL.length = sig.parameters.length) (hst : st = argsL.reverse ++ rest) (hent : ∀ m, entryFrame m argsL.toArray ml' = mkF m 0 Ls' [])
    (F : Value) (G : Go l Z y' code' ml' ret' R' (QR fun z h' => z = F ∧ h' = h) 0 0 h 0 Ls' []) (W : Nat) (hsz : Ls.size = ml) (hW : (rest.map fun v => v.category).sum ≤ W) (hf : R'.frames + 1 ≤ R.frames) (hl : W + (ml' + 11) + R'.locals ≤ R.locals) (hk : k + R'.cells ≤ R.cells) (hN : n + R'.slots ≤ R.slots) (hq : pc + 3 = q)
    (g : Go l Z y code ml ret R Q (k + R'.cells) (n + R'.slots) h q Ls ( F :: rest)) : Go l Z y code ml ret R Q k n h pc Ls st := by
  exact Go.callS argsL rest q hd w1 w2 w3 w4 hpl hy hlen hst hent G W hsz hW hf hl hk hN hq (fun v h' hq' => by obtain ⟨z, e, hp, hh⟩ := hq'; subst e; subst hh; rw [hp]; exact g)
end
section
variable {y' : MethodName} {code' : ByteArray} {ml' : Nat} {ret' : Option FieldType} {R' : Room} {Ls' : Array Slot} {i : Nat}
theorem Go.callSRe (argsL : List Value) (rest : List Value) (q : Nat) (hd : decode code pc = .ok (.invokestatic i, 3)) (w1 : (Cond.methodLink y.cls i y').before a0 Z = true) (w2 : (Cond.static y').before a0 Z = true) (w3 : (Cond.initialized y'.cls).before a0 Z = true) (w4 : (Cond.code y' code' ml' ret').before a0 Z = true)
    (hpl : plainFor y' = true) (hy : y'.cls ≠ "java/lang/invoke/MethodHandle" ∧ y'.cls ≠ "java/lang/invoke/VarHandle") (hlen : ∀ sig, parseMethodDescriptor y'.desc = some sig → argsL.length = sig.parameters.length) (hst : st = argsL.reverse ++ rest) (hent : ∀ m, entryFrame m argsL.toArray ml' = mkF m 0 Ls' [])
    (F : Value) (P' : Heap → Prop) (G : Go l Z y' code' ml' ret' R' (QR fun z h' => z = F ∧ P' h') 0 0 h 0 Ls' []) (W : Nat) (hsz : Ls.size = ml) (hW : (rest.map fun v => v.category).sum ≤ W) (hf : R'.frames + 1 ≤ R.frames) (hl : W + (ml' + 11) + R'.locals ≤ R.locals) (hk : k + R'.cells ≤ R.cells) (hN : n + R'.slots ≤ R.slots) (hq : pc + 3 = q)
    (g : ∀ h', P' h' → Go l Z y code ml ret R Q (k + R'.cells) (n + R'.slots) h' q Ls ( F :: rest)) : Go l Z y code ml ret R Q k n h pc Ls st := by
  exact Go.callS argsL rest q hd w1 w2 w3 w4 hpl hy hlen hst hent G W hsz hW hf hl hk hN hq (fun v h' hq' => by obtain ⟨z, e, hp, hh⟩ := hq'; subst e; rw [hp]; exact g h' hh)
end
section
variable {y' : MethodName} {code' : ByteArray} {ml' : Nat} {ret' : Option FieldType} {R' : Room} {Ls' : Array Slot} {i : Nat}
theorem Go.callSV (argsL : List Value) (rest : List Value) (q : Nat) (hd : decode code pc = .ok (.invokestatic i, 3)) (w1 : (Cond.methodLink y.cls i y').before a0 Z = true) (w2 : (Cond.static y').before a0 Z = true) (w3 : (Cond.initialized y'.cls).before a0 Z = true) (w4 : (Cond.code y' code' ml' ret').before a0 Z = true)
    (hpl : plainFor y' = true) (hy : y'.cls ≠ "java/lang/invoke/MethodHandle" ∧ y'.cls ≠ "java/lang/invoke/VarHandle") (hlen : ∀ sig, parseMethodDescriptor y'.desc = some sig → argsL.length = sig.parameters.length) (hst : st = argsL.reverse ++ rest) (hent : ∀ m, entryFrame m argsL.toArray ml' = mkF m 0 Ls' [])
    (P' : Heap → Prop) (G : Go l Z y' code' ml' ret' R' (QV P') 0 0 h 0 Ls' []) (W : Nat) (hsz : Ls.size = ml) (hW : (rest.map fun v => v.category).sum ≤ W) (hf : R'.frames + 1 ≤ R.frames) (hl : W + (ml' + 11) + R'.locals ≤ R.locals) (hk : k + R'.cells ≤ R.cells) (hN : n + R'.slots ≤ R.slots) (hq : pc + 3 = q)
    (g : ∀ h', P' h' → Go l Z y code ml ret R Q (k + R'.cells) (n + R'.slots) h' q Ls rest) : Go l Z y code ml ret R Q k n h pc Ls st := by
  exact Go.callS argsL rest q hd w1 w2 w3 w4 hpl hy hlen hst hent G W hsz hW hf hl hk hN hq (fun v h' hq' => by obtain ⟨e, hp⟩ := hq'; subst e; exact g h' hp)
end
section
variable {y' : MethodName} {code' : ByteArray} {ml' : Nat} {ret' : Option FieldType} {R' : Room} {Ls' : Array Slot} {i : Nat}
theorem Go.callSVp (argsL : List Value) (rest : List Value) (q : Nat) (hd : decode code pc = .ok (.invokestatic i, 3)) (w1 : (Cond.methodLink y.cls i y').before a0 Z = true) (w2 : (Cond.static y').before a0 Z = true) (w3 : (Cond.initialized y'.cls).before a0 Z = true) (w4 : (Cond.code y' code' ml' ret').before a0 Z = true)
    (hpl : plainFor y' = true) (hy : y'.cls ≠ "java/lang/invoke/MethodHandle" ∧ y'.cls ≠ "java/lang/invoke/VarHandle") (hlen : ∀ sig, parseMethodDescriptor y'.desc = some sig → argsL.length = sig.parameters.length) (hst : st = argsL.reverse ++ rest) (hent : ∀ m, entryFrame m argsL.toArray ml' = mkF m 0 Ls' [])
    (G : Go l Z y' code' ml' ret' R' (QV fun h' => h' = h) 0 0 h 0 Ls' []) (W : Nat) (hsz : Ls.size = ml) (hW : (rest.map fun v => v.category).sum ≤ W) (hf : R'.frames + 1 ≤ R.frames) (hl : W + (ml' + 11) + R'.locals ≤ R.locals) (hk : k + R'.cells ≤ R.cells) (hN : n + R'.slots ≤ R.slots) (hq : pc + 3 = q)
    (g : Go l Z y code ml ret R Q (k + R'.cells) (n + R'.slots) h q Ls rest) : Go l Z y code ml ret R Q k n h pc Ls st := by
  exact Go.callS argsL rest q hd w1 w2 w3 w4 hpl hy hlen hst hent G W hsz hW hf hl hk hN hq (fun v h' hq' => by obtain ⟨e, hp⟩ := hq'; subst e; subst hp; exact g)
end
section
variable {y' : MethodName} {code' : ByteArray} {ml' : Nat} {ret' : Option FieldType} {R' : Room} {Ls' : Array Slot} {i : Nat}
theorem Go.callVI {a : Addr} {C : String} (argsL : List Value) (rest : List Value) (q : Nat) (hd : decode code pc = .ok (.invokevirtual i, 3)) (w1 : (Cond.methodLink y.cls i y').before a0 Z = true) (w1' : (Cond.declares y').before a0 Z = true) (w1s : (Cond.selects C y' y').before a0 Z = true) (w2 : (Cond.instanceMethod y').before a0 Z = true) (w3 : (Cond.initialized y'.cls).before a0 Z = true) (w4 : (Cond.code y' code' ml' ret').before a0 Z = true) (E : Exa Z h a C)
    (hpl : plainFor y' = true) (hy : y'.cls ≠ "java/lang/invoke/MethodHandle" ∧ y'.cls ≠ "java/lang/invoke/VarHandle") (hlen : ∀ sig, parseMethodDescriptor y'.desc = some sig → argsL.length = sig.parameters.length) (hst : st = argsL.reverse ++ .ref a :: rest) (hent : ∀ m, entryFrame m (.ref a :: argsL).toArray ml' = mkF m 0 Ls' [])
    (P' : Int32 → Heap → Prop) (G : Go l Z y' code' ml' ret' R' (QI P') 0 0 h 0 Ls' []) (W : Nat) (hsz : Ls.size = ml) (hW : (rest.map fun v => v.category).sum ≤ W) (hf : R'.frames + 1 ≤ R.frames) (hl : W + (ml' + 11) + R'.locals ≤ R.locals) (hk : k + R'.cells ≤ R.cells) (hN : n + R'.slots ≤ R.slots) (hq : pc + 3 = q)
    (g : ∀ (z : Int32) h', P' z h' → Go l Z y code ml ret R Q (k + R'.cells) (n + R'.slots) h' q Ls (.int z :: rest)) : Go l Z y code ml ret R Q k n h pc Ls st := by
  exact Go.callV argsL rest q hd w1 w1' w1s w2 w3 w4 E hpl hy hlen hst hent G W hsz hW hf hl hk hN hq (fun v h' hq' => by obtain ⟨z, e, hp⟩ := hq'; subst e; exact g z h' hp)
end
section
variable {y' : MethodName} {code' : ByteArray} {ml' : Nat} {ret' : Option FieldType} {R' : Room} {Ls' : Array Slot} {i : Nat}
theorem Go.callVIp {a : Addr} {C : String} (argsL : List Value) (rest : List Value) (q : Nat) (hd : decode code pc = .ok (.invokevirtual i, 3)) (w1 : (Cond.methodLink y.cls i y').before a0 Z = true) (w1' : (Cond.declares y').before a0 Z = true) (w1s : (Cond.selects C y' y').before a0 Z = true) (w2 : (Cond.instanceMethod y').before a0 Z = true) (w3 : (Cond.initialized y'.cls).before a0 Z = true) (w4 : (Cond.code y' code' ml' ret').before a0 Z = true) (E : Exa Z h a C)
    (hpl : plainFor y' = true) (hy : y'.cls ≠ "java/lang/invoke/MethodHandle" ∧ y'.cls ≠ "java/lang/invoke/VarHandle") (hlen : ∀ sig, parseMethodDescriptor y'.desc = some sig → argsL.length = sig.parameters.length) (hst : st = argsL.reverse ++ .ref a :: rest) (hent : ∀ m, entryFrame m (.ref a :: argsL).toArray ml' = mkF m 0 Ls' [])
    (F : Int32) (G : Go l Z y' code' ml' ret' R' (QI fun z h' => z = F ∧ h' = h) 0 0 h 0 Ls' []) (W : Nat) (hsz : Ls.size = ml) (hW : (rest.map fun v => v.category).sum ≤ W) (hf : R'.frames + 1 ≤ R.frames) (hl : W + (ml' + 11) + R'.locals ≤ R.locals) (hk : k + R'.cells ≤ R.cells) (hN : n + R'.slots ≤ R.slots) (hq : pc + 3 = q)
    (g : Go l Z y code ml ret R Q (k + R'.cells) (n + R'.slots) h q Ls (.int F :: rest)) : Go l Z y code ml ret R Q k n h pc Ls st := by
  exact Go.callV argsL rest q hd w1 w1' w1s w2 w3 w4 E hpl hy hlen hst hent G W hsz hW hf hl hk hN hq (fun v h' hq' => by obtain ⟨z, e, hp, hh⟩ := hq'; subst e; subst hh; rw [hp]; exact g)
end
section
variable {y' : MethodName} {code' : ByteArray} {ml' : Nat} {ret' : Option FieldType} {R' : Room} {Ls' : Array Slot} {i : Nat}
theorem Go.callVIe {a : Addr} {C : String} (argsL : List Value) (rest : List Value) (q : Nat) (hd : decode code pc = .ok (.invokevirtual i, 3)) (w1 : (Cond.methodLink y.cls i y').before a0 Z = true) (w1' : (Cond.declares y').before a0 Z = true) (w1s : (Cond.selects C y' y').before a0 Z = true) (w2 : (Cond.instanceMethod y').before a0 Z = true) (w3 : (Cond.initialized y'.cls).before a0 Z = true) (w4 : (Cond.code y' code' ml' ret').before a0 Z = true) (E : Exa Z h a C)
    (hpl : plainFor y' = true) (hy : y'.cls ≠ "java/lang/invoke/MethodHandle" ∧ y'.cls ≠ "java/lang/invoke/VarHandle") (hlen : ∀ sig, parseMethodDescriptor y'.desc = some sig → argsL.length = sig.parameters.length) (hst : st = argsL.reverse ++ .ref a :: rest) (hent : ∀ m, entryFrame m (.ref a :: argsL).toArray ml' = mkF m 0 Ls' [])
    (F : Int32) (P' : Heap → Prop) (G : Go l Z y' code' ml' ret' R' (QI fun z h' => z = F ∧ P' h') 0 0 h 0 Ls' []) (W : Nat) (hsz : Ls.size = ml) (hW : (rest.map fun v => v.category).sum ≤ W) (hf : R'.frames + 1 ≤ R.frames) (hl : W + (ml' + 11) + R'.locals ≤ R.locals) (hk : k + R'.cells ≤ R.cells) (hN : n + R'.slots ≤ R.slots) (hq : pc + 3 = q)
    (g : ∀ h', P' h' → Go l Z y code ml ret R Q (k + R'.cells) (n + R'.slots) h' q Ls (.int F :: rest)) : Go l Z y code ml ret R Q k n h pc Ls st := by
  exact Go.callV argsL rest q hd w1 w1' w1s w2 w3 w4 E hpl hy hlen hst hent G W hsz hW hf hl hk hN hq (fun v h' hq' => by obtain ⟨z, e, hp, hh⟩ := hq'; subst e; rw [hp]; exact g h' hh)
end
section
variable {y' : MethodName} {code' : ByteArray} {ml' : Nat} {ret' : Option FieldType} {R' : Room} {Ls' : Array Slot} {i : Nat}
theorem Go.callVJ {a : Addr} {C : String} (argsL : List Value) (rest : List Value) (q : Nat) (hd : decode code pc = .ok (.invokevirtual i, 3)) (w1 : (Cond.methodLink y.cls i y').before a0 Z = true) (w1' : (Cond.declares y').before a0 Z = true) (w1s : (Cond.selects C y' y').before a0 Z = true) (w2 : (Cond.instanceMethod y').before a0 Z = true) (w3 : (Cond.initialized y'.cls).before a0 Z = true) (w4 : (Cond.code y' code' ml' ret').before a0 Z = true) (E : Exa Z h a C)
    (hpl : plainFor y' = true) (hy : y'.cls ≠ "java/lang/invoke/MethodHandle" ∧ y'.cls ≠ "java/lang/invoke/VarHandle") (hlen : ∀ sig, parseMethodDescriptor y'.desc = some sig → argsL.length = sig.parameters.length) (hst : st = argsL.reverse ++ .ref a :: rest) (hent : ∀ m, entryFrame m (.ref a :: argsL).toArray ml' = mkF m 0 Ls' [])
    (P' : Int64 → Heap → Prop) (G : Go l Z y' code' ml' ret' R' (QJ P') 0 0 h 0 Ls' []) (W : Nat) (hsz : Ls.size = ml) (hW : (rest.map fun v => v.category).sum ≤ W) (hf : R'.frames + 1 ≤ R.frames) (hl : W + (ml' + 11) + R'.locals ≤ R.locals) (hk : k + R'.cells ≤ R.cells) (hN : n + R'.slots ≤ R.slots) (hq : pc + 3 = q)
    (g : ∀ (z : Int64) h', P' z h' → Go l Z y code ml ret R Q (k + R'.cells) (n + R'.slots) h' q Ls (.long z :: rest)) : Go l Z y code ml ret R Q k n h pc Ls st := by
  exact Go.callV argsL rest q hd w1 w1' w1s w2 w3 w4 E hpl hy hlen hst hent G W hsz hW hf hl hk hN hq (fun v h' hq' => by obtain ⟨z, e, hp⟩ := hq'; subst e; exact g z h' hp)
end
section
variable {y' : MethodName} {code' : ByteArray} {ml' : Nat} {ret' : Option FieldType} {R' : Room} {Ls' : Array Slot} {i : Nat}
theorem Go.callVJp {a : Addr} {C : String} (argsL : List Value) (rest : List Value) (q : Nat) (hd : decode code pc = .ok (.invokevirtual i, 3)) (w1 : (Cond.methodLink y.cls i y').before a0 Z = true) (w1' : (Cond.declares y').before a0 Z = true) (w1s : (Cond.selects C y' y').before a0 Z = true) (w2 : (Cond.instanceMethod y').before a0 Z = true) (w3 : (Cond.initialized y'.cls).before a0 Z = true) (w4 : (Cond.code y' code' ml' ret').before a0 Z = true) (E : Exa Z h a C)
    (hpl : plainFor y' = true) (hy : y'.cls ≠ "java/lang/invoke/MethodHandle" ∧ y'.cls ≠ "java/lang/invoke/VarHandle") (hlen : ∀ sig, parseMethodDescriptor y'.desc = some sig → argsL.length = sig.parameters.length) (hst : st = argsL.reverse ++ .ref a :: rest) (hent : ∀ m, entryFrame m (.ref a :: argsL).toArray ml' = mkF m 0 Ls' [])
    (F : Int64) (G : Go l Z y' code' ml' ret' R' (QJ fun z h' => z = F ∧ h' = h) 0 0 h 0 Ls' []) (W : Nat) (hsz : Ls.size = ml) (hW : (rest.map fun v => v.category).sum ≤ W) (hf : R'.frames + 1 ≤ R.frames) (hl : W + (ml' + 11) + R'.locals ≤ R.locals) (hk : k + R'.cells ≤ R.cells) (hN : n + R'.slots ≤ R.slots) (hq : pc + 3 = q)
    (g : Go l Z y code ml ret R Q (k + R'.cells) (n + R'.slots) h q Ls (.long F :: rest)) : Go l Z y code ml ret R Q k n h pc Ls st := by
  exact Go.callV argsL rest q hd w1 w1' w1s w2 w3 w4 E hpl hy hlen hst hent G W hsz hW hf hl hk hN hq (fun v h' hq' => by obtain ⟨z, e, hp, hh⟩ := hq'; subst e; subst hh; rw [hp]; exact g)
end
section
variable {y' : MethodName} {code' : ByteArray} {ml' : Nat} {ret' : Option FieldType} {R' : Room} {Ls' : Array Slot} {i : Nat}
theorem Go.callVJe {a : Addr} {C : String} (argsL : List Value) (rest : List Value) (q : Nat) (hd : decode code pc = .ok (.invokevirtual i, 3)) (w1 : (Cond.methodLink y.cls i y').before a0 Z = true) (w1' : (Cond.declares y').before a0 Z = true) (w1s : (Cond.selects C y' y').before a0 Z = true) (w2 : (Cond.instanceMethod y').before a0 Z = true) (w3 : (Cond.initialized y'.cls).before a0 Z = true) (w4 : (Cond.code y' code' ml' ret').before a0 Z = true) (E : Exa Z h a C)
    (hpl : plainFor y' = true) (hy : y'.cls ≠ "java/lang/invoke/MethodHandle" ∧ y'.cls ≠ "java/lang/invoke/VarHandle") (hlen : ∀ sig, parseMethodDescriptor y'.desc = some sig → argsL.length = sig.parameters.length) (hst : st = argsL.reverse ++ .ref a :: rest) (hent : ∀ m, entryFrame m (.ref a :: argsL).toArray ml' = mkF m 0 Ls' [])
    (F : Int64) (P' : Heap → Prop) (G : Go l Z y' code' ml' ret' R' (QJ fun z h' => z = F ∧ P' h') 0 0 h 0 Ls' []) (W : Nat) (hsz : Ls.size = ml) (hW : (rest.map fun v => v.category).sum ≤ W) (hf : R'.frames + 1 ≤ R.frames) (hl : W + (ml' + 11) + R'.locals ≤ R.locals) (hk : k + R'.cells ≤ R.cells) (hN : n + R'.slots ≤ R.slots) (hq : pc + 3 = q)
    (g : ∀ h', P' h' → Go l Z y code ml ret R Q (k + R'.cells) (n + R'.slots) h' q Ls (.long F :: rest)) : Go l Z y code ml ret R Q k n h pc Ls st := by
  exact Go.callV argsL rest q hd w1 w1' w1s w2 w3 w4 E hpl hy hlen hst hent G W hsz hW hf hl hk hN hq (fun v h' hq' => by obtain ⟨z, e, hp, hh⟩ := hq'; subst e; rw [hp]; exact g h' hh)
end
section
variable {y' : MethodName} {code' : ByteArray} {ml' : Nat} {ret' : Option FieldType} {R' : Room} {Ls' : Array Slot} {i : Nat}
theorem Go.callVR {a : Addr} {C : String} (argsL : List Value) (rest : List Value) (q : Nat) (hd : decode code pc = .ok (.invokevirtual i, 3)) (w1 : (Cond.methodLink y.cls i y').before a0 Z = true) (w1' : (Cond.declares y').before a0 Z = true) (w1s : (Cond.selects C y' y').before a0 Z = true) (w2 : (Cond.instanceMethod y').before a0 Z = true) (w3 : (Cond.initialized y'.cls).before a0 Z = true) (w4 : (Cond.code y' code' ml' ret').before a0 Z = true) (E : Exa Z h a C)
    (hpl : plainFor y' = true) (hy : y'.cls ≠ "java/lang/invoke/MethodHandle" ∧ y'.cls ≠ "java/lang/invoke/VarHandle") (hlen : ∀ sig, parseMethodDescriptor y'.desc = some sig → argsL.length = sig.parameters.length) (hst : st = argsL.reverse ++ .ref a :: rest) (hent : ∀ m, entryFrame m (.ref a :: argsL).toArray ml' = mkF m 0 Ls' [])
    (P' : Value → Heap → Prop) (G : Go l Z y' code' ml' ret' R' (QR P') 0 0 h 0 Ls' []) (W : Nat) (hsz : Ls.size = ml) (hW : (rest.map fun v => v.category).sum ≤ W) (hf : R'.frames + 1 ≤ R.frames) (hl : W + (ml' + 11) + R'.locals ≤ R.locals) (hk : k + R'.cells ≤ R.cells) (hN : n + R'.slots ≤ R.slots) (hq : pc + 3 = q)
    (g : ∀ (z : Value) h', P' z h' → Go l Z y code ml ret R Q (k + R'.cells) (n + R'.slots) h' q Ls ( z :: rest)) : Go l Z y code ml ret R Q k n h pc Ls st := by
  exact Go.callV argsL rest q hd w1 w1' w1s w2 w3 w4 E hpl hy hlen hst hent G W hsz hW hf hl hk hN hq (fun v h' hq' => by obtain ⟨z, e, hp⟩ := hq'; subst e; exact g z h' hp)
end
section
variable {y' : MethodName} {code' : ByteArray} {ml' : Nat} {ret' : Option FieldType} {R' : Room} {Ls' : Array Slot} {i : Nat}
theorem Go.callVRp {a : Addr} {C : String} (argsL : List Value) (rest : List Value) (q : Nat) (hd : decode code pc = .ok (.invokevirtual i, 3)) (w1 : (Cond.methodLink y.cls i y').before a0 Z = true) (w1' : (Cond.declares y').before a0 Z = true) (w1s : (Cond.selects C y' y').before a0 Z = true) (w2 : (Cond.instanceMethod y').before a0 Z = true) (w3 : (Cond.initialized y'.cls).before a0 Z = true) (w4 : (Cond.code y' code' ml' ret').before a0 Z = true) (E : Exa Z h a C)
    (hpl : plainFor y' = true) (hy : y'.cls ≠ "java/lang/invoke/MethodHandle" ∧ y'.cls ≠ "java/lang/invoke/VarHandle") (hlen : ∀ sig, parseMethodDescriptor y'.desc = some sig → argsL.length = sig.parameters.length) (hst : st = argsL.reverse ++ .ref a :: rest) (hent : ∀ m, entryFrame m (.ref a :: argsL).toArray ml' = mkF m 0 Ls' [])
    (F : Value) (G : Go l Z y' code' ml' ret' R' (QR fun z h' => z = F ∧ h' = h) 0 0 h 0 Ls' []) (W : Nat) (hsz : Ls.size = ml) (hW : (rest.map fun v => v.category).sum ≤ W) (hf : R'.frames + 1 ≤ R.frames) (hl : W + (ml' + 11) + R'.locals ≤ R.locals) (hk : k + R'.cells ≤ R.cells) (hN : n + R'.slots ≤ R.slots) (hq : pc + 3 = q)
    (g : Go l Z y code ml ret R Q (k + R'.cells) (n + R'.slots) h q Ls ( F :: rest)) : Go l Z y code ml ret R Q k n h pc Ls st := by
  exact Go.callV argsL rest q hd w1 w1' w1s w2 w3 w4 E hpl hy hlen hst hent G W hsz hW hf hl hk hN hq (fun v h' hq' => by obtain ⟨z, e, hp, hh⟩ := hq'; subst e; subst hh; rw [hp]; exact g)
end
section
variable {y' : MethodName} {code' : ByteArray} {ml' : Nat} {ret' : Option FieldType} {R' : Room} {Ls' : Array Slot} {i : Nat}
theorem Go.callVRe {a : Addr} {C : String} (argsL : List Value) (rest : List Value) (q : Nat) (hd : decode code pc = .ok (.invokevirtual i, 3)) (w1 : (Cond.methodLink y.cls i y').before a0 Z = true) (w1' : (Cond.declares y').before a0 Z = true) (w1s : (Cond.selects C y' y').before a0 Z = true) (w2 : (Cond.instanceMethod y').before a0 Z = true) (w3 : (Cond.initialized y'.cls).before a0 Z = true) (w4 : (Cond.code y' code' ml' ret').before a0 Z = true) (E : Exa Z h a C)
    (hpl : plainFor y' = true) (hy : y'.cls ≠ "java/lang/invoke/MethodHandle" ∧ y'.cls ≠ "java/lang/invoke/VarHandle") (hlen : ∀ sig, parseMethodDescriptor y'.desc = some sig → argsL.length = sig.parameters.length) (hst : st = argsL.reverse ++ .ref a :: rest) (hent : ∀ m, entryFrame m (.ref a :: argsL).toArray ml' = mkF m 0 Ls' [])
    (F : Value) (P' : Heap → Prop) (G : Go l Z y' code' ml' ret' R' (QR fun z h' => z = F ∧ P' h') 0 0 h 0 Ls' []) (W : Nat) (hsz : Ls.size = ml) (hW : (rest.map fun v => v.category).sum ≤ W) (hf : R'.frames + 1 ≤ R.frames) (hl : W + (ml' + 11) + R'.locals ≤ R.locals) (hk : k + R'.cells ≤ R.cells) (hN : n + R'.slots ≤ R.slots) (hq : pc + 3 = q)
    (g : ∀ h', P' h' → Go l Z y code ml ret R Q (k + R'.cells) (n + R'.slots) h' q Ls ( F :: rest)) : Go l Z y code ml ret R Q k n h pc Ls st := by
  exact Go.callV argsL rest q hd w1 w1' w1s w2 w3 w4 E hpl hy hlen hst hent G W hsz hW hf hl hk hN hq (fun v h' hq' => by obtain ⟨z, e, hp, hh⟩ := hq'; subst e; rw [hp]; exact g h' hh)
end
section
variable {y' : MethodName} {code' : ByteArray} {ml' : Nat} {ret' : Option FieldType} {R' : Room} {Ls' : Array Slot} {i : Nat}
theorem Go.callVV {a : Addr} {C : String} (argsL : List Value) (rest : List Value) (q : Nat) (hd : decode code pc = .ok (.invokevirtual i, 3)) (w1 : (Cond.methodLink y.cls i y').before a0 Z = true) (w1' : (Cond.declares y').before a0 Z = true) (w1s : (Cond.selects C y' y').before a0 Z = true) (w2 : (Cond.instanceMethod y').before a0 Z = true) (w3 : (Cond.initialized y'.cls).before a0 Z = true) (w4 : (Cond.code y' code' ml' ret').before a0 Z = true) (E : Exa Z h a C)
    (hpl : plainFor y' = true) (hy : y'.cls ≠ "java/lang/invoke/MethodHandle" ∧ y'.cls ≠ "java/lang/invoke/VarHandle") (hlen : ∀ sig, parseMethodDescriptor y'.desc = some sig → argsL.length = sig.parameters.length) (hst : st = argsL.reverse ++ .ref a :: rest) (hent : ∀ m, entryFrame m (.ref a :: argsL).toArray ml' = mkF m 0 Ls' [])
    (P' : Heap → Prop) (G : Go l Z y' code' ml' ret' R' (QV P') 0 0 h 0 Ls' []) (W : Nat) (hsz : Ls.size = ml) (hW : (rest.map fun v => v.category).sum ≤ W) (hf : R'.frames + 1 ≤ R.frames) (hl : W + (ml' + 11) + R'.locals ≤ R.locals) (hk : k + R'.cells ≤ R.cells) (hN : n + R'.slots ≤ R.slots) (hq : pc + 3 = q)
    (g : ∀ h', P' h' → Go l Z y code ml ret R Q (k + R'.cells) (n + R'.slots) h' q Ls rest) : Go l Z y code ml ret R Q k n h pc Ls st := by
  exact Go.callV argsL rest q hd w1 w1' w1s w2 w3 w4 E hpl hy hlen hst hent G W hsz hW hf hl hk hN hq (fun v h' hq' => by obtain ⟨e, hp⟩ := hq'; subst e; exact g h' hp)
end
section
variable {y' : MethodName} {code' : ByteArray} {ml' : Nat} {ret' : Option FieldType} {R' : Room} {Ls' : Array Slot} {i : Nat}
theorem Go.callVVp {a : Addr} {C : String} (argsL : List Value) (rest : List Value) (q : Nat) (hd : decode code pc = .ok (.invokevirtual i, 3)) (w1 : (Cond.methodLink y.cls i y').before a0 Z = true) (w1' : (Cond.declares y').before a0 Z = true) (w1s : (Cond.selects C y' y').before a0 Z = true) (w2 : (Cond.instanceMethod y').before a0 Z = true) (w3 : (Cond.initialized y'.cls).before a0 Z = true) (w4 : (Cond.code y' code' ml' ret').before a0 Z = true) (E : Exa Z h a C)
    (hpl : plainFor y' = true) (hy : y'.cls ≠ "java/lang/invoke/MethodHandle" ∧ y'.cls ≠ "java/lang/invoke/VarHandle") (hlen : ∀ sig, parseMethodDescriptor y'.desc = some sig → argsL.length = sig.parameters.length) (hst : st = argsL.reverse ++ .ref a :: rest) (hent : ∀ m, entryFrame m (.ref a :: argsL).toArray ml' = mkF m 0 Ls' [])
    (G : Go l Z y' code' ml' ret' R' (QV fun h' => h' = h) 0 0 h 0 Ls' []) (W : Nat) (hsz : Ls.size = ml) (hW : (rest.map fun v => v.category).sum ≤ W) (hf : R'.frames + 1 ≤ R.frames) (hl : W + (ml' + 11) + R'.locals ≤ R.locals) (hk : k + R'.cells ≤ R.cells) (hN : n + R'.slots ≤ R.slots) (hq : pc + 3 = q)
    (g : Go l Z y code ml ret R Q (k + R'.cells) (n + R'.slots) h q Ls rest) : Go l Z y code ml ret R Q k n h pc Ls st := by
  exact Go.callV argsL rest q hd w1 w1' w1s w2 w3 w4 E hpl hy hlen hst hent G W hsz hW hf hl hk hN hq (fun v h' hq' => by obtain ⟨e, hp⟩ := hq'; subst e; subst hp; exact g)
end



/-- an array of ints, shorts, chars, bytes or booleans, with its elements -/
def Ari (Z : State) (h : Heap) (a : Addr) (ty : FieldType) (xs : List Int32) : Prop := ∃ c : Cell, Arr Z h a c ty ∧ c.slots.toList = xs.map Value.int ∧ xs.length < 2147483648
def Arj (Z : State) (h : Heap) (a : Addr) (xs : List Int64) : Prop := ∃ c : Cell, Arr Z h a c .long ∧ c.slots.toList = xs.map Value.long ∧ xs.length < 2147483648
theorem Ari.lt {a : Addr} {ty : FieldType} {xs : List Int32} (F : Ari Z h a ty xs) : a < h.size := by obtain ⟨c, A, -⟩ := F; exact A.lt
theorem Arj.lt {a : Addr} {xs : List Int64} (F : Arj Z h a xs) : a < h.size := by obtain ⟨c, A, -⟩ := F; exact A.lt
theorem Ari.ext {h' : Heap} {a : Addr} {ty : FieldType} {xs : List Int32} (F : Ari Z h a ty xs) (E : Ext h h') : Ari Z h' a ty xs := by obtain ⟨c, A, r⟩ := F; exact ⟨c, A.ext E, r⟩
theorem Arj.ext {h' : Heap} {a : Addr} {xs : List Int64} (F : Arj Z h a xs) (E : Ext h h') : Arj Z h' a xs := by obtain ⟨c, A, r⟩ := F; exact ⟨c, A.ext E, r⟩
theorem Ari.other {h' : Heap} {a b : Addr} {sl : Nat} {v : Value} {ty : FieldType} {xs : List Int32} (F : Ari Z h b ty xs) (W : Wr h h' a sl v) (q : b ≠ a) : Ari Z h' b ty xs := by obtain ⟨c, A, r⟩ := F; exact ⟨c, A.other W q, r⟩
theorem Arj.other {h' : Heap} {a b : Addr} {sl : Nat} {v : Value} {xs : List Int64} (F : Arj Z h b xs) (W : Wr h h' a sl v) (q : b ≠ a) : Arj Z h' b xs := by obtain ⟨c, A, r⟩ := F; exact ⟨c, A.other W q, r⟩
theorem Ari.keep {h' : Heap} {a : Addr} {ws : List Addr} {ty : FieldType} {xs : List Int32} (F : Ari Z h a ty xs) (K : Keep h h' ws) (q : a ∉ ws) : Ari Z h' a ty xs := by obtain ⟨c, A, r⟩ := F; exact ⟨c, ⟨K.2.1 _ _ A.1 q, A.2⟩, r⟩
theorem Arj.keep {h' : Heap} {a : Addr} {ws : List Addr} {xs : List Int64} (F : Arj Z h a xs) (K : Keep h h' ws) (q : a ∉ ws) : Arj Z h' a xs := by obtain ⟨c, A, r⟩ := F; exact ⟨c, ⟨K.2.1 _ _ A.1 q, A.2⟩, r⟩
theorem own_size {c : Cell} {α : Type} {f : α → Value} {xs : List α} (e : c.slots.toList = xs.map f) : c.slots.size = xs.length := by
  have q := congrArg List.length e
  simpa using q
theorem own_at {c : Cell} {α : Type} {f : α → Value} {xs : List α} (e : c.slots.toList = xs.map f) {i : Nat} {x : α} (hx : xs[i]? = some x) : c.slots[i]? = some (f x) := by
  have q : c.slots.toList[i]? = some (f x) := by rw [e, List.getElem?_map, hx]; rfl
  simpa using q
theorem own_in {c : Cell} {α : Type} {f : α → Value} {xs : List α} (e : c.slots.toList = xs.map f) {i : Nat} {j : Int32} (hj : ¬ j < 0) (hi : j.toNatClampNeg = i) (hx : i < xs.length) : ¬ (j < 0 ∨ c.slots.size ≤ j.toNatClampNeg) := by
  rw [own_size e, hi]; intro q; rcases q with q | q
  · exact hj q
  · exact absurd hx (Nat.not_lt.mpr q)
theorem own_set {c : Cell} {α : Type} {f : α → Value} {xs : List α} (e : c.slots.toList = xs.map f) (i : Nat) (x : α) : (c.setSlot i (f x)).slots.toList = (xs.set i x).map f := by
  show (c.slots.setIfInBounds i (f x)).toList = _
  rw [Array.toList_setIfInBounds, e, List.map_set]
theorem Ari.set {h' : Heap} {a : Addr} {ty : FieldType} {xs xs' : List Int32} {i : Nat} {x : Int32} (F : Ari Z h a ty xs) (W : Wr h h' a i (.int x)) (e : xs.set i x = xs') : Ari Z h' a ty xs' := by
  subst e
  obtain ⟨c, A, r, r2⟩ := F
  exact ⟨_, A.same W, own_set r i x, by rw [List.length_set]; exact r2⟩
theorem Arj.set {h' : Heap} {a : Addr} {xs xs' : List Int64} {i : Nat} {x : Int64} (F : Arj Z h a xs) (W : Wr h h' a i (.long x)) (e : xs.set i x = xs') : Arj Z h' a xs' := by
  subst e
  obtain ⟨c, A, r, r2⟩ := F
  exact ⟨_, A.same W, own_set r i x, by rw [List.length_set]; exact r2⟩

theorem Go.iaload {a : Addr} {j x : Int32} {xs : List Int32} (i : Nat) (q : Nat) (hd : decode code pc = .ok (.iaload, 1)) (A : Ari Z h a .int xs) (hj : ¬ j < 0) (hi : j.toNatClampNeg = i) (hx : xs[i]? = some x) (hq : pc + 1 = q) (g : Go l Z y code ml ret R Q k n h q Ls (.int x :: st)) : Go l Z y code ml ret R Q k n h pc Ls (.int j :: .ref a :: st) := by
  subst hq hi
  obtain ⟨cl, A, r, r2⟩ := A
  have hv := own_at r hx
  have hin := own_in r hj rfl (List.getElem?_eq_some_iff.mp hx).1
  exact g.pure fun p e s m args below meth c K T L k' n' X hT t rr => X.iaload K.1 (cell := cl) (v := .int x) (by rw [hT]; exact A.1) (State.isArrayOf_alike K.2.2.1.alike A.2.1) A.2.2 hin hv (g := mkF m pc Ls (.int j :: .ref a :: st)) rfl rfl (hb K.2.1 hd) t rr
theorem Go.baload {a : Addr} {j x : Int32} {xs : List Int32} (i : Nat) (q : Nat) (hd : decode code pc = .ok (.baload, 1)) (A : Ari Z h a .byte xs) (hj : ¬ j < 0) (hi : j.toNatClampNeg = i) (hx : xs[i]? = some x) (hq : pc + 1 = q) (g : Go l Z y code ml ret R Q k n h q Ls (.int x :: st)) : Go l Z y code ml ret R Q k n h pc Ls (.int j :: .ref a :: st) := by
  subst hq hi
  obtain ⟨cl, A, r, r2⟩ := A
  have hv := own_at r hx
  have hin := own_in r hj rfl (List.getElem?_eq_some_iff.mp hx).1
  exact g.pure fun p e s m args below meth c K T L k' n' X hT t rr => X.baloadBytes K.1 (cell := cl) (v := .int x) (by rw [hT]; exact A.1) (State.isArrayOf_alike K.2.2.1.alike A.2.1) A.2.2 hin hv (g := mkF m pc Ls (.int j :: .ref a :: st)) rfl rfl (hb K.2.1 hd) t rr
theorem Go.zaload {a : Addr} {j x : Int32} {xs : List Int32} (i : Nat) (q : Nat) (hd : decode code pc = .ok (.baload, 1)) (A : Ari Z h a .boolean xs) (hj : ¬ j < 0) (hi : j.toNatClampNeg = i) (hx : xs[i]? = some x) (hq : pc + 1 = q) (g : Go l Z y code ml ret R Q k n h q Ls (.int x :: st)) : Go l Z y code ml ret R Q k n h pc Ls (.int j :: .ref a :: st) := by
  subst hq hi
  obtain ⟨cl, A, r, r2⟩ := A
  have hv := own_at r hx
  have hin := own_in r hj rfl (List.getElem?_eq_some_iff.mp hx).1
  exact g.pure fun p e s m args below meth c K T L k' n' X hT t rr => X.baloadBooleans K.1 (cell := cl) (v := .int x) (by rw [hT]; exact A.1) (State.isArrayOf_alike K.2.2.1.alike A.2.1) A.2.2 hin hv (g := mkF m pc Ls (.int j :: .ref a :: st)) rfl rfl (hb K.2.1 hd) t rr
theorem Go.caload {a : Addr} {j x : Int32} {xs : List Int32} (i : Nat) (q : Nat) (hd : decode code pc = .ok (.caload, 1)) (A : Ari Z h a .char xs) (hj : ¬ j < 0) (hi : j.toNatClampNeg = i) (hx : xs[i]? = some x) (hq : pc + 1 = q) (g : Go l Z y code ml ret R Q k n h q Ls (.int x :: st)) : Go l Z y code ml ret R Q k n h pc Ls (.int j :: .ref a :: st) := by
  subst hq hi
  obtain ⟨cl, A, r, r2⟩ := A
  have hv := own_at r hx
  have hin := own_in r hj rfl (List.getElem?_eq_some_iff.mp hx).1
  exact g.pure fun p e s m args below meth c K T L k' n' X hT t rr => X.caload K.1 (cell := cl) (v := .int x) (by rw [hT]; exact A.1) (State.isArrayOf_alike K.2.2.1.alike A.2.1) A.2.2 hin hv (g := mkF m pc Ls (.int j :: .ref a :: st)) rfl rfl (hb K.2.1 hd) t rr
theorem Go.laload {a : Addr} {j : Int32} {x : Int64} {xs : List Int64} (i : Nat) (q : Nat) (hd : decode code pc = .ok (.laload, 1)) (A : Arj Z h a xs) (hj : ¬ j < 0) (hi : j.toNatClampNeg = i) (hx : xs[i]? = some x) (hq : pc + 1 = q) (g : Go l Z y code ml ret R Q k n h q Ls (.long x :: st)) : Go l Z y code ml ret R Q k n h pc Ls (.int j :: .ref a :: st) := by
  subst hq hi
  obtain ⟨cl, A, r, r2⟩ := A
  have hv := own_at r hx
  have hin := own_in r hj rfl (List.getElem?_eq_some_iff.mp hx).1
  exact g.pure fun p e s m args below meth c K T L k' n' X hT t rr => X.laload K.1 (cell := cl) (v := .long x) (by rw [hT]; exact A.1) (State.isArrayOf_alike K.2.2.1.alike A.2.1) A.2.2 hin hv (g := mkF m pc Ls (.int j :: .ref a :: st)) rfl rfl (hb K.2.1 hd) t rr
theorem Go.arraylength {a : Addr} {ty : FieldType} {xs : List Int32} {z : Int32} (q : Nat) (hd : decode code pc = .ok (.arraylength, 1)) (A : Ari Z h a ty xs) (hz : xs.length.toInt32 = z) (hq : pc + 1 = q) (g : Go l Z y code ml ret R Q k n h q Ls (.int z :: st)) : Go l Z y code ml ret R Q k n h pc Ls (.ref a :: st) := by
  subst hq
  obtain ⟨cl, A, r, r2⟩ := A
  subst hz
  exact g.pure fun p e s m args below meth c K T L k' n' X hT t rr => X.arraylength K.1 (cell := cl) (by rw [hT]; exact A.1) (State.isArrayOf_alike K.2.2.1.alike A.2.1) (g := mkF m pc Ls (.ref a :: st)) rfl rfl (hb K.2.1 hd) t (by rw [own_size r]; exact rr)
theorem Go.arraylengthJ {a : Addr} {xs : List Int64} {z : Int32} (q : Nat) (hd : decode code pc = .ok (.arraylength, 1)) (A : Arj Z h a xs) (hz : xs.length.toInt32 = z) (hq : pc + 1 = q) (g : Go l Z y code ml ret R Q k n h q Ls (.int z :: st)) : Go l Z y code ml ret R Q k n h pc Ls (.ref a :: st) := by
  subst hq
  obtain ⟨cl, A, r, r2⟩ := A
  subst hz
  exact g.pure fun p e s m args below meth c K T L k' n' X hT t rr => X.arraylength K.1 (cell := cl) (by rw [hT]; exact A.1) (State.isArrayOf_alike K.2.2.1.alike A.2.1) (g := mkF m pc Ls (.ref a :: st)) rfl rfl (hb K.2.1 hd) t (by rw [own_size r]; exact rr)
theorem Go.iastore {a : Addr} {j x : Int32} {xs : List Int32} (i : Nat) (xs' : List Int32) (q : Nat) (hd : decode code pc = .ok (.iastore, 1)) (A : Ari Z h a .int xs) (hj : ¬ j < 0) (hi : j.toNatClampNeg = i) (hx : i < xs.length) (he : xs.set i (x) = xs') (hge : Z.heap.size ≤ a) (hq : pc + 1 = q)
    (g : ∀ h', Wr h h' a i (.int (x)) → Ari Z h' a .int xs' → Go l Z y code ml ret R Q k n h' q Ls st) : Go l Z y code ml ret R Q k n h pc Ls (.int x :: .int j :: .ref a :: st) := by
  subst hq hi
  refine Go.move (P := fun h' => Wr h h' a j.toNatClampNeg (.int (x))) (kk := k) (nn := n) (fun h' W => g h' W (A.set W he)) ?_
  obtain ⟨cl, A, r, r2⟩ := A
  intro p e s m args below meth c K T L k' n' X h1 h2 N hT
  obtain ⟨T', h', X', e', W', s'⟩ := stI X K.1 K.2.2.1 hT A (own_in r hj rfl hx) (g := mkF m pc Ls (.int x :: .int j :: .ref a :: st)) rfl rfl (hb K.2.1 hd)
  exact ⟨T', _, k', n', X', h1, h2, Fr.snoc X' N hge, e' ▸ W', s'⟩
theorem Go.bastore {a : Addr} {j x : Int32} {xs : List Int32} (i : Nat) (xs' : List Int32) (q : Nat) (hd : decode code pc = .ok (.bastore, 1)) (A : Ari Z h a .byte xs) (hj : ¬ j < 0) (hi : j.toNatClampNeg = i) (hx : i < xs.length) (he : xs.set i (nar .byte x) = xs') (hge : Z.heap.size ≤ a) (hq : pc + 1 = q)
    (g : ∀ h', Wr h h' a i (.int (nar .byte x)) → Ari Z h' a .byte xs' → Go l Z y code ml ret R Q k n h' q Ls st) : Go l Z y code ml ret R Q k n h pc Ls (.int x :: .int j :: .ref a :: st) := by
  subst hq hi
  refine Go.move (P := fun h' => Wr h h' a j.toNatClampNeg (.int (nar .byte x))) (kk := k) (nn := n) (fun h' W => g h' W (A.set W he)) ?_
  obtain ⟨cl, A, r, r2⟩ := A
  intro p e s m args below meth c K T L k' n' X h1 h2 N hT
  obtain ⟨T', h', X', e', W', s'⟩ := stB X K.1 K.2.2.1 hT A (own_in r hj rfl hx) (g := mkF m pc Ls (.int x :: .int j :: .ref a :: st)) rfl rfl (hb K.2.1 hd)
  exact ⟨T', _, k', n', X', h1, h2, Fr.snoc X' N hge, e' ▸ W', s'⟩
theorem Go.zastore {a : Addr} {j x : Int32} {xs : List Int32} (i : Nat) (xs' : List Int32) (q : Nat) (hd : decode code pc = .ok (.bastore, 1)) (A : Ari Z h a .boolean xs) (hj : ¬ j < 0) (hi : j.toNatClampNeg = i) (hx : i < xs.length) (he : xs.set i (nar .boolean x) = xs') (hge : Z.heap.size ≤ a) (hq : pc + 1 = q)
    (g : ∀ h', Wr h h' a i (.int (nar .boolean x)) → Ari Z h' a .boolean xs' → Go l Z y code ml ret R Q k n h' q Ls st) : Go l Z y code ml ret R Q k n h pc Ls (.int x :: .int j :: .ref a :: st) := by
  subst hq hi
  refine Go.move (P := fun h' => Wr h h' a j.toNatClampNeg (.int (nar .boolean x))) (kk := k) (nn := n) (fun h' W => g h' W (A.set W he)) ?_
  obtain ⟨cl, A, r, r2⟩ := A
  intro p e s m args below meth c K T L k' n' X h1 h2 N hT
  obtain ⟨T', h', X', e', W', s'⟩ := stZ X K.1 K.2.2.1 hT A (own_in r hj rfl hx) (g := mkF m pc Ls (.int x :: .int j :: .ref a :: st)) rfl rfl (hb K.2.1 hd)
  exact ⟨T', _, k', n', X', h1, h2, Fr.snoc X' N hge, e' ▸ W', s'⟩
theorem Go.castore {a : Addr} {j x : Int32} {xs : List Int32} (i : Nat) (xs' : List Int32) (q : Nat) (hd : decode code pc = .ok (.castore, 1)) (A : Ari Z h a .char xs) (hj : ¬ j < 0) (hi : j.toNatClampNeg = i) (hx : i < xs.length) (he : xs.set i (nar .char x) = xs') (hge : Z.heap.size ≤ a) (hq : pc + 1 = q)
    (g : ∀ h', Wr h h' a i (.int (nar .char x)) → Ari Z h' a .char xs' → Go l Z y code ml ret R Q k n h' q Ls st) : Go l Z y code ml ret R Q k n h pc Ls (.int x :: .int j :: .ref a :: st) := by
  subst hq hi
  refine Go.move (P := fun h' => Wr h h' a j.toNatClampNeg (.int (nar .char x))) (kk := k) (nn := n) (fun h' W => g h' W (A.set W he)) ?_
  obtain ⟨cl, A, r, r2⟩ := A
  intro p e s m args below meth c K T L k' n' X h1 h2 N hT
  obtain ⟨T', h', X', e', W', s'⟩ := stC X K.1 K.2.2.1 hT A (own_in r hj rfl hx) (g := mkF m pc Ls (.int x :: .int j :: .ref a :: st)) rfl rfl (hb K.2.1 hd)
  exact ⟨T', _, k', n', X', h1, h2, Fr.snoc X' N hge, e' ▸ W', s'⟩
theorem Go.lastore {a : Addr} {j : Int32} {x : Int64} {xs : List Int64} (i : Nat) (xs' : List Int64) (q : Nat) (hd : decode code pc = .ok (.lastore, 1)) (A : Arj Z h a xs) (hj : ¬ j < 0) (hi : j.toNatClampNeg = i) (hx : i < xs.length) (he : xs.set i x = xs') (hge : Z.heap.size ≤ a) (hq : pc + 1 = q)
    (g : ∀ h', Wr h h' a i (.long x) → Arj Z h' a xs' → Go l Z y code ml ret R Q k n h' q Ls st) : Go l Z y code ml ret R Q k n h pc Ls (.long x :: .int j :: .ref a :: st) := by
  subst hq hi
  refine Go.move (P := fun h' => Wr h h' a j.toNatClampNeg (.long x)) (kk := k) (nn := n) (fun h' W => g h' W (A.set W he)) ?_
  obtain ⟨cl, A, r, r2⟩ := A
  intro p e s m args below meth c K T L k' n' X h1 h2 N hT
  obtain ⟨T', h', X', e', W', s'⟩ := stJ X K.1 K.2.2.1 hT A (own_in r hj rfl hx) (g := mkF m pc Ls (.long x :: .int j :: .ref a :: st)) rfl rfl (hb K.2.1 hd)
  exact ⟨T', _, k', n', X', h1, h2, Fr.snoc X' N hge, e' ▸ W', s'⟩
theorem Go.newI {aty : ArrayType} {z : Int32} (cap : Nat) (xs : List Int32) (q : Nat) (hd : decode code pc = .ok (.newarray aty, 2)) (w : (Cond.arrayClass (newarray.typeOf aty)).before a0 Z = true) (hdv : defaultValue (newarray.typeOf aty) = .int 0) (hz : ¬ z < 0) (hcap : z.toNatClampNeg ≤ cap) (hbig : cap * 8 ≤ 536870912) (hxs : List.replicate z.toNatClampNeg 0 = xs) (hk : k + 1 ≤ R.cells) (hN : n + cap ≤ R.slots) (hq : pc + 2 = q)
    (g : ∀ (a : Addr) h', a = h.size → Ext h h' → Ari Z h' a (newarray.typeOf aty) xs → Go l Z y code ml ret R Q (k + 1) (n + cap) h' q Ls (.ref a :: st)) : Go l Z y code ml ret R Q k n h pc Ls (.int z :: st) := by
  subst hq hxs
  refine Go.move (P := fun h' => Ext h h' ∧ Ari Z h' h.size (newarray.typeOf aty) (List.replicate z.toNatClampNeg 0)) (kk := k + 1) (nn := n + cap) (fun h' p => g h.size h' rfl p.1 p.2) ?_
  intro p e s m args below meth c K T L k' n' X h1 h2 N hT
  obtain ⟨T', h', cA, X', e', E', A', s'⟩ := newP X K.1 K.2.2.1 w hT (g := mkF m pc Ls (.int z :: st)) rfl (hb K.2.1 hd) rfl hz hcap hbig (Nat.le_trans (Nat.add_le_add_right h1 1) hk) (Nat.le_trans (Nat.add_le_add_right h2 cap) hN)
  subst e'
  refine ⟨T', L, k' + 1, n' + cap, X', Nat.add_le_add_right h1 1, Nat.add_le_add_right h2 cap, N, ⟨E', _, A', ?_, ?_⟩, s'⟩
  · show (Array.replicate z.toNatClampNeg (defaultValue (newarray.typeOf aty))).toList = _
    rw [hdv]; simp [List.map_replicate]
  · rw [List.length_replicate]; omega
theorem Go.newJ {aty : ArrayType} {z : Int32} (cap : Nat) (xs : List Int64) (q : Nat) (hd : decode code pc = .ok (.newarray aty, 2)) (w : (Cond.arrayClass (newarray.typeOf aty)).before a0 Z = true) (hdv : newarray.typeOf aty = .long) (hz : ¬ z < 0) (hcap : z.toNatClampNeg ≤ cap) (hbig : cap * 8 ≤ 536870912) (hxs : List.replicate z.toNatClampNeg 0 = xs) (hk : k + 1 ≤ R.cells) (hN : n + cap ≤ R.slots) (hq : pc + 2 = q)
    (g : ∀ (a : Addr) h', a = h.size → Ext h h' → Arj Z h' a xs → Go l Z y code ml ret R Q (k + 1) (n + cap) h' q Ls (.ref a :: st)) : Go l Z y code ml ret R Q k n h pc Ls (.int z :: st) := by
  subst hq hxs
  refine Go.move (P := fun h' => Ext h h' ∧ Arj Z h' h.size (List.replicate z.toNatClampNeg 0)) (kk := k + 1) (nn := n + cap) (fun h' p => g h.size h' rfl p.1 p.2) ?_
  intro p e s m args below meth c K T L k' n' X h1 h2 N hT
  obtain ⟨T', h', cA, X', e', E', A', s'⟩ := newP X K.1 K.2.2.1 w hT (g := mkF m pc Ls (.int z :: st)) rfl (hb K.2.1 hd) rfl hz hcap hbig (Nat.le_trans (Nat.add_le_add_right h1 1) hk) (Nat.le_trans (Nat.add_le_add_right h2 cap) hN)
  subst e'
  refine ⟨T', L, k' + 1, n' + cap, X', Nat.add_le_add_right h1 1, Nat.add_le_add_right h2 cap, N, ⟨E', _, hdv ▸ A', ?_, ?_⟩, s'⟩
  · show (Array.replicate z.toNatClampNeg (defaultValue .long)).toList = _
    simp [List.map_replicate, defaultValue]
  · rw [List.length_replicate]; omega
end Laws
end Jvm.OwnGo

namespace Jvm.Pilot.@@N@@
open Jvm Jvm.ClassFile Sem Op Lib Jvm.Free Jvm.Stand Jvm.LawKit Jvm.RoadKit Bundle Jvm.OwnGo Jvm.Pilot.@@N@@.Jvm.D
theorem pnx : plainName x.cls = true := by first | (simp [x, plainName, overriddenIn]; done) | decide +kernel
theorem tw0 {a0 : Array Value} {Z : State} (hw : ∀ d ∈ tables_1, d.before a0 Z = true) : ((Jvm.Cond.constant "com/example/latchwork/latchwork/engine/PackedCharsCharAtPinLaw" (7 : Nat) (65535 : Int32))).before a0 Z = true := hw _ (List.mem_of_getElem? (i := 0) rfl)
theorem tw1 {a0 : Array Value} {Z : State} (hw : ∀ d ∈ tables_1, d.before a0 Z = true) : ((Jvm.Cond.arrayClass Jvm.ClassFile.FieldType.byte)).before a0 Z = true := hw _ (List.mem_of_getElem? (i := 1) rfl)
theorem tw2 {a0 : Array Value} {Z : State} (hw : ∀ d ∈ tables_1, d.before a0 Z = true) : ((Jvm.Cond.methodLink "com/example/latchwork/latchwork/engine/PackedCharsCharAtPinLaw" (8 : Nat) ({ cls := "com/example/latchwork/latchwork/engine/PackedChars", name := "charAt", desc := "([BIZI)C" } : Jvm.MethodName))).before a0 Z = true := hw _ (List.mem_of_getElem? (i := 2) rfl)
theorem tw3 {a0 : Array Value} {Z : State} (hw : ∀ d ∈ tables_1, d.before a0 Z = true) : ((Jvm.Cond.static ({ cls := "com/example/latchwork/latchwork/engine/PackedChars", name := "charAt", desc := "([BIZI)C" } : Jvm.MethodName))).before a0 Z = true := hw _ (List.mem_of_getElem? (i := 3) rfl)
theorem tw4 {a0 : Array Value} {Z : State} (hw : ∀ d ∈ tables_1, d.before a0 Z = true) : ((Jvm.Cond.initialized "com/example/latchwork/latchwork/engine/PackedChars")).before a0 Z = true := hw _ (List.mem_of_getElem? (i := 4) rfl)
theorem tw5 {a0 : Array Value} {Z : State} (hw : ∀ d ∈ tables_1, d.before a0 Z = true) : ((Jvm.Cond.code ({ cls := "com/example/latchwork/latchwork/engine/PackedChars", name := "charAt", desc := "([BIZI)C" } : Jvm.MethodName) prog_33_method_5_code (4 : Nat) (Option.some Jvm.ClassFile.FieldType.char))).before a0 Z = true := hw _ (List.mem_of_getElem? (i := 5) rfl)
theorem own_nn {x : Int32} (h : 0 ≤ x.toInt) : x.toInt = (x.toBitVec.toNat : Int) := by
  have q := BitVec.toInt_eq_toNat_cond x.toBitVec
  have e : x.toInt = x.toBitVec.toInt := rfl
  rw [e] at h ⊢
  rw [q] at h ⊢
  have := x.toBitVec.isLt
  split at h <;> rename_i c
  · rw [if_pos c]
  · omega
theorem own_nn' {x : Int32} (h : x.toBitVec.toNat < 2147483648) : x.toInt = (x.toBitVec.toNat : Int) := by
  have q := BitVec.toInt_eq_toNat_cond x.toBitVec
  have e : x.toInt = x.toBitVec.toInt := rfl
  rw [e, q, if_pos (by omega)]
theorem own_ofnat {x : Int32} (h : 0 ≤ x.toInt) : x = Int32.ofNat x.toBitVec.toNat := by
  apply Int32.toBitVec_inj.mp
  apply BitVec.eq_of_toNat_eq
  show _ = (BitVec.ofNat 32 x.toBitVec.toNat).toNat
  rw [BitVec.toNat_ofNat, Nat.mod_eq_of_lt x.toBitVec.isLt]
theorem own_255 (i : Nat) : (255#32).getLsbD i = decide (i < 8) := by
  show (BitVec.ofNat 32 (2 ^ 8 - 1)).getLsbD i = _
  rw [BitVec.getLsbD_ofNat, Nat.testBit_two_pow_sub_one]
  by_cases h : i < 8
  · simp [h, show i < 32 by omega]
  · simp [h]
theorem own_sx (x : BitVec 32) (i : Nat) (h : i < 8) : ((x.signExtend 8).signExtend 32).getLsbD i = x.getLsbD i := by
  rw [BitVec.getLsbD_signExtend, if_pos h, BitVec.getLsbD_signExtend, if_pos (show i < 32 by omega)]
  rw [decide_eq_true h, decide_eq_true (show i < 32 by omega), Bool.true_and, Bool.true_and]
theorem own_byte (x : Int32) : (nar .byte x) &&& 255 = x &&& 255 := by
  apply Int32.toBitVec_inj.mp
  rw [Int32.toBitVec_and, Int32.toBitVec_and]
  show ((x.toBitVec.signExtend 8).signExtend 32) &&& 255#32 = x.toBitVec &&& 255#32
  apply BitVec.eq_of_getLsbD_eq
  intro i hi
  rw [BitVec.getLsbD_and, BitVec.getLsbD_and, own_255]
  by_cases h : i < 8
  · rw [own_sx _ _ h]
  · simp [h]
theorem own_byte2 (x : Int32) : (nar .byte (x.toInt8.toInt32)) &&& 255 = x &&& 255 := by
  rw [own_byte]; exact own_byte x
theorem own_cat4 (w : BitVec 32) : (((w >>> 24 &&& 255#32) <<< 24 ||| (w >>> 16 &&& 255#32) <<< 16) ||| (w >>> 8 &&& 255#32) <<< 8) ||| (w &&& 255#32) = w := by
  apply BitVec.eq_of_getLsbD_eq
  intro i hi
  simp only [BitVec.getLsbD_or, BitVec.getLsbD_and, BitVec.getLsbD_shiftLeft, BitVec.getLsbD_ushiftRight, own_255]
  have q : i < 8 ∨ (8 ≤ i ∧ i < 16) ∨ (16 ≤ i ∧ i < 24) ∨ (24 ≤ i ∧ i < 32) := by omega
  rcases q with q | q | q | q
  · simp [q, show i < 16 by omega, show i < 24 by omega]
  · simp [show i < 32 by omega, show i < 16 by omega, show i < 24 by omega, show ¬ i < 8 by omega, show 8 + (i - 8) = i by omega, show i - 8 < 8 by omega]
  · simp [show i < 32 by omega, show ¬ i < 16 by omega, show i < 24 by omega, show ¬ i < 8 by omega, show 16 + (i - 16) = i by omega, show i - 16 < 8 by omega, show ¬ i - 8 < 8 by omega]
  · simp [show i < 32 by omega, show ¬ i < 16 by omega, show ¬ i < 24 by omega, show ¬ i < 8 by omega, show 24 + (i - 24) = i by omega, show i - 24 < 8 by omega, show ¬ i - 8 < 8 by omega, show ¬ i - 16 < 8 by omega]
theorem own_ushr32 (z k : Int32) (n : Nat) (hk : (k &&& 31).toUInt32.toBitVec.toNat = n) (hn : n < 32) : (XT.ushr z k).toBitVec = z.toBitVec >>> n := by
  unfold XT.ushr
  show (z.toUInt32 >>> (k &&& 31).toUInt32).toBitVec = _
  rw [UInt32.toBitVec_shiftRight]
  show z.toBitVec >>> ((k &&& 31).toUInt32.toBitVec % 32) = _
  rw [BitVec.ushiftRight_eq']
  congr 1
  rw [BitVec.toNat_umod, hk]
  exact Nat.mod_eq_of_lt hn
theorem own_shl32 (z k : Int32) (n : Nat) (hk : (k &&& 31).toBitVec.toNat = n) (hn : n < 32) : (z <<< (k &&& 31)).toBitVec = z.toBitVec <<< n := by
  rw [Int32.toBitVec_shiftLeft]
  show z.toBitVec <<< ((k &&& 31).toBitVec.smod 32) = _
  have e : (k &&& 31).toBitVec.smod 32#32 = (k &&& 31).toBitVec := by
    rw [show (k &&& 31).toBitVec = BitVec.ofNat 32 n from BitVec.eq_of_toNat_eq (by rw [hk, BitVec.toNat_ofNat, Nat.mod_eq_of_lt (by omega)])]
    have : ∀ m : Fin 32, (BitVec.ofNat 32 m.val).smod 32#32 = BitVec.ofNat 32 m.val := by decide +kernel
    exact this ⟨n, hn⟩
  show z.toBitVec <<< ((k &&& 31).toBitVec.smod 32#32) = _
  rw [e, BitVec.shiftLeft_eq', hk]
def own_w4 (b3 b2 b1 b0 : Int32) : Int32 := (((b3 &&& 255) <<< ((24 : Int32) &&& 31) ||| (b2 &&& 255) <<< ((16 : Int32) &&& 31)) ||| (b1 &&& 255) <<< ((8 : Int32) &&& 31)) ||| (b0 &&& 255)
theorem own_word (w : Int32) : own_w4 (nar .byte (XT.ushr w 24).toInt8.toInt32) (nar .byte (XT.ushr w 16).toInt8.toInt32) (nar .byte (XT.ushr w 8).toInt8.toInt32) (nar .byte w.toInt8.toInt32) = w := by
  unfold own_w4
  rw [own_byte2, own_byte2, own_byte2, own_byte2]
  apply Int32.toBitVec_inj.mp
  rw [Int32.toBitVec_or, Int32.toBitVec_or, Int32.toBitVec_or, own_shl32 _ 24 24 (by decide) (by decide), own_shl32 _ 16 16 (by decide) (by decide), own_shl32 _ 8 8 (by decide) (by decide),
    Int32.toBitVec_and, Int32.toBitVec_and, Int32.toBitVec_and, Int32.toBitVec_and, own_ushr32 _ 24 24 (by decide) (by decide), own_ushr32 _ 16 16 (by decide) (by decide), own_ushr32 _ 8 8 (by decide) (by decide)]
  exact own_cat4 w.toBitVec
def own_c (x : Int32) : Int32 := x.toUInt32.toUInt16.toUInt32.toInt32
theorem own_narc (x : Int32) : nar .char (own_c x) = own_c x := by
  show own_c (own_c x) = own_c x
  simp only [own_c, UInt32.toUInt32_toInt32, UInt16.toUInt16_toUInt32]
theorem own_cb (x : Int32) : (own_c x).toBitVec = (x.toBitVec.setWidth 16).setWidth 32 := rfl
theorem own_65535 (i : Nat) : (65535#32).getLsbD i = decide (i < 16) := by
  show (BitVec.ofNat 32 (2 ^ 16 - 1)).getLsbD i = _
  rw [BitVec.getLsbD_ofNat, Nat.testBit_two_pow_sub_one]
  by_cases h : i < 16
  · simp [h, show i < 32 by omega]
  · simp [h]
theorem own_cbit (x : BitVec 32) (i : Nat) (hi : i < 32) : ((x.setWidth 16).setWidth 32).getLsbD i = (decide (i < 16) && x.getLsbD i) := by
  rw [BitVec.getLsbD_setWidth, BitVec.getLsbD_setWidth]
  simp [hi]
def own_rn (b : Int32) : Int32 := own_c (b &&& 255)
def own_rw (b d : Int32) : Int32 := own_c (((b &&& 255) <<< ((8 : Int32) &&& 31)) ||| (d &&& 255))
theorem own_narrow (c0 : Int32) : own_rn (nar .byte (c0 &&& 255).toInt8.toInt32) = c0 &&& 255 := by
  unfold own_rn
  rw [own_byte2]
  apply Int32.toBitVec_inj.mp
  rw [own_cb, Int32.toBitVec_and, Int32.toBitVec_and]
  show ((c0.toBitVec &&& 255#32 &&& 255#32).setWidth 16).setWidth 32 = c0.toBitVec &&& 255#32
  apply BitVec.eq_of_getLsbD_eq
  intro i hi
  rw [own_cbit _ _ hi, BitVec.getLsbD_and, BitVec.getLsbD_and, own_255]
  by_cases h : i < 8
  · simp [h, show i < 16 by omega]
  · simp [h]
theorem own_wide (c0 : Int32) : own_rw (nar .byte (XT.ushr (c0 &&& 65535) 8).toInt8.toInt32) (nar .byte (c0 &&& 65535).toInt8.toInt32) = c0 &&& 65535 := by
  unfold own_rw
  rw [own_byte2, own_byte2]
  apply Int32.toBitVec_inj.mp
  rw [own_cb, Int32.toBitVec_or, own_shl32 _ 8 8 (by decide) (by decide), Int32.toBitVec_and, Int32.toBitVec_and, own_ushr32 _ 8 8 (by decide) (by decide), Int32.toBitVec_and]
  show ((((c0.toBitVec &&& 65535#32) >>> 8 &&& 255#32) <<< 8 ||| (c0.toBitVec &&& 65535#32) &&& 255#32).setWidth 16).setWidth 32 = c0.toBitVec &&& 65535#32
  apply BitVec.eq_of_getLsbD_eq
  intro i hi
  rw [own_cbit _ _ hi]
  simp only [BitVec.getLsbD_or, BitVec.getLsbD_and, BitVec.getLsbD_shiftLeft, BitVec.getLsbD_ushiftRight, own_255, own_65535]
  have q : i < 8 ∨ (8 ≤ i ∧ i < 16) ∨ 16 ≤ i := by omega
  rcases q with q | q | q
  · simp [q, show i < 16 by omega]
  · simp [show i < 32 by omega, show i < 16 by omega, show ¬ i < 8 by omega, show 8 + (i - 8) = i by omega, show i - 8 < 8 by omega]
  · simp [show ¬ i < 16 by omega]
theorem own_four (x v : Int32) (h : v = x &&& 3) : v = 0 ∨ v = 1 ∨ v = 2 ∨ v = 3 := by
  have e : (x &&& 3).toBitVec.toNat = x.toBitVec.toNat % 4 := by
    rw [Int32.toBitVec_and, BitVec.toNat_and]
    show x.toBitVec.toNat &&& 3 = _
    exact Nat.and_two_pow_sub_one_eq_mod x.toBitVec.toNat 2
  have k := own_nn' (x := x &&& 3) (by omega)
  have q := own_ofnat (x := x &&& 3) (by omega)
  subst h
  have : (x &&& 3).toBitVec.toNat = 0 ∨ (x &&& 3).toBitVec.toNat = 1 ∨ (x &&& 3).toBitVec.toNat = 2 ∨ (x &&& 3).toBitVec.toNat = 3 := by omega
  rcases this with h | h | h | h <;> rw [h] at q <;> rw [q] <;> decide

theorem d1_0 : decode prog_33_method_5_code 0 = .ok (.iload_n 2, 1) := by decide +kernel
theorem d1_1 : decode prog_33_method_5_code 1 = .ok (.ifCond .ne 14, 3) := by decide +kernel
theorem d1_4 : decode prog_33_method_5_code 4 = .ok (.aload_n 0, 1) := by decide +kernel
theorem d1_5 : decode prog_33_method_5_code 5 = .ok (.iload_n 1, 1) := by decide +kernel
theorem d1_6 : decode prog_33_method_5_code 6 = .ok (.iload_n 3, 1) := by decide +kernel
theorem d1_7 : decode prog_33_method_5_code 7 = .ok (.iadd, 1) := by decide +kernel
theorem d1_8 : decode prog_33_method_5_code 8 = .ok (.baload, 1) := by decide +kernel
theorem d1_9 : decode prog_33_method_5_code 9 = .ok (.sipush 255, 3) := by decide +kernel
theorem d1_12 : decode prog_33_method_5_code 12 = .ok (.iand, 1) := by decide +kernel
theorem d1_13 : decode prog_33_method_5_code 13 = .ok (.i2c, 1) := by decide +kernel
theorem d1_14 : decode prog_33_method_5_code 14 = .ok (.ireturn, 1) := by decide +kernel
theorem d1_15 : decode prog_33_method_5_code 15 = .ok (.aload_n 0, 1) := by decide +kernel
theorem d1_16 : decode prog_33_method_5_code 16 = .ok (.iload_n 1, 1) := by decide +kernel
theorem d1_17 : decode prog_33_method_5_code 17 = .ok (.iconst 2, 1) := by decide +kernel
theorem d1_18 : decode prog_33_method_5_code 18 = .ok (.iload_n 3, 1) := by decide +kernel
theorem d1_19 : decode prog_33_method_5_code 19 = .ok (.imul, 1) := by decide +kernel
theorem d1_20 : decode prog_33_method_5_code 20 = .ok (.iadd, 1) := by decide +kernel
theorem d1_21 : decode prog_33_method_5_code 21 = .ok (.baload, 1) := by decide +kernel
theorem d1_22 : decode prog_33_method_5_code 22 = .ok (.sipush 255, 3) := by decide +kernel
theorem d1_25 : decode prog_33_method_5_code 25 = .ok (.iand, 1) := by decide +kernel
theorem d1_26 : decode prog_33_method_5_code 26 = .ok (.bipush 8, 2) := by decide +kernel
theorem d1_28 : decode prog_33_method_5_code 28 = .ok (.ishl, 1) := by decide +kernel
theorem d1_29 : decode prog_33_method_5_code 29 = .ok (.aload_n 0, 1) := by decide +kernel
theorem d1_30 : decode prog_33_method_5_code 30 = .ok (.iload_n 1, 1) := by decide +kernel
theorem d1_31 : decode prog_33_method_5_code 31 = .ok (.iconst 2, 1) := by decide +kernel
theorem d1_32 : decode prog_33_method_5_code 32 = .ok (.iload_n 3, 1) := by decide +kernel
theorem d1_33 : decode prog_33_method_5_code 33 = .ok (.imul, 1) := by decide +kernel
theorem d1_34 : decode prog_33_method_5_code 34 = .ok (.iadd, 1) := by decide +kernel
theorem d1_35 : decode prog_33_method_5_code 35 = .ok (.iconst 1, 1) := by decide +kernel
theorem d1_36 : decode prog_33_method_5_code 36 = .ok (.iadd, 1) := by decide +kernel
theorem d1_37 : decode prog_33_method_5_code 37 = .ok (.baload, 1) := by decide +kernel
theorem d1_38 : decode prog_33_method_5_code 38 = .ok (.sipush 255, 3) := by decide +kernel
theorem d1_41 : decode prog_33_method_5_code 41 = .ok (.iand, 1) := by decide +kernel
theorem d1_42 : decode prog_33_method_5_code 42 = .ok (.ior, 1) := by decide +kernel
theorem d1_43 : decode prog_33_method_5_code 43 = .ok (.i2c, 1) := by decide +kernel
theorem d1_44 : decode prog_33_method_5_code 44 = .ok (.ireturn, 1) := by decide +kernel

theorem pd1 : parseMethodDescriptor "([BIZI)C" = some ⟨[(.array .byte), .int, .boolean, .int], some .char⟩ := by decide +kernel
theorem pl1 : plainFor (⟨"com/example/latchwork/latchwork/engine/PackedChars", "charAt", "([BIZI)C"⟩ : MethodName) = true := by first | exact plainFor_of_name (by first | (simp [plainName, overriddenIn]; done) | decide +kernel) | decide +kernel

theorem ef_k_n (m : MethodId) (x0 : Addr) (x1 : Int32) (x2 : Int32) (x3 : Int32) : entryFrame m #[(.ref x0), (.int x1), (.int x2), (.int x3)] 4 = mkF m 0 #[.val (.ref x0), .val (.int x1), .val (.int x2), .val (.int x3)] [] := by first | (simp [entryFrame, mkF, argsToLocals, Value.category]; done) | rfl

set_option maxRecDepth 65536 in
set_option maxHeartbeats 40000000 in
theorem k_n {l : Launch} {Z : State} {a0 : Array Value} (hw : ∀ d ∈ tables_1, d.before a0 Z = true) {xs : List Int32} {i0 : Nat} {b0 : Int32} (h : Heap) (hz : Z.heap.size ≤ h.size) (a : Addr) (x : Int32) (w : Int32) (k : Int32) (fa0 : Ari Z h a .byte xs) (hc : w = 0) (p0 : ¬ (x + k) < 0) (q0 : Int32.toNatClampNeg (x + k) = i0) (r0 : xs[i0]? = some b0)   : Go l Z (⟨"com/example/latchwork/latchwork/engine/PackedChars", "charAt", "([BIZI)C"⟩ : MethodName) prog_33_method_5_code 4 (Option.some Jvm.ClassFile.FieldType.char) ({ frames := 0, cells := 0, slots := 0, locals := 0 } : Room) (QI fun rz h' => rz = (own_rn b0) ∧ h' = h) 0 0 h 0 #[.val (.ref a), .val (.int x), .val (.int w), .val (.int k)] [] := by
  refine Go.iload_n 1 d1_0 rfl rfl ?_
  refine Go.if_ne 15 4 d1_1 (by decide) (by decide) rfl (fun c1 => ?_) (fun c1 => ?_)
  ·
    exact absurd hc c1
  ·
    refine Go.aload_n 5 d1_4 rfl rfl rfl ?_
    refine Go.iload_n 6 d1_5 rfl rfl ?_
    refine Go.iload_n 7 d1_6 rfl rfl ?_
    refine Go.iadd 8 d1_7 rfl ?_
    refine Go.baload (x := b0) (i0) 9 d1_8 fa0 p0 q0 r0 rfl ?_
    refine Go.sipush 12 (255) d1_9 (by decide) rfl ?_
    refine Go.iand 13 d1_12 rfl ?_
    refine Go.i2c 14 d1_13 rfl ?_
    refine Go.nreturn (t := .char) (z' := (UInt32.toInt32 (UInt16.toUInt32 (UInt32.toUInt16 (Int32.toUInt32 (b0 &&& (255 : Int32))))))) d1_14 rfl (by simp) (own_narc _) (by decide) (by decide) ?_
    exact ⟨by rfl, rfl⟩

theorem ef_k_w (m : MethodId) (x0 : Addr) (x1 : Int32) (x2 : Int32) (x3 : Int32) : entryFrame m #[(.ref x0), (.int x1), (.int x2), (.int x3)] 4 = mkF m 0 #[.val (.ref x0), .val (.int x1), .val (.int x2), .val (.int x3)] [] := by first | (simp [entryFrame, mkF, argsToLocals, Value.category]; done) | rfl

set_option maxRecDepth 65536 in
set_option maxHeartbeats 40000000 in
theorem k_w {l : Launch} {Z : State} {a0 : Array Value} (hw : ∀ d ∈ tables_1, d.before a0 Z = true) {xs : List Int32} {i0 : Nat} {b0 : Int32} {i1 : Nat} {b1 : Int32} (h : Heap) (hz : Z.heap.size ≤ h.size) (a : Addr) (x : Int32) (w : Int32) (k : Int32) (fa0 : Ari Z h a .byte xs) (hc : ¬ w = 0) (p0 : ¬ (x + ((2 : Int32) * k)) < 0) (q0 : Int32.toNatClampNeg (x + ((2 : Int32) * k)) = i0) (r0 : xs[i0]? = some b0) (p1 : ¬ ((x + ((2 : Int32) * k)) + (1 : Int32)) < 0) (q1 : Int32.toNatClampNeg ((x + ((2 : Int32) * k)) + (1 : Int32)) = i1) (r1 : xs[i1]? = some b1)   : Go l Z (⟨"com/example/latchwork/latchwork/engine/PackedChars", "charAt", "([BIZI)C"⟩ : MethodName) prog_33_method_5_code 4 (Option.some Jvm.ClassFile.FieldType.char) ({ frames := 0, cells := 0, slots := 0, locals := 0 } : Room) (QI fun rz h' => rz = (own_rw b0 b1) ∧ h' = h) 0 0 h 0 #[.val (.ref a), .val (.int x), .val (.int w), .val (.int k)] [] := by
  refine Go.iload_n 1 d1_0 rfl rfl ?_
  refine Go.if_ne 15 4 d1_1 (by decide) (by decide) rfl (fun c1 => ?_) (fun c1 => ?_)
  ·
    refine Go.aload_n 16 d1_15 rfl rfl rfl ?_
    refine Go.iload_n 17 d1_16 rfl rfl ?_
    refine Go.iconst 18 (2) d1_17 (by decide) rfl ?_
    refine Go.iload_n 19 d1_18 rfl rfl ?_
    refine Go.imul 20 d1_19 rfl ?_
    refine Go.iadd 21 d1_20 rfl ?_
    refine Go.baload (x := b0) (i0) 22 d1_21 fa0 p0 q0 r0 rfl ?_
    refine Go.sipush 25 (255) d1_22 (by decide) rfl ?_
    refine Go.iand 26 d1_25 rfl ?_
    refine Go.bipush 28 (8) d1_26 (by decide) rfl ?_
    refine Go.ishl 29 d1_28 rfl ?_
    refine Go.aload_n 30 d1_29 rfl rfl rfl ?_
    refine Go.iload_n 31 d1_30 rfl rfl ?_
    refine Go.iconst 32 (2) d1_31 (by decide) rfl ?_
    refine Go.iload_n 33 d1_32 rfl rfl ?_
    refine Go.imul 34 d1_33 rfl ?_
    refine Go.iadd 35 d1_34 rfl ?_
    refine Go.iconst 36 (1) d1_35 (by decide) rfl ?_
    refine Go.iadd 37 d1_36 rfl ?_
    refine Go.baload (x := b1) (i1) 38 d1_37 fa0 p1 q1 r1 rfl ?_
    refine Go.sipush 41 (255) d1_38 (by decide) rfl ?_
    refine Go.iand 42 d1_41 rfl ?_
    refine Go.ior 43 d1_42 rfl ?_
    refine Go.i2c 44 d1_43 rfl ?_
    refine Go.nreturn (t := .char) (z' := (UInt32.toInt32 (UInt16.toUInt32 (UInt32.toUInt16 (Int32.toUInt32 (((b0 &&& (255 : Int32)) <<< ((8 : Int32) &&& 31)) ||| (b1 &&& (255 : Int32)))))))) d1_44 rfl (by simp) (own_narc _) (by decide) (by decide) ?_
    exact ⟨by rfl, rfl⟩
  ·
    exact absurd c1 hc

theorem ef_law0 (m : MethodId) (x0 : Int32) (x1 : Int32) (x2 : Int32) (x3 : Int32) (x4 : Int64) : entryFrame m #[(.int x0), (.int x1), (.int x2), (.int x3), (.long x4)] maxLocals = mkF m 0 #[.val (.int x0), .val (.int x1), .val (.int x2), .val (.int x3), .val (.long x4), .second, .unset, .unset, .unset, .unset, .unset, .unset, .unset, .unset] [] := by first | (simp [entryFrame, mkF, argsToLocals, Value.category, maxLocals]; done) | rfl

set_option maxRecDepth 65536 in
set_option maxHeartbeats 40000000 in
theorem law0 {l : Launch} {Z : State} {a0 : Array Value} (hw : ∀ d ∈ tables_1, d.before a0 Z = true)  (h : Heap) (hz : Z.heap.size ≤ h.size) (i0 : Int32) (i1 : Int32) (i2 : Int32) (i3 : Int32) (i4 : Int64)     : Go l Z x code maxLocals ret room_1 (QI fun z h' => z = 1) 0 0 h 0 #[.val (.int i0), .val (.int i1), .val (.int i2), .val (.int i3), .val (.long i4), .second, .unset, .unset, .unset, .unset, .unset, .unset, .unset, .unset] [] := by
  refine Go.iload_n 1 at_0 rfl rfl ?_
  refine Go.iconst 2 (1) at_1 (by decide) rfl ?_
  refine Go.iand 3 at_2 rfl ?_
  refine Go.if_eq 10 6 at_3 (by decide) (by decide) rfl (fun c1 => ?_) (fun c1 => ?_)
  ·
    refine Go.iconst 11 (0) at_10 (by decide) rfl ?_
    refine Go.istore 13 #[.val (.int i0), .val (.int i1), .val (.int i2), .val (.int i3), .val (.long i4), .second, .val (.int (0 : Int32)), .unset, .unset, .unset, .unset, .unset, .unset, .unset] at_11 rfl rfl ?_
    refine Go.iload 15 at_13 rfl rfl ?_
    refine Go.if_eq 23 18 at_15 (by decide) (by decide) rfl (fun _ => ?_) (fun c => absurd c (by decide))
    refine Go.sipush 26 (255) at_23 (by decide) rfl ?_
    refine Go.istore 28 #[.val (.int i0), .val (.int i1), .val (.int i2), .val (.int i3), .val (.long i4), .second, .val (.int (0 : Int32)), .val (.int (255 : Int32)), .unset, .unset, .unset, .unset, .unset, .unset] at_26 rfl rfl ?_
    refine Go.iload_n 29 at_28 rfl rfl ?_
    refine Go.iload 31 at_29 rfl rfl ?_
    refine Go.iand 32 at_31 rfl ?_
    refine Go.nameI (fun v3 e4 => ?_)
    refine Go.istore 34 #[.val (.int i0), .val (.int i1), .val (.int i2), .val (.int i3), .val (.long i4), .second, .val (.int (0 : Int32)), .val (.int (255 : Int32)), .val (.int v3), .unset, .unset, .unset, .unset, .unset] at_32 rfl rfl ?_
    refine Go.iload_n 35 at_34 rfl rfl ?_
    refine Go.iload 37 at_35 rfl rfl ?_
    refine Go.iand 38 at_37 rfl ?_
    refine Go.nameI (fun v5 e6 => ?_)
    refine Go.istore 40 #[.val (.int i0), .val (.int i1), .val (.int i2), .val (.int i3), .val (.long i4), .second, .val (.int (0 : Int32)), .val (.int (255 : Int32)), .val (.int v3), .val (.int v5), .unset, .unset, .unset, .unset] at_38 rfl rfl ?_
    refine Go.iload_n 41 at_40 rfl rfl ?_
    refine Go.iconst 42 (3) at_41 (by decide) rfl ?_
    refine Go.iand 43 at_42 rfl ?_
    refine Go.nameI (fun v7 e8 => ?_)
    refine Go.istore 45 #[.val (.int i0), .val (.int i1), .val (.int i2), .val (.int i3), .val (.long i4), .second, .val (.int (0 : Int32)), .val (.int (255 : Int32)), .val (.int v3), .val (.int v5), .val (.int v7), .unset, .unset, .unset] at_43 rfl rfl ?_
    refine Go.bipush 47 (8) at_45 (by decide) rfl ?_
    refine Go.newI (cap := 8) (xs := [0, 0, 0, 0, 0, 0, 0, 0]) 49 at_47 (tw1 hw) rfl (by decide) (by decide) (by decide) rfl (by decide) (by decide) rfl (fun a9 h10 q11 E12 A13 => ?_)
    have ge14 : Z.heap.size ≤ a9 := (Eq.symm q11) ▸ hz
    have zs15 : Z.heap.size ≤ h10.size := Nat.le_trans hz E12.1
    refine Go.astore 51 #[.val (.int i0), .val (.int i1), .val (.int i2), .val (.int i3), .val (.long i4), .second, .val (.int (0 : Int32)), .val (.int (255 : Int32)), .val (.int v3), .val (.int v5), .val (.int v7), .val (.ref a9), .unset, .unset] at_49 rfl rfl rfl ?_
    refine Go.aload 53 at_51 rfl rfl rfl ?_
    refine Go.iconst 54 (0) at_53 (by decide) rfl ?_
    refine Go.lload 56 at_54 rfl rfl ?_
    refine Go.l2i 57 at_56 rfl ?_
    refine Go.i2b 58 at_57 rfl ?_
    refine Go.nameI (fun v16 e17 => ?_)
    refine Go.bastore (0) ([(nar .byte v16), 0, 0, 0, 0, 0, 0, 0]) 59 at_58 A13 (by decide) (by decide) (by decide : (0 : Nat) < 8) rfl ge14 rfl (fun h18 W19 A20 => ?_)
    have zs21 : Z.heap.size ≤ h18.size := W19.size ▸ zs15
    refine Go.aload 61 at_59 rfl rfl rfl ?_
    refine Go.iconst 62 (1) at_61 (by decide) rfl ?_
    refine Go.lload 64 at_62 rfl rfl ?_
    refine Go.bipush 66 (8) at_64 (by decide) rfl ?_
    refine Go.lushr 67 at_66 rfl ?_
    refine Go.l2i 68 at_67 rfl ?_
    refine Go.i2b 69 at_68 rfl ?_
    refine Go.nameI (fun v22 e23 => ?_)
    refine Go.bastore (1) ([(nar .byte v16), (nar .byte v22), 0, 0, 0, 0, 0, 0]) 70 at_69 A20 (by decide) (by decide) (by decide : (1 : Nat) < 8) rfl ge14 rfl (fun h24 W25 A26 => ?_)
    have zs27 : Z.heap.size ≤ h24.size := W25.size ▸ zs21
    refine Go.aload 72 at_70 rfl rfl rfl ?_
    refine Go.iconst 73 (2) at_72 (by decide) rfl ?_
    refine Go.lload 75 at_73 rfl rfl ?_
    refine Go.bipush 77 (16) at_75 (by decide) rfl ?_
    refine Go.lushr 78 at_77 rfl ?_
    refine Go.l2i 79 at_78 rfl ?_
    refine Go.i2b 80 at_79 rfl ?_
    refine Go.nameI (fun v28 e29 => ?_)
    refine Go.bastore (2) ([(nar .byte v16), (nar .byte v22), (nar .byte v28), 0, 0, 0, 0, 0]) 81 at_80 A26 (by decide) (by decide) (by decide : (2 : Nat) < 8) rfl ge14 rfl (fun h30 W31 A32 => ?_)
    have zs33 : Z.heap.size ≤ h30.size := W31.size ▸ zs27
    refine Go.aload 83 at_81 rfl rfl rfl ?_
    refine Go.iconst 84 (3) at_83 (by decide) rfl ?_
    refine Go.lload 86 at_84 rfl rfl ?_
    refine Go.bipush 88 (24) at_86 (by decide) rfl ?_
    refine Go.lushr 89 at_88 rfl ?_
    refine Go.l2i 90 at_89 rfl ?_
    refine Go.i2b 91 at_90 rfl ?_
    refine Go.nameI (fun v34 e35 => ?_)
    refine Go.bastore (3) ([(nar .byte v16), (nar .byte v22), (nar .byte v28), (nar .byte v34), 0, 0, 0, 0]) 92 at_91 A32 (by decide) (by decide) (by decide : (3 : Nat) < 8) rfl ge14 rfl (fun h36 W37 A38 => ?_)
    have zs39 : Z.heap.size ≤ h36.size := W37.size ▸ zs33
    refine Go.aload 94 at_92 rfl rfl rfl ?_
    refine Go.iconst 95 (4) at_94 (by decide) rfl ?_
    refine Go.lload 97 at_95 rfl rfl ?_
    refine Go.bipush 99 (32) at_97 (by decide) rfl ?_
    refine Go.lushr 100 at_99 rfl ?_
    refine Go.l2i 101 at_100 rfl ?_
    refine Go.i2b 102 at_101 rfl ?_
    refine Go.nameI (fun v40 e41 => ?_)
    refine Go.bastore (4) ([(nar .byte v16), (nar .byte v22), (nar .byte v28), (nar .byte v34), (nar .byte v40), 0, 0, 0]) 103 at_102 A38 (by decide) (by decide) (by decide : (4 : Nat) < 8) rfl ge14 rfl (fun h42 W43 A44 => ?_)
    have zs45 : Z.heap.size ≤ h42.size := W43.size ▸ zs39
    refine Go.aload 105 at_103 rfl rfl rfl ?_
    refine Go.iconst 106 (5) at_105 (by decide) rfl ?_
    refine Go.lload 108 at_106 rfl rfl ?_
    refine Go.bipush 110 (40) at_108 (by decide) rfl ?_
    refine Go.lushr 111 at_110 rfl ?_
    refine Go.l2i 112 at_111 rfl ?_
    refine Go.i2b 113 at_112 rfl ?_
    refine Go.nameI (fun v46 e47 => ?_)
    refine Go.bastore (5) ([(nar .byte v16), (nar .byte v22), (nar .byte v28), (nar .byte v34), (nar .byte v40), (nar .byte v46), 0, 0]) 114 at_113 A44 (by decide) (by decide) (by decide : (5 : Nat) < 8) rfl ge14 rfl (fun h48 W49 A50 => ?_)
    have zs51 : Z.heap.size ≤ h48.size := W49.size ▸ zs45
    refine Go.aload 116 at_114 rfl rfl rfl ?_
    refine Go.bipush 118 (6) at_116 (by decide) rfl ?_
    refine Go.lload 120 at_118 rfl rfl ?_
    refine Go.bipush 122 (48) at_120 (by decide) rfl ?_
    refine Go.lushr 123 at_122 rfl ?_
    refine Go.l2i 124 at_123 rfl ?_
    refine Go.i2b 125 at_124 rfl ?_
    refine Go.nameI (fun v52 e53 => ?_)
    refine Go.bastore (6) ([(nar .byte v16), (nar .byte v22), (nar .byte v28), (nar .byte v34), (nar .byte v40), (nar .byte v46), (nar .byte v52), 0]) 126 at_125 A50 (by decide) (by decide) (by decide : (6 : Nat) < 8) rfl ge14 rfl (fun h54 W55 A56 => ?_)
    have zs57 : Z.heap.size ≤ h54.size := W55.size ▸ zs51
    refine Go.aload 128 at_126 rfl rfl rfl ?_
    refine Go.bipush 130 (7) at_128 (by decide) rfl ?_
    refine Go.lload 132 at_130 rfl rfl ?_
    refine Go.bipush 134 (56) at_132 (by decide) rfl ?_
    refine Go.lushr 135 at_134 rfl ?_
    refine Go.l2i 136 at_135 rfl ?_
    refine Go.i2b 137 at_136 rfl ?_
    refine Go.nameI (fun v58 e59 => ?_)
    refine Go.bastore (7) ([(nar .byte v16), (nar .byte v22), (nar .byte v28), (nar .byte v34), (nar .byte v40), (nar .byte v46), (nar .byte v52), (nar .byte v58)]) 138 at_137 A56 (by decide) (by decide) (by decide : (7 : Nat) < 8) rfl ge14 rfl (fun h60 W61 A62 => ?_)
    have zs63 : Z.heap.size ≤ h60.size := W61.size ▸ zs57
    rcases own_four i2 v7 e8 with hs63 | hs63 | hs63 | hs63
    ·
      subst hs63
      refine Go.iload 140 at_138 rfl rfl ?_
      refine Go.if_eq 190 143 at_140 (by decide) (by decide) rfl (fun _ => ?_) (fun c => absurd c (by decide))
      refine Go.aload 192 at_190 rfl rfl rfl ?_
      refine Go.iload 194 at_192 rfl rfl ?_
      refine Go.iload 196 at_194 rfl rfl ?_
      refine Go.i2b 197 at_196 rfl ?_
      refine Go.nameI (fun v66 e67 => ?_)
      refine Go.bastore (0) ([(nar .byte v66), (nar .byte v22), (nar .byte v28), (nar .byte v34), (nar .byte v40), (nar .byte v46), (nar .byte v52), (nar .byte v58)]) 198 at_197 A62 (by decide) (by decide) (by decide : (0 : Nat) < 8) rfl ge14 rfl (fun h68 W69 A70 => ?_)
      have zs71 : Z.heap.size ≤ h68.size := W69.size ▸ zs63
      refine Go.aload 200 at_198 rfl rfl rfl ?_
      refine Go.iload 202 at_200 rfl rfl ?_
      refine Go.iconst 203 (1) at_202 (by decide) rfl ?_
      refine Go.iadd 204 at_203 rfl ?_
      refine Go.iload 206 at_204 rfl rfl ?_
      refine Go.i2b 207 at_206 rfl ?_
      refine Go.nameI (fun v72 e73 => ?_)
      refine Go.bastore (1) ([(nar .byte v66), (nar .byte v72), (nar .byte v28), (nar .byte v34), (nar .byte v40), (nar .byte v46), (nar .byte v52), (nar .byte v58)]) 208 at_207 A70 (by decide) (by decide) (by decide : (1 : Nat) < 8) rfl ge14 rfl (fun h74 W75 A76 => ?_)
      have zs77 : Z.heap.size ≤ h74.size := W75.size ▸ zs71
      refine Go.aload 210 at_208 rfl rfl rfl ?_
      refine Go.iload 212 at_210 rfl rfl ?_
      refine Go.iload 214 at_212 rfl rfl ?_
      refine Go.iconst 215 (0) at_214 (by decide) rfl ?_
      refine Go.callSIp [.ref a9, .int (0 : Int32), .int (0 : Int32), .int (0 : Int32)] [] 218 at_215 (tw2 hw) (tw3 hw) (tw4 hw) (tw5 hw) pl1 (by decide) (lenOf pd1 rfl) rfl (fun m => ef_k_n m a9 (0 : Int32) (0 : Int32) (0 : Int32)) _ (k_n (i0 := 0) (b0 := (nar .byte v66)) hw h74 zs77 a9 (0 : Int32) (0 : Int32) (0 : Int32) A76 (by decide) (by decide) (by decide) rfl) 0 rfl (Nat.le_of_eq rfl) (by decide) (by decide) (by decide) (by decide) rfl ?_
      refine Go.nameI (fun v81 e82 => ?_)
      refine Go.istore 220 #[.val (.int i0), .val (.int i1), .val (.int i2), .val (.int i3), .val (.long i4), .second, .val (.int (0 : Int32)), .val (.int (255 : Int32)), .val (.int v3), .val (.int v5), .val (.int (0 : Int32)), .val (.ref a9), .val (.int v81), .unset] at_218 rfl rfl ?_
      refine Go.aload 222 at_220 rfl rfl rfl ?_
      refine Go.iload 224 at_222 rfl rfl ?_
      refine Go.iload 226 at_224 rfl rfl ?_
      refine Go.iconst 227 (1) at_226 (by decide) rfl ?_
      refine Go.callSIp [.ref a9, .int (0 : Int32), .int (0 : Int32), .int (1 : Int32)] [] 230 at_227 (tw2 hw) (tw3 hw) (tw4 hw) (tw5 hw) pl1 (by decide) (lenOf pd1 rfl) rfl (fun m => ef_k_n m a9 (0 : Int32) (0 : Int32) (1 : Int32)) _ (k_n (i0 := 1) (b0 := (nar .byte v72)) hw h74 zs77 a9 (0 : Int32) (0 : Int32) (1 : Int32) A76 (by decide) (by decide) (by decide) rfl) 0 rfl (Nat.le_of_eq rfl) (by decide) (by decide) (by decide) (by decide) rfl ?_
      refine Go.nameI (fun v86 e87 => ?_)
      refine Go.istore 232 #[.val (.int i0), .val (.int i1), .val (.int i2), .val (.int i3), .val (.long i4), .second, .val (.int (0 : Int32)), .val (.int (255 : Int32)), .val (.int v3), .val (.int v5), .val (.int (0 : Int32)), .val (.ref a9), .val (.int v81), .val (.int v86)] at_230 rfl rfl ?_
      refine Go.iload 234 at_232 rfl rfl ?_
      refine Go.iload 236 at_234 rfl rfl ?_
      refine Go.icmp_ne 250 239 at_236 (by decide) (by decide) rfl (fun c88 => ?_) (fun c88 => ?_)
      ·
        refine Go.iconst 251 (0) at_250 (by decide) rfl ?_
        refine Go.nreturn (t := .boolean) (z' := (0 : Int32)) at_251 rfl (by simp) (by decide) (by decide) (by decide) ?_
        exfalso
        subst_vars
        first | exact absurd (own_narrow i0) ‹¬ _› | exact absurd (own_narrow i1) ‹¬ _›
      ·
        refine Go.iload 241 at_239 rfl rfl ?_
        refine Go.iload 243 at_241 rfl rfl ?_
        refine Go.icmp_ne 250 246 at_243 (by decide) (by decide) rfl (fun c89 => ?_) (fun c89 => ?_)
        ·
          refine Go.iconst 251 (0) at_250 (by decide) rfl ?_
          refine Go.nreturn (t := .boolean) (z' := (0 : Int32)) at_251 rfl (by simp) (by decide) (by decide) (by decide) ?_
          exfalso
          subst_vars
          first | exact absurd (own_narrow i0) ‹¬ _› | exact absurd (own_narrow i1) ‹¬ _›
        ·
          refine Go.iconst 247 (1) at_246 (by decide) rfl ?_
          refine Go.goto 251 at_247 (by decide) (by decide) ?_
          refine Go.nreturn (t := .boolean) (z' := (1 : Int32)) at_251 rfl (by simp) (by decide) (by decide) (by decide) ?_
          rfl
    ·
      subst hs63
      refine Go.iload 140 at_138 rfl rfl ?_
      refine Go.if_eq 190 143 at_140 (by decide) (by decide) rfl (fun _ => ?_) (fun c => absurd c (by decide))
      refine Go.aload 192 at_190 rfl rfl rfl ?_
      refine Go.iload 194 at_192 rfl rfl ?_
      refine Go.iload 196 at_194 rfl rfl ?_
      refine Go.i2b 197 at_196 rfl ?_
      refine Go.nameI (fun v91 e92 => ?_)
      refine Go.bastore (1) ([(nar .byte v16), (nar .byte v91), (nar .byte v28), (nar .byte v34), (nar .byte v40), (nar .byte v46), (nar .byte v52), (nar .byte v58)]) 198 at_197 A62 (by decide) (by decide) (by decide : (1 : Nat) < 8) rfl ge14 rfl (fun h93 W94 A95 => ?_)
      have zs96 : Z.heap.size ≤ h93.size := W94.size ▸ zs63
      refine Go.aload 200 at_198 rfl rfl rfl ?_
      refine Go.iload 202 at_200 rfl rfl ?_
      refine Go.iconst 203 (1) at_202 (by decide) rfl ?_
      refine Go.iadd 204 at_203 rfl ?_
      refine Go.iload 206 at_204 rfl rfl ?_
      refine Go.i2b 207 at_206 rfl ?_
      refine Go.nameI (fun v97 e98 => ?_)
      refine Go.bastore (2) ([(nar .byte v16), (nar .byte v91), (nar .byte v97), (nar .byte v34), (nar .byte v40), (nar .byte v46), (nar .byte v52), (nar .byte v58)]) 208 at_207 A95 (by decide) (by decide) (by decide : (2 : Nat) < 8) rfl ge14 rfl (fun h99 W100 A101 => ?_)
      have zs102 : Z.heap.size ≤ h99.size := W100.size ▸ zs96
      refine Go.aload 210 at_208 rfl rfl rfl ?_
      refine Go.iload 212 at_210 rfl rfl ?_
      refine Go.iload 214 at_212 rfl rfl ?_
      refine Go.iconst 215 (0) at_214 (by decide) rfl ?_
      refine Go.callSIp [.ref a9, .int (1 : Int32), .int (0 : Int32), .int (0 : Int32)] [] 218 at_215 (tw2 hw) (tw3 hw) (tw4 hw) (tw5 hw) pl1 (by decide) (lenOf pd1 rfl) rfl (fun m => ef_k_n m a9 (1 : Int32) (0 : Int32) (0 : Int32)) _ (k_n (i0 := 1) (b0 := (nar .byte v91)) hw h99 zs102 a9 (1 : Int32) (0 : Int32) (0 : Int32) A101 (by decide) (by decide) (by decide) rfl) 0 rfl (Nat.le_of_eq rfl) (by decide) (by decide) (by decide) (by decide) rfl ?_
      refine Go.nameI (fun v106 e107 => ?_)
      refine Go.istore 220 #[.val (.int i0), .val (.int i1), .val (.int i2), .val (.int i3), .val (.long i4), .second, .val (.int (0 : Int32)), .val (.int (255 : Int32)), .val (.int v3), .val (.int v5), .val (.int (1 : Int32)), .val (.ref a9), .val (.int v106), .unset] at_218 rfl rfl ?_
      refine Go.aload 222 at_220 rfl rfl rfl ?_
      refine Go.iload 224 at_222 rfl rfl ?_
      refine Go.iload 226 at_224 rfl rfl ?_
      refine Go.iconst 227 (1) at_226 (by decide) rfl ?_
      refine Go.callSIp [.ref a9, .int (1 : Int32), .int (0 : Int32), .int (1 : Int32)] [] 230 at_227 (tw2 hw) (tw3 hw) (tw4 hw) (tw5 hw) pl1 (by decide) (lenOf pd1 rfl) rfl (fun m => ef_k_n m a9 (1 : Int32) (0 : Int32) (1 : Int32)) _ (k_n (i0 := 2) (b0 := (nar .byte v97)) hw h99 zs102 a9 (1 : Int32) (0 : Int32) (1 : Int32) A101 (by decide) (by decide) (by decide) rfl) 0 rfl (Nat.le_of_eq rfl) (by decide) (by decide) (by decide) (by decide) rfl ?_
      refine Go.nameI (fun v111 e112 => ?_)
      refine Go.istore 232 #[.val (.int i0), .val (.int i1), .val (.int i2), .val (.int i3), .val (.long i4), .second, .val (.int (0 : Int32)), .val (.int (255 : Int32)), .val (.int v3), .val (.int v5), .val (.int (1 : Int32)), .val (.ref a9), .val (.int v106), .val (.int v111)] at_230 rfl rfl ?_
      refine Go.iload 234 at_232 rfl rfl ?_
      refine Go.iload 236 at_234 rfl rfl ?_
      refine Go.icmp_ne 250 239 at_236 (by decide) (by decide) rfl (fun c113 => ?_) (fun c113 => ?_)
      ·
        refine Go.iconst 251 (0) at_250 (by decide) rfl ?_
        refine Go.nreturn (t := .boolean) (z' := (0 : Int32)) at_251 rfl (by simp) (by decide) (by decide) (by decide) ?_
        exfalso
        subst_vars
        first | exact absurd (own_narrow i0) ‹¬ _› | exact absurd (own_narrow i1) ‹¬ _›
      ·
        refine Go.iload 241 at_239 rfl rfl ?_
        refine Go.iload 243 at_241 rfl rfl ?_
        refine Go.icmp_ne 250 246 at_243 (by decide) (by decide) rfl (fun c114 => ?_) (fun c114 => ?_)
        ·
          refine Go.iconst 251 (0) at_250 (by decide) rfl ?_
          refine Go.nreturn (t := .boolean) (z' := (0 : Int32)) at_251 rfl (by simp) (by decide) (by decide) (by decide) ?_
          exfalso
          subst_vars
          first | exact absurd (own_narrow i0) ‹¬ _› | exact absurd (own_narrow i1) ‹¬ _›
        ·
          refine Go.iconst 247 (1) at_246 (by decide) rfl ?_
          refine Go.goto 251 at_247 (by decide) (by decide) ?_
          refine Go.nreturn (t := .boolean) (z' := (1 : Int32)) at_251 rfl (by simp) (by decide) (by decide) (by decide) ?_
          rfl
    ·
      subst hs63
      refine Go.iload 140 at_138 rfl rfl ?_
      refine Go.if_eq 190 143 at_140 (by decide) (by decide) rfl (fun _ => ?_) (fun c => absurd c (by decide))
      refine Go.aload 192 at_190 rfl rfl rfl ?_
      refine Go.iload 194 at_192 rfl rfl ?_
      refine Go.iload 196 at_194 rfl rfl ?_
      refine Go.i2b 197 at_196 rfl ?_
      refine Go.nameI (fun v116 e117 => ?_)
      refine Go.bastore (2) ([(nar .byte v16), (nar .byte v22), (nar .byte v116), (nar .byte v34), (nar .byte v40), (nar .byte v46), (nar .byte v52), (nar .byte v58)]) 198 at_197 A62 (by decide) (by decide) (by decide : (2 : Nat) < 8) rfl ge14 rfl (fun h118 W119 A120 => ?_)
      have zs121 : Z.heap.size ≤ h118.size := W119.size ▸ zs63
      refine Go.aload 200 at_198 rfl rfl rfl ?_
      refine Go.iload 202 at_200 rfl rfl ?_
      refine Go.iconst 203 (1) at_202 (by decide) rfl ?_
      refine Go.iadd 204 at_203 rfl ?_
      refine Go.iload 206 at_204 rfl rfl ?_
      refine Go.i2b 207 at_206 rfl ?_
      refine Go.nameI (fun v122 e123 => ?_)
      refine Go.bastore (3) ([(nar .byte v16), (nar .byte v22), (nar .byte v116), (nar .byte v122), (nar .byte v40), (nar .byte v46), (nar .byte v52), (nar .byte v58)]) 208 at_207 A120 (by decide) (by decide) (by decide : (3 : Nat) < 8) rfl ge14 rfl (fun h124 W125 A126 => ?_)
      have zs127 : Z.heap.size ≤ h124.size := W125.size ▸ zs121
      refine Go.aload 210 at_208 rfl rfl rfl ?_
      refine Go.iload 212 at_210 rfl rfl ?_
      refine Go.iload 214 at_212 rfl rfl ?_
      refine Go.iconst 215 (0) at_214 (by decide) rfl ?_
      refine Go.callSIp [.ref a9, .int (2 : Int32), .int (0 : Int32), .int (0 : Int32)] [] 218 at_215 (tw2 hw) (tw3 hw) (tw4 hw) (tw5 hw) pl1 (by decide) (lenOf pd1 rfl) rfl (fun m => ef_k_n m a9 (2 : Int32) (0 : Int32) (0 : Int32)) _ (k_n (i0 := 2) (b0 := (nar .byte v116)) hw h124 zs127 a9 (2 : Int32) (0 : Int32) (0 : Int32) A126 (by decide) (by decide) (by decide) rfl) 0 rfl (Nat.le_of_eq rfl) (by decide) (by decide) (by decide) (by decide) rfl ?_
      refine Go.nameI (fun v131 e132 => ?_)
      refine Go.istore 220 #[.val (.int i0), .val (.int i1), .val (.int i2), .val (.int i3), .val (.long i4), .second, .val (.int (0 : Int32)), .val (.int (255 : Int32)), .val (.int v3), .val (.int v5), .val (.int (2 : Int32)), .val (.ref a9), .val (.int v131), .unset] at_218 rfl rfl ?_
      refine Go.aload 222 at_220 rfl rfl rfl ?_
      refine Go.iload 224 at_222 rfl rfl ?_
      refine Go.iload 226 at_224 rfl rfl ?_
      refine Go.iconst 227 (1) at_226 (by decide) rfl ?_
      refine Go.callSIp [.ref a9, .int (2 : Int32), .int (0 : Int32), .int (1 : Int32)] [] 230 at_227 (tw2 hw) (tw3 hw) (tw4 hw) (tw5 hw) pl1 (by decide) (lenOf pd1 rfl) rfl (fun m => ef_k_n m a9 (2 : Int32) (0 : Int32) (1 : Int32)) _ (k_n (i0 := 3) (b0 := (nar .byte v122)) hw h124 zs127 a9 (2 : Int32) (0 : Int32) (1 : Int32) A126 (by decide) (by decide) (by decide) rfl) 0 rfl (Nat.le_of_eq rfl) (by decide) (by decide) (by decide) (by decide) rfl ?_
      refine Go.nameI (fun v136 e137 => ?_)
      refine Go.istore 232 #[.val (.int i0), .val (.int i1), .val (.int i2), .val (.int i3), .val (.long i4), .second, .val (.int (0 : Int32)), .val (.int (255 : Int32)), .val (.int v3), .val (.int v5), .val (.int (2 : Int32)), .val (.ref a9), .val (.int v131), .val (.int v136)] at_230 rfl rfl ?_
      refine Go.iload 234 at_232 rfl rfl ?_
      refine Go.iload 236 at_234 rfl rfl ?_
      refine Go.icmp_ne 250 239 at_236 (by decide) (by decide) rfl (fun c138 => ?_) (fun c138 => ?_)
      ·
        refine Go.iconst 251 (0) at_250 (by decide) rfl ?_
        refine Go.nreturn (t := .boolean) (z' := (0 : Int32)) at_251 rfl (by simp) (by decide) (by decide) (by decide) ?_
        exfalso
        subst_vars
        first | exact absurd (own_narrow i0) ‹¬ _› | exact absurd (own_narrow i1) ‹¬ _›
      ·
        refine Go.iload 241 at_239 rfl rfl ?_
        refine Go.iload 243 at_241 rfl rfl ?_
        refine Go.icmp_ne 250 246 at_243 (by decide) (by decide) rfl (fun c139 => ?_) (fun c139 => ?_)
        ·
          refine Go.iconst 251 (0) at_250 (by decide) rfl ?_
          refine Go.nreturn (t := .boolean) (z' := (0 : Int32)) at_251 rfl (by simp) (by decide) (by decide) (by decide) ?_
          exfalso
          subst_vars
          first | exact absurd (own_narrow i0) ‹¬ _› | exact absurd (own_narrow i1) ‹¬ _›
        ·
          refine Go.iconst 247 (1) at_246 (by decide) rfl ?_
          refine Go.goto 251 at_247 (by decide) (by decide) ?_
          refine Go.nreturn (t := .boolean) (z' := (1 : Int32)) at_251 rfl (by simp) (by decide) (by decide) (by decide) ?_
          rfl
    ·
      subst hs63
      refine Go.iload 140 at_138 rfl rfl ?_
      refine Go.if_eq 190 143 at_140 (by decide) (by decide) rfl (fun _ => ?_) (fun c => absurd c (by decide))
      refine Go.aload 192 at_190 rfl rfl rfl ?_
      refine Go.iload 194 at_192 rfl rfl ?_
      refine Go.iload 196 at_194 rfl rfl ?_
      refine Go.i2b 197 at_196 rfl ?_
      refine Go.nameI (fun v141 e142 => ?_)
      refine Go.bastore (3) ([(nar .byte v16), (nar .byte v22), (nar .byte v28), (nar .byte v141), (nar .byte v40), (nar .byte v46), (nar .byte v52), (nar .byte v58)]) 198 at_197 A62 (by decide) (by decide) (by decide : (3 : Nat) < 8) rfl ge14 rfl (fun h143 W144 A145 => ?_)
      have zs146 : Z.heap.size ≤ h143.size := W144.size ▸ zs63
      refine Go.aload 200 at_198 rfl rfl rfl ?_
      refine Go.iload 202 at_200 rfl rfl ?_
      refine Go.iconst 203 (1) at_202 (by decide) rfl ?_
      refine Go.iadd 204 at_203 rfl ?_
      refine Go.iload 206 at_204 rfl rfl ?_
      refine Go.i2b 207 at_206 rfl ?_
      refine Go.nameI (fun v147 e148 => ?_)
      refine Go.bastore (4) ([(nar .byte v16), (nar .byte v22), (nar .byte v28), (nar .byte v141), (nar .byte v147), (nar .byte v46), (nar .byte v52), (nar .byte v58)]) 208 at_207 A145 (by decide) (by decide) (by decide : (4 : Nat) < 8) rfl ge14 rfl (fun h149 W150 A151 => ?_)
      have zs152 : Z.heap.size ≤ h149.size := W150.size ▸ zs146
      refine Go.aload 210 at_208 rfl rfl rfl ?_
      refine Go.iload 212 at_210 rfl rfl ?_
      refine Go.iload 214 at_212 rfl rfl ?_
      refine Go.iconst 215 (0) at_214 (by decide) rfl ?_
      refine Go.callSIp [.ref a9, .int (3 : Int32), .int (0 : Int32), .int (0 : Int32)] [] 218 at_215 (tw2 hw) (tw3 hw) (tw4 hw) (tw5 hw) pl1 (by decide) (lenOf pd1 rfl) rfl (fun m => ef_k_n m a9 (3 : Int32) (0 : Int32) (0 : Int32)) _ (k_n (i0 := 3) (b0 := (nar .byte v141)) hw h149 zs152 a9 (3 : Int32) (0 : Int32) (0 : Int32) A151 (by decide) (by decide) (by decide) rfl) 0 rfl (Nat.le_of_eq rfl) (by decide) (by decide) (by decide) (by decide) rfl ?_
      refine Go.nameI (fun v156 e157 => ?_)
      refine Go.istore 220 #[.val (.int i0), .val (.int i1), .val (.int i2), .val (.int i3), .val (.long i4), .second, .val (.int (0 : Int32)), .val (.int (255 : Int32)), .val (.int v3), .val (.int v5), .val (.int (3 : Int32)), .val (.ref a9), .val (.int v156), .unset] at_218 rfl rfl ?_
      refine Go.aload 222 at_220 rfl rfl rfl ?_
      refine Go.iload 224 at_222 rfl rfl ?_
      refine Go.iload 226 at_224 rfl rfl ?_
      refine Go.iconst 227 (1) at_226 (by decide) rfl ?_
      refine Go.callSIp [.ref a9, .int (3 : Int32), .int (0 : Int32), .int (1 : Int32)] [] 230 at_227 (tw2 hw) (tw3 hw) (tw4 hw) (tw5 hw) pl1 (by decide) (lenOf pd1 rfl) rfl (fun m => ef_k_n m a9 (3 : Int32) (0 : Int32) (1 : Int32)) _ (k_n (i0 := 4) (b0 := (nar .byte v147)) hw h149 zs152 a9 (3 : Int32) (0 : Int32) (1 : Int32) A151 (by decide) (by decide) (by decide) rfl) 0 rfl (Nat.le_of_eq rfl) (by decide) (by decide) (by decide) (by decide) rfl ?_
      refine Go.nameI (fun v161 e162 => ?_)
      refine Go.istore 232 #[.val (.int i0), .val (.int i1), .val (.int i2), .val (.int i3), .val (.long i4), .second, .val (.int (0 : Int32)), .val (.int (255 : Int32)), .val (.int v3), .val (.int v5), .val (.int (3 : Int32)), .val (.ref a9), .val (.int v156), .val (.int v161)] at_230 rfl rfl ?_
      refine Go.iload 234 at_232 rfl rfl ?_
      refine Go.iload 236 at_234 rfl rfl ?_
      refine Go.icmp_ne 250 239 at_236 (by decide) (by decide) rfl (fun c163 => ?_) (fun c163 => ?_)
      ·
        refine Go.iconst 251 (0) at_250 (by decide) rfl ?_
        refine Go.nreturn (t := .boolean) (z' := (0 : Int32)) at_251 rfl (by simp) (by decide) (by decide) (by decide) ?_
        exfalso
        subst_vars
        first | exact absurd (own_narrow i0) ‹¬ _› | exact absurd (own_narrow i1) ‹¬ _›
      ·
        refine Go.iload 241 at_239 rfl rfl ?_
        refine Go.iload 243 at_241 rfl rfl ?_
        refine Go.icmp_ne 250 246 at_243 (by decide) (by decide) rfl (fun c164 => ?_) (fun c164 => ?_)
        ·
          refine Go.iconst 251 (0) at_250 (by decide) rfl ?_
          refine Go.nreturn (t := .boolean) (z' := (0 : Int32)) at_251 rfl (by simp) (by decide) (by decide) (by decide) ?_
          exfalso
          subst_vars
          first | exact absurd (own_narrow i0) ‹¬ _› | exact absurd (own_narrow i1) ‹¬ _›
        ·
          refine Go.iconst 247 (1) at_246 (by decide) rfl ?_
          refine Go.goto 251 at_247 (by decide) (by decide) ?_
          refine Go.nreturn (t := .boolean) (z' := (1 : Int32)) at_251 rfl (by simp) (by decide) (by decide) (by decide) ?_
          rfl
  ·
    refine Go.iconst 7 (1) at_6 (by decide) rfl ?_
    refine Go.goto 11 at_7 (by decide) (by decide) ?_
    refine Go.istore 13 #[.val (.int i0), .val (.int i1), .val (.int i2), .val (.int i3), .val (.long i4), .second, .val (.int (1 : Int32)), .unset, .unset, .unset, .unset, .unset, .unset, .unset] at_11 rfl rfl ?_
    refine Go.iload 15 at_13 rfl rfl ?_
    refine Go.if_eq 23 18 at_15 (by decide) (by decide) rfl (fun c => absurd c (by decide)) (fun _ => ?_)
    refine Go.ldc 20 at_18 (tw0 hw) rfl ?_
    refine Go.goto 26 at_20 (by decide) (by decide) ?_
    refine Go.istore 28 #[.val (.int i0), .val (.int i1), .val (.int i2), .val (.int i3), .val (.long i4), .second, .val (.int (1 : Int32)), .val (.int (65535 : Int32)), .unset, .unset, .unset, .unset, .unset, .unset] at_26 rfl rfl ?_
    refine Go.iload_n 29 at_28 rfl rfl ?_
    refine Go.iload 31 at_29 rfl rfl ?_
    refine Go.iand 32 at_31 rfl ?_
    refine Go.nameI (fun v166 e167 => ?_)
    refine Go.istore 34 #[.val (.int i0), .val (.int i1), .val (.int i2), .val (.int i3), .val (.long i4), .second, .val (.int (1 : Int32)), .val (.int (65535 : Int32)), .val (.int v166), .unset, .unset, .unset, .unset, .unset] at_32 rfl rfl ?_
    refine Go.iload_n 35 at_34 rfl rfl ?_
    refine Go.iload 37 at_35 rfl rfl ?_
    refine Go.iand 38 at_37 rfl ?_
    refine Go.nameI (fun v168 e169 => ?_)
    refine Go.istore 40 #[.val (.int i0), .val (.int i1), .val (.int i2), .val (.int i3), .val (.long i4), .second, .val (.int (1 : Int32)), .val (.int (65535 : Int32)), .val (.int v166), .val (.int v168), .unset, .unset, .unset, .unset] at_38 rfl rfl ?_
    refine Go.iload_n 41 at_40 rfl rfl ?_
    refine Go.iconst 42 (3) at_41 (by decide) rfl ?_
    refine Go.iand 43 at_42 rfl ?_
    refine Go.nameI (fun v170 e171 => ?_)
    refine Go.istore 45 #[.val (.int i0), .val (.int i1), .val (.int i2), .val (.int i3), .val (.long i4), .second, .val (.int (1 : Int32)), .val (.int (65535 : Int32)), .val (.int v166), .val (.int v168), .val (.int v170), .unset, .unset, .unset] at_43 rfl rfl ?_
    refine Go.bipush 47 (8) at_45 (by decide) rfl ?_
    refine Go.newI (cap := 8) (xs := [0, 0, 0, 0, 0, 0, 0, 0]) 49 at_47 (tw1 hw) rfl (by decide) (by decide) (by decide) rfl (by decide) (by decide) rfl (fun a172 h173 q174 E175 A176 => ?_)
    have ge177 : Z.heap.size ≤ a172 := (Eq.symm q174) ▸ hz
    have zs178 : Z.heap.size ≤ h173.size := Nat.le_trans hz E175.1
    refine Go.astore 51 #[.val (.int i0), .val (.int i1), .val (.int i2), .val (.int i3), .val (.long i4), .second, .val (.int (1 : Int32)), .val (.int (65535 : Int32)), .val (.int v166), .val (.int v168), .val (.int v170), .val (.ref a172), .unset, .unset] at_49 rfl rfl rfl ?_
    refine Go.aload 53 at_51 rfl rfl rfl ?_
    refine Go.iconst 54 (0) at_53 (by decide) rfl ?_
    refine Go.lload 56 at_54 rfl rfl ?_
    refine Go.l2i 57 at_56 rfl ?_
    refine Go.i2b 58 at_57 rfl ?_
    refine Go.nameI (fun v179 e180 => ?_)
    refine Go.bastore (0) ([(nar .byte v179), 0, 0, 0, 0, 0, 0, 0]) 59 at_58 A176 (by decide) (by decide) (by decide : (0 : Nat) < 8) rfl ge177 rfl (fun h181 W182 A183 => ?_)
    have zs184 : Z.heap.size ≤ h181.size := W182.size ▸ zs178
    refine Go.aload 61 at_59 rfl rfl rfl ?_
    refine Go.iconst 62 (1) at_61 (by decide) rfl ?_
    refine Go.lload 64 at_62 rfl rfl ?_
    refine Go.bipush 66 (8) at_64 (by decide) rfl ?_
    refine Go.lushr 67 at_66 rfl ?_
    refine Go.l2i 68 at_67 rfl ?_
    refine Go.i2b 69 at_68 rfl ?_
    refine Go.nameI (fun v185 e186 => ?_)
    refine Go.bastore (1) ([(nar .byte v179), (nar .byte v185), 0, 0, 0, 0, 0, 0]) 70 at_69 A183 (by decide) (by decide) (by decide : (1 : Nat) < 8) rfl ge177 rfl (fun h187 W188 A189 => ?_)
    have zs190 : Z.heap.size ≤ h187.size := W188.size ▸ zs184
    refine Go.aload 72 at_70 rfl rfl rfl ?_
    refine Go.iconst 73 (2) at_72 (by decide) rfl ?_
    refine Go.lload 75 at_73 rfl rfl ?_
    refine Go.bipush 77 (16) at_75 (by decide) rfl ?_
    refine Go.lushr 78 at_77 rfl ?_
    refine Go.l2i 79 at_78 rfl ?_
    refine Go.i2b 80 at_79 rfl ?_
    refine Go.nameI (fun v191 e192 => ?_)
    refine Go.bastore (2) ([(nar .byte v179), (nar .byte v185), (nar .byte v191), 0, 0, 0, 0, 0]) 81 at_80 A189 (by decide) (by decide) (by decide : (2 : Nat) < 8) rfl ge177 rfl (fun h193 W194 A195 => ?_)
    have zs196 : Z.heap.size ≤ h193.size := W194.size ▸ zs190
    refine Go.aload 83 at_81 rfl rfl rfl ?_
    refine Go.iconst 84 (3) at_83 (by decide) rfl ?_
    refine Go.lload 86 at_84 rfl rfl ?_
    refine Go.bipush 88 (24) at_86 (by decide) rfl ?_
    refine Go.lushr 89 at_88 rfl ?_
    refine Go.l2i 90 at_89 rfl ?_
    refine Go.i2b 91 at_90 rfl ?_
    refine Go.nameI (fun v197 e198 => ?_)
    refine Go.bastore (3) ([(nar .byte v179), (nar .byte v185), (nar .byte v191), (nar .byte v197), 0, 0, 0, 0]) 92 at_91 A195 (by decide) (by decide) (by decide : (3 : Nat) < 8) rfl ge177 rfl (fun h199 W200 A201 => ?_)
    have zs202 : Z.heap.size ≤ h199.size := W200.size ▸ zs196
    refine Go.aload 94 at_92 rfl rfl rfl ?_
    refine Go.iconst 95 (4) at_94 (by decide) rfl ?_
    refine Go.lload 97 at_95 rfl rfl ?_
    refine Go.bipush 99 (32) at_97 (by decide) rfl ?_
    refine Go.lushr 100 at_99 rfl ?_
    refine Go.l2i 101 at_100 rfl ?_
    refine Go.i2b 102 at_101 rfl ?_
    refine Go.nameI (fun v203 e204 => ?_)
    refine Go.bastore (4) ([(nar .byte v179), (nar .byte v185), (nar .byte v191), (nar .byte v197), (nar .byte v203), 0, 0, 0]) 103 at_102 A201 (by decide) (by decide) (by decide : (4 : Nat) < 8) rfl ge177 rfl (fun h205 W206 A207 => ?_)
    have zs208 : Z.heap.size ≤ h205.size := W206.size ▸ zs202
    refine Go.aload 105 at_103 rfl rfl rfl ?_
    refine Go.iconst 106 (5) at_105 (by decide) rfl ?_
    refine Go.lload 108 at_106 rfl rfl ?_
    refine Go.bipush 110 (40) at_108 (by decide) rfl ?_
    refine Go.lushr 111 at_110 rfl ?_
    refine Go.l2i 112 at_111 rfl ?_
    refine Go.i2b 113 at_112 rfl ?_
    refine Go.nameI (fun v209 e210 => ?_)
    refine Go.bastore (5) ([(nar .byte v179), (nar .byte v185), (nar .byte v191), (nar .byte v197), (nar .byte v203), (nar .byte v209), 0, 0]) 114 at_113 A207 (by decide) (by decide) (by decide : (5 : Nat) < 8) rfl ge177 rfl (fun h211 W212 A213 => ?_)
    have zs214 : Z.heap.size ≤ h211.size := W212.size ▸ zs208
    refine Go.aload 116 at_114 rfl rfl rfl ?_
    refine Go.bipush 118 (6) at_116 (by decide) rfl ?_
    refine Go.lload 120 at_118 rfl rfl ?_
    refine Go.bipush 122 (48) at_120 (by decide) rfl ?_
    refine Go.lushr 123 at_122 rfl ?_
    refine Go.l2i 124 at_123 rfl ?_
    refine Go.i2b 125 at_124 rfl ?_
    refine Go.nameI (fun v215 e216 => ?_)
    refine Go.bastore (6) ([(nar .byte v179), (nar .byte v185), (nar .byte v191), (nar .byte v197), (nar .byte v203), (nar .byte v209), (nar .byte v215), 0]) 126 at_125 A213 (by decide) (by decide) (by decide : (6 : Nat) < 8) rfl ge177 rfl (fun h217 W218 A219 => ?_)
    have zs220 : Z.heap.size ≤ h217.size := W218.size ▸ zs214
    refine Go.aload 128 at_126 rfl rfl rfl ?_
    refine Go.bipush 130 (7) at_128 (by decide) rfl ?_
    refine Go.lload 132 at_130 rfl rfl ?_
    refine Go.bipush 134 (56) at_132 (by decide) rfl ?_
    refine Go.lushr 135 at_134 rfl ?_
    refine Go.l2i 136 at_135 rfl ?_
    refine Go.i2b 137 at_136 rfl ?_
    refine Go.nameI (fun v221 e222 => ?_)
    refine Go.bastore (7) ([(nar .byte v179), (nar .byte v185), (nar .byte v191), (nar .byte v197), (nar .byte v203), (nar .byte v209), (nar .byte v215), (nar .byte v221)]) 138 at_137 A219 (by decide) (by decide) (by decide : (7 : Nat) < 8) rfl ge177 rfl (fun h223 W224 A225 => ?_)
    have zs226 : Z.heap.size ≤ h223.size := W224.size ▸ zs220
    rcases own_four i2 v170 e171 with hs226 | hs226 | hs226 | hs226
    ·
      subst hs226
      refine Go.iload 140 at_138 rfl rfl ?_
      refine Go.if_eq 190 143 at_140 (by decide) (by decide) rfl (fun c => absurd c (by decide)) (fun _ => ?_)
      refine Go.aload 145 at_143 rfl rfl rfl ?_
      refine Go.iload 147 at_145 rfl rfl ?_
      refine Go.iload 149 at_147 rfl rfl ?_
      refine Go.bipush 151 (8) at_149 (by decide) rfl ?_
      refine Go.iushr 152 at_151 rfl ?_
      refine Go.i2b 153 at_152 rfl ?_
      refine Go.nameI (fun v229 e230 => ?_)
      refine Go.bastore (0) ([(nar .byte v229), (nar .byte v185), (nar .byte v191), (nar .byte v197), (nar .byte v203), (nar .byte v209), (nar .byte v215), (nar .byte v221)]) 154 at_153 A225 (by decide) (by decide) (by decide : (0 : Nat) < 8) rfl ge177 rfl (fun h231 W232 A233 => ?_)
      have zs234 : Z.heap.size ≤ h231.size := W232.size ▸ zs226
      refine Go.aload 156 at_154 rfl rfl rfl ?_
      refine Go.iload 158 at_156 rfl rfl ?_
      refine Go.iconst 159 (1) at_158 (by decide) rfl ?_
      refine Go.iadd 160 at_159 rfl ?_
      refine Go.iload 162 at_160 rfl rfl ?_
      refine Go.i2b 163 at_162 rfl ?_
      refine Go.nameI (fun v235 e236 => ?_)
      refine Go.bastore (1) ([(nar .byte v229), (nar .byte v235), (nar .byte v191), (nar .byte v197), (nar .byte v203), (nar .byte v209), (nar .byte v215), (nar .byte v221)]) 164 at_163 A233 (by decide) (by decide) (by decide : (1 : Nat) < 8) rfl ge177 rfl (fun h237 W238 A239 => ?_)
      have zs240 : Z.heap.size ≤ h237.size := W238.size ▸ zs234
      refine Go.aload 166 at_164 rfl rfl rfl ?_
      refine Go.iload 168 at_166 rfl rfl ?_
      refine Go.iconst 169 (2) at_168 (by decide) rfl ?_
      refine Go.iadd 170 at_169 rfl ?_
      refine Go.iload 172 at_170 rfl rfl ?_
      refine Go.bipush 174 (8) at_172 (by decide) rfl ?_
      refine Go.iushr 175 at_174 rfl ?_
      refine Go.i2b 176 at_175 rfl ?_
      refine Go.nameI (fun v241 e242 => ?_)
      refine Go.bastore (2) ([(nar .byte v229), (nar .byte v235), (nar .byte v241), (nar .byte v197), (nar .byte v203), (nar .byte v209), (nar .byte v215), (nar .byte v221)]) 177 at_176 A239 (by decide) (by decide) (by decide : (2 : Nat) < 8) rfl ge177 rfl (fun h243 W244 A245 => ?_)
      have zs246 : Z.heap.size ≤ h243.size := W244.size ▸ zs240
      refine Go.aload 179 at_177 rfl rfl rfl ?_
      refine Go.iload 181 at_179 rfl rfl ?_
      refine Go.iconst 182 (3) at_181 (by decide) rfl ?_
      refine Go.iadd 183 at_182 rfl ?_
      refine Go.iload 185 at_183 rfl rfl ?_
      refine Go.i2b 186 at_185 rfl ?_
      refine Go.nameI (fun v247 e248 => ?_)
      refine Go.bastore (3) ([(nar .byte v229), (nar .byte v235), (nar .byte v241), (nar .byte v247), (nar .byte v203), (nar .byte v209), (nar .byte v215), (nar .byte v221)]) 187 at_186 A245 (by decide) (by decide) (by decide : (3 : Nat) < 8) rfl ge177 rfl (fun h249 W250 A251 => ?_)
      have zs252 : Z.heap.size ≤ h249.size := W250.size ▸ zs246
      refine Go.goto 208 at_187 (by decide) (by decide) ?_
      refine Go.aload 210 at_208 rfl rfl rfl ?_
      refine Go.iload 212 at_210 rfl rfl ?_
      refine Go.iload 214 at_212 rfl rfl ?_
      refine Go.iconst 215 (0) at_214 (by decide) rfl ?_
      refine Go.callSIp [.ref a172, .int (0 : Int32), .int (1 : Int32), .int (0 : Int32)] [] 218 at_215 (tw2 hw) (tw3 hw) (tw4 hw) (tw5 hw) pl1 (by decide) (lenOf pd1 rfl) rfl (fun m => ef_k_w m a172 (0 : Int32) (1 : Int32) (0 : Int32)) _ (k_w (i0 := 0) (b0 := (nar .byte v229)) (i1 := 1) (b1 := (nar .byte v235)) hw h249 zs252 a172 (0 : Int32) (1 : Int32) (0 : Int32) A251 (by decide) (by decide) (by decide) rfl (by decide) (by decide) rfl) 0 rfl (Nat.le_of_eq rfl) (by decide) (by decide) (by decide) (by decide) rfl ?_
      refine Go.nameI (fun v256 e257 => ?_)
      refine Go.istore 220 #[.val (.int i0), .val (.int i1), .val (.int i2), .val (.int i3), .val (.long i4), .second, .val (.int (1 : Int32)), .val (.int (65535 : Int32)), .val (.int v166), .val (.int v168), .val (.int (0 : Int32)), .val (.ref a172), .val (.int v256), .unset] at_218 rfl rfl ?_
      refine Go.aload 222 at_220 rfl rfl rfl ?_
      refine Go.iload 224 at_222 rfl rfl ?_
      refine Go.iload 226 at_224 rfl rfl ?_
      refine Go.iconst 227 (1) at_226 (by decide) rfl ?_
      refine Go.callSIp [.ref a172, .int (0 : Int32), .int (1 : Int32), .int (1 : Int32)] [] 230 at_227 (tw2 hw) (tw3 hw) (tw4 hw) (tw5 hw) pl1 (by decide) (lenOf pd1 rfl) rfl (fun m => ef_k_w m a172 (0 : Int32) (1 : Int32) (1 : Int32)) _ (k_w (i0 := 2) (b0 := (nar .byte v241)) (i1 := 3) (b1 := (nar .byte v247)) hw h249 zs252 a172 (0 : Int32) (1 : Int32) (1 : Int32) A251 (by decide) (by decide) (by decide) rfl (by decide) (by decide) rfl) 0 rfl (Nat.le_of_eq rfl) (by decide) (by decide) (by decide) (by decide) rfl ?_
      refine Go.nameI (fun v261 e262 => ?_)
      refine Go.istore 232 #[.val (.int i0), .val (.int i1), .val (.int i2), .val (.int i3), .val (.long i4), .second, .val (.int (1 : Int32)), .val (.int (65535 : Int32)), .val (.int v166), .val (.int v168), .val (.int (0 : Int32)), .val (.ref a172), .val (.int v256), .val (.int v261)] at_230 rfl rfl ?_
      refine Go.iload 234 at_232 rfl rfl ?_
      refine Go.iload 236 at_234 rfl rfl ?_
      refine Go.icmp_ne 250 239 at_236 (by decide) (by decide) rfl (fun c263 => ?_) (fun c263 => ?_)
      ·
        refine Go.iconst 251 (0) at_250 (by decide) rfl ?_
        refine Go.nreturn (t := .boolean) (z' := (0 : Int32)) at_251 rfl (by simp) (by decide) (by decide) (by decide) ?_
        exfalso
        subst_vars
        first | exact absurd (own_wide i0) ‹¬ _› | exact absurd (own_wide i1) ‹¬ _›
      ·
        refine Go.iload 241 at_239 rfl rfl ?_
        refine Go.iload 243 at_241 rfl rfl ?_
        refine Go.icmp_ne 250 246 at_243 (by decide) (by decide) rfl (fun c264 => ?_) (fun c264 => ?_)
        ·
          refine Go.iconst 251 (0) at_250 (by decide) rfl ?_
          refine Go.nreturn (t := .boolean) (z' := (0 : Int32)) at_251 rfl (by simp) (by decide) (by decide) (by decide) ?_
          exfalso
          subst_vars
          first | exact absurd (own_wide i0) ‹¬ _› | exact absurd (own_wide i1) ‹¬ _›
        ·
          refine Go.iconst 247 (1) at_246 (by decide) rfl ?_
          refine Go.goto 251 at_247 (by decide) (by decide) ?_
          refine Go.nreturn (t := .boolean) (z' := (1 : Int32)) at_251 rfl (by simp) (by decide) (by decide) (by decide) ?_
          rfl
    ·
      subst hs226
      refine Go.iload 140 at_138 rfl rfl ?_
      refine Go.if_eq 190 143 at_140 (by decide) (by decide) rfl (fun c => absurd c (by decide)) (fun _ => ?_)
      refine Go.aload 145 at_143 rfl rfl rfl ?_
      refine Go.iload 147 at_145 rfl rfl ?_
      refine Go.iload 149 at_147 rfl rfl ?_
      refine Go.bipush 151 (8) at_149 (by decide) rfl ?_
      refine Go.iushr 152 at_151 rfl ?_
      refine Go.i2b 153 at_152 rfl ?_
      refine Go.nameI (fun v266 e267 => ?_)
      refine Go.bastore (1) ([(nar .byte v179), (nar .byte v266), (nar .byte v191), (nar .byte v197), (nar .byte v203), (nar .byte v209), (nar .byte v215), (nar .byte v221)]) 154 at_153 A225 (by decide) (by decide) (by decide : (1 : Nat) < 8) rfl ge177 rfl (fun h268 W269 A270 => ?_)
      have zs271 : Z.heap.size ≤ h268.size := W269.size ▸ zs226
      refine Go.aload 156 at_154 rfl rfl rfl ?_
      refine Go.iload 158 at_156 rfl rfl ?_
      refine Go.iconst 159 (1) at_158 (by decide) rfl ?_
      refine Go.iadd 160 at_159 rfl ?_
      refine Go.iload 162 at_160 rfl rfl ?_
      refine Go.i2b 163 at_162 rfl ?_
      refine Go.nameI (fun v272 e273 => ?_)
      refine Go.bastore (2) ([(nar .byte v179), (nar .byte v266), (nar .byte v272), (nar .byte v197), (nar .byte v203), (nar .byte v209), (nar .byte v215), (nar .byte v221)]) 164 at_163 A270 (by decide) (by decide) (by decide : (2 : Nat) < 8) rfl ge177 rfl (fun h274 W275 A276 => ?_)
      have zs277 : Z.heap.size ≤ h274.size := W275.size ▸ zs271
      refine Go.aload 166 at_164 rfl rfl rfl ?_
      refine Go.iload 168 at_166 rfl rfl ?_
      refine Go.iconst 169 (2) at_168 (by decide) rfl ?_
      refine Go.iadd 170 at_169 rfl ?_
      refine Go.iload 172 at_170 rfl rfl ?_
      refine Go.bipush 174 (8) at_172 (by decide) rfl ?_
      refine Go.iushr 175 at_174 rfl ?_
      refine Go.i2b 176 at_175 rfl ?_
      refine Go.nameI (fun v278 e279 => ?_)
      refine Go.bastore (3) ([(nar .byte v179), (nar .byte v266), (nar .byte v272), (nar .byte v278), (nar .byte v203), (nar .byte v209), (nar .byte v215), (nar .byte v221)]) 177 at_176 A276 (by decide) (by decide) (by decide : (3 : Nat) < 8) rfl ge177 rfl (fun h280 W281 A282 => ?_)
      have zs283 : Z.heap.size ≤ h280.size := W281.size ▸ zs277
      refine Go.aload 179 at_177 rfl rfl rfl ?_
      refine Go.iload 181 at_179 rfl rfl ?_
      refine Go.iconst 182 (3) at_181 (by decide) rfl ?_
      refine Go.iadd 183 at_182 rfl ?_
      refine Go.iload 185 at_183 rfl rfl ?_
      refine Go.i2b 186 at_185 rfl ?_
      refine Go.nameI (fun v284 e285 => ?_)
      refine Go.bastore (4) ([(nar .byte v179), (nar .byte v266), (nar .byte v272), (nar .byte v278), (nar .byte v284), (nar .byte v209), (nar .byte v215), (nar .byte v221)]) 187 at_186 A282 (by decide) (by decide) (by decide : (4 : Nat) < 8) rfl ge177 rfl (fun h286 W287 A288 => ?_)
      have zs289 : Z.heap.size ≤ h286.size := W287.size ▸ zs283
      refine Go.goto 208 at_187 (by decide) (by decide) ?_
      refine Go.aload 210 at_208 rfl rfl rfl ?_
      refine Go.iload 212 at_210 rfl rfl ?_
      refine Go.iload 214 at_212 rfl rfl ?_
      refine Go.iconst 215 (0) at_214 (by decide) rfl ?_
      refine Go.callSIp [.ref a172, .int (1 : Int32), .int (1 : Int32), .int (0 : Int32)] [] 218 at_215 (tw2 hw) (tw3 hw) (tw4 hw) (tw5 hw) pl1 (by decide) (lenOf pd1 rfl) rfl (fun m => ef_k_w m a172 (1 : Int32) (1 : Int32) (0 : Int32)) _ (k_w (i0 := 1) (b0 := (nar .byte v266)) (i1 := 2) (b1 := (nar .byte v272)) hw h286 zs289 a172 (1 : Int32) (1 : Int32) (0 : Int32) A288 (by decide) (by decide) (by decide) rfl (by decide) (by decide) rfl) 0 rfl (Nat.le_of_eq rfl) (by decide) (by decide) (by decide) (by decide) rfl ?_
      refine Go.nameI (fun v293 e294 => ?_)
      refine Go.istore 220 #[.val (.int i0), .val (.int i1), .val (.int i2), .val (.int i3), .val (.long i4), .second, .val (.int (1 : Int32)), .val (.int (65535 : Int32)), .val (.int v166), .val (.int v168), .val (.int (1 : Int32)), .val (.ref a172), .val (.int v293), .unset] at_218 rfl rfl ?_
      refine Go.aload 222 at_220 rfl rfl rfl ?_
      refine Go.iload 224 at_222 rfl rfl ?_
      refine Go.iload 226 at_224 rfl rfl ?_
      refine Go.iconst 227 (1) at_226 (by decide) rfl ?_
      refine Go.callSIp [.ref a172, .int (1 : Int32), .int (1 : Int32), .int (1 : Int32)] [] 230 at_227 (tw2 hw) (tw3 hw) (tw4 hw) (tw5 hw) pl1 (by decide) (lenOf pd1 rfl) rfl (fun m => ef_k_w m a172 (1 : Int32) (1 : Int32) (1 : Int32)) _ (k_w (i0 := 3) (b0 := (nar .byte v278)) (i1 := 4) (b1 := (nar .byte v284)) hw h286 zs289 a172 (1 : Int32) (1 : Int32) (1 : Int32) A288 (by decide) (by decide) (by decide) rfl (by decide) (by decide) rfl) 0 rfl (Nat.le_of_eq rfl) (by decide) (by decide) (by decide) (by decide) rfl ?_
      refine Go.nameI (fun v298 e299 => ?_)
      refine Go.istore 232 #[.val (.int i0), .val (.int i1), .val (.int i2), .val (.int i3), .val (.long i4), .second, .val (.int (1 : Int32)), .val (.int (65535 : Int32)), .val (.int v166), .val (.int v168), .val (.int (1 : Int32)), .val (.ref a172), .val (.int v293), .val (.int v298)] at_230 rfl rfl ?_
      refine Go.iload 234 at_232 rfl rfl ?_
      refine Go.iload 236 at_234 rfl rfl ?_
      refine Go.icmp_ne 250 239 at_236 (by decide) (by decide) rfl (fun c300 => ?_) (fun c300 => ?_)
      ·
        refine Go.iconst 251 (0) at_250 (by decide) rfl ?_
        refine Go.nreturn (t := .boolean) (z' := (0 : Int32)) at_251 rfl (by simp) (by decide) (by decide) (by decide) ?_
        exfalso
        subst_vars
        first | exact absurd (own_wide i0) ‹¬ _› | exact absurd (own_wide i1) ‹¬ _›
      ·
        refine Go.iload 241 at_239 rfl rfl ?_
        refine Go.iload 243 at_241 rfl rfl ?_
        refine Go.icmp_ne 250 246 at_243 (by decide) (by decide) rfl (fun c301 => ?_) (fun c301 => ?_)
        ·
          refine Go.iconst 251 (0) at_250 (by decide) rfl ?_
          refine Go.nreturn (t := .boolean) (z' := (0 : Int32)) at_251 rfl (by simp) (by decide) (by decide) (by decide) ?_
          exfalso
          subst_vars
          first | exact absurd (own_wide i0) ‹¬ _› | exact absurd (own_wide i1) ‹¬ _›
        ·
          refine Go.iconst 247 (1) at_246 (by decide) rfl ?_
          refine Go.goto 251 at_247 (by decide) (by decide) ?_
          refine Go.nreturn (t := .boolean) (z' := (1 : Int32)) at_251 rfl (by simp) (by decide) (by decide) (by decide) ?_
          rfl
    ·
      subst hs226
      refine Go.iload 140 at_138 rfl rfl ?_
      refine Go.if_eq 190 143 at_140 (by decide) (by decide) rfl (fun c => absurd c (by decide)) (fun _ => ?_)
      refine Go.aload 145 at_143 rfl rfl rfl ?_
      refine Go.iload 147 at_145 rfl rfl ?_
      refine Go.iload 149 at_147 rfl rfl ?_
      refine Go.bipush 151 (8) at_149 (by decide) rfl ?_
      refine Go.iushr 152 at_151 rfl ?_
      refine Go.i2b 153 at_152 rfl ?_
      refine Go.nameI (fun v303 e304 => ?_)
      refine Go.bastore (2) ([(nar .byte v179), (nar .byte v185), (nar .byte v303), (nar .byte v197), (nar .byte v203), (nar .byte v209), (nar .byte v215), (nar .byte v221)]) 154 at_153 A225 (by decide) (by decide) (by decide : (2 : Nat) < 8) rfl ge177 rfl (fun h305 W306 A307 => ?_)
      have zs308 : Z.heap.size ≤ h305.size := W306.size ▸ zs226
      refine Go.aload 156 at_154 rfl rfl rfl ?_
      refine Go.iload 158 at_156 rfl rfl ?_
      refine Go.iconst 159 (1) at_158 (by decide) rfl ?_
      refine Go.iadd 160 at_159 rfl ?_
      refine Go.iload 162 at_160 rfl rfl ?_
      refine Go.i2b 163 at_162 rfl ?_
      refine Go.nameI (fun v309 e310 => ?_)
      refine Go.bastore (3) ([(nar .byte v179), (nar .byte v185), (nar .byte v303), (nar .byte v309), (nar .byte v203), (nar .byte v209), (nar .byte v215), (nar .byte v221)]) 164 at_163 A307 (by decide) (by decide) (by decide : (3 : Nat) < 8) rfl ge177 rfl (fun h311 W312 A313 => ?_)
      have zs314 : Z.heap.size ≤ h311.size := W312.size ▸ zs308
      refine Go.aload 166 at_164 rfl rfl rfl ?_
      refine Go.iload 168 at_166 rfl rfl ?_
      refine Go.iconst 169 (2) at_168 (by decide) rfl ?_
      refine Go.iadd 170 at_169 rfl ?_
      refine Go.iload 172 at_170 rfl rfl ?_
      refine Go.bipush 174 (8) at_172 (by decide) rfl ?_
      refine Go.iushr 175 at_174 rfl ?_
      refine Go.i2b 176 at_175 rfl ?_
      refine Go.nameI (fun v315 e316 => ?_)
      refine Go.bastore (4) ([(nar .byte v179), (nar .byte v185), (nar .byte v303), (nar .byte v309), (nar .byte v315), (nar .byte v209), (nar .byte v215), (nar .byte v221)]) 177 at_176 A313 (by decide) (by decide) (by decide : (4 : Nat) < 8) rfl ge177 rfl (fun h317 W318 A319 => ?_)
      have zs320 : Z.heap.size ≤ h317.size := W318.size ▸ zs314
      refine Go.aload 179 at_177 rfl rfl rfl ?_
      refine Go.iload 181 at_179 rfl rfl ?_
      refine Go.iconst 182 (3) at_181 (by decide) rfl ?_
      refine Go.iadd 183 at_182 rfl ?_
      refine Go.iload 185 at_183 rfl rfl ?_
      refine Go.i2b 186 at_185 rfl ?_
      refine Go.nameI (fun v321 e322 => ?_)
      refine Go.bastore (5) ([(nar .byte v179), (nar .byte v185), (nar .byte v303), (nar .byte v309), (nar .byte v315), (nar .byte v321), (nar .byte v215), (nar .byte v221)]) 187 at_186 A319 (by decide) (by decide) (by decide : (5 : Nat) < 8) rfl ge177 rfl (fun h323 W324 A325 => ?_)
      have zs326 : Z.heap.size ≤ h323.size := W324.size ▸ zs320
      refine Go.goto 208 at_187 (by decide) (by decide) ?_
      refine Go.aload 210 at_208 rfl rfl rfl ?_
      refine Go.iload 212 at_210 rfl rfl ?_
      refine Go.iload 214 at_212 rfl rfl ?_
      refine Go.iconst 215 (0) at_214 (by decide) rfl ?_
      refine Go.callSIp [.ref a172, .int (2 : Int32), .int (1 : Int32), .int (0 : Int32)] [] 218 at_215 (tw2 hw) (tw3 hw) (tw4 hw) (tw5 hw) pl1 (by decide) (lenOf pd1 rfl) rfl (fun m => ef_k_w m a172 (2 : Int32) (1 : Int32) (0 : Int32)) _ (k_w (i0 := 2) (b0 := (nar .byte v303)) (i1 := 3) (b1 := (nar .byte v309)) hw h323 zs326 a172 (2 : Int32) (1 : Int32) (0 : Int32) A325 (by decide) (by decide) (by decide) rfl (by decide) (by decide) rfl) 0 rfl (Nat.le_of_eq rfl) (by decide) (by decide) (by decide) (by decide) rfl ?_
      refine Go.nameI (fun v330 e331 => ?_)
      refine Go.istore 220 #[.val (.int i0), .val (.int i1), .val (.int i2), .val (.int i3), .val (.long i4), .second, .val (.int (1 : Int32)), .val (.int (65535 : Int32)), .val (.int v166), .val (.int v168), .val (.int (2 : Int32)), .val (.ref a172), .val (.int v330), .unset] at_218 rfl rfl ?_
      refine Go.aload 222 at_220 rfl rfl rfl ?_
      refine Go.iload 224 at_222 rfl rfl ?_
      refine Go.iload 226 at_224 rfl rfl ?_
      refine Go.iconst 227 (1) at_226 (by decide) rfl ?_
      refine Go.callSIp [.ref a172, .int (2 : Int32), .int (1 : Int32), .int (1 : Int32)] [] 230 at_227 (tw2 hw) (tw3 hw) (tw4 hw) (tw5 hw) pl1 (by decide) (lenOf pd1 rfl) rfl (fun m => ef_k_w m a172 (2 : Int32) (1 : Int32) (1 : Int32)) _ (k_w (i0 := 4) (b0 := (nar .byte v315)) (i1 := 5) (b1 := (nar .byte v321)) hw h323 zs326 a172 (2 : Int32) (1 : Int32) (1 : Int32) A325 (by decide) (by decide) (by decide) rfl (by decide) (by decide) rfl) 0 rfl (Nat.le_of_eq rfl) (by decide) (by decide) (by decide) (by decide) rfl ?_
      refine Go.nameI (fun v335 e336 => ?_)
      refine Go.istore 232 #[.val (.int i0), .val (.int i1), .val (.int i2), .val (.int i3), .val (.long i4), .second, .val (.int (1 : Int32)), .val (.int (65535 : Int32)), .val (.int v166), .val (.int v168), .val (.int (2 : Int32)), .val (.ref a172), .val (.int v330), .val (.int v335)] at_230 rfl rfl ?_
      refine Go.iload 234 at_232 rfl rfl ?_
      refine Go.iload 236 at_234 rfl rfl ?_
      refine Go.icmp_ne 250 239 at_236 (by decide) (by decide) rfl (fun c337 => ?_) (fun c337 => ?_)
      ·
        refine Go.iconst 251 (0) at_250 (by decide) rfl ?_
        refine Go.nreturn (t := .boolean) (z' := (0 : Int32)) at_251 rfl (by simp) (by decide) (by decide) (by decide) ?_
        exfalso
        subst_vars
        first | exact absurd (own_wide i0) ‹¬ _› | exact absurd (own_wide i1) ‹¬ _›
      ·
        refine Go.iload 241 at_239 rfl rfl ?_
        refine Go.iload 243 at_241 rfl rfl ?_
        refine Go.icmp_ne 250 246 at_243 (by decide) (by decide) rfl (fun c338 => ?_) (fun c338 => ?_)
        ·
          refine Go.iconst 251 (0) at_250 (by decide) rfl ?_
          refine Go.nreturn (t := .boolean) (z' := (0 : Int32)) at_251 rfl (by simp) (by decide) (by decide) (by decide) ?_
          exfalso
          subst_vars
          first | exact absurd (own_wide i0) ‹¬ _› | exact absurd (own_wide i1) ‹¬ _›
        ·
          refine Go.iconst 247 (1) at_246 (by decide) rfl ?_
          refine Go.goto 251 at_247 (by decide) (by decide) ?_
          refine Go.nreturn (t := .boolean) (z' := (1 : Int32)) at_251 rfl (by simp) (by decide) (by decide) (by decide) ?_
          rfl
    ·
      subst hs226
      refine Go.iload 140 at_138 rfl rfl ?_
      refine Go.if_eq 190 143 at_140 (by decide) (by decide) rfl (fun c => absurd c (by decide)) (fun _ => ?_)
      refine Go.aload 145 at_143 rfl rfl rfl ?_
      refine Go.iload 147 at_145 rfl rfl ?_
      refine Go.iload 149 at_147 rfl rfl ?_
      refine Go.bipush 151 (8) at_149 (by decide) rfl ?_
      refine Go.iushr 152 at_151 rfl ?_
      refine Go.i2b 153 at_152 rfl ?_
      refine Go.nameI (fun v340 e341 => ?_)
      refine Go.bastore (3) ([(nar .byte v179), (nar .byte v185), (nar .byte v191), (nar .byte v340), (nar .byte v203), (nar .byte v209), (nar .byte v215), (nar .byte v221)]) 154 at_153 A225 (by decide) (by decide) (by decide : (3 : Nat) < 8) rfl ge177 rfl (fun h342 W343 A344 => ?_)
      have zs345 : Z.heap.size ≤ h342.size := W343.size ▸ zs226
      refine Go.aload 156 at_154 rfl rfl rfl ?_
      refine Go.iload 158 at_156 rfl rfl ?_
      refine Go.iconst 159 (1) at_158 (by decide) rfl ?_
      refine Go.iadd 160 at_159 rfl ?_
      refine Go.iload 162 at_160 rfl rfl ?_
      refine Go.i2b 163 at_162 rfl ?_
      refine Go.nameI (fun v346 e347 => ?_)
      refine Go.bastore (4) ([(nar .byte v179), (nar .byte v185), (nar .byte v191), (nar .byte v340), (nar .byte v346), (nar .byte v209), (nar .byte v215), (nar .byte v221)]) 164 at_163 A344 (by decide) (by decide) (by decide : (4 : Nat) < 8) rfl ge177 rfl (fun h348 W349 A350 => ?_)
      have zs351 : Z.heap.size ≤ h348.size := W349.size ▸ zs345
      refine Go.aload 166 at_164 rfl rfl rfl ?_
      refine Go.iload 168 at_166 rfl rfl ?_
      refine Go.iconst 169 (2) at_168 (by decide) rfl ?_
      refine Go.iadd 170 at_169 rfl ?_
      refine Go.iload 172 at_170 rfl rfl ?_
      refine Go.bipush 174 (8) at_172 (by decide) rfl ?_
      refine Go.iushr 175 at_174 rfl ?_
      refine Go.i2b 176 at_175 rfl ?_
      refine Go.nameI (fun v352 e353 => ?_)
      refine Go.bastore (5) ([(nar .byte v179), (nar .byte v185), (nar .byte v191), (nar .byte v340), (nar .byte v346), (nar .byte v352), (nar .byte v215), (nar .byte v221)]) 177 at_176 A350 (by decide) (by decide) (by decide : (5 : Nat) < 8) rfl ge177 rfl (fun h354 W355 A356 => ?_)
      have zs357 : Z.heap.size ≤ h354.size := W355.size ▸ zs351
      refine Go.aload 179 at_177 rfl rfl rfl ?_
      refine Go.iload 181 at_179 rfl rfl ?_
      refine Go.iconst 182 (3) at_181 (by decide) rfl ?_
      refine Go.iadd 183 at_182 rfl ?_
      refine Go.iload 185 at_183 rfl rfl ?_
      refine Go.i2b 186 at_185 rfl ?_
      refine Go.nameI (fun v358 e359 => ?_)
      refine Go.bastore (6) ([(nar .byte v179), (nar .byte v185), (nar .byte v191), (nar .byte v340), (nar .byte v346), (nar .byte v352), (nar .byte v358), (nar .byte v221)]) 187 at_186 A356 (by decide) (by decide) (by decide : (6 : Nat) < 8) rfl ge177 rfl (fun h360 W361 A362 => ?_)
      have zs363 : Z.heap.size ≤ h360.size := W361.size ▸ zs357
      refine Go.goto 208 at_187 (by decide) (by decide) ?_
      refine Go.aload 210 at_208 rfl rfl rfl ?_
      refine Go.iload 212 at_210 rfl rfl ?_
      refine Go.iload 214 at_212 rfl rfl ?_
      refine Go.iconst 215 (0) at_214 (by decide) rfl ?_
      refine Go.callSIp [.ref a172, .int (3 : Int32), .int (1 : Int32), .int (0 : Int32)] [] 218 at_215 (tw2 hw) (tw3 hw) (tw4 hw) (tw5 hw) pl1 (by decide) (lenOf pd1 rfl) rfl (fun m => ef_k_w m a172 (3 : Int32) (1 : Int32) (0 : Int32)) _ (k_w (i0 := 3) (b0 := (nar .byte v340)) (i1 := 4) (b1 := (nar .byte v346)) hw h360 zs363 a172 (3 : Int32) (1 : Int32) (0 : Int32) A362 (by decide) (by decide) (by decide) rfl (by decide) (by decide) rfl) 0 rfl (Nat.le_of_eq rfl) (by decide) (by decide) (by decide) (by decide) rfl ?_
      refine Go.nameI (fun v367 e368 => ?_)
      refine Go.istore 220 #[.val (.int i0), .val (.int i1), .val (.int i2), .val (.int i3), .val (.long i4), .second, .val (.int (1 : Int32)), .val (.int (65535 : Int32)), .val (.int v166), .val (.int v168), .val (.int (3 : Int32)), .val (.ref a172), .val (.int v367), .unset] at_218 rfl rfl ?_
      refine Go.aload 222 at_220 rfl rfl rfl ?_
      refine Go.iload 224 at_222 rfl rfl ?_
      refine Go.iload 226 at_224 rfl rfl ?_
      refine Go.iconst 227 (1) at_226 (by decide) rfl ?_
      refine Go.callSIp [.ref a172, .int (3 : Int32), .int (1 : Int32), .int (1 : Int32)] [] 230 at_227 (tw2 hw) (tw3 hw) (tw4 hw) (tw5 hw) pl1 (by decide) (lenOf pd1 rfl) rfl (fun m => ef_k_w m a172 (3 : Int32) (1 : Int32) (1 : Int32)) _ (k_w (i0 := 5) (b0 := (nar .byte v352)) (i1 := 6) (b1 := (nar .byte v358)) hw h360 zs363 a172 (3 : Int32) (1 : Int32) (1 : Int32) A362 (by decide) (by decide) (by decide) rfl (by decide) (by decide) rfl) 0 rfl (Nat.le_of_eq rfl) (by decide) (by decide) (by decide) (by decide) rfl ?_
      refine Go.nameI (fun v372 e373 => ?_)
      refine Go.istore 232 #[.val (.int i0), .val (.int i1), .val (.int i2), .val (.int i3), .val (.long i4), .second, .val (.int (1 : Int32)), .val (.int (65535 : Int32)), .val (.int v166), .val (.int v168), .val (.int (3 : Int32)), .val (.ref a172), .val (.int v367), .val (.int v372)] at_230 rfl rfl ?_
      refine Go.iload 234 at_232 rfl rfl ?_
      refine Go.iload 236 at_234 rfl rfl ?_
      refine Go.icmp_ne 250 239 at_236 (by decide) (by decide) rfl (fun c374 => ?_) (fun c374 => ?_)
      ·
        refine Go.iconst 251 (0) at_250 (by decide) rfl ?_
        refine Go.nreturn (t := .boolean) (z' := (0 : Int32)) at_251 rfl (by simp) (by decide) (by decide) (by decide) ?_
        exfalso
        subst_vars
        first | exact absurd (own_wide i0) ‹¬ _› | exact absurd (own_wide i1) ‹¬ _›
      ·
        refine Go.iload 241 at_239 rfl rfl ?_
        refine Go.iload 243 at_241 rfl rfl ?_
        refine Go.icmp_ne 250 246 at_243 (by decide) (by decide) rfl (fun c375 => ?_) (fun c375 => ?_)
        ·
          refine Go.iconst 251 (0) at_250 (by decide) rfl ?_
          refine Go.nreturn (t := .boolean) (z' := (0 : Int32)) at_251 rfl (by simp) (by decide) (by decide) (by decide) ?_
          exfalso
          subst_vars
          first | exact absurd (own_wide i0) ‹¬ _› | exact absurd (own_wide i1) ‹¬ _›
        ·
          refine Go.iconst 247 (1) at_246 (by decide) rfl ?_
          refine Go.goto 251 at_247 (by decide) (by decide) ?_
          refine Go.nreturn (t := .boolean) (z' := (1 : Int32)) at_251 rfl (by simp) (by decide) (by decide) (by decide) ?_
          rfl
set_option maxRecDepth 65536 in
set_option maxHeartbeats 40000000 in
theorem comes_1 {Post : Tables → Env → Array Value → State → Outcome → State → Prop} (hpost : ∀ tb e args s v u, (limb_1_1.after args s (.returned v) u = true ∧ limb_1_2.after args s (.returned v) u = true ∧ True) → FrameEnd s (.returned v) u (Jvm.fieldLocs frame_1_writes args s ++ Jvm.arrayLocs frame_1_arrays args s ++ Jvm.staticLocs frame_1_statics s) 16 128 → Post tb e args s (.returned v) u) :
    ArmFor flags0 classFile x code maxLocals ret World_1 tables_1 room_1 Calls_1 rest_1 Pre_1 Post := by
  intro l hfl _ _ p e ha hc hk s m args below hf hA hF happ hP
  obtain ⟨hcalls, hrest, hpre⟩ := hP
  obtain ⟨-, -, -, hnamed, -, -, -, hat⟩ := (Spec.applies_iff hf).mp happ
  obtain ⟨hg, hn⟩ := and_e (Cond.before_iff.mp (show (Jvm.Cond.and given_1 narrow_1).before args s = true from hpre))
  obtain ⟨h1, g0⟩ := and_e hg
  obtain ⟨w0, w1, w2, w3, w4, rfl⟩ : ∃ w0 w1 w2 w3 w4 : Value, args = #[w0, w1, w2, w3, w4] := by
    have hs : args.size = 5 := by simpa [Cond.value, given_1] using h1
    obtain ⟨L⟩ := args
    match L, hs with
    | [w0, w1, w2, w3, w4], _ => exact ⟨w0, w1, w2, w3, w4, rfl⟩
  have hw := fun d (hd : d ∈ tables_1) => atoms_spec (ws := Jvm.Cond.code x code maxLocals ret :: tables_1) hat d (List.mem_cons_of_mem _ hd)
  obtain ⟨b0, g1⟩ := and_e g0
  obtain ⟨i0, ei0⟩ := is_v b0
  obtain rfl : w0 = (.int i0) := Option.some.inj ei0
  obtain ⟨b1, g2⟩ := and_e g1
  obtain ⟨i1, ei1⟩ := is_v b1
  obtain rfl : w1 = (.int i1) := Option.some.inj ei1
  obtain ⟨b2, g3⟩ := and_e g2
  obtain ⟨i2, ei2⟩ := is_v b2
  obtain rfl : w2 = (.int i2) := Option.some.inj ei2
  obtain ⟨b3, g4⟩ := and_e g3
  obtain ⟨i3, ei3⟩ := is_v b3
  obtain rfl : w3 = (.int i3) := Option.some.inj ei3
  have b4 := g4
  obtain ⟨i4, ei4⟩ := isL_v b4
  obtain rfl : w4 = (.long i4) := Option.some.inj ei4
  have G := law0 (l := l) hw s.heap (Nat.le_refl _) i0 i1 i2 i3 i4
  obtain ⟨n, o, h1, h2, h3, _, L, rfl, ⟨⟨z, rfl, rfl⟩, N⟩, hq⟩ := Go.met (as' := #[.int i0, .int i1, .int i2, .int i3, .long i4]) (plainFor_of_name pnx) (fun m => ef_law0 m i0 i1 i2 i3 i4) G tables_1 p e ha hc hk s m _ below hf ((Spec.applies_iff_loose hf).mp happ).1 ⟨rfl, State.Warmed39.refl s, rfl⟩ trivial
  refine ⟨n, _, h1, h2, h3, hpost _ _ _ _ _ _ ⟨Cond.after_iff.mpr rfl, Cond.after_iff.mpr (eq_i res_at (Term.int_eval (1)) rfl), trivial⟩ ⟨hq.1, hq.2.1, (hq.2.2.sift fun y hy => Or.inr (N y hy)).mono (by decide) (by decide)⟩⟩
theorem main_1_1 : Claimed_1_1 := comes_1 fun _ _ _ _ _ _ h hF => ⟨h.1, hF⟩
theorem main_1_2 : Claimed_1_2 := comes_1 fun _ _ _ _ _ _ h hF => ⟨h.2.1, hF⟩
end Jvm.Pilot.@@N@@
namespace Jvm.Pilot.@@N@@
open Jvm Jvm.ClassFile Sem Op Lib Jvm.Free Jvm.Stand Jvm.Pilot.@@N@@.Jvm.D
/-! MADE BY PROGRAM (witnessworld.py) out of the Statement's table words and the real class files: 9 classes; the members and pool entries that the words name. The judged class is class 1, her method 1. -/
namespace start1
open Jvm.ClassFile
def u (s : String) : CpInfo := .utf8 (stringToUtf16 s)
/-- a pool by its gaps: so many unusable entries, then the entry; so many at the end -/
def gap : Nat → List CpInfo → List CpInfo
  | 0, r => r
  | n + 1, r => .unusable :: gap n r
def poolList (es : List (Nat × CpInfo)) (last : Nat) : List CpInfo := es.foldr (fun e r => gap e.1 (e.2 :: r)) (gap last [])
def pool (es : List (Nat × CpInfo)) (last : Nat) : Array CpInfo := ⟨poolList es last⟩
def fileOf (pool : Array CpInfo) (this : Nat) (attrs : Array Attribute := #[]) (ms : Array MethodInfo := #[]) (fl : Nat := 33) (sup : Nat := 0) (ifs : Array Nat := #[]) (fds : Array FieldInfo := #[]) : ClassFile where
  minorVersion := 0
  majorVersion := 65
  constantPool := pool
  accessFlags := fl
  thisClass := this
  superClass := sup
  interfaces := ifs
  fields := fds
  methods := ms
  attributes := attrs
def plain (name : String) (sup : Option ClassId) : Class where
  name := name
  kind := .ordinary
  loader := none
  accessFlags := 33
  super := sup
  interfaces := #[]
  cf := none
  fields := #[]
  methods := #[]
  instanceTypes := #[]
  staticTypes := #[]
  resolved := #[]
  callSites := []
  init := .initialized
  statics := none
  mirror := none

def pool0 : Array CpInfo := pool [(5, u "<init>"), (0, u "()V"), (1, .class_ 10), (1, u "java/lang/Object")] 113

def k0m0 : Method := { name := "<init>", desc := "()V", sig := { parameters := [], returnType := none }, accessFlags := 1, code := none }
/-- java/lang/Object -/
def k0 : Class := { plain "java/lang/Object" none with
  accessFlags := 33
  interfaces := #[]
  cf := some (fileOf pool0 8 #[] #[{ accessFlags := 1, nameIndex := 5, descriptorIndex := 6, attributes := #[] }] 33 0 #[] #[])
  fields := #[]
  methods := #[k0m0]
  instanceTypes := #[]
  staticTypes := #[]
  resolved := Array.replicate 124 none
  statics := none }

def pool1 : Array CpInfo := pool [(2, .class_ 4), (1, u "java/lang/Object"), (0, u "<init>"), (0, u "()V"), (0, .integer 65535), (0, .methodref 9 10), (0, .class_ 11), (0, .nameAndType 12 13), (0, u "com/example/latchwork/latchwork/engine/PackedChars"), (0, u "charAt"), (0, u "([BIZI)C"), (0, .class_ 15), (0, u "com/example/latchwork/latchwork/engine/PackedCharsCharAtPinLaw"), (2, u "law"), (0, u "(IIIIJ)Z")] 5

def k1m0 : Method := { name := "<init>", desc := "()V", sig := { parameters := [], returnType := none }, accessFlags := 1, code := none }
def k1c1 : Code := { maxStack := 5, maxLocals := 14, code := code, exceptionTable := #[], attributes := #[] }
def k1m1 : Method := { name := "law", desc := "(IIIIJ)Z", sig := { parameters := [.int, .int, .int, .int, .long], returnType := some .boolean }, accessFlags := 9, code := some k1c1 }
/-- com/example/latchwork/latchwork/engine/PackedCharsCharAtPinLaw -/
def k1 : Class := { plain "com/example/latchwork/latchwork/engine/PackedCharsCharAtPinLaw" (some 0) with
  accessFlags := 49
  interfaces := #[]
  cf := some (fileOf pool1 14 #[] #[{ accessFlags := 1, nameIndex := 5, descriptorIndex := 6, attributes := #[] }, { accessFlags := 9, nameIndex := 18, descriptorIndex := 19, attributes := #[] }] 49 2 #[] #[])
  fields := #[]
  methods := #[k1m0, k1m1]
  instanceTypes := #[]
  staticTypes := #[]
  resolved := Array.replicate 25 none
  statics := none }

def pool2 : Array CpInfo := pool [(2, .class_ 4), (1, u "java/lang/Object"), (0, u "<init>"), (0, u "()V"), (8, u "charAt"), (1, .class_ 18), (0, u "com/example/latchwork/latchwork/engine/PackedChars"), (17, u "([BIZI)C"), (3, u "NARROWEST"), (0, u "C")] 17

def k2m0 : Method := { name := "<init>", desc := "()V", sig := { parameters := [], returnType := none }, accessFlags := 2, code := none }
def k2c1 : Code := { maxStack := 5, maxLocals := 4, code := prog_33_method_5_code, exceptionTable := #[], attributes := #[] }
def k2m1 : Method := { name := "charAt", desc := "([BIZI)C", sig := { parameters := [(.array .byte), .int, .boolean, .int], returnType := some .char }, accessFlags := 8, code := some k2c1 }
/-- com/example/latchwork/latchwork/engine/PackedChars -/
def k2 : Class := { plain "com/example/latchwork/latchwork/engine/PackedChars" (some 0) with
  accessFlags := 48
  interfaces := #[]
  cf := some (fileOf pool2 17 #[] #[{ accessFlags := 2, nameIndex := 5, descriptorIndex := 6, attributes := #[] }, { accessFlags := 8, nameIndex := 15, descriptorIndex := 36, attributes := #[] }] 48 2 #[] #[{ accessFlags := 26, nameIndex := 40, descriptorIndex := 41, attributes := #[] }])
  fields := #[{ name := "NARROWEST", type := .char, accessFlags := 26, slot := 0, constantValue := 0 }]
  methods := #[k2m0, k2m1]
  instanceTypes := #[]
  staticTypes := #[.char]
  resolved := Array.replicate 59 none
  statics := none }

def pool3 : Array CpInfo := pool [(1, u "java/lang/Cloneable"), (0, .class_ 1), (0, u "java/lang/Object"), (0, .class_ 3)] 3

/-- java/lang/Cloneable -/
def k3 : Class := { plain "java/lang/Cloneable" (some 0) with
  accessFlags := 1537
  interfaces := #[]
  cf := some (fileOf pool3 2 #[] #[] 1537 4 #[] #[])
  fields := #[]
  methods := #[]
  instanceTypes := #[]
  staticTypes := #[]
  resolved := Array.replicate 8 none
  statics := none }

def pool4 : Array CpInfo := pool [(1, u "java/io/Serializable"), (0, .class_ 1), (0, u "java/lang/Object"), (0, .class_ 3)] 3

/-- java/io/Serializable -/
def k4 : Class := { plain "java/io/Serializable" (some 0) with
  accessFlags := 1537
  interfaces := #[]
  cf := some (fileOf pool4 2 #[] #[] 1537 4 #[] #[])
  fields := #[]
  methods := #[]
  instanceTypes := #[]
  staticTypes := #[]
  resolved := Array.replicate 8 none
  statics := none }

/-- the primitive byte -/
def k5 : Class := { plain "byte" none with kind := .primitive 'B', accessFlags := 0x411 }
/-- [B -/
def k6 : Class := { plain "[B" (some 0) with kind := .array 5 .byte, interfaces := #[3, 4], accessFlags := 1041 }

/-- the primitive int -/
def k7 : Class := { plain "int" none with kind := .primitive 'I', accessFlags := 0x411 }
/-- [I -/
def k8 : Class := { plain "[I" (some 0) with kind := .array 7 .int, interfaces := #[3, 4], accessFlags := 1041 }

def heap : Heap := #[]
def classes : Array Class := #[k0, k1, k2, k3, k4, k5, k6, k7, k8]
def interned : List (Array UInt16 × Addr) := []
def slotsUsed : Nat := 0
def theMethod : MethodId := ⟨1, 1⟩
def args0 : Array Value := #[.int 57, .int 7, .int 7, .int 7, .long 99]
def aboutOver (below : List Frame) : State where
  vm := { classes := classes, interned := interned.toArray }
  heap := heap
  slotsUsed := slotsUsed
  threads := #[{ frames := .invoking theMethod args0 :: below }]
def below0 : List Frame := [.native { method := ⟨0, 0⟩, args := #[] }]
def about1 : State := aboutOver below0
def p0 : Program := .bare "" "" ""
def e0 : Env := launch0.env 0 0 0
theorem w_frames : about1.frames = Frame.invoking theMethod args0 :: below0 := rfl
set_option maxRecDepth 65536 in
theorem w_args : argsFit about1.vm theMethod args0 = true := by decide +kernel
set_option maxRecDepth 65536 in
theorem w_heap : heapFits about1 = true := by decide +kernel
set_option maxRecDepth 65536 in
theorem w_runnable : about1.curStatus? = some .runnable := by decide +kernel
set_option maxRecDepth 65536 in
theorem w_alone : about1.alone = true := by decide +kernel
set_option maxRecDepth 65536 in
theorem w_named : about1.methodNamed? x = some theMethod := by decide +kernel
set_option maxRecDepth 65536 in
theorem w_hears : about1.hears theMethod below0 = true := by decide +kernel
set_option maxRecDepth 65536 in
theorem w_ripe : about1.ripe theMethod args0 below0 = true := by decide +kernel
theorem w_running : about1.status = .running := rfl
set_option maxRecDepth 65536 in
theorem w_room : about1.hasRoom e0.platform room_1 = true :=
  launch0.hasRoom_least _ room_1 (by decide +kernel) (by decide +kernel) (by decide +kernel) (by decide +kernel) (by decide +kernel) (by decide +kernel)
theorem allAtoms_all (ts : List Jvm.Cond) (a : Array Jvm.Value) (st : Jvm.State) : (allAtoms ts).before a st = ts.all (fun c => c.before a st) := by
  induction ts with
  | nil => rfl
  | cons c t ih =>
    show (Jvm.Cond.and c (allAtoms t)).before a st = _
    rw [Jvm.Cond.before_and, ih, List.all_cons]
def words1 : List Jvm.Cond := Jvm.Cond.code x code maxLocals ret :: tables_1
/-- a 'code' word, met by the world's own term for the bytes: nothing is compared byte by byte -/
theorem code_word {y : MethodName} {bytes : ByteArray} {mx : Nat} {rt : Option FieldType} {a : Array Value} {s : State} {m : MethodId} {meth : Method} {c : Code} (h1 : s.methodNamed? y = some m) (h2 : s.vm.method? m = some meth) (h3 : meth.code = some c) (h4 : c.code = bytes)
    (h5 : (c.maxLocals == mx && c.exceptionTable.isEmpty && decide (c.maxStack ≤ mostOperands) && decide (meth.sig.returnType = rt) && !meth.locks && decide (parseMethodDescriptor y.desc = some meth.sig)) = true) : (Jvm.Cond.code y bytes mx rt).before a s = true := by
  simp only [Bool.and_eq_true, beq_iff_eq, Bool.not_eq_true', decide_eq_true_eq] at h5
  obtain ⟨⟨⟨⟨⟨g1, g2⟩, g3⟩, g4⟩, g5⟩, g6⟩ := h5
  simp [Cond.before, Cond.holds, Cond.value, h1, h2, h3, h4, g1, g2, g3, g4, g5, g6]
def isCode : Jvm.Cond → Bool
  | .code _ _ _ _ => true
  | _ => false
theorem all_split {L : List Jvm.Cond} {P : Jvm.Cond → Bool} (h1 : L.all (fun c => isCode c || P c) = true) (h2 : ∀ c ∈ L.filter isCode, P c = true) : L.all P = true := by
  refine List.all_eq_true.mpr fun c hc => ?_
  have h := List.all_eq_true.mp h1 c hc
  rcases Bool.eq_false_or_eq_true (isCode c) with hi | hi
  · exact h2 c (List.mem_filter.mpr ⟨hc, hi⟩)
  · simpa [hi] using h
set_option maxRecDepth 65536 in
theorem w_c0 : (Jvm.Cond.code x code maxLocals ret).before args0 about1 = true := code_word (m := ⟨1, 1⟩) (meth := k1m1) (c := k1c1) (by decide +kernel) rfl rfl rfl (by decide +kernel)
set_option maxRecDepth 65536 in
theorem w_c1 : (Jvm.Cond.code ({ cls := "com/example/latchwork/latchwork/engine/PackedChars", name := "charAt", desc := "([BIZI)C" } : Jvm.MethodName) prog_33_method_5_code (4 : Nat) (Option.some Jvm.ClassFile.FieldType.char)).before args0 about1 = true := code_word (m := ⟨2, 1⟩) (meth := k2m1) (c := k2c1) (by decide +kernel) rfl rfl rfl (by decide +kernel)
def codes1 : List Jvm.Cond := [Jvm.Cond.code x code maxLocals ret, Jvm.Cond.code ({ cls := "com/example/latchwork/latchwork/engine/PackedChars", name := "charAt", desc := "([BIZI)C" } : Jvm.MethodName) prog_33_method_5_code (4 : Nat) (Option.some Jvm.ClassFile.FieldType.char)]
set_option maxRecDepth 65536 in
theorem codes_eq : words1.filter isCode = codes1 := rfl
theorem w_codes : ∀ c ∈ words1.filter isCode, c.before args0 about1 = true := by
  rw [codes_eq]
  intro c hc
  simp only [codes1, List.mem_cons, List.not_mem_nil, or_false] at hc
  rcases hc with rfl | rfl
  · exact w_c0
  · exact w_c1
set_option maxRecDepth 65536 in
theorem w_t1 : words1.all (fun c => isCode c || c.before args0 about1) = true := by decide +kernel
theorem w_tables : (allAtoms (Jvm.Cond.code x code maxLocals ret :: tables_1)).before args0 about1 = true := by
  rw [allAtoms_all]
  show words1.all (fun c => c.before args0 about1) = true
  refine all_split ?_ w_codes
  rw [w_t1]
set_option maxRecDepth 65536 in
theorem w_case : (Jvm.Cond.and given_1 narrow_1).before args0 about1 = true := by decide +kernel
theorem w_applies : (headSpec (Jvm.Cond.code x code maxLocals ret :: tables_1) room_1).applies x e0.platform about1 = true :=
  (Spec.applies_iff w_frames).mpr ⟨w_running, w_runnable, w_alone, w_named, w_hears, w_ripe, w_room, w_tables⟩
theorem atStart : AtStart classFile x code maxLocals ret World_1 tables_1 room_1 Calls_1 rest_1 Pre_1 launch0 p0 e0 about1 theMethod args0 below0 :=
  ⟨lists_1, trivial, launch0.admits_env _ _ _, launch0.least_env, fairChoices_fair.cas, fairChoices_fair.clock, w_frames, w_args, w_heap, w_applies, trivial, trivial, w_case⟩
end start1
theorem witness_1 : WitnessClaimed_1 := ⟨start1.p0, start1.e0, start1.about1, start1.theMethod, start1.args0, start1.below0, start1.atStart⟩
end Jvm.Pilot.@@N@@
