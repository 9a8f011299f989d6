import JvmDerived
import JvmDerived.Pilot.@@N@@Statement
import JvmDerived.Pilot.@@N@@Code
set_option linter.unusedVariables false
set_option linter.unusedSimpArgs false

namespace Jvm.OwnGo
open Sem ClassFile Op Lib Jvm.Stand Jvm.Free Jvm.LawKit Jvm.RoadKit
/-- what is known of a body while it is walked -/
def Cx (Z : State) (y : MethodName) (code : ByteArray) (ml : Nat) (ret : Option FieldType) (p : Program) (s : State) (m : MethodId) (meth : Method) (c : Code) : Prop :=
  p.tables.exec = Jvm.exec ∧ c.code = code ∧ Z.Warmed39 s.vm ∧ s.vm.findClass y.cls = some m.cls ∧ c.maxLocals = ml ∧ meth.sig.returnType = ret ∧ meth.locks = false ∧ meth.name = y.name
/-- from the frame (pc, Ls, st) over the heap h, with at most k cells and n slots made so far, the body of y returns with Q -/
def Go (l : Launch) (Z : State) (y : MethodName) (code : ByteArray) (ml : Nat) (ret : Option FieldType) (R : Room) (Q : Option Value → Heap → Prop) (k n : Nat) (h : Heap) (pc : Nat) (Ls : Array Slot) (st : List Value) : Prop :=
  ∀ (p : Program) (e : Env) (s : State) (m : MethodId) (args : Array Value) (below : List Frame) (meth : Method) (c : Code), Cx Z y code ml ret p s m meth c →
  ∀ (T : State) (L : List Loc) (k' n' : Nat), Stand p l e R s m args below meth c T L k' n' → k' ≤ k → n' ≤ n → Fr Z.heap.size L → T.heap = h →
  ∃ (v : Option Value) (T' : State) (L' : List Loc) (k'' n'' : Nat), Stand p l e R s m args below meth c T' L' k'' n'' ∧ k'' ≤ R.cells ∧ n'' ≤ R.slots ∧ Fr Z.heap.size L' ∧ Q v T'.heap ∧ (ret = none → v = none) ∧
    ∀ fs, (∀ (f : JFrame) (acts : List Action), f.method = m → f.locked = none → f.entered = [] → (doReturn e (T'.setTop f) acts v).1 = T'.setFrames fs) → Steps p.tables e below (T.setTop (mkF m pc Ls st)) (T'.setFrames fs)
/-- the shapes of an answer -/
def QI (P : Int32 → Heap → Prop) (v : Option Value) (h : Heap) : Prop := ∃ z : Int32, v = some (.int z) ∧ P z h
def QJ (P : Int64 → Heap → Prop) (v : Option Value) (h : Heap) : Prop := ∃ z : Int64, v = some (.long z) ∧ P z h
def QR (P : Value → Heap → Prop) (v : Option Value) (h : Heap) : Prop := ∃ z : Value, v = some z ∧ P z h
def QV (P : Heap → Prop) (v : Option Value) (h : Heap) : Prop := v = none ∧ P h
section Laws
variable {l : Launch} {Z : State} {y : MethodName} {code : ByteArray} {ml : Nat} {ret : Option FieldType} {R : Room} {Q : Option Value → Heap → Prop} {k n : Nat} {h : Heap} {pc : Nat} {Ls : Array Slot} {st : List Value} {a0 : Array Value}
theorem Go.pure {pc' : Nat} {Ls' : Array Slot} {st' : List Value} (g : Go l Z y code ml ret R Q k n h pc' Ls' st')
    (f : ∀ (p : Program) (e : Env) (s : State) (m : MethodId) (args : Array Value) (below : List Frame) (meth : Method) (c : Code), Cx Z y code ml ret p s m meth c → ∀ (T : State) (L : List Loc) (k' n' : Nat), Stand p l e R s m args below meth c T L k' n' → T.heap = h → ∀ target, Steps p.tables e below (T.setTop (mkF m pc' Ls' st')) target → Steps p.tables e below (T.setTop (mkF m pc Ls st)) target) :
    Go l Z y code ml ret R Q k n h pc Ls st := by
  intro p e s m args below meth c K T L k' n' X h1 h2 N hT
  obtain ⟨v, T', L', k'', n'', X', b1, b2, N', q, hv, stp⟩ := g p e s m args below meth c K T L k' n' X h1 h2 N hT
  exact ⟨v, T', L', k'', n'', X', b1, b2, N', q, hv, fun fs hl => f p e s m args below meth c K T L k' n' X hT _ (stp fs hl)⟩
/-- a step that moves the state: by a law that hands out the new Stand -/
theorem Go.move {pc' : Nat} {Ls' : Array Slot} {st' : List Value} {kk nn : Nat} {P : Heap → Prop} (g : ∀ h', P h' → Go l Z y code ml ret R Q kk nn h' pc' Ls' st')
    (f : ∀ (p : Program) (e : Env) (s : State) (m : MethodId) (args : Array Value) (below : List Frame) (meth : Method) (c : Code), Cx Z y code ml ret p s m meth c → ∀ (T : State) (L : List Loc) (k' n' : Nat), Stand p l e R s m args below meth c T L k' n' → k' ≤ k → n' ≤ n → Fr Z.heap.size L → T.heap = h →
      ∃ (T' : State) (L' : List Loc) (k'' n'' : Nat), Stand p l e R s m args below meth c T' L' k'' n'' ∧ k'' ≤ kk ∧ n'' ≤ nn ∧ Fr Z.heap.size L' ∧ P T'.heap ∧ ∀ target, Steps p.tables e below (T'.setTop (mkF m pc' Ls' st')) target → Steps p.tables e below (T.setTop (mkF m pc Ls st)) target) :
    Go l Z y code ml ret R Q k n h pc Ls st := by
  intro p e s m args below meth c K T L k' n' X h1 h2 N hT
  obtain ⟨T1, L1, k1, n1, X1, c1, c2, N1, p1, s1⟩ := f p e s m args below meth c K T L k' n' X h1 h2 N hT
  obtain ⟨v, T', L', k'', n'', X', b1, b2, N', q, hv, stp⟩ := g _ p1 p e s m args below meth c K T1 L1 k1 n1 X1 c1 c2 N1 rfl
  exact ⟨v, T', L', k'', n'', X', b1, b2, N', q, hv, fun fs hl => s1 _ (stp fs hl)⟩
theorem Go.le {k₀ n₀ : Nat} (g : Go l Z y code ml ret R Q k n h pc Ls st) (hk : k₀ ≤ k) (hn : n₀ ≤ n) : Go l Z y code ml ret R Q k₀ n₀ h pc Ls st :=
  fun p e s m args below meth c K T L k' n' X h1 h2 N hT => g p e s m args below meth c K T L k' n' X (Nat.le_trans h1 hk) (Nat.le_trans h2 hn) N hT
theorem Go.mono {Q' : Option Value → Heap → Prop} (g : Go l Z y code ml ret R Q k n h pc Ls st) (hq : ∀ v h', Q v h' → Q' v h') : Go l Z y code ml ret R Q' k n h pc Ls st := by
  intro p e s m args below meth c K T L k' n' X h1 h2 N hT
  obtain ⟨v, T', L', k'', n'', X', b1, b2, N', q, r⟩ := g p e s m args below meth c K T L k' n' X h1 h2 N hT
  exact ⟨v, T', L', k'', n'', X', b1, b2, N', hq _ _ q, r⟩
theorem Go.nameI {x : Int32} (g : ∀ v : Int32, v = x → Go l Z y code ml ret R Q k n h pc Ls (.int v :: st)) : Go l Z y code ml ret R Q k n h pc Ls (.int x :: st) := g x rfl
theorem Go.nameJ {x : Int64} (g : ∀ v : Int64, v = x → Go l Z y code ml ret R Q k n h pc Ls (.long v :: st)) : Go l Z y code ml ret R Q k n h pc Ls (.long x :: st) := g x rfl

theorem Go.iadd {x z : Int32} (q : Nat) (hd : decode code pc = .ok (.iadd, 1))  (hq : pc + 1 = q) (g : Go l Z y code ml ret R Q k n h q Ls (.int (x + z) :: st)) : Go l Z y code ml ret R Q k n h pc Ls (.int z :: .int x :: st) := by
  subst hq; exact g.pure fun p e s m args below meth c K T L k' n' X hT t r => XS.iadd X.here K.1 rfl (hb K.2.1 hd) rfl  r
theorem Go.isub {x z : Int32} (q : Nat) (hd : decode code pc = .ok (.isub, 1))  (hq : pc + 1 = q) (g : Go l Z y code ml ret R Q k n h q Ls (.int (x - z) :: st)) : Go l Z y code ml ret R Q k n h pc Ls (.int z :: .int x :: st) := by
  subst hq; exact g.pure fun p e s m args below meth c K T L k' n' X hT t r => XS.isub X.here K.1 rfl (hb K.2.1 hd) rfl  r
theorem Go.iand {x z : Int32} (q : Nat) (hd : decode code pc = .ok (.iand, 1))  (hq : pc + 1 = q) (g : Go l Z y code ml ret R Q k n h q Ls (.int (x &&& z) :: st)) : Go l Z y code ml ret R Q k n h pc Ls (.int z :: .int x :: st) := by
  subst hq; exact g.pure fun p e s m args below meth c K T L k' n' X hT t r => XS.iand X.here K.1 rfl (hb K.2.1 hd) rfl  r
theorem Go.imul {x z : Int32} (q : Nat) (hd : decode code pc = .ok (.imul, 1))  (hq : pc + 1 = q) (g : Go l Z y code ml ret R Q k n h q Ls (.int (x * z) :: st)) : Go l Z y code ml ret R Q k n h pc Ls (.int z :: .int x :: st) := by
  subst hq; exact g.pure fun p e s m args below meth c K T L k' n' X hT t r => XS.imul X.here K.1 rfl (hb K.2.1 hd) rfl  r
theorem Go.ixor {x z : Int32} (q : Nat) (hd : decode code pc = .ok (.ixor, 1))  (hq : pc + 1 = q) (g : Go l Z y code ml ret R Q k n h q Ls (.int (x ^^^ z) :: st)) : Go l Z y code ml ret R Q k n h pc Ls (.int z :: .int x :: st) := by
  subst hq; exact g.pure fun p e s m args below meth c K T L k' n' X hT t r => XT.ixor X.here K.1 rfl (hb K.2.1 hd) rfl  r
theorem Go.ior {x z : Int32} (q : Nat) (hd : decode code pc = .ok (.ior, 1))  (hq : pc + 1 = q) (g : Go l Z y code ml ret R Q k n h q Ls (.int (x ||| z) :: st)) : Go l Z y code ml ret R Q k n h pc Ls (.int z :: .int x :: st) := by
  subst hq; exact g.pure fun p e s m args below meth c K T L k' n' X hT t r => XT.ior X.here K.1 rfl (hb K.2.1 hd) rfl  r
theorem Go.ishl {x z : Int32} (q : Nat) (hd : decode code pc = .ok (.ishl, 1))  (hq : pc + 1 = q) (g : Go l Z y code ml ret R Q k n h q Ls (.int (x <<< (z &&& 31)) :: st)) : Go l Z y code ml ret R Q k n h pc Ls (.int z :: .int x :: st) := by
  subst hq; exact g.pure fun p e s m args below meth c K T L k' n' X hT t r => XT.ishl X.here K.1 rfl (hb K.2.1 hd) rfl  r
theorem Go.ishr {x z : Int32} (q : Nat) (hd : decode code pc = .ok (.ishr, 1))  (hq : pc + 1 = q) (g : Go l Z y code ml ret R Q k n h q Ls (.int (x >>> (z &&& 31)) :: st)) : Go l Z y code ml ret R Q k n h pc Ls (.int z :: .int x :: st) := by
  subst hq; exact g.pure fun p e s m args below meth c K T L k' n' X hT t r => XT.ishr X.here K.1 rfl (hb K.2.1 hd) rfl  r
theorem Go.iushr {x z : Int32} (q : Nat) (hd : decode code pc = .ok (.iushr, 1))  (hq : pc + 1 = q) (g : Go l Z y code ml ret R Q k n h q Ls (.int (XT.ushr x z) :: st)) : Go l Z y code ml ret R Q k n h pc Ls (.int z :: .int x :: st) := by
  subst hq; exact g.pure fun p e s m args below meth c K T L k' n' X hT t r => XT.iushr X.here K.1 rfl (hb K.2.1 hd) rfl  r
theorem Go.idiv {x z : Int32} (q : Nat) (hd : decode code pc = .ok (.idiv, 1)) (hz : z ≠ 0) (hq : pc + 1 = q) (g : Go l Z y code ml ret R Q k n h q Ls (.int (x / z) :: st)) : Go l Z y code ml ret R Q k n h pc Ls (.int z :: .int x :: st) := by
  subst hq; exact g.pure fun p e s m args below meth c K T L k' n' X hT t r => XS.idiv X.here K.1 rfl (hb K.2.1 hd) rfl hz r
theorem Go.irem {x z : Int32} (q : Nat) (hd : decode code pc = .ok (.irem, 1)) (hz : z ≠ 0) (hq : pc + 1 = q) (g : Go l Z y code ml ret R Q k n h q Ls (.int (x % z) :: st)) : Go l Z y code ml ret R Q k n h pc Ls (.int z :: .int x :: st) := by
  subst hq; exact g.pure fun p e s m args below meth c K T L k' n' X hT t r => iremM X K.1 rfl (hb K.2.1 hd) rfl hz r
theorem Go.ineg {x : Int32} (q : Nat) (hd : decode code pc = .ok (.ineg, 1))  (hq : pc + 1 = q) (g : Go l Z y code ml ret R Q k n h q Ls (.int (-x) :: st)) : Go l Z y code ml ret R Q k n h pc Ls (.int x :: st) := by
  subst hq; exact g.pure fun p e s m args below meth c K T L k' n' X hT t r => XS.ineg X.here K.1 rfl (hb K.2.1 hd) rfl  r
theorem Go.ladd {x z : Int64} (q : Nat) (hd : decode code pc = .ok (.ladd, 1))  (hq : pc + 1 = q) (g : Go l Z y code ml ret R Q k n h q Ls (.long (x + z) :: st)) : Go l Z y code ml ret R Q k n h pc Ls (.long z :: .long x :: st) := by
  subst hq; exact g.pure fun p e s m args below meth c K T L k' n' X hT t r => XT.ladd X.here K.1 rfl (hb K.2.1 hd) rfl  r
theorem Go.lsub {x z : Int64} (q : Nat) (hd : decode code pc = .ok (.lsub, 1))  (hq : pc + 1 = q) (g : Go l Z y code ml ret R Q k n h q Ls (.long (x - z) :: st)) : Go l Z y code ml ret R Q k n h pc Ls (.long z :: .long x :: st) := by
  subst hq; exact g.pure fun p e s m args below meth c K T L k' n' X hT t r => XT.lsub X.here K.1 rfl (hb K.2.1 hd) rfl  r
theorem Go.lmul {x z : Int64} (q : Nat) (hd : decode code pc = .ok (.lmul, 1))  (hq : pc + 1 = q) (g : Go l Z y code ml ret R Q k n h q Ls (.long (x * z) :: st)) : Go l Z y code ml ret R Q k n h pc Ls (.long z :: .long x :: st) := by
  subst hq; exact g.pure fun p e s m args below meth c K T L k' n' X hT t r => XT.lmul X.here K.1 rfl (hb K.2.1 hd) rfl  r
theorem Go.land {x z : Int64} (q : Nat) (hd : decode code pc = .ok (.land, 1))  (hq : pc + 1 = q) (g : Go l Z y code ml ret R Q k n h q Ls (.long (x &&& z) :: st)) : Go l Z y code ml ret R Q k n h pc Ls (.long z :: .long x :: st) := by
  subst hq; exact g.pure fun p e s m args below meth c K T L k' n' X hT t r => XT.land X.here K.1 rfl (hb K.2.1 hd) rfl  r
theorem Go.lor {x z : Int64} (q : Nat) (hd : decode code pc = .ok (.lor, 1))  (hq : pc + 1 = q) (g : Go l Z y code ml ret R Q k n h q Ls (.long (x ||| z) :: st)) : Go l Z y code ml ret R Q k n h pc Ls (.long z :: .long x :: st) := by
  subst hq; exact g.pure fun p e s m args below meth c K T L k' n' X hT t r => XT.lor X.here K.1 rfl (hb K.2.1 hd) rfl  r
theorem Go.lxor {x z : Int64} (q : Nat) (hd : decode code pc = .ok (.lxor, 1))  (hq : pc + 1 = q) (g : Go l Z y code ml ret R Q k n h q Ls (.long (x ^^^ z) :: st)) : Go l Z y code ml ret R Q k n h pc Ls (.long z :: .long x :: st) := by
  subst hq; exact g.pure fun p e s m args below meth c K T L k' n' X hT t r => XT.lxor X.here K.1 rfl (hb K.2.1 hd) rfl  r
theorem Go.ldiv {x z : Int64} (q : Nat) (hd : decode code pc = .ok (.ldiv, 1)) (hz : z ≠ 0) (hq : pc + 1 = q) (g : Go l Z y code ml ret R Q k n h q Ls (.long (x / z) :: st)) : Go l Z y code ml ret R Q k n h pc Ls (.long z :: .long x :: st) := by
  subst hq; exact g.pure fun p e s m args below meth c K T L k' n' X hT t r => XT.ldiv X.here K.1 rfl (hb K.2.1 hd) rfl hz r
theorem Go.lrem {x z : Int64} (q : Nat) (hd : decode code pc = .ok (.lrem, 1)) (hz : z ≠ 0) (hq : pc + 1 = q) (g : Go l Z y code ml ret R Q k n h q Ls (.long (x - (x / z) * z) :: st)) : Go l Z y code ml ret R Q k n h pc Ls (.long z :: .long x :: st) := by
  subst hq; exact g.pure fun p e s m args below meth c K T L k' n' X hT t r => XT.lrem X.here K.1 rfl (hb K.2.1 hd) rfl hz r
theorem Go.lneg {x : Int64} (q : Nat) (hd : decode code pc = .ok (.lneg, 1))  (hq : pc + 1 = q) (g : Go l Z y code ml ret R Q k n h q Ls (.long (-x) :: st)) : Go l Z y code ml ret R Q k n h pc Ls (.long x :: st) := by
  subst hq; exact g.pure fun p e s m args below meth c K T L k' n' X hT t r => XT.lneg X.here K.1 rfl (hb K.2.1 hd) rfl  r
theorem Go.lshl {x : Int64} {z : Int32} (q : Nat) (hd : decode code pc = .ok (.lshl, 1))  (hq : pc + 1 = q) (g : Go l Z y code ml ret R Q k n h q Ls (.long (x <<< (z.toInt64 &&& 63)) :: st)) : Go l Z y code ml ret R Q k n h pc Ls (.int z :: .long x :: st) := by
  subst hq; exact g.pure fun p e s m args below meth c K T L k' n' X hT t r => XT.lshl X.here K.1 rfl (hb K.2.1 hd) rfl  r
theorem Go.lshr {x : Int64} {z : Int32} (q : Nat) (hd : decode code pc = .ok (.lshr, 1))  (hq : pc + 1 = q) (g : Go l Z y code ml ret R Q k n h q Ls (.long (x >>> (z.toInt64 &&& 63)) :: st)) : Go l Z y code ml ret R Q k n h pc Ls (.int z :: .long x :: st) := by
  subst hq; exact g.pure fun p e s m args below meth c K T L k' n' X hT t r => XT.lshr X.here K.1 rfl (hb K.2.1 hd) rfl  r
theorem Go.lushr {x : Int64} {z : Int32} (q : Nat) (hd : decode code pc = .ok (.lushr, 1))  (hq : pc + 1 = q) (g : Go l Z y code ml ret R Q k n h q Ls (.long (XT.ushrL x z) :: st)) : Go l Z y code ml ret R Q k n h pc Ls (.int z :: .long x :: st) := by
  subst hq; exact g.pure fun p e s m args below meth c K T L k' n' X hT t r => XT.lushr X.here K.1 rfl (hb K.2.1 hd) rfl  r
theorem Go.lcmp {x z : Int64} (q : Nat) (hd : decode code pc = .ok (.lcmp, 1))  (hq : pc + 1 = q) (g : Go l Z y code ml ret R Q k n h q Ls (.int (XT.cmpL x z) :: st)) : Go l Z y code ml ret R Q k n h pc Ls (.long z :: .long x :: st) := by
  subst hq; exact g.pure fun p e s m args below meth c K T L k' n' X hT t r => XT.lcmp X.here K.1 rfl (hb K.2.1 hd) rfl  r
theorem Go.i2l {x : Int32} (q : Nat) (hd : decode code pc = .ok (.i2l, 1))  (hq : pc + 1 = q) (g : Go l Z y code ml ret R Q k n h q Ls (.long x.toInt64 :: st)) : Go l Z y code ml ret R Q k n h pc Ls (.int x :: st) := by
  subst hq; exact g.pure fun p e s m args below meth c K T L k' n' X hT t r => XT.i2l X.here K.1 rfl (hb K.2.1 hd) rfl  r
theorem Go.l2i {x : Int64} (q : Nat) (hd : decode code pc = .ok (.l2i, 1))  (hq : pc + 1 = q) (g : Go l Z y code ml ret R Q k n h q Ls (.int x.toInt32 :: st)) : Go l Z y code ml ret R Q k n h pc Ls (.long x :: st) := by
  subst hq; exact g.pure fun p e s m args below meth c K T L k' n' X hT t r => XT.l2i X.here K.1 rfl (hb K.2.1 hd) rfl  r
theorem Go.i2b {x : Int32} (q : Nat) (hd : decode code pc = .ok (.i2b, 1))  (hq : pc + 1 = q) (g : Go l Z y code ml ret R Q k n h q Ls (.int x.toInt8.toInt32 :: st)) : Go l Z y code ml ret R Q k n h pc Ls (.int x :: st) := by
  subst hq; exact g.pure fun p e s m args below meth c K T L k' n' X hT t r => XT.i2b X.here K.1 rfl (hb K.2.1 hd) rfl  r
theorem Go.i2c {x : Int32} (q : Nat) (hd : decode code pc = .ok (.i2c, 1))  (hq : pc + 1 = q) (g : Go l Z y code ml ret R Q k n h q Ls (.int x.toUInt32.toUInt16.toUInt32.toInt32 :: st)) : Go l Z y code ml ret R Q k n h pc Ls (.int x :: st) := by
  subst hq; exact g.pure fun p e s m args below meth c K T L k' n' X hT t r => XT.i2c X.here K.1 rfl (hb K.2.1 hd) rfl  r
theorem Go.i2s {x : Int32} (q : Nat) (hd : decode code pc = .ok (.i2s, 1))  (hq : pc + 1 = q) (g : Go l Z y code ml ret R Q k n h q Ls (.int x.toInt16.toInt32 :: st)) : Go l Z y code ml ret R Q k n h pc Ls (.int x :: st) := by
  subst hq; exact g.pure fun p e s m args below meth c K T L k' n' X hT t r => XT.i2s X.here K.1 rfl (hb K.2.1 hd) rfl  r
theorem Go.pop {x : Value} (q : Nat) (hd : decode code pc = .ok (.pop, 1)) (hc : x.category = 1) (hq : pc + 1 = q) (g : Go l Z y code ml ret R Q k n h q Ls (st)) : Go l Z y code ml ret R Q k n h pc Ls (x :: st) := by
  subst hq; exact g.pure fun p e s m args below meth c K T L k' n' X hT t r => XT.pop X.here K.1 rfl (hb K.2.1 hd) rfl hc r
theorem Go.dup {x : Value} (q : Nat) (hd : decode code pc = .ok (.dup, 1)) (hc : x.category = 1) (hq : pc + 1 = q) (g : Go l Z y code ml ret R Q k n h q Ls (x :: x :: st)) : Go l Z y code ml ret R Q k n h pc Ls (x :: st) := by
  subst hq; exact g.pure fun p e s m args below meth c K T L k' n' X hT t r => XS.dup X.here K.1 rfl (hb K.2.1 hd) rfl hc r
theorem Go.dupX1 {x z : Value} (q : Nat) (hd : decode code pc = .ok (.dup_x1, 1)) (hc : x.category = 1) (hc' : z.category = 1) (hq : pc + 1 = q) (g : Go l Z y code ml ret R Q k n h q Ls (x :: z :: x :: st)) : Go l Z y code ml ret R Q k n h pc Ls (x :: z :: st) := by
  subst hq; exact g.pure fun p e s m args below meth c K T L k' n' X hT t r => XT.dupX1 X.here K.1 rfl (hb K.2.1 hd) rfl hc hc' r
theorem Go.dup2 {x z : Value} (q : Nat) (hd : decode code pc = .ok (.dup2, 1)) (hc : x.category = 1) (hc' : z.category = 1) (hq : pc + 1 = q) (g : Go l Z y code ml ret R Q k n h q Ls (x :: z :: x :: z :: st)) : Go l Z y code ml ret R Q k n h pc Ls (x :: z :: st) := by
  subst hq; exact g.pure fun p e s m args below meth c K T L k' n' X hT t r => XT.dup2 X.here K.1 rfl (hb K.2.1 hd) rfl hc hc' r
theorem Go.dup2L {x : Int64} (q : Nat) (hd : decode code pc = .ok (.dup2, 1))  (hq : pc + 1 = q) (g : Go l Z y code ml ret R Q k n h q Ls (.long x :: .long x :: st)) : Go l Z y code ml ret R Q k n h pc Ls (.long x :: st) := by
  subst hq; exact g.pure fun p e s m args below meth c K T L k' n' X hT t r => XT.dup2L X.here K.1 rfl (hb K.2.1 hd) rfl  r
theorem Go.iconst {i : Int} (q : Nat) (v : Int32) (hd : decode code pc = .ok (.iconst i, 1)) (hv : Int32.ofInt i = v) (hq : pc + 1 = q) (g : Go l Z y code ml ret R Q k n h q Ls (.int v :: st)) : Go l Z y code ml ret R Q k n h pc Ls st := by
  subst hq; exact g.pure fun p e s m args below meth c K T L k' n' X hT t r => XT.iconstV X.here K.1 rfl v (hb K.2.1 hd) hv r
theorem Go.bipush {i : Int} (q : Nat) (v : Int32) (hd : decode code pc = .ok (.bipush i, 2)) (hv : (Int8.ofInt i).toInt32 = v) (hq : pc + 2 = q) (g : Go l Z y code ml ret R Q k n h q Ls (.int v :: st)) : Go l Z y code ml ret R Q k n h pc Ls st := by
  subst hq; exact g.pure fun p e s m args below meth c K T L k' n' X hT t r => XT.bipushV X.here K.1 rfl v (hb K.2.1 hd) hv r
theorem Go.sipush {i : Int} (q : Nat) (v : Int32) (hd : decode code pc = .ok (.sipush i, 3)) (hv : (Int16.ofInt i).toInt32 = v) (hq : pc + 3 = q) (g : Go l Z y code ml ret R Q k n h q Ls (.int v :: st)) : Go l Z y code ml ret R Q k n h pc Ls st := by
  subst hq; exact g.pure fun p e s m args below meth c K T L k' n' X hT t r => XT.sipushV X.here K.1 rfl v (hb K.2.1 hd) hv r
theorem Go.lconst {i : Fin 2} (q : Nat) (v : Int64) (hd : decode code pc = .ok (.lconst i, 1)) (hv : Int64.ofNat i = v) (hq : pc + 1 = q) (g : Go l Z y code ml ret R Q k n h q Ls (.long v :: st)) : Go l Z y code ml ret R Q k n h pc Ls st := by
  subst hq; exact g.pure fun p e s m args below meth c K T L k' n' X hT t r => XT.lconstV X.here K.1 rfl v (hb K.2.1 hd) hv r
theorem Go.aconst_null (q : Nat) (hd : decode code pc = .ok (.aconst_null, 1)) (hq : pc + 1 = q) (g : Go l Z y code ml ret R Q k n h q Ls (.null :: st)) : Go l Z y code ml ret R Q k n h pc Ls st := by
  subst hq; exact g.pure fun p e s m args below meth c K T L k' n' X hT t r => XS.aconstNull X.here K.1 rfl (hb K.2.1 hd) r
theorem Go.ldc {i : Nat} {v : Int32} (q : Nat) (hd : decode code pc = .ok (.ldc i, 2)) (w : (Cond.constant y.cls i v).before a0 Z = true) (hq : pc + 2 = q) (g : Go l Z y code ml ret R Q k n h q Ls (.int v :: st)) : Go l Z y code ml ret R Q k n h pc Ls st := by
  subst hq; exact g.pure fun p e s m args below meth c K T L k' n' X hT t r => X.ldcI K.1 K.2.2.2.1 (mvT K.2.2.1 w) rfl (hb K.2.1 hd) r
theorem Go.ldc_w {i : Nat} {v : Int32} (q : Nat) (hd : decode code pc = .ok (.ldc_w i, 3)) (w : (Cond.constant y.cls i v).before a0 Z = true) (hq : pc + 3 = q) (g : Go l Z y code ml ret R Q k n h q Ls (.int v :: st)) : Go l Z y code ml ret R Q k n h pc Ls st := by
  subst hq; exact g.pure fun p e s m args below meth c K T L k' n' X hT t r => X.ldcWI K.1 K.2.2.2.1 (mvT K.2.2.1 w) rfl (hb K.2.1 hd) r
theorem Go.ldc2_w {i : Nat} {v : Int64} (q : Nat) (hd : decode code pc = .ok (.ldc2_w i, 3)) (w : (Cond.constantLong y.cls i v).before a0 Z = true) (hq : pc + 3 = q) (g : Go l Z y code ml ret R Q k n h q Ls (.long v :: st)) : Go l Z y code ml ret R Q k n h pc Ls st := by
  subst hq; exact g.pure fun p e s m args below meth c K T L k' n' X hT t r => X.ldc2J K.1 K.2.2.2.1 (mvT K.2.2.1 w) rfl (hb K.2.1 hd) r
theorem Go.iload {i : Nat} {v : Int32} (q : Nat) (hd : decode code pc = .ok (.iload i, 2)) (hl : Ls[i]? = some (.val (.int v))) (hq : pc + 2 = q) (g : Go l Z y code ml ret R Q k n h q Ls (.int v :: st)) : Go l Z y code ml ret R Q k n h pc Ls st := by
  subst hq; exact g.pure fun p e s m args below meth c K T L k' n' X hT t r => XS.iload X.here K.1 rfl (hb K.2.1 hd) hl r
theorem Go.iload_n {i : Fin 4} {v : Int32} (q : Nat) (hd : decode code pc = .ok (.iload_n i, 1)) (hl : Ls[i.val]? = some (.val (.int v))) (hq : pc + 1 = q) (g : Go l Z y code ml ret R Q k n h q Ls (.int v :: st)) : Go l Z y code ml ret R Q k n h pc Ls st := by
  subst hq; exact g.pure fun p e s m args below meth c K T L k' n' X hT t r => XS.iloadN X.here K.1 rfl (hb K.2.1 hd) hl r
theorem Go.lload {i : Nat} {v : Int64} (q : Nat) (hd : decode code pc = .ok (.lload i, 2)) (hl : Ls[i]? = some (.val (.long v))) (hq : pc + 2 = q) (g : Go l Z y code ml ret R Q k n h q Ls (.long v :: st)) : Go l Z y code ml ret R Q k n h pc Ls st := by
  subst hq; exact g.pure fun p e s m args below meth c K T L k' n' X hT t r => XT.lload X.here K.1 rfl (hb K.2.1 hd) hl r
theorem Go.lload_n {i : Fin 4} {v : Int64} (q : Nat) (hd : decode code pc = .ok (.lload_n i, 1)) (hl : Ls[i.val]? = some (.val (.long v))) (hq : pc + 1 = q) (g : Go l Z y code ml ret R Q k n h q Ls (.long v :: st)) : Go l Z y code ml ret R Q k n h pc Ls st := by
  subst hq; exact g.pure fun p e s m args below meth c K T L k' n' X hT t r => XT.lloadN X.here K.1 rfl (hb K.2.1 hd) hl r
theorem Go.aload {i : Nat} {v : Value} (q : Nat) (hd : decode code pc = .ok (.aload i, 2)) (hl : Ls[i]? = some (.val v)) (hv : v.isRef = true) (hq : pc + 2 = q) (g : Go l Z y code ml ret R Q k n h q Ls (v :: st)) : Go l Z y code ml ret R Q k n h pc Ls st := by
  subst hq; exact g.pure fun p e s m args below meth c K T L k' n' X hT t r => XS.aload X.here K.1 rfl (hb K.2.1 hd) hl hv r
theorem Go.aload_n {i : Fin 4} {v : Value} (q : Nat) (hd : decode code pc = .ok (.aload_n i, 1)) (hl : Ls[i.val]? = some (.val v)) (hv : v.isRef = true) (hq : pc + 1 = q) (g : Go l Z y code ml ret R Q k n h q Ls (v :: st)) : Go l Z y code ml ret R Q k n h pc Ls st := by
  subst hq; exact g.pure fun p e s m args below meth c K T L k' n' X hT t r => XS.aloadN X.here K.1 rfl (hb K.2.1 hd) hl hv r
theorem Go.istore {i : Nat} {v : Int32} (q : Nat) (Ls' : Array Slot) (hd : decode code pc = .ok (.istore i, 2)) (hl : storeLocals Ls i (.int v) = some Ls') (hq : pc + 2 = q) (g : Go l Z y code ml ret R Q k n h q Ls' st) : Go l Z y code ml ret R Q k n h pc Ls (.int v :: st) := by
  subst hq; exact g.pure fun p e s m args below meth c K T L k' n' X hT t r => XS.istore X.here K.1 rfl (hb K.2.1 hd) rfl hl r
theorem Go.istore_n {i : Fin 4} {v : Int32} (q : Nat) (Ls' : Array Slot) (hd : decode code pc = .ok (.istore_n i, 1)) (hl : storeLocals Ls i.val (.int v) = some Ls') (hq : pc + 1 = q) (g : Go l Z y code ml ret R Q k n h q Ls' st) : Go l Z y code ml ret R Q k n h pc Ls (.int v :: st) := by
  subst hq; exact g.pure fun p e s m args below meth c K T L k' n' X hT t r => XS.istoreN X.here K.1 rfl (hb K.2.1 hd) rfl hl r
theorem Go.lstore {i : Nat} {v : Int64} (q : Nat) (Ls' : Array Slot) (hd : decode code pc = .ok (.lstore i, 2)) (hl : storeLocals Ls i (.long v) = some Ls') (hq : pc + 2 = q) (g : Go l Z y code ml ret R Q k n h q Ls' st) : Go l Z y code ml ret R Q k n h pc Ls (.long v :: st) := by
  subst hq; exact g.pure fun p e s m args below meth c K T L k' n' X hT t r => XT.lstore X.here K.1 rfl (hb K.2.1 hd) rfl hl r
theorem Go.lstore_n {i : Fin 4} {v : Int64} (q : Nat) (Ls' : Array Slot) (hd : decode code pc = .ok (.lstore_n i, 1)) (hl : storeLocals Ls i.val (.long v) = some Ls') (hq : pc + 1 = q) (g : Go l Z y code ml ret R Q k n h q Ls' st) : Go l Z y code ml ret R Q k n h pc Ls (.long v :: st) := by
  subst hq; exact g.pure fun p e s m args below meth c K T L k' n' X hT t r => XT.lstoreN X.here K.1 rfl (hb K.2.1 hd) rfl hl r
theorem Go.astore {i : Nat} {v : Value} (q : Nat) (Ls' : Array Slot) (hd : decode code pc = .ok (.astore i, 2)) (hv : v.isRef = true) (hl : storeLocals Ls i v = some Ls') (hq : pc + 2 = q) (g : Go l Z y code ml ret R Q k n h q Ls' st) : Go l Z y code ml ret R Q k n h pc Ls (v :: st) := by
  subst hq; exact g.pure fun p e s m args below meth c K T L k' n' X hT t r => XS.astore X.here K.1 rfl (hb K.2.1 hd) rfl hv hl r
theorem Go.astore_n {i : Fin 4} {v : Value} (q : Nat) (Ls' : Array Slot) (hd : decode code pc = .ok (.astore_n i, 1)) (hv : v.isRef = true) (hl : storeLocals Ls i.val v = some Ls') (hq : pc + 1 = q) (g : Go l Z y code ml ret R Q k n h q Ls' st) : Go l Z y code ml ret R Q k n h pc Ls (v :: st) := by
  subst hq; exact g.pure fun p e s m args below meth c K T L k' n' X hT t r => XS.astoreN X.here K.1 rfl (hb K.2.1 hd) rfl hv hl r
theorem Go.iinc {i : Nat} {cst : Int} {x : Int32} (q : Nat) (v : Int32) (Ls' : Array Slot) (hd : decode code pc = .ok (.iinc i cst, 3)) (hv : Int32.ofInt cst = v) (hl : Ls[i]? = some (.val (.int x))) (hl' : storeLocals Ls i (.int (x + v)) = some Ls') (hq : pc + 3 = q) (g : Go l Z y code ml ret R Q k n h q Ls' st) : Go l Z y code ml ret R Q k n h pc Ls st := by
  subst hq; exact g.pure fun p e s m args below meth c K T L k' n' X hT t r => XT.iincV X.here K.1 rfl v (hb K.2.1 hd) hv hl hl' r
theorem Go.goto {o : Int} (q : Nat) (hd : decode code pc = .ok (.goto o, 3)) (ho : 0 ≤ (pc : Int) + o) (hq : ((pc : Int) + o).toNat = q) (g : Go l Z y code ml ret R Q k n h q Ls st) : Go l Z y code ml ret R Q k n h pc Ls st :=
  g.pure fun p e s m args below meth c K T L k' n' X hT t r => XS.goto X.here K.1 rfl rfl (hb K.2.1 hd) ho hq r
theorem Go.icmp_eq {o : Int} {x z : Int32} (q1 q2 : Nat) (hd : decode code pc = .ok (.if_icmp .eq o, 3)) (ho : 0 ≤ (pc : Int) + o) (h1 : ((pc : Int) + o).toNat = q1) (h2 : pc + 3 = q2) (g1 : x = z → Go l Z y code ml ret R Q k n h q1 Ls st) (g2 : ¬ x = z → Go l Z y code ml ret R Q k n h q2 Ls st) : Go l Z y code ml ret R Q k n h pc Ls (.int z :: .int x :: st) := by
  subst h2
  by_cases hc : x = z
  · exact (g1 hc).pure fun p e s m args below meth c K T L k' n' X hT t r => XS.icmpYes X.here K.1 rfl rfl (hb K.2.1 hd) rfl (XT.ii_eq_t hc) ho h1 r
  · exact (g2 (by first | exact hc | exact Decidable.not_not.mp hc)).pure fun p e s m args below meth c K T L k' n' X hT t r => XS.icmpNo X.here K.1 rfl (hb K.2.1 hd) rfl (XT.ii_eq_f (by first | exact hc | exact Decidable.not_not.mp hc)) r
theorem Go.lcmp_eq {o : Int} {x z : Int64} (q1 q2 : Nat) (hd : decode code pc = .ok (.ifCond .eq o, 3)) (ho : 0 ≤ (pc : Int) + o) (h1 : ((pc : Int) + o).toNat = q1) (h2 : pc + 3 = q2) (g1 : x = z → Go l Z y code ml ret R Q k n h q1 Ls st) (g2 : ¬ x = z → Go l Z y code ml ret R Q k n h q2 Ls st) : Go l Z y code ml ret R Q k n h pc Ls (.int (XT.cmpL x z) :: st) := by
  subst h2
  by_cases hc : x = z
  · exact (g1 hc).pure fun p e s m args below meth c K T L k' n' X hT t r => XS.ifYes X.here K.1 rfl rfl (hb K.2.1 hd) rfl (XT.ll_eq_t hc) ho h1 r
  · exact (g2 (by first | exact hc | exact Decidable.not_not.mp hc)).pure fun p e s m args below meth c K T L k' n' X hT t r => XS.ifNo X.here K.1 rfl (hb K.2.1 hd) rfl (XT.ll_eq_f (by first | exact hc | exact Decidable.not_not.mp hc)) r
theorem Go.icmp_ne {o : Int} {x z : Int32} (q1 q2 : Nat) (hd : decode code pc = .ok (.if_icmp .ne o, 3)) (ho : 0 ≤ (pc : Int) + o) (h1 : ((pc : Int) + o).toNat = q1) (h2 : pc + 3 = q2) (g1 : ¬ x = z → Go l Z y code ml ret R Q k n h q1 Ls st) (g2 : x = z → Go l Z y code ml ret R Q k n h q2 Ls st) : Go l Z y code ml ret R Q k n h pc Ls (.int z :: .int x :: st) := by
  subst h2
  by_cases hc : ¬ x = z
  · exact (g1 hc).pure fun p e s m args below meth c K T L k' n' X hT t r => XS.icmpYes X.here K.1 rfl rfl (hb K.2.1 hd) rfl (XT.ii_ne_t hc) ho h1 r
  · exact (g2 (by first | exact hc | exact Decidable.not_not.mp hc)).pure fun p e s m args below meth c K T L k' n' X hT t r => XS.icmpNo X.here K.1 rfl (hb K.2.1 hd) rfl (XT.ii_ne_f (by first | exact hc | exact Decidable.not_not.mp hc)) r
theorem Go.lcmp_ne {o : Int} {x z : Int64} (q1 q2 : Nat) (hd : decode code pc = .ok (.ifCond .ne o, 3)) (ho : 0 ≤ (pc : Int) + o) (h1 : ((pc : Int) + o).toNat = q1) (h2 : pc + 3 = q2) (g1 : ¬ x = z → Go l Z y code ml ret R Q k n h q1 Ls st) (g2 : x = z → Go l Z y code ml ret R Q k n h q2 Ls st) : Go l Z y code ml ret R Q k n h pc Ls (.int (XT.cmpL x z) :: st) := by
  subst h2
  by_cases hc : ¬ x = z
  · exact (g1 hc).pure fun p e s m args below meth c K T L k' n' X hT t r => XS.ifYes X.here K.1 rfl rfl (hb K.2.1 hd) rfl (XT.ll_ne_t hc) ho h1 r
  · exact (g2 (by first | exact hc | exact Decidable.not_not.mp hc)).pure fun p e s m args below meth c K T L k' n' X hT t r => XS.ifNo X.here K.1 rfl (hb K.2.1 hd) rfl (XT.ll_ne_f (by first | exact hc | exact Decidable.not_not.mp hc)) r
theorem Go.icmp_lt {o : Int} {x z : Int32} (q1 q2 : Nat) (hd : decode code pc = .ok (.if_icmp .lt o, 3)) (ho : 0 ≤ (pc : Int) + o) (h1 : ((pc : Int) + o).toNat = q1) (h2 : pc + 3 = q2) (g1 : x < z → Go l Z y code ml ret R Q k n h q1 Ls st) (g2 : ¬ x < z → Go l Z y code ml ret R Q k n h q2 Ls st) : Go l Z y code ml ret R Q k n h pc Ls (.int z :: .int x :: st) := by
  subst h2
  by_cases hc : x < z
  · exact (g1 hc).pure fun p e s m args below meth c K T L k' n' X hT t r => XS.icmpYes X.here K.1 rfl rfl (hb K.2.1 hd) rfl (XT.ii_lt_t hc) ho h1 r
  · exact (g2 (by first | exact hc | exact Decidable.not_not.mp hc)).pure fun p e s m args below meth c K T L k' n' X hT t r => XS.icmpNo X.here K.1 rfl (hb K.2.1 hd) rfl (XT.ii_lt_f (by first | exact hc | exact Decidable.not_not.mp hc)) r
theorem Go.lcmp_lt {o : Int} {x z : Int64} (q1 q2 : Nat) (hd : decode code pc = .ok (.ifCond .lt o, 3)) (ho : 0 ≤ (pc : Int) + o) (h1 : ((pc : Int) + o).toNat = q1) (h2 : pc + 3 = q2) (g1 : x < z → Go l Z y code ml ret R Q k n h q1 Ls st) (g2 : ¬ x < z → Go l Z y code ml ret R Q k n h q2 Ls st) : Go l Z y code ml ret R Q k n h pc Ls (.int (XT.cmpL x z) :: st) := by
  subst h2
  by_cases hc : x < z
  · exact (g1 hc).pure fun p e s m args below meth c K T L k' n' X hT t r => XS.ifYes X.here K.1 rfl rfl (hb K.2.1 hd) rfl (XT.ll_lt_t hc) ho h1 r
  · exact (g2 (by first | exact hc | exact Decidable.not_not.mp hc)).pure fun p e s m args below meth c K T L k' n' X hT t r => XS.ifNo X.here K.1 rfl (hb K.2.1 hd) rfl (XT.ll_lt_f (by first | exact hc | exact Decidable.not_not.mp hc)) r
theorem Go.icmp_ge {o : Int} {x z : Int32} (q1 q2 : Nat) (hd : decode code pc = .ok (.if_icmp .ge o, 3)) (ho : 0 ≤ (pc : Int) + o) (h1 : ((pc : Int) + o).toNat = q1) (h2 : pc + 3 = q2) (g1 : ¬ x < z → Go l Z y code ml ret R Q k n h q1 Ls st) (g2 : x < z → Go l Z y code ml ret R Q k n h q2 Ls st) : Go l Z y code ml ret R Q k n h pc Ls (.int z :: .int x :: st) := by
  subst h2
  by_cases hc : ¬ x < z
  · exact (g1 hc).pure fun p e s m args below meth c K T L k' n' X hT t r => XS.icmpYes X.here K.1 rfl rfl (hb K.2.1 hd) rfl (XT.ii_ge_t hc) ho h1 r
  · exact (g2 (by first | exact hc | exact Decidable.not_not.mp hc)).pure fun p e s m args below meth c K T L k' n' X hT t r => XS.icmpNo X.here K.1 rfl (hb K.2.1 hd) rfl (XT.ii_ge_f (by first | exact hc | exact Decidable.not_not.mp hc)) r
theorem Go.lcmp_ge {o : Int} {x z : Int64} (q1 q2 : Nat) (hd : decode code pc = .ok (.ifCond .ge o, 3)) (ho : 0 ≤ (pc : Int) + o) (h1 : ((pc : Int) + o).toNat = q1) (h2 : pc + 3 = q2) (g1 : ¬ x < z → Go l Z y code ml ret R Q k n h q1 Ls st) (g2 : x < z → Go l Z y code ml ret R Q k n h q2 Ls st) : Go l Z y code ml ret R Q k n h pc Ls (.int (XT.cmpL x z) :: st) := by
  subst h2
  by_cases hc : ¬ x < z
  · exact (g1 hc).pure fun p e s m args below meth c K T L k' n' X hT t r => XS.ifYes X.here K.1 rfl rfl (hb K.2.1 hd) rfl (XT.ll_ge_t hc) ho h1 r
  · exact (g2 (by first | exact hc | exact Decidable.not_not.mp hc)).pure fun p e s m args below meth c K T L k' n' X hT t r => XS.ifNo X.here K.1 rfl (hb K.2.1 hd) rfl (XT.ll_ge_f (by first | exact hc | exact Decidable.not_not.mp hc)) r
theorem Go.icmp_gt {o : Int} {x z : Int32} (q1 q2 : Nat) (hd : decode code pc = .ok (.if_icmp .gt o, 3)) (ho : 0 ≤ (pc : Int) + o) (h1 : ((pc : Int) + o).toNat = q1) (h2 : pc + 3 = q2) (g1 : z < x → Go l Z y code ml ret R Q k n h q1 Ls st) (g2 : ¬ z < x → Go l Z y code ml ret R Q k n h q2 Ls st) : Go l Z y code ml ret R Q k n h pc Ls (.int z :: .int x :: st) := by
  subst h2
  by_cases hc : z < x
  · exact (g1 hc).pure fun p e s m args below meth c K T L k' n' X hT t r => XS.icmpYes X.here K.1 rfl rfl (hb K.2.1 hd) rfl (XT.ii_gt_t hc) ho h1 r
  · exact (g2 (by first | exact hc | exact Decidable.not_not.mp hc)).pure fun p e s m args below meth c K T L k' n' X hT t r => XS.icmpNo X.here K.1 rfl (hb K.2.1 hd) rfl (XT.ii_gt_f (by first | exact hc | exact Decidable.not_not.mp hc)) r
theorem Go.lcmp_gt {o : Int} {x z : Int64} (q1 q2 : Nat) (hd : decode code pc = .ok (.ifCond .gt o, 3)) (ho : 0 ≤ (pc : Int) + o) (h1 : ((pc : Int) + o).toNat = q1) (h2 : pc + 3 = q2) (g1 : z < x → Go l Z y code ml ret R Q k n h q1 Ls st) (g2 : ¬ z < x → Go l Z y code ml ret R Q k n h q2 Ls st) : Go l Z y code ml ret R Q k n h pc Ls (.int (XT.cmpL x z) :: st) := by
  subst h2
  by_cases hc : z < x
  · exact (g1 hc).pure fun p e s m args below meth c K T L k' n' X hT t r => XS.ifYes X.here K.1 rfl rfl (hb K.2.1 hd) rfl (XT.ll_gt_t hc) ho h1 r
  · exact (g2 (by first | exact hc | exact Decidable.not_not.mp hc)).pure fun p e s m args below meth c K T L k' n' X hT t r => XS.ifNo X.here K.1 rfl (hb K.2.1 hd) rfl (XT.ll_gt_f (by first | exact hc | exact Decidable.not_not.mp hc)) r
theorem Go.icmp_le {o : Int} {x z : Int32} (q1 q2 : Nat) (hd : decode code pc = .ok (.if_icmp .le o, 3)) (ho : 0 ≤ (pc : Int) + o) (h1 : ((pc : Int) + o).toNat = q1) (h2 : pc + 3 = q2) (g1 : ¬ z < x → Go l Z y code ml ret R Q k n h q1 Ls st) (g2 : z < x → Go l Z y code ml ret R Q k n h q2 Ls st) : Go l Z y code ml ret R Q k n h pc Ls (.int z :: .int x :: st) := by
  subst h2
  by_cases hc : ¬ z < x
  · exact (g1 hc).pure fun p e s m args below meth c K T L k' n' X hT t r => XS.icmpYes X.here K.1 rfl rfl (hb K.2.1 hd) rfl (XT.ii_le_t hc) ho h1 r
  · exact (g2 (by first | exact hc | exact Decidable.not_not.mp hc)).pure fun p e s m args below meth c K T L k' n' X hT t r => XS.icmpNo X.here K.1 rfl (hb K.2.1 hd) rfl (XT.ii_le_f (by first | exact hc | exact Decidable.not_not.mp hc)) r
theorem Go.lcmp_le {o : Int} {x z : Int64} (q1 q2 : Nat) (hd : decode code pc = .ok (.ifCond .le o, 3)) (ho : 0 ≤ (pc : Int) + o) (h1 : ((pc : Int) + o).toNat = q1) (h2 : pc + 3 = q2) (g1 : ¬ z < x → Go l Z y code ml ret R Q k n h q1 Ls st) (g2 : z < x → Go l Z y code ml ret R Q k n h q2 Ls st) : Go l Z y code ml ret R Q k n h pc Ls (.int (XT.cmpL x z) :: st) := by
  subst h2
  by_cases hc : ¬ z < x
  · exact (g1 hc).pure fun p e s m args below meth c K T L k' n' X hT t r => XS.ifYes X.here K.1 rfl rfl (hb K.2.1 hd) rfl (XT.ll_le_t hc) ho h1 r
  · exact (g2 (by first | exact hc | exact Decidable.not_not.mp hc)).pure fun p e s m args below meth c K T L k' n' X hT t r => XS.ifNo X.here K.1 rfl (hb K.2.1 hd) rfl (XT.ll_le_f (by first | exact hc | exact Decidable.not_not.mp hc)) r
theorem if0_eq_t {x : Int32} (h : x = 0) : ifCond.holds .eq x = true := by
  have e : ifCond.holds .eq x = if_icmp.holds .eq x 0 := rfl
  rw [e]; exact XT.ii_eq_t h
theorem if0_eq_f {x : Int32} (h : ¬ x = 0) : ifCond.holds .eq x = false := by
  have e : ifCond.holds .eq x = if_icmp.holds .eq x 0 := rfl
  rw [e]; exact XT.ii_eq_f h
theorem Go.if_eq {o : Int} {x : Int32} (q1 q2 : Nat) (hd : decode code pc = .ok (.ifCond .eq o, 3)) (ho : 0 ≤ (pc : Int) + o) (h1 : ((pc : Int) + o).toNat = q1) (h2 : pc + 3 = q2) (g1 : x = 0 → Go l Z y code ml ret R Q k n h q1 Ls st) (g2 : ¬ x = 0 → Go l Z y code ml ret R Q k n h q2 Ls st) : Go l Z y code ml ret R Q k n h pc Ls (.int x :: st) := by
  subst h2
  by_cases hc : x = 0
  · exact (g1 hc).pure fun p e s m args below meth c K T L k' n' X hT t r => XS.ifYes X.here K.1 rfl rfl (hb K.2.1 hd) rfl (if0_eq_t hc) ho h1 r
  · exact (g2 (by first | exact hc | exact Decidable.not_not.mp hc)).pure fun p e s m args below meth c K T L k' n' X hT t r => XS.ifNo X.here K.1 rfl (hb K.2.1 hd) rfl (if0_eq_f (by first | exact hc | exact Decidable.not_not.mp hc)) r
theorem if0_ne_t {x : Int32} (h : ¬ x = 0) : ifCond.holds .ne x = true := by
  have e : ifCond.holds .ne x = if_icmp.holds .ne x 0 := rfl
  rw [e]; exact XT.ii_ne_t h
theorem if0_ne_f {x : Int32} (h : x = 0) : ifCond.holds .ne x = false := by
  have e : ifCond.holds .ne x = if_icmp.holds .ne x 0 := rfl
  rw [e]; exact XT.ii_ne_f h
theorem Go.if_ne {o : Int} {x : Int32} (q1 q2 : Nat) (hd : decode code pc = .ok (.ifCond .ne o, 3)) (ho : 0 ≤ (pc : Int) + o) (h1 : ((pc : Int) + o).toNat = q1) (h2 : pc + 3 = q2) (g1 : ¬ x = 0 → Go l Z y code ml ret R Q k n h q1 Ls st) (g2 : x = 0 → Go l Z y code ml ret R Q k n h q2 Ls st) : Go l Z y code ml ret R Q k n h pc Ls (.int x :: st) := by
  subst h2
  by_cases hc : ¬ x = 0
  · exact (g1 hc).pure fun p e s m args below meth c K T L k' n' X hT t r => XS.ifYes X.here K.1 rfl rfl (hb K.2.1 hd) rfl (if0_ne_t hc) ho h1 r
  · exact (g2 (by first | exact hc | exact Decidable.not_not.mp hc)).pure fun p e s m args below meth c K T L k' n' X hT t r => XS.ifNo X.here K.1 rfl (hb K.2.1 hd) rfl (if0_ne_f (by first | exact hc | exact Decidable.not_not.mp hc)) r
theorem if0_lt_t {x : Int32} (h : x < 0) : ifCond.holds .lt x = true := by
  have e : ifCond.holds .lt x = if_icmp.holds .lt x 0 := rfl
  rw [e]; exact XT.ii_lt_t h
theorem if0_lt_f {x : Int32} (h : ¬ x < 0) : ifCond.holds .lt x = false := by
  have e : ifCond.holds .lt x = if_icmp.holds .lt x 0 := rfl
  rw [e]; exact XT.ii_lt_f h
theorem Go.if_lt {o : Int} {x : Int32} (q1 q2 : Nat) (hd : decode code pc = .ok (.ifCond .lt o, 3)) (ho : 0 ≤ (pc : Int) + o) (h1 : ((pc : Int) + o).toNat = q1) (h2 : pc + 3 = q2) (g1 : x < 0 → Go l Z y code ml ret R Q k n h q1 Ls st) (g2 : ¬ x < 0 → Go l Z y code ml ret R Q k n h q2 Ls st) : Go l Z y code ml ret R Q k n h pc Ls (.int x :: st) := by
  subst h2
  by_cases hc : x < 0
  · exact (g1 hc).pure fun p e s m args below meth c K T L k' n' X hT t r => XS.ifYes X.here K.1 rfl rfl (hb K.2.1 hd) rfl (if0_lt_t hc) ho h1 r
  · exact (g2 (by first | exact hc | exact Decidable.not_not.mp hc)).pure fun p e s m args below meth c K T L k' n' X hT t r => XS.ifNo X.here K.1 rfl (hb K.2.1 hd) rfl (if0_lt_f (by first | exact hc | exact Decidable.not_not.mp hc)) r
theorem if0_ge_t {x : Int32} (h : ¬ x < 0) : ifCond.holds .ge x = true := by
  have e : ifCond.holds .ge x = if_icmp.holds .ge x 0 := rfl
  rw [e]; exact XT.ii_ge_t h
theorem if0_ge_f {x : Int32} (h : x < 0) : ifCond.holds .ge x = false := by
  have e : ifCond.holds .ge x = if_icmp.holds .ge x 0 := rfl
  rw [e]; exact XT.ii_ge_f h
theorem Go.if_ge {o : Int} {x : Int32} (q1 q2 : Nat) (hd : decode code pc = .ok (.ifCond .ge o, 3)) (ho : 0 ≤ (pc : Int) + o) (h1 : ((pc : Int) + o).toNat = q1) (h2 : pc + 3 = q2) (g1 : ¬ x < 0 → Go l Z y code ml ret R Q k n h q1 Ls st) (g2 : x < 0 → Go l Z y code ml ret R Q k n h q2 Ls st) : Go l Z y code ml ret R Q k n h pc Ls (.int x :: st) := by
  subst h2
  by_cases hc : ¬ x < 0
  · exact (g1 hc).pure fun p e s m args below meth c K T L k' n' X hT t r => XS.ifYes X.here K.1 rfl rfl (hb K.2.1 hd) rfl (if0_ge_t hc) ho h1 r
  · exact (g2 (by first | exact hc | exact Decidable.not_not.mp hc)).pure fun p e s m args below meth c K T L k' n' X hT t r => XS.ifNo X.here K.1 rfl (hb K.2.1 hd) rfl (if0_ge_f (by first | exact hc | exact Decidable.not_not.mp hc)) r
theorem if0_gt_t {x : Int32} (h : 0 < x) : ifCond.holds .gt x = true := by
  have e : ifCond.holds .gt x = if_icmp.holds .gt x 0 := rfl
  rw [e]; exact XT.ii_gt_t h
theorem if0_gt_f {x : Int32} (h : ¬ 0 < x) : ifCond.holds .gt x = false := by
  have e : ifCond.holds .gt x = if_icmp.holds .gt x 0 := rfl
  rw [e]; exact XT.ii_gt_f h
theorem Go.if_gt {o : Int} {x : Int32} (q1 q2 : Nat) (hd : decode code pc = .ok (.ifCond .gt o, 3)) (ho : 0 ≤ (pc : Int) + o) (h1 : ((pc : Int) + o).toNat = q1) (h2 : pc + 3 = q2) (g1 : 0 < x → Go l Z y code ml ret R Q k n h q1 Ls st) (g2 : ¬ 0 < x → Go l Z y code ml ret R Q k n h q2 Ls st) : Go l Z y code ml ret R Q k n h pc Ls (.int x :: st) := by
  subst h2
  by_cases hc : 0 < x
  · exact (g1 hc).pure fun p e s m args below meth c K T L k' n' X hT t r => XS.ifYes X.here K.1 rfl rfl (hb K.2.1 hd) rfl (if0_gt_t hc) ho h1 r
  · exact (g2 (by first | exact hc | exact Decidable.not_not.mp hc)).pure fun p e s m args below meth c K T L k' n' X hT t r => XS.ifNo X.here K.1 rfl (hb K.2.1 hd) rfl (if0_gt_f (by first | exact hc | exact Decidable.not_not.mp hc)) r
theorem if0_le_t {x : Int32} (h : ¬ 0 < x) : ifCond.holds .le x = true := by
  have e : ifCond.holds .le x = if_icmp.holds .le x 0 := rfl
  rw [e]; exact XT.ii_le_t h
theorem if0_le_f {x : Int32} (h : 0 < x) : ifCond.holds .le x = false := by
  have e : ifCond.holds .le x = if_icmp.holds .le x 0 := rfl
  rw [e]; exact XT.ii_le_f h
theorem Go.if_le {o : Int} {x : Int32} (q1 q2 : Nat) (hd : decode code pc = .ok (.ifCond .le o, 3)) (ho : 0 ≤ (pc : Int) + o) (h1 : ((pc : Int) + o).toNat = q1) (h2 : pc + 3 = q2) (g1 : ¬ 0 < x → Go l Z y code ml ret R Q k n h q1 Ls st) (g2 : 0 < x → Go l Z y code ml ret R Q k n h q2 Ls st) : Go l Z y code ml ret R Q k n h pc Ls (.int x :: st) := by
  subst h2
  by_cases hc : ¬ 0 < x
  · exact (g1 hc).pure fun p e s m args below meth c K T L k' n' X hT t r => XS.ifYes X.here K.1 rfl rfl (hb K.2.1 hd) rfl (if0_le_t hc) ho h1 r
  · exact (g2 (by first | exact hc | exact Decidable.not_not.mp hc)).pure fun p e s m args below meth c K T L k' n' X hT t r => XS.ifNo X.here K.1 rfl (hb K.2.1 hd) rfl (if0_le_f (by first | exact hc | exact Decidable.not_not.mp hc)) r
theorem Go.ifnull_no {o : Int} {b : Addr} (q : Nat) (hd : decode code pc = .ok (.ifnull o, 3)) (hq : pc + 3 = q) (g : Go l Z y code ml ret R Q k n h q Ls st) : Go l Z y code ml ret R Q k n h pc Ls (.ref b :: st) := by
  subst hq; exact g.pure fun p e s m args below meth c K T L k' n' X hT t r => XS.ifnullNo X.here K.1 rfl (hb K.2.1 hd) rfl r
theorem Go.ifnull_yes {o : Int} (q : Nat) (hd : decode code pc = .ok (.ifnull o, 3)) (ho : 0 ≤ (pc : Int) + o) (hq : ((pc : Int) + o).toNat = q) (g : Go l Z y code ml ret R Q k n h q Ls st) : Go l Z y code ml ret R Q k n h pc Ls (.null :: st) :=
  g.pure fun p e s m args below meth c K T L k' n' X hT t r => XS.ifnullYes X.here K.1 rfl rfl (hb K.2.1 hd) rfl ho hq r
theorem Go.ifnonnull_yes {o : Int} {b : Addr} (q : Nat) (hd : decode code pc = .ok (.ifnonnull o, 3)) (ho : 0 ≤ (pc : Int) + o) (hq : ((pc : Int) + o).toNat = q) (g : Go l Z y code ml ret R Q k n h q Ls st) : Go l Z y code ml ret R Q k n h pc Ls (.ref b :: st) :=
  g.pure fun p e s m args below meth c K T L k' n' X hT t r => XT.ifnonnullYes X.here K.1 rfl rfl (hb K.2.1 hd) rfl ho hq r
theorem Go.ifnonnull_no {o : Int} (q : Nat) (hd : decode code pc = .ok (.ifnonnull o, 3)) (hq : pc + 3 = q) (g : Go l Z y code ml ret R Q k n h q Ls st) : Go l Z y code ml ret R Q k n h pc Ls (.null :: st) := by
  subst hq; exact g.pure fun p e s m args below meth c K T L k' n' X hT t r => XT.ifnonnullNo X.here K.1 rfl (hb K.2.1 hd) rfl r
theorem Go.acmp {cd : ACond} {o : Int} {x z : Value} (q : Nat) (same : Bool) (hd : decode code pc = .ok (.if_acmp cd o, 3)) (h1 : x.isRef = true) (h2 : z.isRef = true) (hs : decide (x = z) = same) (ho : 0 ≤ (pc : Int) + o) (hq : q = if acV cd same = true then ((pc : Int) + o).toNat else pc + 3) (g : Go l Z y code ml ret R Q k n h q Ls st) : Go l Z y code ml ret R Q k n h pc Ls (z :: x :: st) :=
  g.pure fun p e s m args below meth c K T L k' n' X hT t r => Jvm.RoadKit.acmp X K.1 rfl h1 h2 rfl (hb K.2.1 hd) rfl hs ho hq r
theorem Go.acmp_eq {o : Int} {x z : Addr} (q1 q2 : Nat) (hd : decode code pc = .ok (.if_acmp .eq o, 3)) (ho : 0 ≤ (pc : Int) + o) (h1 : ((pc : Int) + o).toNat = q1) (h2 : pc + 3 = q2) (g1 : x = z → Go l Z y code ml ret R Q k n h q1 Ls st) (g2 : ¬ x = z → Go l Z y code ml ret R Q k n h q2 Ls st) : Go l Z y code ml ret R Q k n h pc Ls (.ref z :: .ref x :: st) := by
  subst h1 h2
  by_cases hc : x = z
  · exact Go.acmp _ true hd rfl rfl (by simp [hc]) ho rfl (by simpa [acV] using g1 hc)
  · exact Go.acmp _ false hd rfl rfl (by simp [hc]) ho rfl (by simpa [acV] using g2 hc)
theorem Go.acmp_ne {o : Int} {x z : Addr} (q1 q2 : Nat) (hd : decode code pc = .ok (.if_acmp .ne o, 3)) (ho : 0 ≤ (pc : Int) + o) (h1 : ((pc : Int) + o).toNat = q1) (h2 : pc + 3 = q2) (g1 : ¬ x = z → Go l Z y code ml ret R Q k n h q1 Ls st) (g2 : x = z → Go l Z y code ml ret R Q k n h q2 Ls st) : Go l Z y code ml ret R Q k n h pc Ls (.ref z :: .ref x :: st) := by
  subst h1 h2
  by_cases hc : x = z
  · exact Go.acmp _ true hd rfl rfl (by simp [hc]) ho rfl (by simpa [acV] using g2 hc)
  · exact Go.acmp _ false hd rfl rfl (by simp [hc]) ho rfl (by simpa [acV] using g1 hc)

theorem Go.retV {w : Value} {t : FieldType} {i : Instr} (hd : decode code pc = .ok (i, 1)) (hret : ret = some t) (hn : narrow t w = w)
    (hi : (i = .ireturn ∧ (t = .int ∨ t = .boolean ∨ t = .byte ∨ t = .char ∨ t = .short) ∧ ∃ z, w = .int z) ∨ (i = .lreturn ∧ t = .long ∧ ∃ z, w = .long z) ∨ (i = .dreturn ∧ t = .double ∧ ∃ z, w = .double z) ∨ (i = .freturn ∧ t = .float ∧ ∃ z, w = .float z) ∨ (i = .areturn ∧ t.isReference = true ∧ w.isRef = true))
    (hk : k ≤ R.cells) (hN : n ≤ R.slots) (hQ : Q (some w) h) : Go l Z y code ml ret R Q k n h pc Ls (w :: st) := by
  intro p e s m args below meth c K T L k' n' X h1 h2 N hT
  refine ⟨some w, T, L, k', n', X, Nat.le_trans h1 hk, Nat.le_trans h2 hN, N, hT ▸ hQ, fun e => ?_, fun fs hl => ?_⟩
  · rw [hret] at e; cases e
  · exact retOut X K.1 (K.2.2.2.2.2.1.trans hret) hn hi (hb K.2.1 hd) hl
theorem Go.ireturn {z : Int32} {P : Int32 → Heap → Prop} (hd : decode code pc = .ok (.ireturn, 1)) (hret : ret = some .int) (hk : k ≤ R.cells) (hN : n ≤ R.slots) (hP : P z h) : Go l Z y code ml ret R (QI P) k n h pc Ls (.int z :: st) :=
  Go.retV hd hret rfl (Or.inl ⟨rfl, Or.inl rfl, z, rfl⟩) hk hN ⟨z, rfl, hP⟩
theorem Go.lreturn {z : Int64} {P : Int64 → Heap → Prop} (hd : decode code pc = .ok (.lreturn, 1)) (hret : ret = some .long) (hk : k ≤ R.cells) (hN : n ≤ R.slots) (hP : P z h) : Go l Z y code ml ret R (QJ P) k n h pc Ls (.long z :: st) :=
  Go.retV hd hret rfl (Or.inr (Or.inl ⟨rfl, rfl, z, rfl⟩)) hk hN ⟨z, rfl, hP⟩
theorem Go.areturn {z : Value} {t : FieldType} {P : Value → Heap → Prop} (hd : decode code pc = .ok (.areturn, 1)) (hret : ret = some t) (ht : t.isReference = true) (hz : z.isRef = true) (hk : k ≤ R.cells) (hN : n ≤ R.slots) (hP : P z h) : Go l Z y code ml ret R (QR P) k n h pc Ls (z :: st) := by
  refine Go.retV hd hret ?_ (Or.inr (Or.inr (Or.inr (Or.inr ⟨rfl, ht, hz⟩)))) hk hN ⟨z, rfl, hP⟩
  cases t <;> cases z <;> first | rfl | (simp [Value.isRef] at hz)
/-- a boolean, byte, char or short: narrowed -/
theorem Go.nreturn {z z' : Int32} {t : FieldType} {P : Int32 → Heap → Prop} (hd : decode code pc = .ok (.ireturn, 1)) (hret : ret = some t) (ht : t = .boolean ∨ t = .byte ∨ t = .char ∨ t = .short) (hz : nar t z = z') (hk : k ≤ R.cells) (hN : n ≤ R.slots) (hP : P z' h) : Go l Z y code ml ret R (QI P) k n h pc Ls (.int z :: st) := by
  subst hz
  intro p e s m args below meth c K T L k' n' X h1 h2 N hT
  refine ⟨some (.int (nar t z)), T, L, k', n', X, Nat.le_trans h1 hk, Nat.le_trans h2 hN, N, ⟨_, rfl, hT ▸ hP⟩, fun e => ?_, fun fs hl => ?_⟩
  · rw [hret] at e; cases e
  · exact retN X K.1 (K.2.2.2.2.2.1.trans hret) ht (hb K.2.1 hd) hl
theorem Go.vreturn {P : Heap → Prop} (hd : decode code pc = .ok (.return_, 1)) (hret : ret = none) (hk : k ≤ R.cells) (hN : n ≤ R.slots) (hP : P h) : Go l Z y code ml ret R (QV P) k n h pc Ls [] := by
  intro p e s m args below meth c K T L k' n' X h1 h2 N hT
  exact ⟨none, T, L, k', n', X, Nat.le_trans h1 hk, Nat.le_trans h2 hN, N, ⟨rfl, hT ▸ hP⟩, fun _ => rfl, fun fs hl => X.returnOut K.1 (K.2.2.2.2.2.1.trans hret) (hb K.2.1 hd) hl⟩
/-- the whole body, as a contract -/
theorem Go.met {as' : Array Value} (hx : plainFor y = true) (hent : ∀ m, entryFrame m as' ml = mkF m 0 Ls []) (G : Go l Z y code ml ret R Q 0 0 h 0 Ls []) (ws : List Jvm.Cond) :
    MetFree l y (head1 (Jvm.Cond.code y code ml ret :: ws) R) (fun a U => a = as' ∧ Z.Warmed39 U.vm ∧ U.heap = h) (fun _ _ _ _ _ => True) (fun _ U o U' => ∃ v L, o = .returned v ∧ (Q v U'.heap ∧ Fr Z.heap.size L) ∧ FrameEnd U o U' L R.cells R.slots) := by
  refine MetFree.of_bodySF hx hisR ?_
  intro p e s m args below meth c s₁ Bd hml hP hK
  obtain ⟨rfl, hZ, hh⟩ := hP
  have X0 : Stand p l e R s m args below meth c s₁ [] 0 0 := Stand.of_body Bd
  have e0 : s₁.heap = h := by rw [← hh, Bd.state]; rfl
  have hnm := (name_of_methodNamed Bd.named Bd.method).1
  obtain ⟨v, T', L', k'', n'', X', b1, b2, N', q, hv, stp⟩ := G p e s m args below meth c ⟨Bd.exec, Bd.bytes, hZ, findClass_of_methodNamed Bd.named, hml, Bd.returns, Bd.notSynchronized, hnm⟩ s₁ [] 0 0 X0 (Nat.le_refl _) (Nat.le_refl _) (Fr.nil _) e0
  obtain ⟨fs, hr, hrun, hended, hW, hsame⟩ := X'.leave (v := v) (fun hh => hv (by rw [← Bd.returns]; exact hh))
  refine ⟨_, _, castTop (hent m) (stp fs hr), hrun, hended, v, L', rfl, ⟨q, N'⟩, ⟨_, rfl⟩, hW, hsame.mono b1 b2⟩


theorem Go.getfield {i : Nat} {O nm d : String} {a : Addr} {v : Value} (q : Nat) (hd : decode code pc = .ok (.getfield i, 3)) (w : (Cond.fieldLink y.cls i O nm d).before a0 Z = true) (F : Fld Z h a O nm d v) (hq : pc + 3 = q) (g : Go l Z y code ml ret R Q k n h q Ls (v :: st)) : Go l Z y code ml ret R Q k n h pc Ls (.ref a :: st) := by
  subst hq
  refine Go.move (P := fun h' => h' = h) (kk := k) (nn := n) (fun h' e => e ▸ g) ?_
  intro p e s m args below meth c K T L k' n' X h1 h2 N hT
  obtain ⟨T', X', e', s'⟩ := getF X K.1 K.2.2.1 K.2.2.2.1 (host := "") (Or.inl w) Via.refl hT F (g := mkF m pc Ls (.ref a :: st)) rfl rfl (hb K.2.1 hd)
  exact ⟨T', L, k', n', X', h1, h2, N, e', s'⟩
theorem Go.getfieldN {i : Nat} {O nm d host : String} {a : Addr} {v : Value} (q : Nat) (hd : decode code pc = .ok (.getfield i, 3)) (w : (Cond.fieldLinkNest y.cls i O nm d host).before a0 Z = true) (F : Fld Z h a O nm d v) (hq : pc + 3 = q) (g : Go l Z y code ml ret R Q k n h q Ls (v :: st)) : Go l Z y code ml ret R Q k n h pc Ls (.ref a :: st) := by
  subst hq
  refine Go.move (P := fun h' => h' = h) (kk := k) (nn := n) (fun h' e => e ▸ g) ?_
  intro p e s m args below meth c K T L k' n' X h1 h2 N hT
  obtain ⟨T', X', e', s'⟩ := getF X K.1 K.2.2.1 K.2.2.2.1 (host := host) (Or.inr w) Via.refl hT F (g := mkF m pc Ls (.ref a :: st)) rfl rfl (hb K.2.1 hd)
  exact ⟨T', L, k', n', X', h1, h2, N, e', s'⟩
theorem Go.getfieldU {i : Nat} {R0 O nm d : String} {a : Addr} {v : Value} (q : Nat) (hd : decode code pc = .ok (.getfield i, 3)) (w : (Cond.fieldLink y.cls i R0 nm d).before a0 Z = true) (via : Via Z R0 O nm d) (F : Fld Z h a O nm d v) (hq : pc + 3 = q) (g : Go l Z y code ml ret R Q k n h q Ls (v :: st)) : Go l Z y code ml ret R Q k n h pc Ls (.ref a :: st) := by
  subst hq
  refine Go.move (P := fun h' => h' = h) (kk := k) (nn := n) (fun h' e => e ▸ g) ?_
  intro p e s m args below meth c K T L k' n' X h1 h2 N hT
  obtain ⟨T', X', e', s'⟩ := getF X K.1 K.2.2.1 K.2.2.2.1 (host := "") (Or.inl w) via hT F (g := mkF m pc Ls (.ref a :: st)) rfl rfl (hb K.2.1 hd)
  exact ⟨T', L, k', n', X', h1, h2, N, e', s'⟩
theorem Go.getstatic {i : Nat} {O nm d : String} {v : Value} (q : Nat) (hd : decode code pc = .ok (.getstatic i, 3)) (w : (Cond.fieldLink y.cls i O nm d).before a0 Z = true) (F : Sta Z h O nm d v) (hq : pc + 3 = q) (g : Go l Z y code ml ret R Q k n h q Ls (v :: st)) : Go l Z y code ml ret R Q k n h pc Ls st := by
  subst hq
  refine Go.move (P := fun h' => h' = h) (kk := k) (nn := n) (fun h' e => e ▸ g) ?_
  intro p e s m args below meth c K T L k' n' X h1 h2 N hT
  obtain ⟨T', X', e', s'⟩ := getS X K.1 K.2.2.1 (host := "") K.2.2.2.1 w Via.refl hT F (g := mkF m pc Ls st) rfl (hb K.2.1 hd)
  exact ⟨T', L, k', n', X', h1, h2, N, e', s'⟩
theorem Go.putfield {i kk : Nat} {C O nm d : String} {ty : FieldType} {a : Addr} {v old : Value} (q : Nat) (hd : decode code pc = .ok (.putfield i, 3)) (w : (Cond.fieldLink y.cls i O nm d).before a0 Z = true) (F : Fld Z h a O nm d old) (E : Exa Z h a C) (hL : (Cond.lays C O nm d).before a0 Z = true ∨ ((Cond.laysFinal C O nm d).before a0 Z = true ∧ y.cls = O ∧ y.name = "<init>"))
    (wi : (Cond.instantiable C kk).before a0 Z = true) (hty : parseFieldDescriptor d = some ty) (hn : narrow ty v = v) (hf : fits ty v = true) (hge : Z.heap.size ≤ a) (hq : pc + 3 = q)
    (g : ∀ h', Wr h h' a (Jvm.RoadKit.slotOf Z O nm d) v → Go l Z y code ml ret R Q k n h' q Ls st) : Go l Z y code ml ret R Q k n h pc Ls (v :: .ref a :: st) := by
  subst hq
  refine Go.move (P := fun h' => Wr h h' a (Jvm.RoadKit.slotOf Z O nm d) v) (kk := k) (nn := n) g ?_
  intro p e s m args below meth c K T L k' n' X h1 h2 N hT
  obtain ⟨T', h', X', e', W', s'⟩ := putF X K.1 K.2.2.1 K.2.2.2.1 (host := "") (Or.inl w) Via.refl hT F E (hL.imp id fun ⟨a1, a2, a3⟩ => ⟨a1, a2, K.2.2.2.2.2.2.2.trans a3⟩) wi hty hn hf (g := mkF m pc Ls (v :: .ref a :: st)) rfl rfl (hb K.2.1 hd)
  exact ⟨T', _, k', n', X', h1, h2, Fr.snoc X' N hge, e' ▸ W', s'⟩
theorem Go.putfieldU {i kk : Nat} {R0 C O nm d : String} {ty : FieldType} {a : Addr} {v old : Value} (q : Nat) (hd : decode code pc = .ok (.putfield i, 3)) (w : (Cond.fieldLink y.cls i R0 nm d).before a0 Z = true) (via : Via Z R0 O nm d) (F : Fld Z h a O nm d old) (E : Exa Z h a C) (hL : (Cond.lays C O nm d).before a0 Z = true ∨ ((Cond.laysFinal C O nm d).before a0 Z = true ∧ y.cls = O ∧ y.name = "<init>"))
    (wi : (Cond.instantiable C kk).before a0 Z = true) (hty : parseFieldDescriptor d = some ty) (hn : narrow ty v = v) (hf : fits ty v = true) (hge : Z.heap.size ≤ a) (hq : pc + 3 = q)
    (g : ∀ h', Wr h h' a (Jvm.RoadKit.slotOf Z O nm d) v → Go l Z y code ml ret R Q k n h' q Ls st) : Go l Z y code ml ret R Q k n h pc Ls (v :: .ref a :: st) := by
  subst hq
  refine Go.move (P := fun h' => Wr h h' a (Jvm.RoadKit.slotOf Z O nm d) v) (kk := k) (nn := n) g ?_
  intro p e s m args below meth c K T L k' n' X h1 h2 N hT
  obtain ⟨T', h', X', e', W', s'⟩ := putF X K.1 K.2.2.1 K.2.2.2.1 (host := "") (Or.inl w) via hT F E (hL.imp id fun ⟨a1, a2, a3⟩ => ⟨a1, a2, K.2.2.2.2.2.2.2.trans a3⟩) wi hty hn hf (g := mkF m pc Ls (v :: .ref a :: st)) rfl rfl (hb K.2.1 hd)
  exact ⟨T', _, k', n', X', h1, h2, Fr.snoc X' N hge, e' ▸ W', s'⟩
/-- a field that narrows (boolean, byte, char, short) -/
theorem Go.putfieldN {i kk : Nat} {C O nm d : String} {ty : FieldType} {a : Addr} {v v' old : Value} (q : Nat) (hd : decode code pc = .ok (.putfield i, 3)) (w : (Cond.fieldLink y.cls i O nm d).before a0 Z = true) (F : Fld Z h a O nm d old) (E : Exa Z h a C) (hL : (Cond.lays C O nm d).before a0 Z = true ∨ ((Cond.laysFinal C O nm d).before a0 Z = true ∧ y.cls = O ∧ y.name = "<init>"))
    (wi : (Cond.instantiable C kk).before a0 Z = true) (hty : parseFieldDescriptor d = some ty) (hn : narrow ty v = v') (hf : fits ty v' = true) (hge : Z.heap.size ≤ a) (hq : pc + 3 = q)
    (g : ∀ h', Wr h h' a (Jvm.RoadKit.slotOf Z O nm d) v' → Go l Z y code ml ret R Q k n h' q Ls st) : Go l Z y code ml ret R Q k n h pc Ls (v :: .ref a :: st) := by
  subst hq
  refine Go.move (P := fun h' => Wr h h' a (Jvm.RoadKit.slotOf Z O nm d) v') (kk := k) (nn := n) g ?_
  intro p e s m args below meth c K T L k' n' X h1 h2 N hT
  obtain ⟨T', h', X', e', W', s'⟩ := putFN X K.1 K.2.2.1 K.2.2.2.1 w Via.refl hT F E (hL.imp id fun ⟨a1, a2, a3⟩ => ⟨a1, a2, K.2.2.2.2.2.2.2.trans a3⟩) wi hty hn hf (g := mkF m pc Ls (v :: .ref a :: st)) rfl rfl (hb K.2.1 hd)
  exact ⟨T', _, k', n', X', h1, h2, Fr.snoc X' N hge, e' ▸ W', s'⟩
theorem Go.new {i sz : Nat} {C : String} (q : Nat) (hd : decode code pc = .ok (.new i, 3)) (w : (Cond.classLink y.cls i C).before a0 Z = true) (wi : (Cond.instantiable C sz).before a0 Z = true) (wz : (Cond.initialized C).before a0 Z = true) (hk : k + 1 ≤ R.cells) (hN : n + sz ≤ R.slots) (hq : pc + 3 = q)
    (g : ∀ (a : Addr) h', a = h.size → Ext h h' → Exa Z h' a C → (∀ {O nm d : String} {ty : FieldType}, Laid Z a0 C O nm d → parseFieldDescriptor d = some ty → Fld Z h' a O nm d (defaultValue ty)) → Go l Z y code ml ret R Q (k + 1) (n + sz) h' q Ls (.ref a :: st)) : Go l Z y code ml ret R Q k n h pc Ls st := by
  subst hq
  refine Go.move (P := fun h' => Ext h h' ∧ Exa Z h' h.size C ∧ (∀ {O nm d : String} {ty : FieldType}, Laid Z a0 C O nm d → parseFieldDescriptor d = some ty → Fld Z h' h.size O nm d (defaultValue ty))) (kk := k + 1) (nn := n + sz) (fun h' p => g h.size h' rfl p.1 p.2.1 p.2.2) ?_
  intro p e s m args below meth c K T L k' n' X h1 h2 N hT
  obtain ⟨T', h', X', e', E', A', D', -, s'⟩ := newO X K.1 K.2.2.1 K.2.2.2.1 w wi wz hT (g := mkF m pc Ls st) rfl (hb K.2.1 hd) (Nat.le_trans (Nat.add_le_add_right h1 1) hk) (Nat.le_trans (Nat.add_le_add_right h2 sz) hN)
  subst e'
  exact ⟨T', L, k' + 1, n' + sz, X', Nat.add_le_add_right h1 1, Nat.add_le_add_right h2 sz, N, ⟨E', A', D'⟩, s'⟩
theorem Go.initO {i : Nat} {a : Addr} (W : Nat) (q : Nat) (hd : decode code pc = .ok (.invokespecial i, 3)) (w1 : (Cond.methodLink y.cls i Lib.objectInit).before a0 Z = true) (w2 : (Cond.instanceMethod Lib.objectInit).before a0 Z = true) (w3 : (Cond.code Lib.objectInit ⟨#[0xb1]⟩ 1 none).before a0 Z = true)
    (hsz : Ls.size = ml) (hf : 1 ≤ R.frames) (hW : (st.map fun v => v.category).sum ≤ W) (hl : W + 12 ≤ R.locals) (hq : pc + 3 = q) (g : Go l Z y code ml ret R Q k n h q Ls st) : Go l Z y code ml ret R Q k n h pc Ls (.ref a :: st) := by
  subst hq
  refine Go.move (P := fun h' => h' = h) (kk := k) (nn := n) (fun h' e => e ▸ g) ?_
  intro p e s m args below meth c K T L k' n' X h1 h2 N hT
  obtain ⟨T', X', e', s'⟩ := Jvm.RoadKit.initO X K.1 K.2.2.1 K.2.2.2.1 w1 w2 w3 hT (g := mkF m pc Ls (.ref a :: st)) rfl (hsz.trans K.2.2.2.2.1.symm) rfl (hb K.2.1 hd) hf (W := W) (by show 2 * 0 + _ ≤ _; rw [Nat.mul_zero, Nat.zero_add]; exact hW) hl
  exact ⟨T', L, k', n', X', h1, h2, N, e', s'⟩


section Calls
variable {y' : MethodName} {code' : ByteArray} {ml' : Nat} {ret' : Option FieldType} {R' : Room} {Q' : Option Value → Heap → Prop} {Ls' : Array Slot} {i W : Nat}
theorem Go.callS (argsL : List Value) (rest : List Value) (q : Nat) (hd : decode code pc = .ok (.invokestatic i, 3)) (w1 : (Cond.methodLink y.cls i y').before a0 Z = true) (w2 : (Cond.static y').before a0 Z = true) (w3 : (Cond.initialized y'.cls).before a0 Z = true) (w4 : (Cond.code y' code' ml' ret').before a0 Z = true)
    (hpl : plainFor y' = true) (hy : y'.cls ≠ "java/lang/invoke/MethodHandle" ∧ y'.cls ≠ "java/lang/invoke/VarHandle") (hlen : ∀ sig, parseMethodDescriptor y'.desc = some sig → argsL.length = sig.parameters.length) (hst : st = argsL.reverse ++ rest) (hent : ∀ m, entryFrame m argsL.toArray ml' = mkF m 0 Ls' [])
    (G : Go l Z y' code' ml' ret' R' Q' 0 0 h 0 Ls' []) (W : Nat) (hsz : Ls.size = ml) (hW : (rest.map fun v => v.category).sum ≤ W) (hf : R'.frames + 1 ≤ R.frames) (hl : W + (ml' + 11) + R'.locals ≤ R.locals) (hk : k + R'.cells ≤ R.cells) (hN : n + R'.slots ≤ R.slots) (hq : pc + 3 = q)
    (g : ∀ v h', Q' v h' → Go l Z y code ml ret R Q (k + R'.cells) (n + R'.slots) h' q Ls (v.toList ++ rest)) : Go l Z y code ml ret R Q k n h pc Ls st := by
  subst hq
  intro p e s m args below meth c K T L k' n' X h1 h2 N hT
  obtain ⟨v, vm₁, ⟨T', L', k'', n''⟩, -, X', ⟨Lc, ⟨hQ, N'⟩, e1, e2, e3⟩, s'⟩ := Jvm.LawKit.callS X K.1 K.2.2.2.1 (mvT K.2.2.1 w1) (mvT K.2.2.1 w2) (mvT K.2.2.1 w3) (mvT K.2.2.1 w4) hy (backOf (W := W) (Q := fun v h L => Q' v h ∧ Fr Z.heap.size L) (Go.met hpl hent G []) K.2.2.1 w4 w3 hf hl) (g := mkF m pc Ls st) rfl (hsz.trans K.2.2.2.2.1.symm) (argsL := argsL) (rest := rest) hlen hst (by show 2 * 0 + _ ≤ _; rw [Nat.mul_zero, Nat.zero_add]; exact hW) (hb K.2.1 hd) (fun _ _ => ⟨rfl, hT, Nat.le_trans (Nat.add_le_add_right h1 _) hk, Nat.le_trans (Nat.add_le_add_right h2 _) hN⟩)
  dsimp only [Pt.U, Pt.locs, Pt.cells, Pt.slots] at X' e1 e2 e3 s' hQ
  subst e1 e2 e3
  obtain ⟨v2, T2, L2, k2, n2, X2, b1, b2, N2, q2, hv, stp⟩ := g v _ hQ p e s m args below meth c K T' _ _ _ X' (Nat.add_le_add_right h1 _) (Nat.add_le_add_right h2 _) (Fr.app N N') rfl
  exact ⟨v2, T2, L2, k2, n2, X2, b1, b2, N2, q2, hv, fun fs hl => s' _ (stp fs hl)⟩
theorem Go.callC {a : Addr} (argsL : List Value) (rest : List Value) (q : Nat) (hd : decode code pc = .ok (.invokespecial i, 3)) (hy1 : y'.name = "<init>") (w1 : (Cond.methodLink y.cls i y').before a0 Z = true) (w2 : (Cond.instanceMethod y').before a0 Z = true) (w3 : (Cond.initialized y'.cls).before a0 Z = true) (w4 : (Cond.code y' code' ml' none).before a0 Z = true)
    (hpl : plainFor y' = true) (hy : y'.cls ≠ "java/lang/invoke/MethodHandle" ∧ y'.cls ≠ "java/lang/invoke/VarHandle") (hlen : ∀ sig, parseMethodDescriptor y'.desc = some sig → argsL.length = sig.parameters.length) (hst : st = argsL.reverse ++ .ref a :: rest) (hent : ∀ m, entryFrame m (.ref a :: argsL).toArray ml' = mkF m 0 Ls' [])
    (P' : Heap → Prop) (G : Go l Z y' code' ml' none R' (QV P') 0 0 h 0 Ls' []) (W : Nat) (hsz : Ls.size = ml) (hW : (rest.map fun v => v.category).sum ≤ W) (hf : R'.frames + 1 ≤ R.frames) (hl : W + (ml' + 11) + R'.locals ≤ R.locals) (hk : k + R'.cells ≤ R.cells) (hN : n + R'.slots ≤ R.slots) (hq : pc + 3 = q)
    (g : ∀ h', P' h' → Go l Z y code ml ret R Q (k + R'.cells) (n + R'.slots) h' q Ls rest) : Go l Z y code ml ret R Q k n h pc Ls st := by
  subst hq
  intro p e s m args below meth c K T L k' n' X h1 h2 N hT
  obtain ⟨v, vm₁, ⟨T', L', k'', n''⟩, -, X', ⟨Lc, ⟨⟨rfl, hQ⟩, N'⟩, e1, e2, e3⟩, s'⟩ := X.specialBack K.1 hy1 K.2.2.2.1 (mvT K.2.2.1 w1) (mvT K.2.2.1 w2) (mvT K.2.2.1 w4) hy (backOf (W := W) (Q := fun v h L => QV P' v h ∧ Fr Z.heap.size L) (Go.met hpl hent G []) K.2.2.1 w4 w3 hf hl) (g := mkF m pc Ls st) rfl (hsz.trans K.2.2.2.2.1.symm) (Steps.refl _) (a := a) (argsL := argsL) (rest := rest) hlen hst (by show 2 * 0 + _ ≤ _; rw [Nat.mul_zero, Nat.zero_add]; exact hW) (hb K.2.1 hd) (fun _ _ => ⟨rfl, hT, Nat.le_trans (Nat.add_le_add_right h1 _) hk, Nat.le_trans (Nat.add_le_add_right h2 _) hN⟩)
  dsimp only [Pt.U, Pt.locs, Pt.cells, Pt.slots] at X' e1 e2 e3 s' hQ
  subst e1 e2 e3
  obtain ⟨v2, T2, L2, k2, n2, X2, b1, b2, N2, q2, hv, stp⟩ := g _ hQ p e s m args below meth c K T' _ _ _ X' (Nat.add_le_add_right h1 _) (Nat.add_le_add_right h2 _) (Fr.app N N') rfl
  exact ⟨v2, T2, L2, k2, n2, X2, b1, b2, N2, q2, hv, fun fs hl => s'.trans (stp fs hl)⟩
theorem Go.callV {a : Addr} {C : String} (argsL : List Value) (rest : List Value) (q : Nat) (hd : decode code pc = .ok (.invokevirtual i, 3)) (w1 : (Cond.methodLink y.cls i y').before a0 Z = true) (w1' : (Cond.declares y').before a0 Z = true) (w1s : (Cond.selects C y' y').before a0 Z = true) (w2 : (Cond.instanceMethod y').before a0 Z = true) (w3 : (Cond.initialized y'.cls).before a0 Z = true) (w4 : (Cond.code y' code' ml' ret').before a0 Z = true) (E : Exa Z h a C)
    (hpl : plainFor y' = true) (hy : y'.cls ≠ "java/lang/invoke/MethodHandle" ∧ y'.cls ≠ "java/lang/invoke/VarHandle") (hlen : ∀ sig, parseMethodDescriptor y'.desc = some sig → argsL.length = sig.parameters.length) (hst : st = argsL.reverse ++ .ref a :: rest) (hent : ∀ m, entryFrame m (.ref a :: argsL).toArray ml' = mkF m 0 Ls' [])
    (G : Go l Z y' code' ml' ret' R' Q' 0 0 h 0 Ls' []) (W : Nat) (hsz : Ls.size = ml) (hW : (rest.map fun v => v.category).sum ≤ W) (hf : R'.frames + 1 ≤ R.frames) (hl : W + (ml' + 11) + R'.locals ≤ R.locals) (hk : k + R'.cells ≤ R.cells) (hN : n + R'.slots ≤ R.slots) (hq : pc + 3 = q)
    (g : ∀ v h', Q' v h' → Go l Z y code ml ret R Q (k + R'.cells) (n + R'.slots) h' q Ls (v.toList ++ rest)) : Go l Z y code ml ret R Q k n h pc Ls st := by
  subst hq
  intro p e s m args below meth c K T L k' n' X h1 h2 N hT
  obtain ⟨cq, kq, qa, qb, qc⟩ := isOf K.2.2.1 hT E
  obtain ⟨v, vm₁, ⟨T', L', k'', n''⟩, -, X', ⟨Lc, ⟨hQ, N'⟩, e1, e2, e3⟩, s'⟩ := X.virtualBack K.1 K.2.2.2.1 (mvT K.2.2.1 w1) (mvT K.2.2.1 w1') (notFace_of_selects (args := #[]) (mvT K.2.2.1 w1s)) (mvT K.2.2.1 w1s) (mvT K.2.2.1 w2) hy (backOf (W := W) (Q := fun v h L => Q' v h ∧ Fr Z.heap.size L) (Go.met hpl hent G []) K.2.2.1 w4 w3 hf hl) qa qc (g := mkF m pc Ls st) rfl (hsz.trans K.2.2.2.2.1.symm) (Steps.refl _) (argsL := argsL) (rest := rest) hlen hst (by show 2 * 0 + _ ≤ _; rw [Nat.mul_zero, Nat.zero_add]; exact hW) (hb K.2.1 hd) (fun _ _ => ⟨rfl, hT, Nat.le_trans (Nat.add_le_add_right h1 _) hk, Nat.le_trans (Nat.add_le_add_right h2 _) hN⟩)
  dsimp only [Pt.U, Pt.locs, Pt.cells, Pt.slots] at X' e1 e2 e3 s' hQ
  subst e1 e2 e3
  obtain ⟨v2, T2, L2, k2, n2, X2, b1, b2, N2, q2, hv, stp⟩ := g v _ hQ p e s m args below meth c K T' _ _ _ X' (Nat.add_le_add_right h1 _) (Nat.add_le_add_right h2 _) (Fr.app N N') rfl
  exact ⟨v2, T2, L2, k2, n2, X2, b1, b2, N2, q2, hv, fun fs hl => s'.trans (stp fs hl)⟩
theorem Go.callCp {a : Addr} (argsL : List Value) (rest : List Value) (q : Nat) (hd : decode code pc = .ok (.invokespecial i, 3)) (hy1 : y'.name = "<init>") (w1 : (Cond.methodLink y.cls i y').before a0 Z = true) (w2 : (Cond.instanceMethod y').before a0 Z = true) (w3 : (Cond.initialized y'.cls).before a0 Z = true) (w4 : (Cond.code y' code' ml' none).before a0 Z = true)
    (hpl : plainFor y' = true) (hy : y'.cls ≠ "java/lang/invoke/MethodHandle" ∧ y'.cls ≠ "java/lang/invoke/VarHandle") (hlen : ∀ sig, parseMethodDescriptor y'.desc = some sig → argsL.length = sig.parameters.length) (hst : st = argsL.reverse ++ .ref a :: rest) (hent : ∀ m, entryFrame m (.ref a :: argsL).toArray ml' = mkF m 0 Ls' [])
    (G : Go l Z y' code' ml' none R' (QV fun h' => h' = h) 0 0 h 0 Ls' []) (W : Nat) (hsz : Ls.size = ml) (hW : (rest.map fun v => v.category).sum ≤ W) (hf : R'.frames + 1 ≤ R.frames) (hl : W + (ml' + 11) + R'.locals ≤ R.locals) (hk : k + R'.cells ≤ R.cells) (hN : n + R'.slots ≤ R.slots) (hq : pc + 3 = q)
    (g : Go l Z y code ml ret R Q (k + R'.cells) (n + R'.slots) h q Ls rest) : Go l Z y code ml ret R Q k n h pc Ls st :=
  Go.callC argsL rest q hd hy1 w1 w2 w3 w4 hpl hy hlen hst hent _ G W hsz hW hf hl hk hN hq (fun h' e => by subst e; exact g)
end Calls

section
variable {y' : MethodName} {code' : ByteArray} {ml' : Nat} {ret' : Option FieldType} {R' : Room} {Ls' : Array Slot} {i : Nat}
theorem Go.callSI (argsL : List Value) (rest : List Value) (q : Nat) (hd : decode code pc = .ok (.invokestatic i, 3)) (w1 : (Cond.methodLink y.cls i y').before a0 Z = true) (w2 : (Cond.static y').before a0 Z = true) (w3 : (Cond.initialized y'.cls).before a0 Z = true) (w4 : (Cond.code y' code' ml' ret').before a0 Z = true)
    (hpl : plainFor y' = true) (hy : y'.cls ≠ "java/lang/invoke/MethodHandle" ∧ y'.cls ≠ "java/lang/invoke/VarHandle") (hlen : ∀ sig, parseMethodDescriptor y'.desc = some sig → argsL.length = sig.parameters.length) (hst : st = argsL.reverse ++ rest) (hent : ∀ m, entryFrame m argsL.toArray ml' = mkF m 0 Ls' [])
    (P' : Int32 → Heap → Prop) (G : Go l Z y' code' ml' ret' R' (QI P') 0 0 h 0 Ls' []) (W : Nat) (hsz : Ls.size = ml) (hW : (rest.map fun v => v.category).sum ≤ W) (hf : R'.frames + 1 ≤ R.frames) (hl : W + (ml' + 11) + R'.locals ≤ R.locals) (hk : k + R'.cells ≤ R.cells) (hN : n + R'.slots ≤ R.slots) (hq : pc + 3 = q)
    (g : ∀ (z : Int32) h', P' z h' → Go l Z y code ml ret R Q (k + R'.cells) (n + R'.slots) h' q Ls (.int z :: rest)) : Go l Z y code ml ret R Q k n h pc Ls st := by
  exact Go.callS argsL rest q hd w1 w2 w3 w4 hpl hy hlen hst hent G W hsz hW hf hl hk hN hq (fun v h' hq' => by obtain ⟨z, e, hp⟩ := hq'; subst e; exact g z h' hp)
end
section
variable {y' : MethodName} {code' : ByteArray} {ml' : Nat} {ret' : Option FieldType} {R' : Room} {Ls' : Array Slot} {i : Nat}
theorem Go.callSIp (argsL : List Value) (rest : List Value) (q : Nat) (hd : decode code pc = .ok (.invokestatic i, 3)) (w1 : (Cond.methodLink y.cls i y').before a0 Z = true) (w2 : (Cond.static y').before a0 Z = true) (w3 : (Cond.initialized y'.cls).before a0 Z = true) (w4 : (Cond.code y' code' ml' ret').before a0 Z = true)
    (hpl : plainFor y' = true) (hy : y'.cls ≠ "java/lang/invoke/MethodHandle" ∧ y'.cls ≠ "java/lang/invoke/VarHandle") (hlen : ∀ sig, parseMethodDescriptor y'.desc = some sig → argsL.length = sig.parameters.length) (hst : st = argsL.reverse ++ rest) (hent : ∀ m, entryFrame m argsL.toArray ml' = mkF m 0 Ls' [])
    (F : Int32) (G : Go l Z y' code' ml' ret' R' (QI fun z h' => z = F ∧ h' = h) 0 0 h 0 Ls' []) (W : Nat) (hsz : Ls.size = ml) (hW : (rest.map fun v => v.category).sum ≤ W) (hf : R'.frames + 1 ≤ R.frames) (hl : W + (ml' + 11) + R'.locals ≤ R.locals) (hk : k + R'.cells ≤ R.cells) (hN : n + R'.slots ≤ R.slots) (hq : pc + 3 = q)
    (g : Go l Z y code ml ret R Q (k + R'.cells) (n + R'.slots) h q Ls (.int F :: rest)) : Go l Z y code ml ret R Q k n h pc Ls st := by
  exact Go.callS argsL rest q hd w1 w2 w3 w4 hpl hy hlen hst hent G W hsz hW hf hl hk hN hq (fun v h' hq' => by obtain ⟨z, e, hp, hh⟩ := hq'; subst e; subst hh; rw [hp]; exact g)
end
section
variable {y' : MethodName} {code' : ByteArray} {ml' : Nat} {ret' : Option FieldType} {R' : Room} {Ls' : Array Slot} {i : Nat}
theorem Go.callSIe (argsL : List Value) (rest : List Value) (q : Nat) (hd : decode code pc = .ok (.invokestatic i, 3)) (w1 : (Cond.methodLink y.cls i y').before a0 Z = true) (w2 : (Cond.static y').before a0 Z = true) (w3 : (Cond.initialized y'.cls).before a0 Z = true) (w4 : (Cond.code y' code' ml' ret').before a0 Z = true)
    (hpl : plainFor y' = true) (hy : y'.cls ≠ "java/lang/invoke/MethodHandle" ∧ y'.cls ≠ "java/lang/invoke/VarHandle") (hlen : ∀ sig, parseMethodDescriptor y'.desc = some sig → argsL.length = sig.parameters.length) (hst : st = argsL.reverse ++ rest) (hent : ∀ m, entryFrame m argsL.toArray ml' = mkF m 0 Ls' [])
    (F : Int32) (P' : Heap → Prop) (G : Go l Z y' code' ml' ret' R' (QI fun z h' => z = F ∧ P' h') 0 0 h 0 Ls' []) (W : Nat) (hsz : Ls.size = ml) (hW : (rest.map fun v => v.category).sum ≤ W) (hf : R'.frames + 1 ≤ R.frames) (hl : W + (ml' + 11) + R'.locals ≤ R.locals) (hk : k + R'.cells ≤ R.cells) (hN : n + R'.slots ≤ R.slots) (hq : pc + 3 = q)
    (g : ∀ h', P' h' → Go l Z y code ml ret R Q (k + R'.cells) (n + R'.slots) h' q Ls (.int F :: rest)) : Go l Z y code ml ret R Q k n h pc Ls st := by
  exact Go.callS argsL rest q hd w1 w2 w3 w4 hpl hy hlen hst hent G W hsz hW hf hl hk hN hq (fun v h' hq' => by obtain ⟨z, e, hp, hh⟩ := hq'; subst e; rw [hp]; exact g h' hh)
end
section
variable {y' : MethodName} {code' : ByteArray} {ml' : Nat} {ret' : Option FieldType} {R' : Room} {Ls' : Array Slot} {i : Nat}
theorem Go.callSJ (argsL : List Value) (rest : List Value) (q : Nat) (hd : decode code pc = .ok (.invokestatic i, 3)) (w1 : (Cond.methodLink y.cls i y').before a0 Z = true) (w2 : (Cond.static y').before a0 Z = true) (w3 : (Cond.initialized y'.cls).before a0 Z = true) (w4 : (Cond.code y' code' ml' ret').before a0 Z = true)
    (hpl : plainFor y' = true) (hy : y'.cls ≠ "java/lang/invoke/MethodHandle" ∧ y'.cls ≠ "java/lang/invoke/VarHandle") (hlen : ∀ sig, parseMethodDescriptor y'.desc = some sig → argsL.length = sig.parameters.length) (hst : st = argsL.reverse ++ rest) (hent : ∀ m, entryFrame m argsL.toArray ml' = mkF m 0 Ls' [])
    (P' : Int64 → Heap → Prop) (G : Go l Z y' code' ml' ret' R' (QJ P') 0 0 h 0 Ls' []) (W : Nat) (hsz : Ls.size = ml) (hW : (rest.map fun v => v.category).sum ≤ W) (hf : R'.frames + 1 ≤ R.frames) (hl : W + (ml' + 11) + R'.locals ≤ R.locals) (hk : k + R'.cells ≤ R.cells) (hN : n + R'.slots ≤ R.slots) (hq : pc + 3 = q)
    (g : ∀ (z : Int64) h', P' z h' → Go l Z y code ml ret R Q (k + R'.cells) (n + R'.slots) h' q Ls (.long z :: rest)) : Go l Z y code ml ret R Q k n h pc Ls st := by
  exact Go.callS argsL rest q hd w1 w2 w3 w4 hpl hy hlen hst hent G W hsz hW hf hl hk hN hq (fun v h' hq' => by obtain ⟨z, e, hp⟩ := hq'; subst e; exact g z h' hp)
end
section
variable {y' : MethodName} {code' : ByteArray} {ml' : Nat} {ret' : Option FieldType} {R' : Room} {Ls' : Array Slot} {i : Nat}
theorem Go.callSJp (argsL : List Value) (rest : List Value) (q : Nat) (hd : decode code pc = .ok (.invokestatic i, 3)) (w1 : (Cond.methodLink y.cls i y').before a0 Z = true) (w2 : (Cond.static y').before a0 Z = true) (w3 : (Cond.initialized y'.cls).before a0 Z = true) (w4 : (Cond.code y' code' ml' ret').before a0 Z = true)
    (hpl : plainFor y' = true) (hy : y'.cls ≠ "java/lang/invoke/MethodHandle" ∧ y'.cls ≠ "java/lang/invoke/VarHandle") (hlen : ∀ sig, parseMethodDescriptor y'.desc = some sig → argsL.length = sig.parameters.length) (hst : st = argsL.reverse ++ rest) (hent : ∀ m, entryFrame m argsL.toArray ml' = mkF m 0 Ls' [])
    (F : Int64) (G : Go l Z y' code' ml' ret' R' (QJ fun z h' => z = F ∧ h' = h) 0 0 h 0 Ls' []) (W : Nat) (hsz : Ls.size = ml) (hW : (rest.map fun v => v.category).sum ≤ W) (hf : R'.frames + 1 ≤ R.frames) (hl : W + (ml' + 11) + R'.locals ≤ R.locals) (hk : k + R'.cells ≤ R.cells) (hN : n + R'.slots ≤ R.slots) (hq : pc + 3 = q)
    (g : Go l Z y code ml ret R Q (k + R'.cells) (n + R'.slots) h q Ls (.long F :: rest)) : Go l Z y code ml ret R Q k n h pc Ls st := by
  exact Go.callS argsL rest q hd w1 w2 w3 w4 hpl hy hlen hst hent G W hsz hW hf hl hk hN hq (fun v h' hq' => by obtain ⟨z, e, hp, hh⟩ := hq'; subst e; subst hh; rw [hp]; exact g)
end
section
variable {y' : MethodName} {code' : ByteArray} {ml' : Nat} {ret' : Option FieldType} {R' : Room} {Ls' : Array Slot} {i : Nat}
theorem Go.callSJe (argsL : List Value) (rest : List Value) (q : Nat) (hd : decode code pc = .ok (.invokestatic i, 3)) (w1 : (Cond.methodLink y.cls i y').before a0 Z = true) (w2 : (Cond.static y').before a0 Z = true) (w3 : (Cond.initialized y'.cls).before a0 Z = true) (w4 : (Cond.code y' code' ml' ret').before a0 Z = true)
    (hpl : plainFor y' = true) (hy : y'.cls ≠ "java/lang/invoke/MethodHandle" ∧ y'.cls ≠ "java/lang/invoke/VarHandle") (hlen : ∀ sig, parseMethodDescriptor y'.desc = some sig → argsL.length = sig.parameters.length) (hst : st = argsL.reverse ++ rest) (hent : ∀ m, entryFrame m argsL.toArray ml' = mkF m 0 Ls' [])
    (F : Int64) (P' : Heap → Prop) (G : Go l Z y' code' ml' ret' R' (QJ fun z h' => z = F ∧ P' h') 0 0 h 0 Ls' []) (W : Nat) (hsz : Ls.size = ml) (hW : (rest.map fun v => v.category).sum ≤ W) (hf : R'.frames + 1 ≤ R.frames) (hl : W + (ml' + 11) + R'.locals ≤ R.locals) (hk : k + R'.cells ≤ R.cells) (hN : n + R'.slots ≤ R.slots) (hq : pc + 3 = q)
    (g : ∀ h', P' h' → Go l Z y code ml ret R Q (k + R'.cells) (n + R'.slots) h' q Ls (.long F :: rest)) : Go l Z y code ml ret R Q k n h pc Ls st := by
  exact Go.callS argsL rest q hd w1 w2 w3 w4 hpl hy hlen hst hent G W hsz hW hf hl hk hN hq (fun v h' hq' => by obtain ⟨z, e, hp, hh⟩ := hq'; subst e; rw [hp]; exact g h' hh)
end
section
variable {y' : MethodName} {code' : ByteArray} {ml' : Nat} {ret' : Option FieldType} {R' : Room} {Ls' : Array Slot} {i : Nat}
theorem Go.callSR (argsL : List Value) (rest : List Value) (q : Nat) (hd : decode code pc = .ok (.invokestatic i, 3)) (w1 : (Cond.methodLink y.cls i y').before a0 Z = true) (w2 : (Cond.static y').before a0 Z = true) (w3 : (Cond.initialized y'.cls).before a0 Z = true) (w4 : (Cond.code y' code' ml' ret').before a0 Z = true)
    (hpl : plainFor y' = true) (hy : y'.cls ≠ "java/lang/invoke/MethodHandle" ∧ y'.cls ≠ "java/lang/invoke/VarHandle") (hlen : ∀ sig, parseMethodDescriptor y'.desc = some sig → argsL.length = sig.parameters.length) (hst : st = argsL.reverse ++ rest) (hent : ∀ m, entryFrame m argsL.toArray ml' = mkF m 0 Ls' [])
    (P' : Value → Heap → Prop) (G : Go l Z y' code' ml' ret' R' (QR P') 0 0 h 0 Ls' []) (W : Nat) (hsz : Ls.size = ml) (hW : (rest.map fun v => v.category).sum ≤ W) (hf : R'.frames + 1 ≤ R.frames) (hl : W + (ml' + 11) + R'.locals ≤ R.locals) (hk : k + R'.cells ≤ R.cells) (hN : n + R'.slots ≤ R.slots) (hq : pc + 3 = q)
    (g : ∀ (z : Value) h', P' z h' → Go l Z y code ml ret R Q (k + R'.cells) (n + R'.slots) h' q Ls ( z :: rest)) : Go l Z y code ml ret R Q k n h pc Ls st := by
  exact Go.callS argsL rest q hd w1 w2 w3 w4 hpl hy hlen hst hent G W hsz hW hf hl hk hN hq (fun v h' hq' => by obtain ⟨z, e, hp⟩ := hq'; subst e; exact g z h' hp)
end
section
variable {y' : MethodName} {code' : ByteArray} {ml' : Nat} {ret' : Option FieldType} {R' : Room} {Ls' : Array Slot} {i : Nat}
theorem Go.callSRp (argsL : List Value) (rest : List Value) (q : Nat) (hd : decode code pc = .ok (.invokestatic i, 3)) (w1 : (Cond.methodLink y.cls i y').before a0 Z = true) (w2 : (Cond.static y').before a0 Z = true) (w3 : (Cond.initialized y'.cls).before a0 Z = true) (w4 : (Cond.code y' code' ml' ret').before a0 Z = true)
    (hpl : plainFor y' = true) (hy : y'.cls ≠ "java/lang/invoke/MethodHandle" ∧ y'.cls ≠ "java/lang/invoke/VarHandle") (hlen : ∀ sig, parseMethodDescriptor y'.desc = some sig → argsL.length = sig.parameters.length) (hst : st = argsL.reverse ++ rest) (hent : ∀ m, entryFrame m argsL.toArray ml' = mkF m 0 Ls' [])
    (F : Value) (G : Go l Z y' code' ml' ret' R' (QR fun z h' => z = F ∧ h' = h) 0 0 h 0 Ls' []) (W : Nat) (hsz : Ls.size = ml) (hW : (rest.map fun v => v.category).sum ≤ W) (hf : R'.frames + 1 ≤ R.frames) (hl : W + (ml' + 11) + R'.locals ≤ R.locals) (hk : k + R'.cells ≤ R.cells) (hN : n + R'.slots ≤ R.slots) (hq : pc + 3 = q)
    (g : Go l Z y code ml ret R Q (k + R'.cells) (n + R'.slots) h q Ls ( F :: rest)) : Go l Z y code ml ret R Q k n h pc Ls st := by
  exact Go.callS argsL rest q hd w1 w2 w3 w4 hpl hy hlen hst hent G W hsz hW hf hl hk hN hq (fun v h' hq' => by obtain ⟨z, e, hp, hh⟩ := hq'; subst e; subst hh; rw [hp]; exact g)
end
section
variable {y' : MethodName} {code' : ByteArray} {ml' : Nat} {ret' : Option FieldType} {R' : Room} {Ls' : Array Slot} {i : Nat}
theorem Go.callSRe (argsL : List Value) (rest : List Value) (q : Nat) (hd : decode code pc = .ok (.invokestatic i, 3)) (w1 : (Cond.methodLink y.cls i y').before a0 Z = true) (w2 : (Cond.static y').before a0 Z = true) (w3 : (Cond.initialized y'.cls).before a0 Z = true) (w4 : (Cond.code y' code' ml' ret').before a0 Z = true)
    (hpl : plainFor y' = true) (hy : y'.cls ≠ "java/lang/invoke/MethodHandle" ∧ y'.cls ≠ "java/lang/invoke/VarHandle") (hlen : ∀ sig, parseMethodDescriptor y'.desc = some sig → argsL.length = sig.parameters.length) (hst : st = argsL.reverse ++ rest) (hent : ∀ m, entryFrame m argsL.toArray ml' = mkF m 0 Ls' [])
    (F : Value) (P' : Heap → Prop) (G : Go l Z y' code' ml' ret' R' (QR fun z h' => z = F ∧ P' h') 0 0 h 0 Ls' []) (W : Nat) (hsz : Ls.size = ml) (hW : (rest.map fun v => v.category).sum ≤ W) (hf : R'.frames + 1 ≤ R.frames) (hl : W + (ml' + 11) + R'.locals ≤ R.locals) (hk : k + R'.cells ≤ R.cells) (hN : n + R'.slots ≤ R.slots) (hq : pc + 3 = q)
    (g : ∀ h', P' h' → Go l Z y code ml ret R Q (k + R'.cells) (n + R'.slots) h' q Ls ( F :: rest)) : Go l Z y code ml ret R Q k n h pc Ls st := by
  exact Go.callS argsL rest q hd w1 w2 w3 w4 hpl hy hlen hst hent G W hsz hW hf hl hk hN hq (fun v h' hq' => by obtain ⟨z, e, hp, hh⟩ := hq'; subst e; rw [hp]; exact g h' hh)
end
section
variable {y' : MethodName} {code' : ByteArray} {ml' : Nat} {ret' : Option FieldType} {R' : Room} {Ls' : Array Slot} {i : Nat}
theorem Go.callSV (argsL : List Value) (rest : List Value) (q : Nat) (hd : decode code pc = .ok (.invokestatic i, 3)) (w1 : (Cond.methodLink y.cls i y').before a0 Z = true) (w2 : (Cond.static y').before a0 Z = true) (w3 : (Cond.initialized y'.cls).before a0 Z = true) (w4 : (Cond.code y' code' ml' ret').before a0 Z = true)
    (hpl : plainFor y' = true) (hy : y'.cls ≠ "java/lang/invoke/MethodHandle" ∧ y'.cls ≠ "java/lang/invoke/VarHandle") (hlen : ∀ sig, parseMethodDescriptor y'.desc = some sig → argsL.length = sig.parameters.length) (hst : st = argsL.reverse ++ rest) (hent : ∀ m, entryFrame m argsL.toArray ml' = mkF m 0 Ls' [])
    (P' : Heap → Prop) (G : Go l Z y' code' ml' ret' R' (QV P') 0 0 h 0 Ls' []) (W : Nat) (hsz : Ls.size = ml) (hW : (rest.map fun v => v.category).sum ≤ W) (hf : R'.frames + 1 ≤ R.frames) (hl : W + (ml' + 11) + R'.locals ≤ R.locals) (hk : k + R'.cells ≤ R.cells) (hN : n + R'.slots ≤ R.slots) (hq : pc + 3 = q)
    (g : ∀ h', P' h' → Go l Z y code ml ret R Q (k + R'.cells) (n + R'.slots) h' q Ls rest) : Go l Z y code ml ret R Q k n h pc Ls st := by
  exact Go.callS argsL rest q hd w1 w2 w3 w4 hpl hy hlen hst hent G W hsz hW hf hl hk hN hq (fun v h' hq' => by obtain ⟨e, hp⟩ := hq'; subst e; exact g h' hp)
end
section
variable {y' : MethodName} {code' : ByteArray} {ml' : Nat} {ret' : Option FieldType} {R' : Room} {Ls' : Array Slot} {i : Nat}
theorem Go.callSVp (argsL : List Value) (rest : List Value) (q : Nat) (hd : decode code pc = .ok (.invokestatic i, 3)) (w1 : (Cond.methodLink y.cls i y').before a0 Z = true) (w2 : (Cond.static y').before a0 Z = true) (w3 : (Cond.initialized y'.cls).before a0 Z = true) (w4 : (Cond.code y' code' ml' ret').before a0 Z = true)
    (hpl : plainFor y' = true) (hy : y'.cls ≠ "java/lang/invoke/MethodHandle" ∧ y'.cls ≠ "java/lang/invoke/VarHandle") (hlen : ∀ sig, parseMethodDescriptor y'.desc = some sig → argsL.length = sig.parameters.length) (hst : st = argsL.reverse ++ rest) (hent : ∀ m, entryFrame m argsL.toArray ml' = mkF m 0 Ls' [])
    (G : Go l Z y' code' ml' ret' R' (QV fun h' => h' = h) 0 0 h 0 Ls' []) (W : Nat) (hsz : Ls.size = ml) (hW : (rest.map fun v => v.category).sum ≤ W) (hf : R'.frames + 1 ≤ R.frames) (hl : W + (ml' + 11) + R'.locals ≤ R.locals) (hk : k + R'.cells ≤ R.cells) (hN : n + R'.slots ≤ R.slots) (hq : pc + 3 = q)
    (g : Go l Z y code ml ret R Q (k + R'.cells) (n + R'.slots) h q Ls rest) : Go l Z y code ml ret R Q k n h pc Ls st := by
  exact Go.callS argsL rest q hd w1 w2 w3 w4 hpl hy hlen hst hent G W hsz hW hf hl hk hN hq (fun v h' hq' => by obtain ⟨e, hp⟩ := hq'; subst e; subst hp; exact g)
end
section
variable {y' : MethodName} {code' : ByteArray} {ml' : Nat} {ret' : Option FieldType} {R' : Room} {Ls' : Array Slot} {i : Nat}
theorem Go.callVI {a : Addr} {C : String} (argsL : List Value) (rest : List Value) (q : Nat) (hd : decode code pc = .ok (.invokevirtual i, 3)) (w1 : (Cond.methodLink y.cls i y').before a0 Z = true) (w1' : (Cond.declares y').before a0 Z = true) (w1s : (Cond.selects C y' y').before a0 Z = true) (w2 : (Cond.instanceMethod y').before a0 Z = true) (w3 : (Cond.initialized y'.cls).before a0 Z = true) (w4 : (Cond.code y' code' ml' ret').before a0 Z = true) (E : Exa Z h a C)
    (hpl : plainFor y' = true) (hy : y'.cls ≠ "java/lang/invoke/MethodHandle" ∧ y'.cls ≠ "java/lang/invoke/VarHandle") (hlen : ∀ sig, parseMethodDescriptor y'.desc = some sig → argsL.length = sig.parameters.length) (hst : st = argsL.reverse ++ .ref a :: rest) (hent : ∀ m, entryFrame m (.ref a :: argsL).toArray ml' = mkF m 0 Ls' [])
    (P' : Int32 → Heap → Prop) (G : Go l Z y' code' ml' ret' R' (QI P') 0 0 h 0 Ls' []) (W : Nat) (hsz : Ls.size = ml) (hW : (rest.map fun v => v.category).sum ≤ W) (hf : R'.frames + 1 ≤ R.frames) (hl : W + (ml' + 11) + R'.locals ≤ R.locals) (hk : k + R'.cells ≤ R.cells) (hN : n + R'.slots ≤ R.slots) (hq : pc + 3 = q)
    (g : ∀ (z : Int32) h', P' z h' → Go l Z y code ml ret R Q (k + R'.cells) (n + R'.slots) h' q Ls (.int z :: rest)) : Go l Z y code ml ret R Q k n h pc Ls st := by
  exact Go.callV argsL rest q hd w1 w1' w1s w2 w3 w4 E hpl hy hlen hst hent G W hsz hW hf hl hk hN hq (fun v h' hq' => by obtain ⟨z, e, hp⟩ := hq'; subst e; exact g z h' hp)
end
section
variable {y' : MethodName} {code' : ByteArray} {ml' : Nat} {ret' : Option FieldType} {R' : Room} {Ls' : Array Slot} {i : Nat}
theorem Go.callVIp {a : Addr} {C : String} (argsL : List Value) (rest : List Value) (q : Nat) (hd : decode code pc = .ok (.invokevirtual i, 3)) (w1 : (Cond.methodLink y.cls i y').before a0 Z = true) (w1' : (Cond.declares y').before a0 Z = true) (w1s : (Cond.selects C y' y').before a0 Z = true) (w2 : (Cond.instanceMethod y').before a0 Z = true) (w3 : (Cond.initialized y'.cls).before a0 Z = true) (w4 : (Cond.code y' code' ml' ret').before a0 Z = true) (E : Exa Z h a C)
    (hpl : plainFor y' = true) (hy : y'.cls ≠ "java/lang/invoke/MethodHandle" ∧ y'.cls ≠ "java/lang/invoke/VarHandle") (hlen : ∀ sig, parseMethodDescriptor y'.desc = some sig → argsL.length = sig.parameters.length) (hst : st = argsL.reverse ++ .ref a :: rest) (hent : ∀ m, entryFrame m (.ref a :: argsL).toArray ml' = mkF m 0 Ls' [])
    (F : Int32) (G : Go l Z y' code' ml' ret' R' (QI fun z h' => z = F ∧ h' = h) 0 0 h 0 Ls' []) (W : Nat) (hsz : Ls.size = ml) (hW : (rest.map fun v => v.category).sum ≤ W) (hf : R'.frames + 1 ≤ R.frames) (hl : W + (ml' + 11) + R'.locals ≤ R.locals) (hk : k + R'.cells ≤ R.cells) (hN : n + R'.slots ≤ R.slots) (hq : pc + 3 = q)
    (g : Go l Z y code ml ret R Q (k + R'.cells) (n + R'.slots) h q Ls (.int F :: rest)) : Go l Z y code ml ret R Q k n h pc Ls st := by
  exact Go.callV argsL rest q hd w1 w1' w1s w2 w3 w4 E hpl hy hlen hst hent G W hsz hW hf hl hk hN hq (fun v h' hq' => by obtain ⟨z, e, hp, hh⟩ := hq'; subst e; subst hh; rw [hp]; exact g)
end
section
variable {y' : MethodName} {code' : ByteArray} {ml' : Nat} {ret' : Option FieldType} {R' : Room} {Ls' : Array Slot} {i : Nat}
theorem Go.callVIe {a : Addr} {C : String} (argsL : List Value) (rest : List Value) (q : Nat) (hd : decode code pc = .ok (.invokevirtual i, 3)) (w1 : (Cond.methodLink y.cls i y').before a0 Z = true) (w1' : (Cond.declares y').before a0 Z = true) (w1s : (Cond.selects C y' y').before a0 Z = true) (w2 : (Cond.instanceMethod y').before a0 Z = true) (w3 : (Cond.initialized y'.cls).before a0 Z = true) (w4 : (Cond.code y' code' ml' ret').before a0 Z = true) (E : Exa Z h a C)
    (hpl : plainFor y' = true) (hy : y'.cls ≠ "java/lang/invoke/MethodHandle" ∧ y'.cls ≠ "java/lang/invoke/VarHandle") (hlen : ∀ sig, parseMethodDescriptor y'.desc = some sig → argsL.length = sig.parameters.length) (hst : st = argsL.reverse ++ .ref a :: rest) (hent : ∀ m, entryFrame m (.ref a :: argsL).toArray ml' = mkF m 0 Ls' [])
    (F : Int32) (P' : Heap → Prop) (G : Go l Z y' code' ml' ret' R' (QI fun z h' => z = F ∧ P' h') 0 0 h 0 Ls' []) (W : Nat) (hsz : Ls.size = ml) (hW : (rest.map fun v => v.category).sum ≤ W) (hf : R'.frames + 1 ≤ R.frames) (hl : W + (ml' + 11) + R'.locals ≤ R.locals) (hk : k + R'.cells ≤ R.cells) (hN : n + R'.slots ≤ R.slots) (hq : pc + 3 = q)
    (g : ∀ h', P' h' → Go l Z y code ml ret R Q (k + R'.cells) (n + R'.slots) h' q Ls (.int F :: rest)) : Go l Z y code ml ret R Q k n h pc Ls st := by
  exact Go.callV argsL rest q hd w1 w1' w1s w2 w3 w4 E hpl hy hlen hst hent G W hsz hW hf hl hk hN hq (fun v h' hq' => by obtain ⟨z, e, hp, hh⟩ := hq'; subst e; rw [hp]; exact g h' hh)
end
section
variable {y' : MethodName} {code' : ByteArray} {ml' : Nat} {ret' : Option FieldType} {R' : Room} {Ls' : Array Slot} {i : Nat}
theorem Go.callVJ {a : Addr} {C : String} (argsL : List Value) (rest : List Value) (q : Nat) (hd : decode code pc = .ok (.invokevirtual i, 3)) (w1 : (Cond.methodLink y.cls i y').before a0 Z = true) (w1' : (Cond.declares y').before a0 Z = true) (w1s : (Cond.selects C y' y').before a0 Z = true) (w2 : (Cond.instanceMethod y').before a0 Z = true) (w3 : (Cond.initialized y'.cls).before a0 Z = true) (w4 : (Cond.code y' code' ml' ret').before a0 Z = true) (E : Exa Z h a C)
    (hpl : plainFor y' = true) (hy : y'.cls ≠ "java/lang/invoke/MethodHandle" ∧ y'.cls ≠ "java/lang/invoke/VarHandle") (hlen : ∀ sig, parseMethodDescriptor y'.desc = some sig → argsL.length = sig.parameters.length) (hst : st = argsL.reverse ++ .ref a :: rest) (hent : ∀ m, entryFrame m (.ref a :: argsL).toArray ml' = mkF m 0 Ls' [])
    (P' : Int64 → Heap → Prop) (G : Go l Z y' code' ml' ret' R' (QJ P') 0 0 h 0 Ls' []) (W : Nat) (hsz : Ls.size = ml) (hW : (rest.map fun v => v.category).sum ≤ W) (hf : R'.frames + 1 ≤ R.frames) (hl : W + (ml' + 11) + R'.locals ≤ R.locals) (hk : k + R'.cells ≤ R.cells) (hN : n + R'.slots ≤ R.slots) (hq : pc + 3 = q)
    (g : ∀ (z : Int64) h', P' z h' → Go l Z y code ml ret R Q (k + R'.cells) (n + R'.slots) h' q Ls (.long z :: rest)) : Go l Z y code ml ret R Q k n h pc Ls st := by
  exact Go.callV argsL rest q hd w1 w1' w1s w2 w3 w4 E hpl hy hlen hst hent G W hsz hW hf hl hk hN hq (fun v h' hq' => by obtain ⟨z, e, hp⟩ := hq'; subst e; exact g z h' hp)
end
section
variable {y' : MethodName} {code' : ByteArray} {ml' : Nat} {ret' : Option FieldType} {R' : Room} {Ls' : Array Slot} {i : Nat}
theorem Go.callVJp {a : Addr} {C : String} (argsL : List Value) (rest : List Value) (q : Nat) (hd : decode code pc = .ok (.invokevirtual i, 3)) (w1 : (Cond.methodLink y.cls i y').before a0 Z = true) (w1' : (Cond.declares y').before a0 Z = true) (w1s : (Cond.selects C y' y').before a0 Z = true) (w2 : (Cond.instanceMethod y').before a0 Z = true) (w3 : (Cond.initialized y'.cls).before a0 Z = true) (w4 : (Cond.code y' code' ml' ret').before a0 Z = true) (E : Exa Z h a C)
    (hpl : plainFor y' = true) (hy : y'.cls ≠ "java/lang/invoke/MethodHandle" ∧ y'.cls ≠ "java/lang/invoke/VarHandle") (hlen : ∀ sig, parseMethodDescriptor y'.desc = some sig → argsL.length = sig.parameters.length) (hst : st = argsL.reverse ++ .ref a :: rest) (hent : ∀ m, entryFrame m (.ref a :: argsL).toArray ml' = mkF m 0 Ls' [])
    (F : Int64) (G : Go l Z y' code' ml' ret' R' (QJ fun z h' => z = F ∧ h' = h) 0 0 h 0 Ls' []) (W : Nat) (hsz : Ls.size = ml) (hW : (rest.map fun v => v.category).sum ≤ W) (hf : R'.frames + 1 ≤ R.frames) (hl : W + (ml' + 11) + R'.locals ≤ R.locals) (hk : k + R'.cells ≤ R.cells) (hN : n + R'.slots ≤ R.slots) (hq : pc + 3 = q)
    (g : Go l Z y code ml ret R Q (k + R'.cells) (n + R'.slots) h q Ls (.long F :: rest)) : Go l Z y code ml ret R Q k n h pc Ls st := by
  exact Go.callV argsL rest q hd w1 w1' w1s w2 w3 w4 E hpl hy hlen hst hent G W hsz hW hf hl hk hN hq (fun v h' hq' => by obtain ⟨z, e, hp, hh⟩ := hq'; subst e; subst hh; rw [hp]; exact g)
end
section
variable {y' : MethodName} {code' : ByteArray} {ml' : Nat} {ret' : Option FieldType} {R' : Room} {Ls' : Array Slot} {i : Nat}
theorem Go.callVJe {a : Addr} {C : String} (argsL : List Value) (rest : List Value) (q : Nat) (hd : decode code pc = .ok (.invokevirtual i, 3)) (w1 : (Cond.methodLink y.cls i y').before a0 Z = true) (w1' : (Cond.declares y').before a0 Z = true) (w1s : (Cond.selects C y' y').before a0 Z = true) (w2 : (Cond.instanceMethod y').before a0 Z = true) (w3 : (Cond.initialized y'.cls).before a0 Z = true) (w4 : (Cond.code y' code' ml' ret').before a0 Z = true) (E : Exa Z h a C)
    (hpl : plainFor y' = true) (hy : y'.cls ≠ "java/lang/invoke/MethodHandle" ∧ y'.cls ≠ "java/lang/invoke/VarHandle") (hlen : ∀ sig, parseMethodDescriptor y'.desc = some sig → argsL.length = sig.parameters.length) (hst : st = argsL.reverse ++ .ref a :: rest) (hent : ∀ m, entryFrame m (.ref a :: argsL).toArray ml' = mkF m 0 Ls' [])
    (F : Int64) (P' : Heap → Prop) (G : Go l Z y' code' ml' ret' R' (QJ fun z h' => z = F ∧ P' h') 0 0 h 0 Ls' []) (W : Nat) (hsz : Ls.size = ml) (hW : (rest.map fun v => v.category).sum ≤ W) (hf : R'.frames + 1 ≤ R.frames) (hl : W + (ml' + 11) + R'.locals ≤ R.locals) (hk : k + R'.cells ≤ R.cells) (hN : n + R'.slots ≤ R.slots) (hq : pc + 3 = q)
    (g : ∀ h', P' h' → Go l Z y code ml ret R Q (k + R'.cells) (n + R'.slots) h' q Ls (.long F :: rest)) : Go l Z y code ml ret R Q k n h pc Ls st := by
  exact Go.callV argsL rest q hd w1 w1' w1s w2 w3 w4 E hpl hy hlen hst hent G W hsz hW hf hl hk hN hq (fun v h' hq' => by obtain ⟨z, e, hp, hh⟩ := hq'; subst e; rw [hp]; exact g h' hh)
end
section
variable {y' : MethodName} {code' : ByteArray} {ml' : Nat} {ret' : Option FieldType} {R' : Room} {Ls' : Array Slot} {i : Nat}
theorem Go.callVR {a : Addr} {C : String} (argsL : List Value) (rest : List Value) (q : Nat) (hd : decode code pc = .ok (.invokevirtual i, 3)) (w1 : (Cond.methodLink y.cls i y').before a0 Z = true) (w1' : (Cond.declares y').before a0 Z = true) (w1s : (Cond.selects C y' y').before a0 Z = true) (w2 : (Cond.instanceMethod y').before a0 Z = true) (w3 : (Cond.initialized y'.cls).before a0 Z = true) (w4 : (Cond.code y' code' ml' ret').before a0 Z = true) (E : Exa Z h a C)
    (hpl : plainFor y' = true) (hy : y'.cls ≠ "java/lang/invoke/MethodHandle" ∧ y'.cls ≠ "java/lang/invoke/VarHandle") (hlen : ∀ sig, parseMethodDescriptor y'.desc = some sig → argsL.length = sig.parameters.length) (hst : st = argsL.reverse ++ .ref a :: rest) (hent : ∀ m, entryFrame m (.ref a :: argsL).toArray ml' = mkF m 0 Ls' [])
    (P' : Value → Heap → Prop) (G : Go l Z y' code' ml' ret' R' (QR P') 0 0 h 0 Ls' []) (W : Nat) (hsz : Ls.size = ml) (hW : (rest.map fun v => v.category).sum ≤ W) (hf : R'.frames + 1 ≤ R.frames) (hl : W + (ml' + 11) + R'.locals ≤ R.locals) (hk : k + R'.cells ≤ R.cells) (hN : n + R'.slots ≤ R.slots) (hq : pc + 3 = q)
    (g : ∀ (z : Value) h', P' z h' → Go l Z y code ml ret R Q (k + R'.cells) (n + R'.slots) h' q Ls ( z :: rest)) : Go l Z y code ml ret R Q k n h pc Ls st := by
  exact Go.callV argsL rest q hd w1 w1' w1s w2 w3 w4 E hpl hy hlen hst hent G W hsz hW hf hl hk hN hq (fun v h' hq' => by obtain ⟨z, e, hp⟩ := hq'; subst e; exact g z h' hp)
end
section
variable {y' : MethodName} {code' : ByteArray} {ml' : Nat} {ret' : Option FieldType} {R' : Room} {Ls' : Array Slot} {i : Nat}
theorem Go.callVRp {a : Addr} {C : String} (argsL : List Value) (rest : List Value) (q : Nat) (hd : decode code pc = .ok (.invokevirtual i, 3)) (w1 : (Cond.methodLink y.cls i y').before a0 Z = true) (w1' : (Cond.declares y').before a0 Z = true) (w1s : (Cond.selects C y' y').before a0 Z = true) (w2 : (Cond.instanceMethod y').before a0 Z = true) (w3 : (Cond.initialized y'.cls).before a0 Z = true) (w4 : (Cond.code y' code' ml' ret').before a0 Z = true) (E : Exa Z h a C)
    (hpl : plainFor y' = true) (hy : y'.cls ≠ "java/lang/invoke/MethodHandle" ∧ y'.cls ≠ "java/lang/invoke/VarHandle") (hlen : ∀ sig, parseMethodDescriptor y'.desc = some sig → argsL.length = sig.parameters.length) (hst : st = argsL.reverse ++ .ref a :: rest) (hent : ∀ m, entryFrame m (.ref a :: argsL).toArray ml' = mkF m 0 Ls' [])
    (F : Value) (G : Go l Z y' code' ml' ret' R' (QR fun z h' => z = F ∧ h' = h) 0 0 h 0 Ls' []) (W : Nat) (hsz : Ls.size = ml) (hW : (rest.map fun v => v.category).sum ≤ W) (hf : R'.frames + 1 ≤ R.frames) (hl : W + (ml' + 11) + R'.locals ≤ R.locals) (hk : k + R'.cells ≤ R.cells) (hN : n + R'.slots ≤ R.slots) (hq : pc + 3 = q)
    (g : Go l Z y code ml ret R Q (k + R'.cells) (n + R'.slots) h q Ls ( F :: rest)) : Go l Z y code ml ret R Q k n h pc Ls st := by
  exact Go.callV argsL rest q hd w1 w1' w1s w2 w3 w4 E hpl hy hlen hst hent G W hsz hW hf hl hk hN hq (fun v h' hq' => by obtain ⟨z, e, hp, hh⟩ := hq'; subst e; subst hh; rw [hp]; exact g)
end
section
variable {y' : MethodName} {code' : ByteArray} {ml' : Nat} {ret' : Option FieldType} {R' : Room} {Ls' : Array Slot} {i : Nat}
theorem Go.callVRe {a : Addr} {C : String} (argsL : List Value) (rest : List Value) (q : Nat) (hd : decode code pc = .ok (.invokevirtual i, 3)) (w1 : (Cond.methodLink y.cls i y').before a0 Z = true) (w1' : (Cond.declares y').before a0 Z = true) (w1s : (Cond.selects C y' y').before a0 Z = true) (w2 : (Cond.instanceMethod y').before a0 Z = true) (w3 : (Cond.initialized y'.cls).before a0 Z = true) (w4 : (Cond.code y' code' ml' ret').before a0 Z = true) (E : Exa Z h a C)
    (hpl : plainFor y' = true) (hy : y'.cls ≠ "java/lang/invoke/MethodHandle" ∧ y'.cls ≠ "java/lang/invoke/VarHandle") (hlen : ∀ sig, parseMethodDescriptor y'.desc = some sig → argsL.length = sig.parameters.length) (hst : st = argsL.reverse ++ .ref a :: rest) (hent : ∀ m, entryFrame m (.ref a :: argsL).toArray ml' = mkF m 0 Ls' [])
    (F : Value) (P' : Heap → Prop) (G : Go l Z y' code' ml' ret' R' (QR fun z h' => z = F ∧ P' h') 0 0 h 0 Ls' []) (W : Nat) (hsz : Ls.size = ml) (hW : (rest.map fun v => v.category).sum ≤ W) (hf : R'.frames + 1 ≤ R.frames) (hl : W + (ml' + 11) + R'.locals ≤ R.locals) (hk : k + R'.cells ≤ R.cells) (hN : n + R'.slots ≤ R.slots) (hq : pc + 3 = q)
    (g : ∀ h', P' h' → Go l Z y code ml ret R Q (k + R'.cells) (n + R'.slots) h' q Ls ( F :: rest)) : Go l Z y code ml ret R Q k n h pc Ls st := by
  exact Go.callV argsL rest q hd w1 w1' w1s w2 w3 w4 E hpl hy hlen hst hent G W hsz hW hf hl hk hN hq (fun v h' hq' => by obtain ⟨z, e, hp, hh⟩ := hq'; subst e; rw [hp]; exact g h' hh)
end
section
variable {y' : MethodName} {code' : ByteArray} {ml' : Nat} {ret' : Option FieldType} {R' : Room} {Ls' : Array Slot} {i : Nat}
theorem Go.callVV {a : Addr} {C : String} (argsL : List Value) (rest : List Value) (q : Nat) (hd : decode code pc = .ok (.invokevirtual i, 3)) (w1 : (Cond.methodLink y.cls i y').before a0 Z = true) (w1' : (Cond.declares y').before a0 Z = true) (w1s : (Cond.selects C y' y').before a0 Z = true) (w2 : (Cond.instanceMethod y').before a0 Z = true) (w3 : (Cond.initialized y'.cls).before a0 Z = true) (w4 : (Cond.code y' code' ml' ret').before a0 Z = true) (E : Exa Z h a C)
    (hpl : plainFor y' = true) (hy : y'.cls ≠ "java/lang/invoke/MethodHandle" ∧ y'.cls ≠ "java/lang/invoke/VarHandle") (hlen : ∀ sig, parseMethodDescriptor y'.desc = some sig → argsL.length = sig.parameters.length) (hst : st = argsL.reverse ++ .ref a :: rest) (hent : ∀ m, entryFrame m (.ref a :: argsL).toArray ml' = mkF m 0 Ls' [])
    (P' : Heap → Prop) (G : Go l Z y' code' ml' ret' R' (QV P') 0 0 h 0 Ls' []) (W : Nat) (hsz : Ls.size = ml) (hW : (rest.map fun v => v.category).sum ≤ W) (hf : R'.frames + 1 ≤ R.frames) (hl : W + (ml' + 11) + R'.locals ≤ R.locals) (hk : k + R'.cells ≤ R.cells) (hN : n + R'.slots ≤ R.slots) (hq : pc + 3 = q)
    (g : ∀ h', P' h' → Go l Z y code ml ret R Q (k + R'.cells) (n + R'.slots) h' q Ls rest) : Go l Z y code ml ret R Q k n h pc Ls st := by
  exact Go.callV argsL rest q hd w1 w1' w1s w2 w3 w4 E hpl hy hlen hst hent G W hsz hW hf hl hk hN hq (fun v h' hq' => by obtain ⟨e, hp⟩ := hq'; subst e; exact g h' hp)
end
section
variable {y' : MethodName} {code' : ByteArray} {ml' : Nat} {ret' : Option FieldType} {R' : Room} {Ls' : Array Slot} {i : Nat}
theorem Go.callVVp {a : Addr} {C : String} (argsL : List Value) (rest : List Value) (q : Nat) (hd : decode code pc = .ok (.invokevirtual i, 3)) (w1 : (Cond.methodLink y.cls i y').before a0 Z = true) (w1' : (Cond.declares y').before a0 Z = true) (w1s : (Cond.selects C y' y').before a0 Z = true) (w2 : (Cond.instanceMethod y').before a0 Z = true) (w3 : (Cond.initialized y'.cls).before a0 Z = true) (w4 : (Cond.code y' code' ml' ret').before a0 Z = true) (E : Exa Z h a C)
    (hpl : plainFor y' = true) (hy : y'.cls ≠ "java/lang/invoke/MethodHandle" ∧ y'.cls ≠ "java/lang/invoke/VarHandle") (hlen : ∀ sig, parseMethodDescriptor y'.desc = some sig → argsL.length = sig.parameters.length) (hst : st = argsL.reverse ++ .ref a :: rest) (hent : ∀ m, entryFrame m (.ref a :: argsL).toArray ml' = mkF m 0 Ls' [])
    (G : Go l Z y' code' ml' ret' R' (QV fun h' => h' = h) 0 0 h 0 Ls' []) (W : Nat) (hsz : Ls.size = ml) (hW : (rest.map fun v => v.category).sum ≤ W) (hf : R'.frames + 1 ≤ R.frames) (hl : W + (ml' + 11) + R'.locals ≤ R.locals) (hk : k + R'.cells ≤ R.cells) (hN : n + R'.slots ≤ R.slots) (hq : pc + 3 = q)
    (g : Go l Z y code ml ret R Q (k + R'.cells) (n + R'.slots) h q Ls rest) : Go l Z y code ml ret R Q k n h pc Ls st := by
  exact Go.callV argsL rest q hd w1 w1' w1s w2 w3 w4 E hpl hy hlen hst hent G W hsz hW hf hl hk hN hq (fun v h' hq' => by obtain ⟨e, hp⟩ := hq'; subst e; subst hp; exact g)
end



theorem own_eqf {args : Array Value} {s : State} {t : Term} {O n d : String} {v : Int32} {x : Addr} (ht : t.eval args s none [] s = some (.ref x)) (h : (Jvm.Cond.eq (Term.field t O n d) (Term.int v)).value args s none s [] = some true) : Fld s s.heap x O n d (.int v) := by
  apply Fld.start
  have e := fld_at (C := O) (n := n) (dd := d) ht
  have i : (Term.int v).eval args s none [] s = some (.int v) := Term.int_eval v
  simp only [Jvm.Cond.value, e, i] at h
  cases q : s.fieldOf? x O n d with
  | none => rw [q] at h; simp at h
  | some w =>
    rw [q] at h
    cases w <;> simp at h
    rw [h]
/-- an array of ints, shorts, chars, bytes or booleans, with its elements -/
def Ari (Z : State) (h : Heap) (a : Addr) (ty : FieldType) (xs : List Int32) : Prop := ∃ c : Cell, Arr Z h a c ty ∧ c.slots.toList = xs.map Value.int ∧ xs.length < 2147483648
def Arj (Z : State) (h : Heap) (a : Addr) (xs : List Int64) : Prop := ∃ c : Cell, Arr Z h a c .long ∧ c.slots.toList = xs.map Value.long ∧ xs.length < 2147483648
theorem Ari.lt {a : Addr} {ty : FieldType} {xs : List Int32} (F : Ari Z h a ty xs) : a < h.size := by obtain ⟨c, A, -⟩ := F; exact A.lt
theorem Arj.lt {a : Addr} {xs : List Int64} (F : Arj Z h a xs) : a < h.size := by obtain ⟨c, A, -⟩ := F; exact A.lt
theorem Ari.ext {h' : Heap} {a : Addr} {ty : FieldType} {xs : List Int32} (F : Ari Z h a ty xs) (E : Ext h h') : Ari Z h' a ty xs := by obtain ⟨c, A, r⟩ := F; exact ⟨c, A.ext E, r⟩
theorem Arj.ext {h' : Heap} {a : Addr} {xs : List Int64} (F : Arj Z h a xs) (E : Ext h h') : Arj Z h' a xs := by obtain ⟨c, A, r⟩ := F; exact ⟨c, A.ext E, r⟩
theorem Ari.other {h' : Heap} {a b : Addr} {sl : Nat} {v : Value} {ty : FieldType} {xs : List Int32} (F : Ari Z h b ty xs) (W : Wr h h' a sl v) (q : b ≠ a) : Ari Z h' b ty xs := by obtain ⟨c, A, r⟩ := F; exact ⟨c, A.other W q, r⟩
theorem Arj.other {h' : Heap} {a b : Addr} {sl : Nat} {v : Value} {xs : List Int64} (F : Arj Z h b xs) (W : Wr h h' a sl v) (q : b ≠ a) : Arj Z h' b xs := by obtain ⟨c, A, r⟩ := F; exact ⟨c, A.other W q, r⟩
theorem Ari.keep {h' : Heap} {a : Addr} {ws : List Addr} {ty : FieldType} {xs : List Int32} (F : Ari Z h a ty xs) (K : Keep h h' ws) (q : a ∉ ws) : Ari Z h' a ty xs := by obtain ⟨c, A, r⟩ := F; exact ⟨c, ⟨K.2.1 _ _ A.1 q, A.2⟩, r⟩
theorem Arj.keep {h' : Heap} {a : Addr} {ws : List Addr} {xs : List Int64} (F : Arj Z h a xs) (K : Keep h h' ws) (q : a ∉ ws) : Arj Z h' a xs := by obtain ⟨c, A, r⟩ := F; exact ⟨c, ⟨K.2.1 _ _ A.1 q, A.2⟩, r⟩
theorem own_size {c : Cell} {α : Type} {f : α → Value} {xs : List α} (e : c.slots.toList = xs.map f) : c.slots.size = xs.length := by
  have q := congrArg List.length e
  simpa using q
theorem own_at {c : Cell} {α : Type} {f : α → Value} {xs : List α} (e : c.slots.toList = xs.map f) {i : Nat} {x : α} (hx : xs[i]? = some x) : c.slots[i]? = some (f x) := by
  have q : c.slots.toList[i]? = some (f x) := by rw [e, List.getElem?_map, hx]; rfl
  simpa using q
theorem own_in {c : Cell} {α : Type} {f : α → Value} {xs : List α} (e : c.slots.toList = xs.map f) {i : Nat} {j : Int32} (hj : ¬ j < 0) (hi : j.toNatClampNeg = i) (hx : i < xs.length) : ¬ (j < 0 ∨ c.slots.size ≤ j.toNatClampNeg) := by
  rw [own_size e, hi]; intro q; rcases q with q | q
  · exact hj q
  · exact absurd hx (Nat.not_lt.mpr q)
theorem own_set {c : Cell} {α : Type} {f : α → Value} {xs : List α} (e : c.slots.toList = xs.map f) (i : Nat) (x : α) : (c.setSlot i (f x)).slots.toList = (xs.set i x).map f := by
  show (c.slots.setIfInBounds i (f x)).toList = _
  rw [Array.toList_setIfInBounds, e, List.map_set]
theorem Ari.set {h' : Heap} {a : Addr} {ty : FieldType} {xs xs' : List Int32} {i : Nat} {x : Int32} (F : Ari Z h a ty xs) (W : Wr h h' a i (.int x)) (e : xs.set i x = xs') : Ari Z h' a ty xs' := by
  subst e
  obtain ⟨c, A, r, r2⟩ := F
  exact ⟨_, A.same W, own_set r i x, by rw [List.length_set]; exact r2⟩
theorem Arj.set {h' : Heap} {a : Addr} {xs xs' : List Int64} {i : Nat} {x : Int64} (F : Arj Z h a xs) (W : Wr h h' a i (.long x)) (e : xs.set i x = xs') : Arj Z h' a xs' := by
  subst e
  obtain ⟨c, A, r, r2⟩ := F
  exact ⟨_, A.same W, own_set r i x, by rw [List.length_set]; exact r2⟩

theorem Go.iaload {a : Addr} {j x : Int32} {xs : List Int32} (i : Nat) (q : Nat) (hd : decode code pc = .ok (.iaload, 1)) (A : Ari Z h a .int xs) (hj : ¬ j < 0) (hi : j.toNatClampNeg = i) (hx : xs[i]? = some x) (hq : pc + 1 = q) (g : Go l Z y code ml ret R Q k n h q Ls (.int x :: st)) : Go l Z y code ml ret R Q k n h pc Ls (.int j :: .ref a :: st) := by
  subst hq hi
  obtain ⟨cl, A, r, r2⟩ := A
  have hv := own_at r hx
  have hin := own_in r hj rfl (List.getElem?_eq_some_iff.mp hx).1
  exact g.pure fun p e s m args below meth c K T L k' n' X hT t rr => X.iaload K.1 (cell := cl) (v := .int x) (by rw [hT]; exact A.1) (State.isArrayOf_alike K.2.2.1.alike A.2.1) A.2.2 hin hv (g := mkF m pc Ls (.int j :: .ref a :: st)) rfl rfl (hb K.2.1 hd) t rr
theorem Go.baload {a : Addr} {j x : Int32} {xs : List Int32} (i : Nat) (q : Nat) (hd : decode code pc = .ok (.baload, 1)) (A : Ari Z h a .byte xs) (hj : ¬ j < 0) (hi : j.toNatClampNeg = i) (hx : xs[i]? = some x) (hq : pc + 1 = q) (g : Go l Z y code ml ret R Q k n h q Ls (.int x :: st)) : Go l Z y code ml ret R Q k n h pc Ls (.int j :: .ref a :: st) := by
  subst hq hi
  obtain ⟨cl, A, r, r2⟩ := A
  have hv := own_at r hx
  have hin := own_in r hj rfl (List.getElem?_eq_some_iff.mp hx).1
  exact g.pure fun p e s m args below meth c K T L k' n' X hT t rr => X.baloadBytes K.1 (cell := cl) (v := .int x) (by rw [hT]; exact A.1) (State.isArrayOf_alike K.2.2.1.alike A.2.1) A.2.2 hin hv (g := mkF m pc Ls (.int j :: .ref a :: st)) rfl rfl (hb K.2.1 hd) t rr
theorem Go.zaload {a : Addr} {j x : Int32} {xs : List Int32} (i : Nat) (q : Nat) (hd : decode code pc = .ok (.baload, 1)) (A : Ari Z h a .boolean xs) (hj : ¬ j < 0) (hi : j.toNatClampNeg = i) (hx : xs[i]? = some x) (hq : pc + 1 = q) (g : Go l Z y code ml ret R Q k n h q Ls (.int x :: st)) : Go l Z y code ml ret R Q k n h pc Ls (.int j :: .ref a :: st) := by
  subst hq hi
  obtain ⟨cl, A, r, r2⟩ := A
  have hv := own_at r hx
  have hin := own_in r hj rfl (List.getElem?_eq_some_iff.mp hx).1
  exact g.pure fun p e s m args below meth c K T L k' n' X hT t rr => X.baloadBooleans K.1 (cell := cl) (v := .int x) (by rw [hT]; exact A.1) (State.isArrayOf_alike K.2.2.1.alike A.2.1) A.2.2 hin hv (g := mkF m pc Ls (.int j :: .ref a :: st)) rfl rfl (hb K.2.1 hd) t rr
theorem Go.caload {a : Addr} {j x : Int32} {xs : List Int32} (i : Nat) (q : Nat) (hd : decode code pc = .ok (.caload, 1)) (A : Ari Z h a .char xs) (hj : ¬ j < 0) (hi : j.toNatClampNeg = i) (hx : xs[i]? = some x) (hq : pc + 1 = q) (g : Go l Z y code ml ret R Q k n h q Ls (.int x :: st)) : Go l Z y code ml ret R Q k n h pc Ls (.int j :: .ref a :: st) := by
  subst hq hi
  obtain ⟨cl, A, r, r2⟩ := A
  have hv := own_at r hx
  have hin := own_in r hj rfl (List.getElem?_eq_some_iff.mp hx).1
  exact g.pure fun p e s m args below meth c K T L k' n' X hT t rr => X.caload K.1 (cell := cl) (v := .int x) (by rw [hT]; exact A.1) (State.isArrayOf_alike K.2.2.1.alike A.2.1) A.2.2 hin hv (g := mkF m pc Ls (.int j :: .ref a :: st)) rfl rfl (hb K.2.1 hd) t rr
theorem Go.laload {a : Addr} {j : Int32} {x : Int64} {xs : List Int64} (i : Nat) (q : Nat) (hd : decode code pc = .ok (.laload, 1)) (A : Arj Z h a xs) (hj : ¬ j < 0) (hi : j.toNatClampNeg = i) (hx : xs[i]? = some x) (hq : pc + 1 = q) (g : Go l Z y code ml ret R Q k n h q Ls (.long x :: st)) : Go l Z y code ml ret R Q k n h pc Ls (.int j :: .ref a :: st) := by
  subst hq hi
  obtain ⟨cl, A, r, r2⟩ := A
  have hv := own_at r hx
  have hin := own_in r hj rfl (List.getElem?_eq_some_iff.mp hx).1
  exact g.pure fun p e s m args below meth c K T L k' n' X hT t rr => X.laload K.1 (cell := cl) (v := .long x) (by rw [hT]; exact A.1) (State.isArrayOf_alike K.2.2.1.alike A.2.1) A.2.2 hin hv (g := mkF m pc Ls (.int j :: .ref a :: st)) rfl rfl (hb K.2.1 hd) t rr
theorem Go.arraylength {a : Addr} {ty : FieldType} {xs : List Int32} {z : Int32} (q : Nat) (hd : decode code pc = .ok (.arraylength, 1)) (A : Ari Z h a ty xs) (hz : xs.length.toInt32 = z) (hq : pc + 1 = q) (g : Go l Z y code ml ret R Q k n h q Ls (.int z :: st)) : Go l Z y code ml ret R Q k n h pc Ls (.ref a :: st) := by
  subst hq
  obtain ⟨cl, A, r, r2⟩ := A
  subst hz
  exact g.pure fun p e s m args below meth c K T L k' n' X hT t rr => X.arraylength K.1 (cell := cl) (by rw [hT]; exact A.1) (State.isArrayOf_alike K.2.2.1.alike A.2.1) (g := mkF m pc Ls (.ref a :: st)) rfl rfl (hb K.2.1 hd) t (by rw [own_size r]; exact rr)
theorem Go.arraylengthJ {a : Addr} {xs : List Int64} {z : Int32} (q : Nat) (hd : decode code pc = .ok (.arraylength, 1)) (A : Arj Z h a xs) (hz : xs.length.toInt32 = z) (hq : pc + 1 = q) (g : Go l Z y code ml ret R Q k n h q Ls (.int z :: st)) : Go l Z y code ml ret R Q k n h pc Ls (.ref a :: st) := by
  subst hq
  obtain ⟨cl, A, r, r2⟩ := A
  subst hz
  exact g.pure fun p e s m args below meth c K T L k' n' X hT t rr => X.arraylength K.1 (cell := cl) (by rw [hT]; exact A.1) (State.isArrayOf_alike K.2.2.1.alike A.2.1) (g := mkF m pc Ls (.ref a :: st)) rfl rfl (hb K.2.1 hd) t (by rw [own_size r]; exact rr)
theorem Go.iastore {a : Addr} {j x : Int32} {xs : List Int32} (i : Nat) (xs' : List Int32) (q : Nat) (hd : decode code pc = .ok (.iastore, 1)) (A : Ari Z h a .int xs) (hj : ¬ j < 0) (hi : j.toNatClampNeg = i) (hx : i < xs.length) (he : xs.set i (x) = xs') (hge : Z.heap.size ≤ a) (hq : pc + 1 = q)
    (g : ∀ h', Wr h h' a i (.int (x)) → Ari Z h' a .int xs' → Go l Z y code ml ret R Q k n h' q Ls st) : Go l Z y code ml ret R Q k n h pc Ls (.int x :: .int j :: .ref a :: st) := by
  subst hq hi
  refine Go.move (P := fun h' => Wr h h' a j.toNatClampNeg (.int (x))) (kk := k) (nn := n) (fun h' W => g h' W (A.set W he)) ?_
  obtain ⟨cl, A, r, r2⟩ := A
  intro p e s m args below meth c K T L k' n' X h1 h2 N hT
  obtain ⟨T', h', X', e', W', s'⟩ := stI X K.1 K.2.2.1 hT A (own_in r hj rfl hx) (g := mkF m pc Ls (.int x :: .int j :: .ref a :: st)) rfl rfl (hb K.2.1 hd)
  exact ⟨T', _, k', n', X', h1, h2, Fr.snoc X' N hge, e' ▸ W', s'⟩
theorem Go.bastore {a : Addr} {j x : Int32} {xs : List Int32} (i : Nat) (xs' : List Int32) (q : Nat) (hd : decode code pc = .ok (.bastore, 1)) (A : Ari Z h a .byte xs) (hj : ¬ j < 0) (hi : j.toNatClampNeg = i) (hx : i < xs.length) (he : xs.set i (nar .byte x) = xs') (hge : Z.heap.size ≤ a) (hq : pc + 1 = q)
    (g : ∀ h', Wr h h' a i (.int (nar .byte x)) → Ari Z h' a .byte xs' → Go l Z y code ml ret R Q k n h' q Ls st) : Go l Z y code ml ret R Q k n h pc Ls (.int x :: .int j :: .ref a :: st) := by
  subst hq hi
  refine Go.move (P := fun h' => Wr h h' a j.toNatClampNeg (.int (nar .byte x))) (kk := k) (nn := n) (fun h' W => g h' W (A.set W he)) ?_
  obtain ⟨cl, A, r, r2⟩ := A
  intro p e s m args below meth c K T L k' n' X h1 h2 N hT
  obtain ⟨T', h', X', e', W', s'⟩ := stB X K.1 K.2.2.1 hT A (own_in r hj rfl hx) (g := mkF m pc Ls (.int x :: .int j :: .ref a :: st)) rfl rfl (hb K.2.1 hd)
  exact ⟨T', _, k', n', X', h1, h2, Fr.snoc X' N hge, e' ▸ W', s'⟩
theorem Go.zastore {a : Addr} {j x : Int32} {xs : List Int32} (i : Nat) (xs' : List Int32) (q : Nat) (hd : decode code pc = .ok (.bastore, 1)) (A : Ari Z h a .boolean xs) (hj : ¬ j < 0) (hi : j.toNatClampNeg = i) (hx : i < xs.length) (he : xs.set i (nar .boolean x) = xs') (hge : Z.heap.size ≤ a) (hq : pc + 1 = q)
    (g : ∀ h', Wr h h' a i (.int (nar .boolean x)) → Ari Z h' a .boolean xs' → Go l Z y code ml ret R Q k n h' q Ls st) : Go l Z y code ml ret R Q k n h pc Ls (.int x :: .int j :: .ref a :: st) := by
  subst hq hi
  refine Go.move (P := fun h' => Wr h h' a j.toNatClampNeg (.int (nar .boolean x))) (kk := k) (nn := n) (fun h' W => g h' W (A.set W he)) ?_
  obtain ⟨cl, A, r, r2⟩ := A
  intro p e s m args below meth c K T L k' n' X h1 h2 N hT
  obtain ⟨T', h', X', e', W', s'⟩ := stZ X K.1 K.2.2.1 hT A (own_in r hj rfl hx) (g := mkF m pc Ls (.int x :: .int j :: .ref a :: st)) rfl rfl (hb K.2.1 hd)
  exact ⟨T', _, k', n', X', h1, h2, Fr.snoc X' N hge, e' ▸ W', s'⟩
theorem Go.castore {a : Addr} {j x : Int32} {xs : List Int32} (i : Nat) (xs' : List Int32) (q : Nat) (hd : decode code pc = .ok (.castore, 1)) (A : Ari Z h a .char xs) (hj : ¬ j < 0) (hi : j.toNatClampNeg = i) (hx : i < xs.length) (he : xs.set i (nar .char x) = xs') (hge : Z.heap.size ≤ a) (hq : pc + 1 = q)
    (g : ∀ h', Wr h h' a i (.int (nar .char x)) → Ari Z h' a .char xs' → Go l Z y code ml ret R Q k n h' q Ls st) : Go l Z y code ml ret R Q k n h pc Ls (.int x :: .int j :: .ref a :: st) := by
  subst hq hi
  refine Go.move (P := fun h' => Wr h h' a j.toNatClampNeg (.int (nar .char x))) (kk := k) (nn := n) (fun h' W => g h' W (A.set W he)) ?_
  obtain ⟨cl, A, r, r2⟩ := A
  intro p e s m args below meth c K T L k' n' X h1 h2 N hT
  obtain ⟨T', h', X', e', W', s'⟩ := stC X K.1 K.2.2.1 hT A (own_in r hj rfl hx) (g := mkF m pc Ls (.int x :: .int j :: .ref a :: st)) rfl rfl (hb K.2.1 hd)
  exact ⟨T', _, k', n', X', h1, h2, Fr.snoc X' N hge, e' ▸ W', s'⟩
theorem Go.lastore {a : Addr} {j : Int32} {x : Int64} {xs : List Int64} (i : Nat) (xs' : List Int64) (q : Nat) (hd : decode code pc = .ok (.lastore, 1)) (A : Arj Z h a xs) (hj : ¬ j < 0) (hi : j.toNatClampNeg = i) (hx : i < xs.length) (he : xs.set i x = xs') (hge : Z.heap.size ≤ a) (hq : pc + 1 = q)
    (g : ∀ h', Wr h h' a i (.long x) → Arj Z h' a xs' → Go l Z y code ml ret R Q k n h' q Ls st) : Go l Z y code ml ret R Q k n h pc Ls (.long x :: .int j :: .ref a :: st) := by
  subst hq hi
  refine Go.move (P := fun h' => Wr h h' a j.toNatClampNeg (.long x)) (kk := k) (nn := n) (fun h' W => g h' W (A.set W he)) ?_
  obtain ⟨cl, A, r, r2⟩ := A
  intro p e s m args below meth c K T L k' n' X h1 h2 N hT
  obtain ⟨T', h', X', e', W', s'⟩ := stJ X K.1 K.2.2.1 hT A (own_in r hj rfl hx) (g := mkF m pc Ls (.long x :: .int j :: .ref a :: st)) rfl rfl (hb K.2.1 hd)
  exact ⟨T', _, k', n', X', h1, h2, Fr.snoc X' N hge, e' ▸ W', s'⟩
theorem Go.newI {aty : ArrayType} {z : Int32} (cap : Nat) (xs : List Int32) (q : Nat) (hd : decode code pc = .ok (.newarray aty, 2)) (w : (Cond.arrayClass (newarray.typeOf aty)).before a0 Z = true) (hdv : defaultValue (newarray.typeOf aty) = .int 0) (hz : ¬ z < 0) (hcap : z.toNatClampNeg ≤ cap) (hbig : cap * 8 ≤ 536870912) (hxs : List.replicate z.toNatClampNeg 0 = xs) (hk : k + 1 ≤ R.cells) (hN : n + cap ≤ R.slots) (hq : pc + 2 = q)
    (g : ∀ (a : Addr) h', a = h.size → Ext h h' → Ari Z h' a (newarray.typeOf aty) xs → Go l Z y code ml ret R Q (k + 1) (n + cap) h' q Ls (.ref a :: st)) : Go l Z y code ml ret R Q k n h pc Ls (.int z :: st) := by
  subst hq hxs
  refine Go.move (P := fun h' => Ext h h' ∧ Ari Z h' h.size (newarray.typeOf aty) (List.replicate z.toNatClampNeg 0)) (kk := k + 1) (nn := n + cap) (fun h' p => g h.size h' rfl p.1 p.2) ?_
  intro p e s m args below meth c K T L k' n' X h1 h2 N hT
  obtain ⟨T', h', cA, X', e', E', A', s'⟩ := newP X K.1 K.2.2.1 w hT (g := mkF m pc Ls (.int z :: st)) rfl (hb K.2.1 hd) rfl hz hcap hbig (Nat.le_trans (Nat.add_le_add_right h1 1) hk) (Nat.le_trans (Nat.add_le_add_right h2 cap) hN)
  subst e'
  refine ⟨T', L, k' + 1, n' + cap, X', Nat.add_le_add_right h1 1, Nat.add_le_add_right h2 cap, N, ⟨E', _, A', ?_, ?_⟩, s'⟩
  · show (Array.replicate z.toNatClampNeg (defaultValue (newarray.typeOf aty))).toList = _
    rw [hdv]; simp [List.map_replicate]
  · rw [List.length_replicate]; omega
theorem Go.newJ {aty : ArrayType} {z : Int32} (cap : Nat) (xs : List Int64) (q : Nat) (hd : decode code pc = .ok (.newarray aty, 2)) (w : (Cond.arrayClass (newarray.typeOf aty)).before a0 Z = true) (hdv : newarray.typeOf aty = .long) (hz : ¬ z < 0) (hcap : z.toNatClampNeg ≤ cap) (hbig : cap * 8 ≤ 536870912) (hxs : List.replicate z.toNatClampNeg 0 = xs) (hk : k + 1 ≤ R.cells) (hN : n + cap ≤ R.slots) (hq : pc + 2 = q)
    (g : ∀ (a : Addr) h', a = h.size → Ext h h' → Arj Z h' a xs → Go l Z y code ml ret R Q (k + 1) (n + cap) h' q Ls (.ref a :: st)) : Go l Z y code ml ret R Q k n h pc Ls (.int z :: st) := by
  subst hq hxs
  refine Go.move (P := fun h' => Ext h h' ∧ Arj Z h' h.size (List.replicate z.toNatClampNeg 0)) (kk := k + 1) (nn := n + cap) (fun h' p => g h.size h' rfl p.1 p.2) ?_
  intro p e s m args below meth c K T L k' n' X h1 h2 N hT
  obtain ⟨T', h', cA, X', e', E', A', s'⟩ := newP X K.1 K.2.2.1 w hT (g := mkF m pc Ls (.int z :: st)) rfl (hb K.2.1 hd) rfl hz hcap hbig (Nat.le_trans (Nat.add_le_add_right h1 1) hk) (Nat.le_trans (Nat.add_le_add_right h2 cap) hN)
  subst e'
  refine ⟨T', L, k' + 1, n' + cap, X', Nat.add_le_add_right h1 1, Nat.add_le_add_right h2 cap, N, ⟨E', _, hdv ▸ A', ?_, ?_⟩, s'⟩
  · show (Array.replicate z.toNatClampNeg (defaultValue .long)).toList = _
    simp [List.map_replicate, defaultValue]
  · rw [List.length_replicate]; omega

theorem own_arv {a : Addr} {ty : FieldType} {xs : List Int32} (F : Ari Z h a ty xs) (hf : ∀ x ∈ xs, fits ty (.int x) = true) : ∃ k : ClassId, Arv Z h a k ty xs.length.toInt32 (xs.map Value.int) (.int 0) := by
  obtain ⟨c, A, r, r2⟩ := F
  have sz := own_size r
  have hz : ¬ xs.length.toInt32 < 0 := by
    have e := len_toInt (n := xs.length) (by omega)
    rw [Int32.lt_iff_toInt_lt, e]
    show ¬ (xs.length : Int) < 0
    omega
  have hn : xs.length.toInt32.toNatClampNeg = xs.length := by
    have e := nat_of hz
    have e2 := len_toInt (n := xs.length) (by omega)
    omega
  have hat : ∀ i, i < c.slots.size → ∃ x, xs[i]? = some x := fun i hi => ⟨xs[i]'(by omega), List.getElem?_eq_getElem (by omega)⟩
  refine ⟨c.cls, c, A, rfl, by rw [sz, hn], hz, fun i hi => ?_, fun i hi => ?_⟩
  · obtain ⟨x, hx⟩ := hat i hi
    rw [own_at r hx, List.getD_eq_getElem?_getD, List.getElem?_map, hx]; rfl
  · obtain ⟨x, hx⟩ := hat i hi
    rw [List.getD_eq_getElem?_getD, List.getElem?_map, hx]
    exact hf x (List.mem_of_getElem? hx)
theorem own_ari {a : Addr} {ty : FieldType} {k : ClassId} {z : Int32} {ys : List Int32} (F : Arv Z h a k ty z (ys.map Value.int) (.int 0)) (hl : z.toNatClampNeg = ys.length) (hb : ys.length < 2147483648) : Ari Z h a ty ys := by
  obtain ⟨c, A, -, sz, -, H, -⟩ := F
  refine ⟨c, A, ?_, hb⟩
  apply List.ext_getElem?
  intro i
  rw [List.getElem?_map]
  by_cases hi : i < c.slots.size
  · have q := H i hi
    rw [Array.getElem?_toList, q, List.getD_eq_getElem?_getD, List.getElem?_map, List.getElem?_eq_getElem (show i < ys.length by omega)]
    rfl
  · rw [List.getElem?_eq_none (by simpa using hi), List.getElem?_eq_none (show ys.length ≤ i by omega)]
    rfl
theorem Go.arraycopy {a b : Addr} {ty : FieldType} {xs ys ys' : List Int32} {sp dp nn : Int32} {i W : Nat} (sN dN n' : Nat) (q : Nat) (hd : decode code pc = .ok (.invokestatic i, 3)) (w1 : (Cond.methodLink y.cls i Jvm.Stand.acN).before a0 Z = true) (w2 : (Cond.native Jvm.Stand.acN).before a0 Z = true) (w3 : (Cond.static Jvm.Stand.acN).before a0 Z = true) (w4 : (Cond.initialized "java/lang/System").before a0 Z = true)
    (A : Ari Z h a ty xs) (B : Ari Z h b ty ys) (hfa : ∀ x ∈ xs, fits ty (.int x) = true) (hfb : ∀ x ∈ ys, fits ty (.int x) = true) (hty : refKind ty = false) (h1 : ¬ sp < 0) (h2 : ¬ dp < 0) (h3 : ¬ nn < 0) (e1 : sp.toNatClampNeg = sN) (e2 : dp.toNatClampNeg = dN) (e3 : nn.toNatClampNeg = n') (l1 : sN + n' ≤ xs.length) (l2 : dN + n' ≤ ys.length) (he : ys.take dN ++ (xs.drop sN).take n' ++ ys.drop (dN + n') = ys')
    (hge : Z.heap.size ≤ b) (hsz : Ls.size = ml) (hfr : 1 ≤ R.frames) (hW : (st.map fun v => v.category).sum ≤ W) (hlo : W + (nativeFrameWords "java/lang/System" "arraycopy" 5 + 11) ≤ R.locals) (hq : pc + 3 = q)
    (g : ∀ h', Keep h h' [b] → Ari Z h' b ty ys' → Go l Z y code ml ret R Q k n h' q Ls st) : Go l Z y code ml ret R Q k n h pc Ls (.int nn :: .int dp :: .ref b :: .int sp :: .ref a :: st) := by
  subst hq e1 e2 e3 he
  refine Go.move (P := fun h' => Keep h h' [b] ∧ Ari Z h' b ty (ys.take dp.toNatClampNeg ++ (xs.drop sp.toNatClampNeg).take nn.toNatClampNeg ++ ys.drop (dp.toNatClampNeg + nn.toNatClampNeg))) (kk := k) (nn := n) (fun h' p => g h' p.1 p.2) ?_
  obtain ⟨ka, A'⟩ := own_arv A hfa
  obtain ⟨kb, B'⟩ := own_arv B hfb
  obtain ⟨_, _, _, bb⟩ := B
  obtain ⟨_, _, _, ba⟩ := A
  have na : xs.length.toInt32.toNatClampNeg = xs.length := by
    have hz : ¬ xs.length.toInt32 < 0 := A'.choose_spec.2.2.2.1
    have e := nat_of hz
    have e2 := len_toInt (n := xs.length) (by omega)
    omega
  have nb : ys.length.toInt32.toNatClampNeg = ys.length := by
    have hz : ¬ ys.length.toInt32 < 0 := B'.choose_spec.2.2.2.1
    have e := nat_of hz
    have e2 := len_toInt (n := ys.length) (by omega)
    omega
  have hus : ((xs.drop sp.toNatClampNeg).take nn.toNatClampNeg).map Value.int = (List.range nn.toNatClampNeg).map fun i => (xs.map Value.int).getD (sp.toNatClampNeg + i) (.int 0) := by
    apply List.ext_getElem?
    intro i
    simp only [List.getElem?_map, List.getElem?_take, List.getElem?_drop, List.getElem?_range']
    by_cases hi : i < nn.toNatClampNeg
    · rw [if_pos hi, List.getElem?_range hi, Option.map_some, List.getD_eq_getElem?_getD, List.getElem?_map, List.getElem?_eq_getElem (show sp.toNatClampNeg + i < xs.length by omega)]
      rfl
    · rw [if_neg hi, List.getElem?_eq_none (by simpa using hi)]
      rfl
  intro p e s m args below meth c K T L k' n' X h1' h2' N hT
  obtain ⟨T', h', L', X', e', N', K', B2, s'⟩ := cpA X K.1 K.2.2.1 K.2.2.2.1 w1 w2 w3 w4 hT A' B' (Or.inl ⟨rfl, hty⟩) h1 h2 h3 (by rw [na]; exact l1) (by rw [nb]; exact l2) hus (by rw [List.length_map]; exact l2) N hge (g := mkF m pc Ls (.int nn :: .int dp :: .ref b :: .int sp :: .ref a :: st)) rfl (hsz.trans K.2.2.2.2.1.symm) rfl (hb K.2.1 hd) hfr (W := W) (by show 2 * 0 + _ ≤ _; rw [Nat.mul_zero, Nat.zero_add]; exact hW) hlo
  subst e'
  refine ⟨T', L', k', n', X', h1', h2', N', ⟨K', own_ari (z := ys.length.toInt32) (k := kb) ?_ ?_ ?_⟩, s'⟩
  · rw [List.map_append, List.map_append, List.map_take, List.map_drop]; exact B2
  · rw [nb]; simp only [List.length_append, List.length_take, List.length_drop]; omega
  · simp only [List.length_append, List.length_take, List.length_drop]; omega

end Laws
end Jvm.OwnGo

namespace Jvm.Pilot.@@N@@
open Jvm Jvm.ClassFile Sem Op Lib Jvm.Free Jvm.Stand Jvm.LawKit Jvm.RoadKit Bundle Jvm.OwnGo Jvm.Pilot.@@N@@.Jvm.D
theorem pnx : plainName x.cls = true := by first | (simp [x, plainName, overriddenIn]; done) | decide +kernel
theorem tw0 {a0 : Array Value} {Z : State} (hw : ∀ d ∈ tables_1, d.before a0 Z = true) : ((Jvm.Cond.classLink "com/example/latchwork/latchwork/engine/IntListIndexOfPinLaw" (7 : Nat) "com/example/latchwork/latchwork/engine/IntList")).before a0 Z = true := hw _ (List.mem_of_getElem? (i := 0) rfl)
theorem tw1 {a0 : Array Value} {Z : State} (hw : ∀ d ∈ tables_1, d.before a0 Z = true) : ((Jvm.Cond.instantiable "com/example/latchwork/latchwork/engine/IntList" (2 : Nat))).before a0 Z = true := hw _ (List.mem_of_getElem? (i := 1) rfl)
theorem tw2 {a0 : Array Value} {Z : State} (hw : ∀ d ∈ tables_1, d.before a0 Z = true) : ((Jvm.Cond.initialized "com/example/latchwork/latchwork/engine/IntList")).before a0 Z = true := hw _ (List.mem_of_getElem? (i := 2) rfl)
theorem tw3 {a0 : Array Value} {Z : State} (hw : ∀ d ∈ tables_1, d.before a0 Z = true) : ((Jvm.Cond.methodLink "com/example/latchwork/latchwork/engine/IntListIndexOfPinLaw" (9 : Nat) ({ cls := "com/example/latchwork/latchwork/engine/IntList", name := "<init>", desc := "(I)V" } : Jvm.MethodName))).before a0 Z = true := hw _ (List.mem_of_getElem? (i := 3) rfl)
theorem tw4 {a0 : Array Value} {Z : State} (hw : ∀ d ∈ tables_1, d.before a0 Z = true) : ((Jvm.Cond.instanceMethod ({ cls := "com/example/latchwork/latchwork/engine/IntList", name := "<init>", desc := "(I)V" } : Jvm.MethodName))).before a0 Z = true := hw _ (List.mem_of_getElem? (i := 4) rfl)
theorem tw5 {a0 : Array Value} {Z : State} (hw : ∀ d ∈ tables_1, d.before a0 Z = true) : ((Jvm.Cond.code ({ cls := "com/example/latchwork/latchwork/engine/IntList", name := "<init>", desc := "(I)V" } : Jvm.MethodName) prog_19_method_2_code (2 : Nat) (Option.none : Option Jvm.ClassFile.FieldType))).before a0 Z = true := hw _ (List.mem_of_getElem? (i := 5) rfl)
theorem tw6 {a0 : Array Value} {Z : State} (hw : ∀ d ∈ tables_1, d.before a0 Z = true) : ((Jvm.Cond.methodLink "com/example/latchwork/latchwork/engine/IntList" (7 : Nat) ({ cls := "java/lang/Object", name := "<init>", desc := "()V" } : Jvm.MethodName))).before a0 Z = true := hw _ (List.mem_of_getElem? (i := 6) rfl)
theorem tw7 {a0 : Array Value} {Z : State} (hw : ∀ d ∈ tables_1, d.before a0 Z = true) : ((Jvm.Cond.instanceMethod ({ cls := "java/lang/Object", name := "<init>", desc := "()V" } : Jvm.MethodName))).before a0 Z = true := hw _ (List.mem_of_getElem? (i := 7) rfl)
theorem tw8 {a0 : Array Value} {Z : State} (hw : ∀ d ∈ tables_1, d.before a0 Z = true) : ((Jvm.Cond.code ({ cls := "java/lang/Object", name := "<init>", desc := "()V" } : Jvm.MethodName) object_method_1_code (1 : Nat) (Option.none : Option Jvm.ClassFile.FieldType))).before a0 Z = true := hw _ (List.mem_of_getElem? (i := 8) rfl)
theorem tw9 {a0 : Array Value} {Z : State} (hw : ∀ d ∈ tables_1, d.before a0 Z = true) : ((Jvm.Cond.methodLink "com/example/latchwork/latchwork/engine/IntList" (12 : Nat) ({ cls := "java/lang/Math", name := "max", desc := "(II)I" } : Jvm.MethodName))).before a0 Z = true := hw _ (List.mem_of_getElem? (i := 9) rfl)
theorem tw10 {a0 : Array Value} {Z : State} (hw : ∀ d ∈ tables_1, d.before a0 Z = true) : ((Jvm.Cond.static ({ cls := "java/lang/Math", name := "max", desc := "(II)I" } : Jvm.MethodName))).before a0 Z = true := hw _ (List.mem_of_getElem? (i := 10) rfl)
theorem tw11 {a0 : Array Value} {Z : State} (hw : ∀ d ∈ tables_1, d.before a0 Z = true) : ((Jvm.Cond.initialized "java/lang/Math")).before a0 Z = true := hw _ (List.mem_of_getElem? (i := 11) rfl)
theorem tw12 {a0 : Array Value} {Z : State} (hw : ∀ d ∈ tables_1, d.before a0 Z = true) : ((Jvm.Cond.code ({ cls := "java/lang/Math", name := "max", desc := "(II)I" } : Jvm.MethodName) jdk_29_method_65_code (2 : Nat) (Option.some Jvm.ClassFile.FieldType.int))).before a0 Z = true := hw _ (List.mem_of_getElem? (i := 12) rfl)
theorem tw13 {a0 : Array Value} {Z : State} (hw : ∀ d ∈ tables_1, d.before a0 Z = true) : ((Jvm.Cond.arrayClass Jvm.ClassFile.FieldType.int)).before a0 Z = true := hw _ (List.mem_of_getElem? (i := 13) rfl)
theorem tw14 {a0 : Array Value} {Z : State} (hw : ∀ d ∈ tables_1, d.before a0 Z = true) : ((Jvm.Cond.fieldLink "com/example/latchwork/latchwork/engine/IntList" (18 : Nat) "com/example/latchwork/latchwork/engine/IntList" "elements" "[I")).before a0 Z = true := hw _ (List.mem_of_getElem? (i := 14) rfl)
theorem tw15 {a0 : Array Value} {Z : State} (hw : ∀ d ∈ tables_1, d.before a0 Z = true) : ((Jvm.Cond.lays "com/example/latchwork/latchwork/engine/IntList" "com/example/latchwork/latchwork/engine/IntList" "elements" "[I")).before a0 Z = true := hw _ (List.mem_of_getElem? (i := 15) rfl)
theorem tw16 {a0 : Array Value} {Z : State} (hw : ∀ d ∈ tables_1, d.before a0 Z = true) : ((Jvm.Cond.methodLink "com/example/latchwork/latchwork/engine/IntListIndexOfPinLaw" (12 : Nat) ({ cls := "com/example/latchwork/latchwork/engine/IntList", name := "add", desc := "(I)V" } : Jvm.MethodName))).before a0 Z = true := hw _ (List.mem_of_getElem? (i := 16) rfl)
theorem tw17 {a0 : Array Value} {Z : State} (hw : ∀ d ∈ tables_1, d.before a0 Z = true) : ((Jvm.Cond.declares ({ cls := "com/example/latchwork/latchwork/engine/IntList", name := "add", desc := "(I)V" } : Jvm.MethodName))).before a0 Z = true := hw _ (List.mem_of_getElem? (i := 17) rfl)
theorem tw18 {a0 : Array Value} {Z : State} (hw : ∀ d ∈ tables_1, d.before a0 Z = true) : ((Jvm.Cond.instanceMethod ({ cls := "com/example/latchwork/latchwork/engine/IntList", name := "add", desc := "(I)V" } : Jvm.MethodName))).before a0 Z = true := hw _ (List.mem_of_getElem? (i := 18) rfl)
theorem tw19 {a0 : Array Value} {Z : State} (hw : ∀ d ∈ tables_1, d.before a0 Z = true) : ((Jvm.Cond.selects "com/example/latchwork/latchwork/engine/IntList" ({ cls := "com/example/latchwork/latchwork/engine/IntList", name := "add", desc := "(I)V" } : Jvm.MethodName) ({ cls := "com/example/latchwork/latchwork/engine/IntList", name := "add", desc := "(I)V" } : Jvm.MethodName))).before a0 Z = true := hw _ (List.mem_of_getElem? (i := 19) rfl)
theorem tw20 {a0 : Array Value} {Z : State} (hw : ∀ d ∈ tables_1, d.before a0 Z = true) : ((Jvm.Cond.code ({ cls := "com/example/latchwork/latchwork/engine/IntList", name := "add", desc := "(I)V" } : Jvm.MethodName) prog_19_method_7_code (2 : Nat) (Option.none : Option Jvm.ClassFile.FieldType))).before a0 Z = true := hw _ (List.mem_of_getElem? (i := 20) rfl)
theorem tw21 {a0 : Array Value} {Z : State} (hw : ∀ d ∈ tables_1, d.before a0 Z = true) : ((Jvm.Cond.fieldLink "com/example/latchwork/latchwork/engine/IntList" (22 : Nat) "com/example/latchwork/latchwork/engine/IntList" "size" "I")).before a0 Z = true := hw _ (List.mem_of_getElem? (i := 21) rfl)
theorem tw22 {a0 : Array Value} {Z : State} (hw : ∀ d ∈ tables_1, d.before a0 Z = true) : ((Jvm.Cond.lays "com/example/latchwork/latchwork/engine/IntList" "com/example/latchwork/latchwork/engine/IntList" "size" "I")).before a0 Z = true := hw _ (List.mem_of_getElem? (i := 22) rfl)
theorem tw23 {a0 : Array Value} {Z : State} (hw : ∀ d ∈ tables_1, d.before a0 Z = true) : ((Jvm.Cond.methodLink "com/example/latchwork/latchwork/engine/IntList" (26 : Nat) ({ cls := "java/lang/Math", name := "addExact", desc := "(II)I" } : Jvm.MethodName))).before a0 Z = true := hw _ (List.mem_of_getElem? (i := 23) rfl)
theorem tw24 {a0 : Array Value} {Z : State} (hw : ∀ d ∈ tables_1, d.before a0 Z = true) : ((Jvm.Cond.static ({ cls := "java/lang/Math", name := "addExact", desc := "(II)I" } : Jvm.MethodName))).before a0 Z = true := hw _ (List.mem_of_getElem? (i := 24) rfl)
theorem tw25 {a0 : Array Value} {Z : State} (hw : ∀ d ∈ tables_1, d.before a0 Z = true) : ((Jvm.Cond.code ({ cls := "java/lang/Math", name := "addExact", desc := "(II)I" } : Jvm.MethodName) jdk_29_method_24_code (3 : Nat) (Option.some Jvm.ClassFile.FieldType.int))).before a0 Z = true := hw _ (List.mem_of_getElem? (i := 25) rfl)
theorem tw26 {a0 : Array Value} {Z : State} (hw : ∀ d ∈ tables_1, d.before a0 Z = true) : ((Jvm.Cond.methodLink "com/example/latchwork/latchwork/engine/IntList" (29 : Nat) ({ cls := "java/util/Arrays", name := "copyOf", desc := "([II)[I" } : Jvm.MethodName))).before a0 Z = true := hw _ (List.mem_of_getElem? (i := 26) rfl)
theorem tw27 {a0 : Array Value} {Z : State} (hw : ∀ d ∈ tables_1, d.before a0 Z = true) : ((Jvm.Cond.static ({ cls := "java/util/Arrays", name := "copyOf", desc := "([II)[I" } : Jvm.MethodName))).before a0 Z = true := hw _ (List.mem_of_getElem? (i := 27) rfl)
theorem tw28 {a0 : Array Value} {Z : State} (hw : ∀ d ∈ tables_1, d.before a0 Z = true) : ((Jvm.Cond.initialized "java/util/Arrays")).before a0 Z = true := hw _ (List.mem_of_getElem? (i := 28) rfl)
theorem tw29 {a0 : Array Value} {Z : State} (hw : ∀ d ∈ tables_1, d.before a0 Z = true) : ((Jvm.Cond.code ({ cls := "java/util/Arrays", name := "copyOf", desc := "([II)[I" } : Jvm.MethodName) jdk_65_method_123_code (3 : Nat) (Option.some (Jvm.ClassFile.FieldType.array Jvm.ClassFile.FieldType.int)))).before a0 Z = true := hw _ (List.mem_of_getElem? (i := 29) rfl)
theorem tw30 {a0 : Array Value} {Z : State} (hw : ∀ d ∈ tables_1, d.before a0 Z = true) : ((Jvm.Cond.methodLink "java/util/Arrays" (304 : Nat) ({ cls := "java/lang/Math", name := "min", desc := "(II)I" } : Jvm.MethodName))).before a0 Z = true := hw _ (List.mem_of_getElem? (i := 30) rfl)
theorem tw31 {a0 : Array Value} {Z : State} (hw : ∀ d ∈ tables_1, d.before a0 Z = true) : ((Jvm.Cond.static ({ cls := "java/lang/Math", name := "min", desc := "(II)I" } : Jvm.MethodName))).before a0 Z = true := hw _ (List.mem_of_getElem? (i := 31) rfl)
theorem tw32 {a0 : Array Value} {Z : State} (hw : ∀ d ∈ tables_1, d.before a0 Z = true) : ((Jvm.Cond.code ({ cls := "java/lang/Math", name := "min", desc := "(II)I" } : Jvm.MethodName) jdk_29_method_69_code (2 : Nat) (Option.some Jvm.ClassFile.FieldType.int))).before a0 Z = true := hw _ (List.mem_of_getElem? (i := 32) rfl)
theorem tw33 {a0 : Array Value} {Z : State} (hw : ∀ d ∈ tables_1, d.before a0 Z = true) : ((Jvm.Cond.methodLink "java/util/Arrays" (150 : Nat) ({ cls := "java/lang/System", name := "arraycopy", desc := "(Ljava/lang/Object;ILjava/lang/Object;II)V" } : Jvm.MethodName))).before a0 Z = true := hw _ (List.mem_of_getElem? (i := 33) rfl)
theorem tw34 {a0 : Array Value} {Z : State} (hw : ∀ d ∈ tables_1, d.before a0 Z = true) : ((Jvm.Cond.static ({ cls := "java/lang/System", name := "arraycopy", desc := "(Ljava/lang/Object;ILjava/lang/Object;II)V" } : Jvm.MethodName))).before a0 Z = true := hw _ (List.mem_of_getElem? (i := 34) rfl)
theorem tw35 {a0 : Array Value} {Z : State} (hw : ∀ d ∈ tables_1, d.before a0 Z = true) : ((Jvm.Cond.initialized "java/lang/System")).before a0 Z = true := hw _ (List.mem_of_getElem? (i := 35) rfl)
theorem tw36 {a0 : Array Value} {Z : State} (hw : ∀ d ∈ tables_1, d.before a0 Z = true) : ((Jvm.Cond.native ({ cls := "java/lang/System", name := "arraycopy", desc := "(Ljava/lang/Object;ILjava/lang/Object;II)V" } : Jvm.MethodName))).before a0 Z = true := hw _ (List.mem_of_getElem? (i := 36) rfl)
theorem tw37 {a0 : Array Value} {Z : State} (hw : ∀ d ∈ tables_1, d.before a0 Z = true) : ((Jvm.Cond.methodLink "com/example/latchwork/latchwork/engine/IntListIndexOfPinLaw" (19 : Nat) ({ cls := "com/example/latchwork/latchwork/engine/IntList", name := "indexOf", desc := "(I)I" } : Jvm.MethodName))).before a0 Z = true := hw _ (List.mem_of_getElem? (i := 37) rfl)
theorem tw38 {a0 : Array Value} {Z : State} (hw : ∀ d ∈ tables_1, d.before a0 Z = true) : ((Jvm.Cond.declares ({ cls := "com/example/latchwork/latchwork/engine/IntList", name := "indexOf", desc := "(I)I" } : Jvm.MethodName))).before a0 Z = true := hw _ (List.mem_of_getElem? (i := 38) rfl)
theorem tw39 {a0 : Array Value} {Z : State} (hw : ∀ d ∈ tables_1, d.before a0 Z = true) : ((Jvm.Cond.instanceMethod ({ cls := "com/example/latchwork/latchwork/engine/IntList", name := "indexOf", desc := "(I)I" } : Jvm.MethodName))).before a0 Z = true := hw _ (List.mem_of_getElem? (i := 39) rfl)
theorem tw40 {a0 : Array Value} {Z : State} (hw : ∀ d ∈ tables_1, d.before a0 Z = true) : ((Jvm.Cond.selects "com/example/latchwork/latchwork/engine/IntList" ({ cls := "com/example/latchwork/latchwork/engine/IntList", name := "indexOf", desc := "(I)I" } : Jvm.MethodName) ({ cls := "com/example/latchwork/latchwork/engine/IntList", name := "indexOf", desc := "(I)I" } : Jvm.MethodName))).before a0 Z = true := hw _ (List.mem_of_getElem? (i := 40) rfl)
theorem tw41 {a0 : Array Value} {Z : State} (hw : ∀ d ∈ tables_1, d.before a0 Z = true) : ((Jvm.Cond.code ({ cls := "com/example/latchwork/latchwork/engine/IntList", name := "indexOf", desc := "(I)I" } : Jvm.MethodName) prog_19_method_12_code (3 : Nat) (Option.some Jvm.ClassFile.FieldType.int))).before a0 Z = true := hw _ (List.mem_of_getElem? (i := 41) rfl)
theorem tw42 {a0 : Array Value} {Z : State} (hw : ∀ d ∈ tables_1, d.before a0 Z = true) : ((Jvm.Cond.methodLink "com/example/latchwork/latchwork/engine/IntListIndexOfPinLaw" (15 : Nat) ({ cls := "com/example/latchwork/latchwork/engine/IntList", name := "pop", desc := "()I" } : Jvm.MethodName))).before a0 Z = true := hw _ (List.mem_of_getElem? (i := 42) rfl)
theorem tw43 {a0 : Array Value} {Z : State} (hw : ∀ d ∈ tables_1, d.before a0 Z = true) : ((Jvm.Cond.declares ({ cls := "com/example/latchwork/latchwork/engine/IntList", name := "pop", desc := "()I" } : Jvm.MethodName))).before a0 Z = true := hw _ (List.mem_of_getElem? (i := 43) rfl)
theorem tw44 {a0 : Array Value} {Z : State} (hw : ∀ d ∈ tables_1, d.before a0 Z = true) : ((Jvm.Cond.instanceMethod ({ cls := "com/example/latchwork/latchwork/engine/IntList", name := "pop", desc := "()I" } : Jvm.MethodName))).before a0 Z = true := hw _ (List.mem_of_getElem? (i := 44) rfl)
theorem tw45 {a0 : Array Value} {Z : State} (hw : ∀ d ∈ tables_1, d.before a0 Z = true) : ((Jvm.Cond.selects "com/example/latchwork/latchwork/engine/IntList" ({ cls := "com/example/latchwork/latchwork/engine/IntList", name := "pop", desc := "()I" } : Jvm.MethodName) ({ cls := "com/example/latchwork/latchwork/engine/IntList", name := "pop", desc := "()I" } : Jvm.MethodName))).before a0 Z = true := hw _ (List.mem_of_getElem? (i := 45) rfl)
theorem tw46 {a0 : Array Value} {Z : State} (hw : ∀ d ∈ tables_1, d.before a0 Z = true) : ((Jvm.Cond.code ({ cls := "com/example/latchwork/latchwork/engine/IntList", name := "pop", desc := "()I" } : Jvm.MethodName) prog_19_method_9_code (1 : Nat) (Option.some Jvm.ClassFile.FieldType.int))).before a0 Z = true := hw _ (List.mem_of_getElem? (i := 46) rfl)
theorem own_nn {x : Int32} (h : 0 ≤ x.toInt) : x.toInt = (x.toBitVec.toNat : Int) := by
  have q := BitVec.toInt_eq_toNat_cond x.toBitVec
  have e : x.toInt = x.toBitVec.toInt := rfl
  rw [e] at h ⊢
  rw [q] at h ⊢
  have := x.toBitVec.isLt
  split at h <;> rename_i c
  · rw [if_pos c]
  · omega
theorem own_nn' {x : Int32} (h : x.toBitVec.toNat < 2147483648) : x.toInt = (x.toBitVec.toNat : Int) := by
  have q := BitVec.toInt_eq_toNat_cond x.toBitVec
  have e : x.toInt = x.toBitVec.toInt := rfl
  rw [e, q, if_pos (by omega)]
theorem own_ofnat {x : Int32} (h : 0 ≤ x.toInt) : x = Int32.ofNat x.toBitVec.toNat := by
  apply Int32.toBitVec_inj.mp
  apply BitVec.eq_of_toNat_eq
  show _ = (BitVec.ofNat 32 x.toBitVec.toNat).toNat
  rw [BitVec.toNat_ofNat, Nat.mod_eq_of_lt x.toBitVec.isLt]
theorem own_b32 (x : Int32) : -2147483648 ≤ x.toInt ∧ x.toInt < 2147483648 := ⟨Int32.le_toInt x, Int32.toInt_lt x⟩
theorem own_b64 (x : Int64) : -9223372036854775808 ≤ x.toInt ∧ x.toInt < 9223372036854775808 := ⟨Int64.le_toInt x, Int64.toInt_lt x⟩
theorem own_add64 {x y : Int64} (h1 : -9223372036854775808 ≤ x.toInt + y.toInt) (h2 : x.toInt + y.toInt < 9223372036854775808) : (x + y).toInt = x.toInt + y.toInt := XT.add64 ⟨h1, h2⟩
theorem own_sub64 {x y : Int64} (h1 : -9223372036854775808 ≤ x.toInt - y.toInt) (h2 : x.toInt - y.toInt < 9223372036854775808) : (x - y).toInt = x.toInt - y.toInt := XT.sub64 ⟨h1, h2⟩
theorem own_mul64 {x y : Int64} (h1 : -9223372036854775808 ≤ x.toInt * y.toInt) (h2 : x.toInt * y.toInt < 9223372036854775808) : (x * y).toInt = x.toInt * y.toInt := XT.mul64 ⟨h1, h2⟩
theorem own_add32 {x y : Int32} (h1 : -2147483648 ≤ x.toInt + y.toInt) (h2 : x.toInt + y.toInt < 2147483648) : (x + y).toInt = x.toInt + y.toInt := XT.add32 ⟨h1, h2⟩
theorem own_sub32 {x y : Int32} (h1 : -2147483648 ≤ x.toInt - y.toInt) (h2 : x.toInt - y.toInt < 2147483648) : (x - y).toInt = x.toInt - y.toInt := XT.sub32 ⟨h1, h2⟩
theorem own_w (x : Int32) : x.toInt64.toInt = x.toInt := Int32.toInt_toInt64 x
theorem own_div64 {x y : Int64} (hx : 0 ≤ x.toInt) (hy : 0 < y.toInt) : (x / y).toInt = x.toInt / y.toInt := by
  rw [Int64.toInt_div, Int.tdiv_eq_ediv_of_nonneg hx]
  have b := own_b64 x
  have h1 : 0 ≤ x.toInt / y.toInt := Int.ediv_nonneg hx (Int.le_of_lt hy)
  have h2 : x.toInt / y.toInt ≤ x.toInt := Int.ediv_le_self _ hx
  exact Int.bmod_eq_of_le (by omega) (by omega)
theorem own_div32 {x y : Int32} (hx : 0 ≤ x.toInt) (hy : 0 < y.toInt) : (x / y).toInt = x.toInt / y.toInt := by
  rw [Int32.toInt_div, Int.tdiv_eq_ediv_of_nonneg hx]
  have b := own_b32 x
  have h1 : 0 ≤ x.toInt / y.toInt := Int.ediv_nonneg hx (Int.le_of_lt hy)
  have h2 : x.toInt / y.toInt ≤ x.toInt := Int.ediv_le_self _ hx
  exact Int.bmod_eq_of_le (by omega) (by omega)
theorem own_rem32 {x y : Int32} (hx : 0 ≤ x.toInt) : (x % y).toInt = x.toInt % y.toInt := by
  rw [Int32.toInt_mod, Int.tmod_eq_emod_of_nonneg hx]
theorem own_pos32 (x : Int32) : 0 ≤ (x &&& 2147483647).toInt := by
  have q := (XT.and_neg32 x 2147483647)
  rw [XT.negI32] at q
  have r : ¬ (x &&& 2147483647).toInt < 0 := fun h => absurd (q.mp h).2 (by decide)
  omega
theorem own_pos64 (x : Int64) : 0 ≤ (x &&& 9223372036854775807).toInt := by
  have q := (XT.and_neg64 x 9223372036854775807)
  rw [XT.negI64] at q
  have r : ¬ (x &&& 9223372036854775807).toInt < 0 := fun h => absurd (q.mp h).2 (by decide)
  omega
theorem own_lt32 {x y : Int32} : x < y ↔ x.toInt < y.toInt := Int32.lt_iff_toInt_lt
theorem own_lt64 {x y : Int64} : x < y ↔ x.toInt < y.toInt := Int64.lt_iff_toInt_lt
theorem own_eq32 {x y : Int32} : x = y ↔ x.toInt = y.toInt := ⟨fun h => h ▸ rfl, Int32.toInt_inj.mp⟩
theorem own_eq64 {x y : Int64} : x = y ↔ x.toInt = y.toInt := ⟨fun h => h ▸ rfl, Int64.toInt_inj.mp⟩
theorem own_four {x v : Int32} (h : v = x &&& 3) : v = 0 ∨ v = 1 ∨ v = 2 ∨ v = 3 := by
  have e : (x &&& 3).toBitVec.toNat = x.toBitVec.toNat % 4 := by
    rw [Int32.toBitVec_and, BitVec.toNat_and]
    show x.toBitVec.toNat &&& 3 = _
    exact Nat.and_two_pow_sub_one_eq_mod x.toBitVec.toNat 2
  have k := own_nn' (x := x &&& 3) (by omega)
  have q := own_ofnat (x := x &&& 3) (by omega)
  subst h
  have : (x &&& 3).toBitVec.toNat = 0 ∨ (x &&& 3).toBitVec.toNat = 1 ∨ (x &&& 3).toBitVec.toNat = 2 ∨ (x &&& 3).toBitVec.toNat = 3 := by omega
  rcases this with h | h | h | h <;> rw [h] at q <;> rw [q] <;> decide
theorem own_lenI {n : Nat} (h : n ≤ 32) : n.toInt32.toInt = n := len_toInt (by omega)
theorem own_lenN {n : Nat} (h : n ≤ 32) : n.toInt32.toNatClampNeg = n := by
  have e := own_lenI h
  have hz : ¬ n.toInt32 < 0 := by
    rw [own_lt32, e]; show ¬ (n : Int) < 0; omega
  have q := nat_of hz
  omega
theorem own_len_eq {n : Nat} {s : Int32} {k : Nat} (h : n ≤ 32) (hs : s.toInt = k) (e : s = n.toInt32) : n = k := by
  have q := own_lenI h
  rw [← e, hs] at q
  omega
theorem own_len_ne {n : Nat} {s : Int32} {k : Nat} (h : n ≤ 32) (hs : k.toInt32 = s) (hk : k ≤ n) (e : ¬ s = n.toInt32) : k < n := by
  rcases Nat.lt_or_eq_of_le hk with q | q
  · exact q
  · subst q; exact absurd hs.symm e
theorem own_copy {xs : List Int32} {N : Nat} (h : xs.length ≤ N) : (List.replicate N (0 : Int32)).take 0 ++ (xs.drop 0).take xs.length ++ (List.replicate N 0).drop (0 + xs.length) = xs ++ List.replicate (N - xs.length) 0 := by
  simp
theorem own_geti {xs ys : List Int32} {i : Nat} {v : Int32} (h : xs[i]? = some v) : (xs ++ ys)[i]? = some v := by
  have hi := (List.getElem?_eq_some_iff.mp h).1
  rw [List.getElem?_append_left hi]; exact h
theorem own_setn {xs : List Int32} {i j : Nat} {v x : Int32} (h : xs[i]? = some v) (hne : j ≠ i) : (xs.set j x)[i]? = some v := by
  rw [List.getElem?_set_ne hne]; exact h
theorem own_sets {xs : List Int32} {j : Nat} {x : Int32} (h : j < xs.length) : (xs.set j x)[j]? = some x := by
  rw [List.getElem?_set_self h]
theorem own_capr (x v : Int32) (h : v = (x &&& 7) - 2) : ¬ 5 < v := by
  have e : (x &&& 7).toBitVec.toNat = x.toBitVec.toNat % 8 := by
    rw [Int32.toBitVec_and, BitVec.toNat_and]
    show x.toBitVec.toNat &&& 7 = _
    exact Nat.and_two_pow_sub_one_eq_mod x.toBitVec.toNat 3
  have k := own_nn' (x := x &&& 7) (by omega)
  have c2 : (2 : Int32).toInt = 2 := by decide
  have c5 : (5 : Int32).toInt = 5 := by decide
  rw [own_lt32, h, own_sub32 (by rw [c2]; omega) (by rw [c2]; omega), c2, c5]
  omega
theorem own_maxr {v : Int32} (h : ¬ 5 < v) : ¬ (if v < 1 then (1 : Int32) else v) < 0 ∧ 1 ≤ (if v < 1 then (1 : Int32) else v).toNatClampNeg ∧ (if v < 1 then (1 : Int32) else v).toNatClampNeg ≤ 5 := by
  have c1 : (1 : Int32).toInt = 1 := by decide
  have c0 : (0 : Int32).toInt = 0 := by decide
  have c5 : (5 : Int32).toInt = 5 := by decide
  rw [own_lt32, c5] at h
  split
  · exact ⟨by decide, by decide, by decide⟩
  · rename_i q
    rw [own_lt32, c1] at q
    have n : ¬ v < 0 := by rw [own_lt32, c0]; omega
    have e := nat_of n
    exact ⟨n, by omega, by omega⟩
def own_idx (vs : List Int32) (q : Int32) (i : Int32) : Int32 := match vs with
  | [] => -1
  | v :: r => if v = q then i else own_idx r q (i + 1)
theorem own_minr {n : Int32} {xs : List Int32} (hlt : xs.length < n.toNatClampNeg) (hl : xs.length ≤ 32) : ¬ (if n < xs.length.toInt32 then n else xs.length.toInt32) < 0 ∧ (if n < xs.length.toInt32 then n else xs.length.toInt32).toNatClampNeg = xs.length := by
  have e := own_lenI hl
  have e2 := own_lenN hl
  have q : ¬ n < xs.length.toInt32 := by
    rw [own_lt32, e]
    have : ¬ n < 0 := by
      intro h
      have : n.toNatClampNeg = 0 := by
        rw [own_lt32] at h
        show n.toInt.toNat = 0
        have c0 : (0 : Int32).toInt = 0 := by decide
        omega
      omega
    have := nat_of this
    omega
  rw [if_neg q, own_lt32, e, e2]
  exact ⟨by show ¬ (xs.length : Int) < 0; omega, rfl⟩

theorem d3_0 : decode jdk_29_method_65_code 0 = .ok (.iload_n 0, 1) := by decide +kernel
theorem d3_1 : decode jdk_29_method_65_code 1 = .ok (.iload_n 1, 1) := by decide +kernel
theorem d3_2 : decode jdk_29_method_65_code 2 = .ok (.if_icmp .lt 7, 3) := by decide +kernel
theorem d3_5 : decode jdk_29_method_65_code 5 = .ok (.iload_n 0, 1) := by decide +kernel
theorem d3_6 : decode jdk_29_method_65_code 6 = .ok (.goto 4, 3) := by decide +kernel
theorem d3_9 : decode jdk_29_method_65_code 9 = .ok (.iload_n 1, 1) := by decide +kernel
theorem d3_10 : decode jdk_29_method_65_code 10 = .ok (.ireturn, 1) := by decide +kernel

theorem pd3 : parseMethodDescriptor "(II)I" = some ⟨[.int, .int], some .int⟩ := by decide +kernel
theorem pl3 : plainFor (⟨"java/lang/Math", "max", "(II)I"⟩ : MethodName) = true := by first | exact plainFor_of_name (by first | (simp [plainName, overriddenIn]; done) | decide +kernel) | decide +kernel

theorem ef_k_max (m : MethodId) (x0 : Int32) (x1 : Int32) : entryFrame m #[(.int x0), (.int x1)] 2 = mkF m 0 #[.val (.int x0), .val (.int x1)] [] := by first | (simp [entryFrame, mkF, argsToLocals, Value.category]; done) | rfl

set_option maxRecDepth 65536 in
set_option maxHeartbeats 40000000 in
theorem k_max {l : Launch} {Z : State} {a0 : Array Value} (hw : ∀ d ∈ tables_1, d.before a0 Z = true)  (h : Heap) (hz : Z.heap.size ≤ h.size) (x : Int32) (z : Int32)     : Go l Z (⟨"java/lang/Math", "max", "(II)I"⟩ : MethodName) jdk_29_method_65_code 2 (Option.some Jvm.ClassFile.FieldType.int) ({ frames := 0, cells := 0, slots := 0, locals := 0 } : Room) (QI fun rz h' => rz = (if x < z then z else x) ∧ h' = h) 0 0 h 0 #[.val (.int x), .val (.int z)] [] := by
  refine Go.iload_n 1 d3_0 rfl rfl ?_
  refine Go.iload_n 2 d3_1 rfl rfl ?_
  refine Go.icmp_lt 9 5 d3_2 (by decide) (by decide) rfl (fun c1 => ?_) (fun c1 => ?_)
  ·
    refine Go.iload_n 10 d3_9 rfl rfl ?_
    refine Go.ireturn d3_10 rfl (by decide) (by decide) ?_
    exact ⟨by first | rfl | (simp [*]; done) | simp_all, rfl⟩
  ·
    refine Go.iload_n 6 d3_5 rfl rfl ?_
    refine Go.goto 10 d3_6 (by decide) (by decide) ?_
    refine Go.ireturn d3_10 rfl (by decide) (by decide) ?_
    exact ⟨by first | rfl | (simp [*]; done) | simp_all, rfl⟩

theorem d7_0 : decode jdk_29_method_69_code 0 = .ok (.iload_n 0, 1) := by decide +kernel
theorem d7_1 : decode jdk_29_method_69_code 1 = .ok (.iload_n 1, 1) := by decide +kernel
theorem d7_2 : decode jdk_29_method_69_code 2 = .ok (.if_icmp .gt 7, 3) := by decide +kernel
theorem d7_5 : decode jdk_29_method_69_code 5 = .ok (.iload_n 0, 1) := by decide +kernel
theorem d7_6 : decode jdk_29_method_69_code 6 = .ok (.goto 4, 3) := by decide +kernel
theorem d7_9 : decode jdk_29_method_69_code 9 = .ok (.iload_n 1, 1) := by decide +kernel
theorem d7_10 : decode jdk_29_method_69_code 10 = .ok (.ireturn, 1) := by decide +kernel

theorem pd7 : parseMethodDescriptor "(II)I" = some ⟨[.int, .int], some .int⟩ := by decide +kernel
theorem pl7 : plainFor (⟨"java/lang/Math", "min", "(II)I"⟩ : MethodName) = true := by first | exact plainFor_of_name (by first | (simp [plainName, overriddenIn]; done) | decide +kernel) | decide +kernel

theorem ef_k_min (m : MethodId) (x0 : Int32) (x1 : Int32) : entryFrame m #[(.int x0), (.int x1)] 2 = mkF m 0 #[.val (.int x0), .val (.int x1)] [] := by first | (simp [entryFrame, mkF, argsToLocals, Value.category]; done) | rfl

set_option maxRecDepth 65536 in
set_option maxHeartbeats 40000000 in
theorem k_min {l : Launch} {Z : State} {a0 : Array Value} (hw : ∀ d ∈ tables_1, d.before a0 Z = true)  (h : Heap) (hz : Z.heap.size ≤ h.size) (x : Int32) (z : Int32)     : Go l Z (⟨"java/lang/Math", "min", "(II)I"⟩ : MethodName) jdk_29_method_69_code 2 (Option.some Jvm.ClassFile.FieldType.int) ({ frames := 0, cells := 0, slots := 0, locals := 0 } : Room) (QI fun rz h' => rz = (if z < x then z else x) ∧ h' = h) 0 0 h 0 #[.val (.int x), .val (.int z)] [] := by
  refine Go.iload_n 1 d7_0 rfl rfl ?_
  refine Go.iload_n 2 d7_1 rfl rfl ?_
  refine Go.icmp_gt 9 5 d7_2 (by decide) (by decide) rfl (fun c1 => ?_) (fun c1 => ?_)
  ·
    refine Go.iload_n 10 d7_9 rfl rfl ?_
    refine Go.ireturn d7_10 rfl (by decide) (by decide) ?_
    exact ⟨by first | rfl | (simp [*]; done) | simp_all, rfl⟩
  ·
    refine Go.iload_n 6 d7_5 rfl rfl ?_
    refine Go.goto 10 d7_6 (by decide) (by decide) ?_
    refine Go.ireturn d7_10 rfl (by decide) (by decide) ?_
    exact ⟨by first | rfl | (simp [*]; done) | simp_all, rfl⟩

theorem d5_0 : decode jdk_29_method_24_code 0 = .ok (.iload_n 0, 1) := by decide +kernel
theorem d5_1 : decode jdk_29_method_24_code 1 = .ok (.iload_n 1, 1) := by decide +kernel
theorem d5_2 : decode jdk_29_method_24_code 2 = .ok (.iadd, 1) := by decide +kernel
theorem d5_3 : decode jdk_29_method_24_code 3 = .ok (.istore_n 2, 1) := by decide +kernel
theorem d5_4 : decode jdk_29_method_24_code 4 = .ok (.iload_n 0, 1) := by decide +kernel
theorem d5_5 : decode jdk_29_method_24_code 5 = .ok (.iload_n 2, 1) := by decide +kernel
theorem d5_6 : decode jdk_29_method_24_code 6 = .ok (.ixor, 1) := by decide +kernel
theorem d5_7 : decode jdk_29_method_24_code 7 = .ok (.iload_n 1, 1) := by decide +kernel
theorem d5_8 : decode jdk_29_method_24_code 8 = .ok (.iload_n 2, 1) := by decide +kernel
theorem d5_9 : decode jdk_29_method_24_code 9 = .ok (.ixor, 1) := by decide +kernel
theorem d5_10 : decode jdk_29_method_24_code 10 = .ok (.iand, 1) := by decide +kernel
theorem d5_11 : decode jdk_29_method_24_code 11 = .ok (.ifCond .ge 13, 3) := by decide +kernel
theorem d5_14 : decode jdk_29_method_24_code 14 = .ok (.new 109, 3) := by decide +kernel
theorem d5_17 : decode jdk_29_method_24_code 17 = .ok (.dup, 1) := by decide +kernel
theorem d5_18 : decode jdk_29_method_24_code 18 = .ok (.ldc 111, 2) := by decide +kernel
theorem d5_20 : decode jdk_29_method_24_code 20 = .ok (.invokespecial 113, 3) := by decide +kernel
theorem d5_23 : decode jdk_29_method_24_code 23 = .ok (.athrow, 1) := by decide +kernel
theorem d5_24 : decode jdk_29_method_24_code 24 = .ok (.iload_n 2, 1) := by decide +kernel
theorem d5_25 : decode jdk_29_method_24_code 25 = .ok (.ireturn, 1) := by decide +kernel

theorem pd5 : parseMethodDescriptor "(II)I" = some ⟨[.int, .int], some .int⟩ := by decide +kernel
theorem pl5 : plainFor (⟨"java/lang/Math", "addExact", "(II)I"⟩ : MethodName) = true := by first | exact plainFor_of_name (by first | (simp [plainName, overriddenIn]; done) | decide +kernel) | decide +kernel

theorem ef_k_ae (m : MethodId) (x0 : Int32) (x1 : Int32) : entryFrame m #[(.int x0), (.int x1)] 3 = mkF m 0 #[.val (.int x0), .val (.int x1), .unset] [] := by first | (simp [entryFrame, mkF, argsToLocals, Value.category]; done) | rfl

set_option maxRecDepth 65536 in
set_option maxHeartbeats 40000000 in
theorem k_ae {l : Launch} {Z : State} {a0 : Array Value} (hw : ∀ d ∈ tables_1, d.before a0 Z = true)  (h : Heap) (hz : Z.heap.size ≤ h.size) (x : Int32) (z : Int32)  (hv : ¬ ((x ^^^ (x + z)) &&& (z ^^^ (x + z))) < 0)   : Go l Z (⟨"java/lang/Math", "addExact", "(II)I"⟩ : MethodName) jdk_29_method_24_code 3 (Option.some Jvm.ClassFile.FieldType.int) ({ frames := 0, cells := 0, slots := 0, locals := 0 } : Room) (QI fun rz h' => rz = (x + z) ∧ h' = h) 0 0 h 0 #[.val (.int x), .val (.int z), .unset] [] := by
  refine Go.iload_n 1 d5_0 rfl rfl ?_
  refine Go.iload_n 2 d5_1 rfl rfl ?_
  refine Go.iadd 3 d5_2 rfl ?_
  refine Go.istore_n 4 #[.val (.int x), .val (.int z), .val (.int (x + z))] d5_3 rfl rfl ?_
  refine Go.iload_n 5 d5_4 rfl rfl ?_
  refine Go.iload_n 6 d5_5 rfl rfl ?_
  refine Go.ixor 7 d5_6 rfl ?_
  refine Go.iload_n 8 d5_7 rfl rfl ?_
  refine Go.iload_n 9 d5_8 rfl rfl ?_
  refine Go.ixor 10 d5_9 rfl ?_
  refine Go.iand 11 d5_10 rfl ?_
  refine Go.if_ge 24 14 d5_11 (by decide) (by decide) rfl (fun c1 => ?_) (fun c1 => ?_)
  ·
    refine Go.iload_n 25 d5_24 rfl rfl ?_
    refine Go.ireturn d5_25 rfl (by decide) (by decide) ?_
    exact ⟨by rfl, rfl⟩
  ·
    exact absurd c1 hv

theorem d6_0 : decode jdk_65_method_123_code 0 = .ok (.iload_n 1, 1) := by decide +kernel
theorem d6_1 : decode jdk_65_method_123_code 1 = .ok (.aload_n 0, 1) := by decide +kernel
theorem d6_2 : decode jdk_65_method_123_code 2 = .ok (.arraylength, 1) := by decide +kernel
theorem d6_3 : decode jdk_65_method_123_code 3 = .ok (.if_icmp .ne 11, 3) := by decide +kernel
theorem d6_6 : decode jdk_65_method_123_code 6 = .ok (.aload_n 0, 1) := by decide +kernel
theorem d6_7 : decode jdk_65_method_123_code 7 = .ok (.invokevirtual 316, 3) := by decide +kernel
theorem d6_10 : decode jdk_65_method_123_code 10 = .ok (.checkcast 317, 3) := by decide +kernel
theorem d6_13 : decode jdk_65_method_123_code 13 = .ok (.areturn, 1) := by decide +kernel
theorem d6_14 : decode jdk_65_method_123_code 14 = .ok (.iload_n 1, 1) := by decide +kernel
theorem d6_15 : decode jdk_65_method_123_code 15 = .ok (.newarray .int, 2) := by decide +kernel
theorem d6_17 : decode jdk_65_method_123_code 17 = .ok (.astore_n 2, 1) := by decide +kernel
theorem d6_18 : decode jdk_65_method_123_code 18 = .ok (.aload_n 0, 1) := by decide +kernel
theorem d6_19 : decode jdk_65_method_123_code 19 = .ok (.iconst 0, 1) := by decide +kernel
theorem d6_20 : decode jdk_65_method_123_code 20 = .ok (.aload_n 2, 1) := by decide +kernel
theorem d6_21 : decode jdk_65_method_123_code 21 = .ok (.iconst 0, 1) := by decide +kernel
theorem d6_22 : decode jdk_65_method_123_code 22 = .ok (.aload_n 0, 1) := by decide +kernel
theorem d6_23 : decode jdk_65_method_123_code 23 = .ok (.arraylength, 1) := by decide +kernel
theorem d6_24 : decode jdk_65_method_123_code 24 = .ok (.iload_n 1, 1) := by decide +kernel
theorem d6_25 : decode jdk_65_method_123_code 25 = .ok (.invokestatic 304, 3) := by decide +kernel
theorem d6_28 : decode jdk_65_method_123_code 28 = .ok (.invokestatic 150, 3) := by decide +kernel
theorem d6_31 : decode jdk_65_method_123_code 31 = .ok (.aload_n 2, 1) := by decide +kernel
theorem d6_32 : decode jdk_65_method_123_code 32 = .ok (.areturn, 1) := by decide +kernel

theorem pd6 : parseMethodDescriptor "([II)[I" = some ⟨[(.array .int), .int], some (.array .int)⟩ := by decide +kernel
theorem pl6 : plainFor (⟨"java/util/Arrays", "copyOf", "([II)[I"⟩ : MethodName) = true := by first | exact plainFor_of_name (by first | (simp [plainName, overriddenIn]; done) | decide +kernel) | decide +kernel

theorem ef_k_copy (m : MethodId) (x0 : Addr) (x1 : Int32) : entryFrame m #[(.ref x0), (.int x1)] 3 = mkF m 0 #[.val (.ref x0), .val (.int x1), .unset] [] := by first | (simp [entryFrame, mkF, argsToLocals, Value.category]; done) | rfl

set_option maxRecDepth 65536 in
set_option maxHeartbeats 40000000 in
theorem k_copy {l : Launch} {Z : State} {a0 : Array Value} (hw : ∀ d ∈ tables_1, d.before a0 Z = true) {xs : List Int32} (h : Heap) (hz : Z.heap.size ≤ h.size) (a : Addr) (n : Int32) (fa0 : Ari Z h a .int xs) (hn0 : ¬ n < 0) (hn16 : (Int32.toNatClampNeg n) ≤ 16) (hlt : xs.length < (Int32.toNatClampNeg n)) (hl32 : xs.length ≤ 32) (hne : ¬ n = (List.length xs).toInt32)   : Go l Z (⟨"java/util/Arrays", "copyOf", "([II)[I"⟩ : MethodName) jdk_65_method_123_code 3 (Option.some (Jvm.ClassFile.FieldType.array Jvm.ClassFile.FieldType.int)) ({ frames := 1, cells := 1, slots := 16, locals := 48 } : Room) (QR fun rz h' => ∃ r : Addr, rz = .ref r ∧ h.size ≤ r ∧ Keep h h' [] ∧ Ari Z h' r .int (xs ++ List.replicate ((Int32.toNatClampNeg n) - xs.length) 0)) 0 0 h 0 #[.val (.ref a), .val (.int n), .unset] [] := by
  have kp0 : Keep h h [] := Keep.refl _ _
  refine Go.iload_n 1 d6_0 rfl rfl ?_
  refine Go.aload_n 2 d6_1 rfl rfl rfl ?_
  refine Go.arraylength (z := (List.length xs).toInt32) 3 d6_2 fa0 rfl rfl ?_
  refine Go.icmp_ne 14 6 d6_3 (by decide) (by decide) rfl (fun c1 => ?_) (fun c1 => ?_)
  ·
    refine Go.iload_n 15 d6_14 rfl rfl ?_
    refine Go.newI (cap := 16) (xs := (List.replicate (Int32.toNatClampNeg n) 0)) 17 d6_15 (tw13 hw) rfl hn0 hn16 (by decide) rfl (by decide) (by decide) rfl (fun a2 h3 q4 E5 A6 => ?_)
    have ne7 : a ≠ a2 := fun e => absurd fa0.lt (by rw [e, q4]; exact Nat.lt_irrefl _)
    have ge8 : Z.heap.size ≤ a2 := (Eq.symm q4) ▸ hz
    have fr9 : h.size ≤ a2 := by rw [q4]; exact kp0.1
    have f10 : Ari Z h3 a .int xs := fa0.ext E5
    have zs11 : Z.heap.size ≤ h3.size := Nat.le_trans hz E5.1
    have kp12 : Keep h h3 [] := kp0.ext E5
    refine Go.astore_n 18 #[.val (.ref a), .val (.int n), .val (.ref a2)] d6_17 rfl rfl rfl ?_
    refine Go.aload_n 19 d6_18 rfl rfl rfl ?_
    refine Go.iconst 20 (0) d6_19 (by decide) rfl ?_
    refine Go.aload_n 21 d6_20 rfl rfl rfl ?_
    refine Go.iconst 22 (0) d6_21 (by decide) rfl ?_
    refine Go.aload_n 23 d6_22 rfl rfl rfl ?_
    refine Go.arraylength (z := (List.length xs).toInt32) 24 d6_23 f10 rfl rfl ?_
    refine Go.iload_n 25 d6_24 rfl rfl ?_
    refine Go.callSIp [.int (List.length xs).toInt32, .int n] [.int (0 : Int32), .ref a2, .int (0 : Int32), .ref a] 28 d6_25 (tw30 hw) (tw31 hw) (tw11 hw) (tw32 hw) pl7 (by decide) (lenOf pd7 rfl) rfl (fun m => ef_k_min m (List.length xs).toInt32 n) _ (k_min hw h3 zs11 ((List.length xs).toInt32) n) 4 rfl (Nat.le_of_eq rfl) (by decide) (by decide) (by decide) (by decide) rfl ?_
    refine Go.arraycopy (W := 0) 0 0 (List.length xs) 31 d6_28 (tw33 hw) (tw36 hw) (tw34 hw) (tw35 hw) f10 A6 (fun _ _ => rfl) (fun _ _ => rfl) rfl (by decide) (by decide) (own_minr hlt hl32).1 (by decide) (by decide) (own_minr hlt hl32).2 (by omega) (by rw [List.length_replicate]; omega) (ys' := (xs ++ List.replicate ((Int32.toNatClampNeg n) - xs.length) 0)) (own_copy (Nat.le_of_lt hlt)) ge8 rfl (by decide) (Nat.le_of_eq rfl) (by decide) rfl (fun h16 K17 A18 => ?_)
    have f19 : Ari Z h16 a .int xs := f10.keep K17 (ninS ne7 nin0)
    have zs20 : Z.heap.size ≤ h16.size := Nat.le_trans zs11 K17.1
    have kp21 : Keep h h16 [] := kp12.trans K17 (allS (Or.inr fr9) all0)
    refine Go.aload_n 32 d6_31 rfl rfl rfl ?_
    refine Go.areturn d6_32 rfl rfl rfl (by decide) (by decide) ?_
    exact ⟨a2, rfl, fr9, kp21, A18⟩
  ·
    exact absurd c1 hne

theorem d1_0 : decode prog_19_method_2_code 0 = .ok (.aload_n 0, 1) := by decide +kernel
theorem d1_1 : decode prog_19_method_2_code 1 = .ok (.invokespecial 7, 3) := by decide +kernel
theorem d1_4 : decode prog_19_method_2_code 4 = .ok (.aload_n 0, 1) := by decide +kernel
theorem d1_5 : decode prog_19_method_2_code 5 = .ok (.iload_n 1, 1) := by decide +kernel
theorem d1_6 : decode prog_19_method_2_code 6 = .ok (.iconst 1, 1) := by decide +kernel
theorem d1_7 : decode prog_19_method_2_code 7 = .ok (.invokestatic 12, 3) := by decide +kernel
theorem d1_10 : decode prog_19_method_2_code 10 = .ok (.newarray .int, 2) := by decide +kernel
theorem d1_12 : decode prog_19_method_2_code 12 = .ok (.putfield 18, 3) := by decide +kernel
theorem d1_15 : decode prog_19_method_2_code 15 = .ok (.return_, 1) := by decide +kernel

theorem pd1 : parseMethodDescriptor "(I)V" = some ⟨[.int], none⟩ := by decide +kernel
theorem pl1 : plainFor (⟨"com/example/latchwork/latchwork/engine/IntList", "<init>", "(I)V"⟩ : MethodName) = true := by first | exact plainFor_of_name (by first | (simp [plainName, overriddenIn]; done) | decide +kernel) | decide +kernel

theorem ef_k_init (m : MethodId) (x0 : Addr) (x1 : Int32) : entryFrame m #[(.ref x0), (.int x1)] 2 = mkF m 0 #[.val (.ref x0), .val (.int x1)] [] := by first | (simp [entryFrame, mkF, argsToLocals, Value.category]; done) | rfl

set_option maxRecDepth 65536 in
set_option maxHeartbeats 40000000 in
theorem k_init {l : Launch} {Z : State} {a0 : Array Value} (hw : ∀ d ∈ tables_1, d.before a0 Z = true)  (h : Heap) (hz : Z.heap.size ≤ h.size) (a : Addr) (v : Int32) (fa0 : Exa Z h a "com/example/latchwork/latchwork/engine/IntList") (fa1 : Fld Z h a "com/example/latchwork/latchwork/engine/IntList" "elements" "[I" (.null)) (fa2 : Fld Z h a "com/example/latchwork/latchwork/engine/IntList" "size" "I" (.int (0 : Int32))) (hv : ¬ 5 < v) (ge_a : Z.heap.size ≤ a)  : Go l Z (⟨"com/example/latchwork/latchwork/engine/IntList", "<init>", "(I)V"⟩ : MethodName) prog_19_method_2_code 2 (Option.none : Option Jvm.ClassFile.FieldType) ({ frames := 1, cells := 1, slots := 5, locals := 32 } : Room) (QV fun h' => (∃ am : Addr, ∃ xs : List Int32, Fld Z h' a "com/example/latchwork/latchwork/engine/IntList" "elements" "[I" (.ref am) ∧ Ari Z h' am .int xs ∧ a ≠ am ∧ Z.heap.size ≤ am ∧ xs.length ≤ 32 ∧ 0 ≤ xs.length) ∧ Keep h h' [a] ∧ Exa Z h' a "com/example/latchwork/latchwork/engine/IntList" ∧ Fld Z h' a "com/example/latchwork/latchwork/engine/IntList" "size" "I" (.int (0 : Int32))) 0 0 h 0 #[.val (.ref a), .val (.int v)] [] := by
  have kp0 : Keep h h [a] := Keep.refl _ _
  refine Go.aload_n 1 d1_0 rfl rfl rfl ?_
  refine Go.initO 0 4 d1_1 (tw6 hw) (tw7 hw) (tw8 hw) rfl (by decide) (Nat.le_of_eq rfl) (by decide) rfl ?_
  refine Go.aload_n 5 d1_4 rfl rfl rfl ?_
  refine Go.iload_n 6 d1_5 rfl rfl ?_
  refine Go.iconst 7 (1) d1_6 (by decide) rfl ?_
  refine Go.callSIp [.int v, .int (1 : Int32)] [.ref a] 10 d1_7 (tw9 hw) (tw10 hw) (tw11 hw) (tw12 hw) pl3 (by decide) (lenOf pd3 rfl) rfl (fun m => ef_k_max m v (1 : Int32)) _ (k_max hw h hz v (1 : Int32)) 1 rfl (Nat.le_of_eq rfl) (by decide) (by decide) (by decide) (by decide) rfl ?_
  refine Go.newI (cap := 5) (xs := (List.replicate (Int32.toNatClampNeg (if v < (1 : Int32) then (1 : Int32) else v)) 0)) 12 d1_10 (tw13 hw) rfl (own_maxr hv).1 (own_maxr hv).2.2 (by decide) rfl (by decide) (by decide) rfl (fun a4 h5 q6 E7 A8 => ?_)
  have ne9 : a ≠ a4 := fun e => absurd fa0.lt (by rw [e, q6]; exact Nat.lt_irrefl _)
  have ge10 : Z.heap.size ≤ a4 := (Eq.symm q6) ▸ hz
  have fr11 : h.size ≤ a4 := by rw [q6]; exact kp0.1
  have f12 : Exa Z h5 a "com/example/latchwork/latchwork/engine/IntList" := fa0.ext E7
  have f13 : Fld Z h5 a "com/example/latchwork/latchwork/engine/IntList" "elements" "[I" (.null) := fa1.ext E7
  have f14 : Fld Z h5 a "com/example/latchwork/latchwork/engine/IntList" "size" "I" (.int (0 : Int32)) := fa2.ext E7
  have zs15 : Z.heap.size ≤ h5.size := Nat.le_trans hz E7.1
  have kp16 : Keep h h5 [a] := kp0.ext E7
  refine Go.putfield (ty := (.array .int)) 15 d1_12 (tw14 hw) f13 f12 (Or.inl (tw15 hw)) (tw1 hw) (by decide) rfl rfl ge_a rfl (fun h17 W18 => ?_)
  have f19 : Exa Z h17 a "com/example/latchwork/latchwork/engine/IntList" := f12.wr W18
  have f20 : Fld Z h17 a "com/example/latchwork/latchwork/engine/IntList" "elements" "[I" (.ref a4) := f13.same W18
  have f21 : Fld Z h17 a "com/example/latchwork/latchwork/engine/IntList" "size" "I" (.int (0 : Int32)) := f14.other W18 (Or.inr (slot_ne (Or.inl (tw22 hw)) (Or.inl (tw15 hw)) (by decide) (by decide +kernel : parseFieldDescriptor "I" = some .int) (by decide +kernel : parseFieldDescriptor "[I" = some (.array .int))))
  have f22 : Ari Z h17 a4 .int (List.replicate (Int32.toNatClampNeg (if v < (1 : Int32) then (1 : Int32) else v)) 0) := A8.other W18 (Ne.symm ne9)
  have zs23 : Z.heap.size ≤ h17.size := W18.size ▸ zs15
  have kp24 : Keep h h17 [a] := kp16.wr W18 (Or.inl (by simp))
  refine Go.vreturn d1_15 rfl (by decide) (by decide) ?_
  exact ⟨⟨a4, _, f20, f22, ne9, ge10, by rw [List.length_replicate]; exact Nat.le_trans (own_maxr hv).2.2 (by decide), Nat.zero_le _⟩, kp24, f19, f21⟩

theorem d4_0 : decode prog_19_method_7_code 0 = .ok (.aload_n 0, 1) := by decide +kernel
theorem d4_1 : decode prog_19_method_7_code 1 = .ok (.getfield 22, 3) := by decide +kernel
theorem d4_4 : decode prog_19_method_7_code 4 = .ok (.aload_n 0, 1) := by decide +kernel
theorem d4_5 : decode prog_19_method_7_code 5 = .ok (.getfield 18, 3) := by decide +kernel
theorem d4_8 : decode prog_19_method_7_code 8 = .ok (.arraylength, 1) := by decide +kernel
theorem d4_9 : decode prog_19_method_7_code 9 = .ok (.if_icmp .ne 32, 3) := by decide +kernel
theorem d4_12 : decode prog_19_method_7_code 12 = .ok (.aload_n 0, 1) := by decide +kernel
theorem d4_13 : decode prog_19_method_7_code 13 = .ok (.aload_n 0, 1) := by decide +kernel
theorem d4_14 : decode prog_19_method_7_code 14 = .ok (.getfield 18, 3) := by decide +kernel
theorem d4_17 : decode prog_19_method_7_code 17 = .ok (.aload_n 0, 1) := by decide +kernel
theorem d4_18 : decode prog_19_method_7_code 18 = .ok (.getfield 22, 3) := by decide +kernel
theorem d4_21 : decode prog_19_method_7_code 21 = .ok (.aload_n 0, 1) := by decide +kernel
theorem d4_22 : decode prog_19_method_7_code 22 = .ok (.getfield 22, 3) := by decide +kernel
theorem d4_25 : decode prog_19_method_7_code 25 = .ok (.iconst 1, 1) := by decide +kernel
theorem d4_26 : decode prog_19_method_7_code 26 = .ok (.ishr, 1) := by decide +kernel
theorem d4_27 : decode prog_19_method_7_code 27 = .ok (.bipush 8, 2) := by decide +kernel
theorem d4_29 : decode prog_19_method_7_code 29 = .ok (.invokestatic 12, 3) := by decide +kernel
theorem d4_32 : decode prog_19_method_7_code 32 = .ok (.invokestatic 26, 3) := by decide +kernel
theorem d4_35 : decode prog_19_method_7_code 35 = .ok (.invokestatic 29, 3) := by decide +kernel
theorem d4_38 : decode prog_19_method_7_code 38 = .ok (.putfield 18, 3) := by decide +kernel
theorem d4_41 : decode prog_19_method_7_code 41 = .ok (.aload_n 0, 1) := by decide +kernel
theorem d4_42 : decode prog_19_method_7_code 42 = .ok (.getfield 18, 3) := by decide +kernel
theorem d4_45 : decode prog_19_method_7_code 45 = .ok (.aload_n 0, 1) := by decide +kernel
theorem d4_46 : decode prog_19_method_7_code 46 = .ok (.dup, 1) := by decide +kernel
theorem d4_47 : decode prog_19_method_7_code 47 = .ok (.getfield 22, 3) := by decide +kernel
theorem d4_50 : decode prog_19_method_7_code 50 = .ok (.dup_x1, 1) := by decide +kernel
theorem d4_51 : decode prog_19_method_7_code 51 = .ok (.iconst 1, 1) := by decide +kernel
theorem d4_52 : decode prog_19_method_7_code 52 = .ok (.iadd, 1) := by decide +kernel
theorem d4_53 : decode prog_19_method_7_code 53 = .ok (.putfield 22, 3) := by decide +kernel
theorem d4_56 : decode prog_19_method_7_code 56 = .ok (.iload_n 1, 1) := by decide +kernel
theorem d4_57 : decode prog_19_method_7_code 57 = .ok (.iastore, 1) := by decide +kernel
theorem d4_58 : decode prog_19_method_7_code 58 = .ok (.return_, 1) := by decide +kernel

theorem pd4 : parseMethodDescriptor "(I)V" = some ⟨[.int], none⟩ := by decide +kernel
theorem pl4 : plainFor (⟨"com/example/latchwork/latchwork/engine/IntList", "add", "(I)V"⟩ : MethodName) = true := by first | exact plainFor_of_name (by first | (simp [plainName, overriddenIn]; done) | decide +kernel) | decide +kernel

theorem ef_k_add0 (m : MethodId) (x0 : Addr) (x1 : Int32) : entryFrame m #[(.ref x0), (.int x1)] 2 = mkF m 0 #[.val (.ref x0), .val (.int x1)] [] := by first | (simp [entryFrame, mkF, argsToLocals, Value.category]; done) | rfl

set_option maxRecDepth 65536 in
set_option maxHeartbeats 40000000 in
theorem k_add0 {l : Launch} {Z : State} {a0 : Array Value} (hw : ∀ d ∈ tables_1, d.before a0 Z = true) {am : Addr} {xs : List Int32} (h : Heap) (hz : Z.heap.size ≤ h.size) (a : Addr) (x : Int32) (fa0 : Exa Z h a "com/example/latchwork/latchwork/engine/IntList") (fa1 : Fld Z h a "com/example/latchwork/latchwork/engine/IntList" "elements" "[I" (.ref am)) (fa2 : Fld Z h a "com/example/latchwork/latchwork/engine/IntList" "size" "I" (.int (0 : Int32))) (fa3 : Ari Z h am .int xs) (lu : xs.length ≤ 32) (ll : 0 ≤ xs.length) (ge_a : Z.heap.size ≤ a) (ge_am : Z.heap.size ≤ am) (ne_a_am : a ≠ am) : Go l Z (⟨"com/example/latchwork/latchwork/engine/IntList", "add", "(I)V"⟩ : MethodName) prog_19_method_7_code 2 (Option.none : Option Jvm.ClassFile.FieldType) ({ frames := 2, cells := 1, slots := 16, locals := 72 } : Room) (QV fun h' => (∃ am : Addr, ∃ xs : List Int32, Fld Z h' a "com/example/latchwork/latchwork/engine/IntList" "elements" "[I" (.ref am) ∧ Ari Z h' am .int xs ∧ a ≠ am ∧ Z.heap.size ≤ am ∧ xs.length ≤ 32 ∧ 1 ≤ xs.length ∧ xs[0]? = some x) ∧ Keep h h' [a, am] ∧ Exa Z h' a "com/example/latchwork/latchwork/engine/IntList" ∧ Fld Z h' a "com/example/latchwork/latchwork/engine/IntList" "size" "I" (.int ((0 : Int32) + (1 : Int32)))) 0 0 h 0 #[.val (.ref a), .val (.int x)] [] := by
  have kp0 : Keep h h [a, am] := Keep.refl _ _
  refine Go.aload_n 1 d4_0 rfl rfl rfl ?_
  refine Go.getfield 4 d4_1 (tw21 hw) fa2 rfl ?_
  refine Go.aload_n 5 d4_4 rfl rfl rfl ?_
  refine Go.getfield 8 d4_5 (tw14 hw) fa1 rfl ?_
  refine Go.arraylength (z := (List.length xs).toInt32) 9 d4_8 fa3 rfl rfl ?_
  refine Go.icmp_ne 41 12 d4_9 (by decide) (by decide) rfl (fun c1 => ?_) (fun c1 => ?_)
  ·
    refine Go.aload_n 42 d4_41 rfl rfl rfl ?_
    refine Go.getfield 45 d4_42 (tw14 hw) fa1 rfl ?_
    refine Go.aload_n 46 d4_45 rfl rfl rfl ?_
    refine Go.dup 47 d4_46 rfl rfl ?_
    refine Go.getfield 50 d4_47 (tw21 hw) fa2 rfl ?_
    refine Go.dupX1 51 d4_50 rfl rfl rfl ?_
    refine Go.iconst 52 (1) d4_51 (by decide) rfl ?_
    refine Go.iadd 53 d4_52 rfl ?_
    refine Go.putfield (ty := .int) 56 d4_53 (tw21 hw) fa2 fa0 (Or.inl (tw22 hw)) (tw1 hw) (by decide) rfl rfl ge_a rfl (fun h2 W3 => ?_)
    have f4 : Exa Z h2 a "com/example/latchwork/latchwork/engine/IntList" := fa0.wr W3
    have f5 : Fld Z h2 a "com/example/latchwork/latchwork/engine/IntList" "elements" "[I" (.ref am) := fa1.other W3 (Or.inr (slot_ne (Or.inl (tw15 hw)) (Or.inl (tw22 hw)) (by decide) (by decide +kernel : parseFieldDescriptor "[I" = some (.array .int)) (by decide +kernel : parseFieldDescriptor "I" = some .int)))
    have f6 : Fld Z h2 a "com/example/latchwork/latchwork/engine/IntList" "size" "I" (.int ((0 : Int32) + (1 : Int32))) := fa2.same W3
    have f7 : Ari Z h2 am .int xs := fa3.other W3 (Ne.symm ne_a_am)
    have zs8 : Z.heap.size ≤ h2.size := W3.size ▸ hz
    have kp9 : Keep h h2 [a, am] := kp0.wr W3 (Or.inl (by simp))
    refine Go.iload_n 57 d4_56 rfl rfl ?_
    refine Go.iastore (0) ((xs.set 0 x)) 58 d4_57 f7 (by decide) (by decide) (own_len_ne (k := 0) lu (by decide) ll c1) rfl ge_am rfl (fun h10 W11 A12 => ?_)
    have f13 : Exa Z h10 a "com/example/latchwork/latchwork/engine/IntList" := f4.wr W11
    have f14 : Fld Z h10 a "com/example/latchwork/latchwork/engine/IntList" "elements" "[I" (.ref am) := f5.other W11 (Or.inl ne_a_am)
    have f15 : Fld Z h10 a "com/example/latchwork/latchwork/engine/IntList" "size" "I" (.int ((0 : Int32) + (1 : Int32))) := f6.other W11 (Or.inl ne_a_am)
    have zs16 : Z.heap.size ≤ h10.size := W11.size ▸ zs8
    have kp17 : Keep h h10 [a, am] := kp9.wr W11 (Or.inl (by simp))
    refine Go.vreturn d4_58 rfl (by decide) (by decide) ?_
    exact ⟨⟨am, _, f14, A12, ne_a_am, ge_am, (by rw [List.length_set]; exact lu), (by rw [List.length_set]; exact (own_len_ne (k := 0) lu (by decide) ll c1)), (own_sets (own_len_ne (k := 0) lu (by decide) ll c1))⟩, kp17, f13, f15⟩
  ·
    refine Go.aload_n 13 d4_12 rfl rfl rfl ?_
    refine Go.aload_n 14 d4_13 rfl rfl rfl ?_
    refine Go.getfield 17 d4_14 (tw14 hw) fa1 rfl ?_
    refine Go.aload_n 18 d4_17 rfl rfl rfl ?_
    refine Go.getfield 21 d4_18 (tw21 hw) fa2 rfl ?_
    refine Go.aload_n 22 d4_21 rfl rfl rfl ?_
    refine Go.getfield 25 d4_22 (tw21 hw) fa2 rfl ?_
    refine Go.iconst 26 (1) d4_25 (by decide) rfl ?_
    refine Go.ishr 27 d4_26 rfl ?_
    refine Go.bipush 29 (8) d4_27 (by decide) rfl ?_
    refine Go.callSIp [.int ((0 : Int32) >>> ((1 : Int32) &&& 31)), .int (8 : Int32)] [.int (0 : Int32), .ref am, .ref a] 32 d4_29 (tw9 hw) (tw10 hw) (tw11 hw) (tw12 hw) pl3 (by decide) (lenOf pd3 rfl) rfl (fun m => ef_k_max m ((0 : Int32) >>> ((1 : Int32) &&& 31)) (8 : Int32)) _ (k_max hw h hz (((0 : Int32) >>> ((1 : Int32) &&& 31))) (8 : Int32)) 3 rfl (Nat.le_of_eq rfl) (by decide) (by decide) (by decide) (by decide) rfl ?_
    refine Go.callSIp [.int (0 : Int32), .int (if ((0 : Int32) >>> ((1 : Int32) &&& 31)) < (8 : Int32) then (8 : Int32) else ((0 : Int32) >>> ((1 : Int32) &&& 31)))] [.ref am, .ref a] 35 d4_32 (tw23 hw) (tw24 hw) (tw11 hw) (tw25 hw) pl5 (by decide) (lenOf pd5 rfl) rfl (fun m => ef_k_ae m (0 : Int32) (if ((0 : Int32) >>> ((1 : Int32) &&& 31)) < (8 : Int32) then (8 : Int32) else ((0 : Int32) >>> ((1 : Int32) &&& 31)))) _ (k_ae hw h hz (0 : Int32) ((if ((0 : Int32) >>> ((1 : Int32) &&& 31)) < (8 : Int32) then (8 : Int32) else ((0 : Int32) >>> ((1 : Int32) &&& 31)))) (by decide)) 2 rfl (Nat.le_of_eq rfl) (by decide) (by decide) (by decide) (by decide) rfl ?_
    refine Go.callSR [.ref am, .int ((0 : Int32) + (if ((0 : Int32) >>> ((1 : Int32) &&& 31)) < (8 : Int32) then (8 : Int32) else ((0 : Int32) >>> ((1 : Int32) &&& 31))))] [.ref a] 38 d4_35 (tw26 hw) (tw27 hw) (tw28 hw) (tw29 hw) pl6 (by decide) (lenOf pd6 rfl) rfl (fun m => ef_k_copy m am ((0 : Int32) + (if ((0 : Int32) >>> ((1 : Int32) &&& 31)) < (8 : Int32) then (8 : Int32) else ((0 : Int32) >>> ((1 : Int32) &&& 31))))) _ (k_copy hw h hz am (((0 : Int32) + (if ((0 : Int32) >>> ((1 : Int32) &&& 31)) < (8 : Int32) then (8 : Int32) else ((0 : Int32) >>> ((1 : Int32) &&& 31))))) fa3 (by decide) (by decide) (by rw [(own_len_eq (k := 0) lu (by decide) c1)]; decide) lu (by rw [← c1]; decide)) 1 rfl (Nat.le_of_eq rfl) (by decide) (by decide) (by decide) (by decide) rfl ?_
    rintro z24 h25 ⟨a27, rfl, g28, K26, f29⟩
    have ne30 : a ≠ a27 := Nat.ne_of_lt (Nat.lt_of_lt_of_le fa0.lt g28)
    have ne31 : am ≠ a27 := Nat.ne_of_lt (Nat.lt_of_lt_of_le fa3.lt g28)
    have ge32 : Z.heap.size ≤ a27 := Nat.le_trans hz g28
    have fr33 : h.size ≤ a27 := Nat.le_trans kp0.1 g28
    have f34 : Exa Z h25 a "com/example/latchwork/latchwork/engine/IntList" := fa0.keep K26
    have f35 : Fld Z h25 a "com/example/latchwork/latchwork/engine/IntList" "elements" "[I" (.ref am) := fa1.keep K26 nin0
    have f36 : Fld Z h25 a "com/example/latchwork/latchwork/engine/IntList" "size" "I" (.int (0 : Int32)) := fa2.keep K26 nin0
    have f37 : Ari Z h25 am .int xs := fa3.keep K26 nin0
    have zs38 : Z.heap.size ≤ h25.size := Nat.le_trans hz K26.1
    have kp39 : Keep h h25 [a, am] := kp0.trans K26 all0
    refine Go.putfield (ty := (.array .int)) 41 d4_38 (tw14 hw) f35 f34 (Or.inl (tw15 hw)) (tw1 hw) (by decide) rfl rfl ge_a rfl (fun h40 W41 => ?_)
    have f42 : Exa Z h40 a "com/example/latchwork/latchwork/engine/IntList" := f34.wr W41
    have f43 : Fld Z h40 a "com/example/latchwork/latchwork/engine/IntList" "elements" "[I" (.ref a27) := f35.same W41
    have f44 : Fld Z h40 a "com/example/latchwork/latchwork/engine/IntList" "size" "I" (.int (0 : Int32)) := f36.other W41 (Or.inr (slot_ne (Or.inl (tw22 hw)) (Or.inl (tw15 hw)) (by decide) (by decide +kernel : parseFieldDescriptor "I" = some .int) (by decide +kernel : parseFieldDescriptor "[I" = some (.array .int))))
    have f45 : Ari Z h40 am .int xs := f37.other W41 (Ne.symm ne_a_am)
    have f46 : Ari Z h40 a27 .int (xs ++ List.replicate ((Int32.toNatClampNeg ((0 : Int32) + (if ((0 : Int32) >>> ((1 : Int32) &&& 31)) < (8 : Int32) then (8 : Int32) else ((0 : Int32) >>> ((1 : Int32) &&& 31))))) - xs.length) 0) := f29.other W41 (Ne.symm ne30)
    have zs47 : Z.heap.size ≤ h40.size := W41.size ▸ zs38
    have kp48 : Keep h h40 [a, am] := kp39.wr W41 (Or.inl (by simp))
    refine Go.aload_n 42 d4_41 rfl rfl rfl ?_
    refine Go.getfield 45 d4_42 (tw14 hw) f43 rfl ?_
    refine Go.aload_n 46 d4_45 rfl rfl rfl ?_
    refine Go.dup 47 d4_46 rfl rfl ?_
    refine Go.getfield 50 d4_47 (tw21 hw) f44 rfl ?_
    refine Go.dupX1 51 d4_50 rfl rfl rfl ?_
    refine Go.iconst 52 (1) d4_51 (by decide) rfl ?_
    refine Go.iadd 53 d4_52 rfl ?_
    refine Go.putfield (ty := .int) 56 d4_53 (tw21 hw) f44 f42 (Or.inl (tw22 hw)) (tw1 hw) (by decide) rfl rfl ge_a rfl (fun h49 W50 => ?_)
    have f51 : Exa Z h49 a "com/example/latchwork/latchwork/engine/IntList" := f42.wr W50
    have f52 : Fld Z h49 a "com/example/latchwork/latchwork/engine/IntList" "elements" "[I" (.ref a27) := f43.other W50 (Or.inr (slot_ne (Or.inl (tw15 hw)) (Or.inl (tw22 hw)) (by decide) (by decide +kernel : parseFieldDescriptor "[I" = some (.array .int)) (by decide +kernel : parseFieldDescriptor "I" = some .int)))
    have f53 : Fld Z h49 a "com/example/latchwork/latchwork/engine/IntList" "size" "I" (.int ((0 : Int32) + (1 : Int32))) := f44.same W50
    have f54 : Ari Z h49 am .int xs := f45.other W50 (Ne.symm ne_a_am)
    have f55 : Ari Z h49 a27 .int (xs ++ List.replicate ((Int32.toNatClampNeg ((0 : Int32) + (if ((0 : Int32) >>> ((1 : Int32) &&& 31)) < (8 : Int32) then (8 : Int32) else ((0 : Int32) >>> ((1 : Int32) &&& 31))))) - xs.length) 0) := f46.other W50 (Ne.symm ne30)
    have zs56 : Z.heap.size ≤ h49.size := W50.size ▸ zs47
    have kp57 : Keep h h49 [a, am] := kp48.wr W50 (Or.inl (by simp))
    refine Go.iload_n 57 d4_56 rfl rfl ?_
    refine Go.iastore (0) (((xs ++ List.replicate ((Int32.toNatClampNeg ((0 : Int32) + (if ((0 : Int32) >>> ((1 : Int32) &&& 31)) < (8 : Int32) then (8 : Int32) else ((0 : Int32) >>> ((1 : Int32) &&& 31))))) - xs.length) 0).set 0 x)) 58 d4_57 f55 (by decide) (by decide) (by rw [List.length_append, List.length_replicate, (own_len_eq (k := 0) lu (by decide) c1)]; decide) rfl ge32 rfl (fun h58 W59 A60 => ?_)
    have f61 : Exa Z h58 a "com/example/latchwork/latchwork/engine/IntList" := f51.wr W59
    have f62 : Fld Z h58 a "com/example/latchwork/latchwork/engine/IntList" "elements" "[I" (.ref a27) := f52.other W59 (Or.inl ne30)
    have f63 : Fld Z h58 a "com/example/latchwork/latchwork/engine/IntList" "size" "I" (.int ((0 : Int32) + (1 : Int32))) := f53.other W59 (Or.inl ne30)
    have f64 : Ari Z h58 am .int xs := f54.other W59 ne31
    have zs65 : Z.heap.size ≤ h58.size := W59.size ▸ zs56
    have kp66 : Keep h h58 [a, am] := kp57.wr W59 (Or.inr fr33)
    refine Go.vreturn d4_58 rfl (by decide) (by decide) ?_
    exact ⟨⟨a27, _, f62, A60, ne30, ge32, (by rw [List.length_set, List.length_append, List.length_replicate, (own_len_eq (k := 0) lu (by decide) c1)]; decide), (by rw [List.length_set, List.length_append, List.length_replicate, (own_len_eq (k := 0) lu (by decide) c1)]; decide), (own_sets (by rw [List.length_append, List.length_replicate, (own_len_eq (k := 0) lu (by decide) c1)]; decide))⟩, kp66, f61, f63⟩

theorem ef_k_add1 (m : MethodId) (x0 : Addr) (x1 : Int32) : entryFrame m #[(.ref x0), (.int x1)] 2 = mkF m 0 #[.val (.ref x0), .val (.int x1)] [] := by first | (simp [entryFrame, mkF, argsToLocals, Value.category]; done) | rfl

set_option maxRecDepth 65536 in
set_option maxHeartbeats 40000000 in
theorem k_add1 {l : Launch} {Z : State} {a0 : Array Value} (hw : ∀ d ∈ tables_1, d.before a0 Z = true) {am : Addr} {xs : List Int32} {v0 : Int32} (h : Heap) (hz : Z.heap.size ≤ h.size) (a : Addr) (x : Int32) (fa0 : Exa Z h a "com/example/latchwork/latchwork/engine/IntList") (fa1 : Fld Z h a "com/example/latchwork/latchwork/engine/IntList" "elements" "[I" (.ref am)) (fa2 : Fld Z h a "com/example/latchwork/latchwork/engine/IntList" "size" "I" (.int (1 : Int32))) (fa3 : Ari Z h am .int xs) (lu : xs.length ≤ 32) (ll : 1 ≤ xs.length) (r0 : xs[0]? = some v0) (ge_a : Z.heap.size ≤ a) (ge_am : Z.heap.size ≤ am) (ne_a_am : a ≠ am) : Go l Z (⟨"com/example/latchwork/latchwork/engine/IntList", "add", "(I)V"⟩ : MethodName) prog_19_method_7_code 2 (Option.none : Option Jvm.ClassFile.FieldType) ({ frames := 2, cells := 1, slots := 16, locals := 72 } : Room) (QV fun h' => (∃ am : Addr, ∃ xs : List Int32, Fld Z h' a "com/example/latchwork/latchwork/engine/IntList" "elements" "[I" (.ref am) ∧ Ari Z h' am .int xs ∧ a ≠ am ∧ Z.heap.size ≤ am ∧ xs.length ≤ 32 ∧ 2 ≤ xs.length ∧ xs[0]? = some v0 ∧ xs[1]? = some x) ∧ Keep h h' [a, am] ∧ Exa Z h' a "com/example/latchwork/latchwork/engine/IntList" ∧ Fld Z h' a "com/example/latchwork/latchwork/engine/IntList" "size" "I" (.int ((1 : Int32) + (1 : Int32)))) 0 0 h 0 #[.val (.ref a), .val (.int x)] [] := by
  have kp0 : Keep h h [a, am] := Keep.refl _ _
  refine Go.aload_n 1 d4_0 rfl rfl rfl ?_
  refine Go.getfield 4 d4_1 (tw21 hw) fa2 rfl ?_
  refine Go.aload_n 5 d4_4 rfl rfl rfl ?_
  refine Go.getfield 8 d4_5 (tw14 hw) fa1 rfl ?_
  refine Go.arraylength (z := (List.length xs).toInt32) 9 d4_8 fa3 rfl rfl ?_
  refine Go.icmp_ne 41 12 d4_9 (by decide) (by decide) rfl (fun c1 => ?_) (fun c1 => ?_)
  ·
    refine Go.aload_n 42 d4_41 rfl rfl rfl ?_
    refine Go.getfield 45 d4_42 (tw14 hw) fa1 rfl ?_
    refine Go.aload_n 46 d4_45 rfl rfl rfl ?_
    refine Go.dup 47 d4_46 rfl rfl ?_
    refine Go.getfield 50 d4_47 (tw21 hw) fa2 rfl ?_
    refine Go.dupX1 51 d4_50 rfl rfl rfl ?_
    refine Go.iconst 52 (1) d4_51 (by decide) rfl ?_
    refine Go.iadd 53 d4_52 rfl ?_
    refine Go.putfield (ty := .int) 56 d4_53 (tw21 hw) fa2 fa0 (Or.inl (tw22 hw)) (tw1 hw) (by decide) rfl rfl ge_a rfl (fun h2 W3 => ?_)
    have f4 : Exa Z h2 a "com/example/latchwork/latchwork/engine/IntList" := fa0.wr W3
    have f5 : Fld Z h2 a "com/example/latchwork/latchwork/engine/IntList" "elements" "[I" (.ref am) := fa1.other W3 (Or.inr (slot_ne (Or.inl (tw15 hw)) (Or.inl (tw22 hw)) (by decide) (by decide +kernel : parseFieldDescriptor "[I" = some (.array .int)) (by decide +kernel : parseFieldDescriptor "I" = some .int)))
    have f6 : Fld Z h2 a "com/example/latchwork/latchwork/engine/IntList" "size" "I" (.int ((1 : Int32) + (1 : Int32))) := fa2.same W3
    have f7 : Ari Z h2 am .int xs := fa3.other W3 (Ne.symm ne_a_am)
    have zs8 : Z.heap.size ≤ h2.size := W3.size ▸ hz
    have kp9 : Keep h h2 [a, am] := kp0.wr W3 (Or.inl (by simp))
    refine Go.iload_n 57 d4_56 rfl rfl ?_
    refine Go.iastore (1) ((xs.set 1 x)) 58 d4_57 f7 (by decide) (by decide) (own_len_ne (k := 1) lu (by decide) ll c1) rfl ge_am rfl (fun h10 W11 A12 => ?_)
    have f13 : Exa Z h10 a "com/example/latchwork/latchwork/engine/IntList" := f4.wr W11
    have f14 : Fld Z h10 a "com/example/latchwork/latchwork/engine/IntList" "elements" "[I" (.ref am) := f5.other W11 (Or.inl ne_a_am)
    have f15 : Fld Z h10 a "com/example/latchwork/latchwork/engine/IntList" "size" "I" (.int ((1 : Int32) + (1 : Int32))) := f6.other W11 (Or.inl ne_a_am)
    have zs16 : Z.heap.size ≤ h10.size := W11.size ▸ zs8
    have kp17 : Keep h h10 [a, am] := kp9.wr W11 (Or.inl (by simp))
    refine Go.vreturn d4_58 rfl (by decide) (by decide) ?_
    exact ⟨⟨am, _, f14, A12, ne_a_am, ge_am, (by rw [List.length_set]; exact lu), (by rw [List.length_set]; exact (own_len_ne (k := 1) lu (by decide) ll c1)), (own_setn r0 (by decide)), (own_sets (own_len_ne (k := 1) lu (by decide) ll c1))⟩, kp17, f13, f15⟩
  ·
    refine Go.aload_n 13 d4_12 rfl rfl rfl ?_
    refine Go.aload_n 14 d4_13 rfl rfl rfl ?_
    refine Go.getfield 17 d4_14 (tw14 hw) fa1 rfl ?_
    refine Go.aload_n 18 d4_17 rfl rfl rfl ?_
    refine Go.getfield 21 d4_18 (tw21 hw) fa2 rfl ?_
    refine Go.aload_n 22 d4_21 rfl rfl rfl ?_
    refine Go.getfield 25 d4_22 (tw21 hw) fa2 rfl ?_
    refine Go.iconst 26 (1) d4_25 (by decide) rfl ?_
    refine Go.ishr 27 d4_26 rfl ?_
    refine Go.bipush 29 (8) d4_27 (by decide) rfl ?_
    refine Go.callSIp [.int ((1 : Int32) >>> ((1 : Int32) &&& 31)), .int (8 : Int32)] [.int (1 : Int32), .ref am, .ref a] 32 d4_29 (tw9 hw) (tw10 hw) (tw11 hw) (tw12 hw) pl3 (by decide) (lenOf pd3 rfl) rfl (fun m => ef_k_max m ((1 : Int32) >>> ((1 : Int32) &&& 31)) (8 : Int32)) _ (k_max hw h hz (((1 : Int32) >>> ((1 : Int32) &&& 31))) (8 : Int32)) 3 rfl (Nat.le_of_eq rfl) (by decide) (by decide) (by decide) (by decide) rfl ?_
    refine Go.callSIp [.int (1 : Int32), .int (if ((1 : Int32) >>> ((1 : Int32) &&& 31)) < (8 : Int32) then (8 : Int32) else ((1 : Int32) >>> ((1 : Int32) &&& 31)))] [.ref am, .ref a] 35 d4_32 (tw23 hw) (tw24 hw) (tw11 hw) (tw25 hw) pl5 (by decide) (lenOf pd5 rfl) rfl (fun m => ef_k_ae m (1 : Int32) (if ((1 : Int32) >>> ((1 : Int32) &&& 31)) < (8 : Int32) then (8 : Int32) else ((1 : Int32) >>> ((1 : Int32) &&& 31)))) _ (k_ae hw h hz (1 : Int32) ((if ((1 : Int32) >>> ((1 : Int32) &&& 31)) < (8 : Int32) then (8 : Int32) else ((1 : Int32) >>> ((1 : Int32) &&& 31)))) (by decide)) 2 rfl (Nat.le_of_eq rfl) (by decide) (by decide) (by decide) (by decide) rfl ?_
    refine Go.callSR [.ref am, .int ((1 : Int32) + (if ((1 : Int32) >>> ((1 : Int32) &&& 31)) < (8 : Int32) then (8 : Int32) else ((1 : Int32) >>> ((1 : Int32) &&& 31))))] [.ref a] 38 d4_35 (tw26 hw) (tw27 hw) (tw28 hw) (tw29 hw) pl6 (by decide) (lenOf pd6 rfl) rfl (fun m => ef_k_copy m am ((1 : Int32) + (if ((1 : Int32) >>> ((1 : Int32) &&& 31)) < (8 : Int32) then (8 : Int32) else ((1 : Int32) >>> ((1 : Int32) &&& 31))))) _ (k_copy hw h hz am (((1 : Int32) + (if ((1 : Int32) >>> ((1 : Int32) &&& 31)) < (8 : Int32) then (8 : Int32) else ((1 : Int32) >>> ((1 : Int32) &&& 31))))) fa3 (by decide) (by decide) (by rw [(own_len_eq (k := 1) lu (by decide) c1)]; decide) lu (by rw [← c1]; decide)) 1 rfl (Nat.le_of_eq rfl) (by decide) (by decide) (by decide) (by decide) rfl ?_
    rintro z24 h25 ⟨a27, rfl, g28, K26, f29⟩
    have ne30 : a ≠ a27 := Nat.ne_of_lt (Nat.lt_of_lt_of_le fa0.lt g28)
    have ne31 : am ≠ a27 := Nat.ne_of_lt (Nat.lt_of_lt_of_le fa3.lt g28)
    have ge32 : Z.heap.size ≤ a27 := Nat.le_trans hz g28
    have fr33 : h.size ≤ a27 := Nat.le_trans kp0.1 g28
    have f34 : Exa Z h25 a "com/example/latchwork/latchwork/engine/IntList" := fa0.keep K26
    have f35 : Fld Z h25 a "com/example/latchwork/latchwork/engine/IntList" "elements" "[I" (.ref am) := fa1.keep K26 nin0
    have f36 : Fld Z h25 a "com/example/latchwork/latchwork/engine/IntList" "size" "I" (.int (1 : Int32)) := fa2.keep K26 nin0
    have f37 : Ari Z h25 am .int xs := fa3.keep K26 nin0
    have zs38 : Z.heap.size ≤ h25.size := Nat.le_trans hz K26.1
    have kp39 : Keep h h25 [a, am] := kp0.trans K26 all0
    refine Go.putfield (ty := (.array .int)) 41 d4_38 (tw14 hw) f35 f34 (Or.inl (tw15 hw)) (tw1 hw) (by decide) rfl rfl ge_a rfl (fun h40 W41 => ?_)
    have f42 : Exa Z h40 a "com/example/latchwork/latchwork/engine/IntList" := f34.wr W41
    have f43 : Fld Z h40 a "com/example/latchwork/latchwork/engine/IntList" "elements" "[I" (.ref a27) := f35.same W41
    have f44 : Fld Z h40 a "com/example/latchwork/latchwork/engine/IntList" "size" "I" (.int (1 : Int32)) := f36.other W41 (Or.inr (slot_ne (Or.inl (tw22 hw)) (Or.inl (tw15 hw)) (by decide) (by decide +kernel : parseFieldDescriptor "I" = some .int) (by decide +kernel : parseFieldDescriptor "[I" = some (.array .int))))
    have f45 : Ari Z h40 am .int xs := f37.other W41 (Ne.symm ne_a_am)
    have f46 : Ari Z h40 a27 .int (xs ++ List.replicate ((Int32.toNatClampNeg ((1 : Int32) + (if ((1 : Int32) >>> ((1 : Int32) &&& 31)) < (8 : Int32) then (8 : Int32) else ((1 : Int32) >>> ((1 : Int32) &&& 31))))) - xs.length) 0) := f29.other W41 (Ne.symm ne30)
    have zs47 : Z.heap.size ≤ h40.size := W41.size ▸ zs38
    have kp48 : Keep h h40 [a, am] := kp39.wr W41 (Or.inl (by simp))
    refine Go.aload_n 42 d4_41 rfl rfl rfl ?_
    refine Go.getfield 45 d4_42 (tw14 hw) f43 rfl ?_
    refine Go.aload_n 46 d4_45 rfl rfl rfl ?_
    refine Go.dup 47 d4_46 rfl rfl ?_
    refine Go.getfield 50 d4_47 (tw21 hw) f44 rfl ?_
    refine Go.dupX1 51 d4_50 rfl rfl rfl ?_
    refine Go.iconst 52 (1) d4_51 (by decide) rfl ?_
    refine Go.iadd 53 d4_52 rfl ?_
    refine Go.putfield (ty := .int) 56 d4_53 (tw21 hw) f44 f42 (Or.inl (tw22 hw)) (tw1 hw) (by decide) rfl rfl ge_a rfl (fun h49 W50 => ?_)
    have f51 : Exa Z h49 a "com/example/latchwork/latchwork/engine/IntList" := f42.wr W50
    have f52 : Fld Z h49 a "com/example/latchwork/latchwork/engine/IntList" "elements" "[I" (.ref a27) := f43.other W50 (Or.inr (slot_ne (Or.inl (tw15 hw)) (Or.inl (tw22 hw)) (by decide) (by decide +kernel : parseFieldDescriptor "[I" = some (.array .int)) (by decide +kernel : parseFieldDescriptor "I" = some .int)))
    have f53 : Fld Z h49 a "com/example/latchwork/latchwork/engine/IntList" "size" "I" (.int ((1 : Int32) + (1 : Int32))) := f44.same W50
    have f54 : Ari Z h49 am .int xs := f45.other W50 (Ne.symm ne_a_am)
    have f55 : Ari Z h49 a27 .int (xs ++ List.replicate ((Int32.toNatClampNeg ((1 : Int32) + (if ((1 : Int32) >>> ((1 : Int32) &&& 31)) < (8 : Int32) then (8 : Int32) else ((1 : Int32) >>> ((1 : Int32) &&& 31))))) - xs.length) 0) := f46.other W50 (Ne.symm ne30)
    have zs56 : Z.heap.size ≤ h49.size := W50.size ▸ zs47
    have kp57 : Keep h h49 [a, am] := kp48.wr W50 (Or.inl (by simp))
    refine Go.iload_n 57 d4_56 rfl rfl ?_
    refine Go.iastore (1) (((xs ++ List.replicate ((Int32.toNatClampNeg ((1 : Int32) + (if ((1 : Int32) >>> ((1 : Int32) &&& 31)) < (8 : Int32) then (8 : Int32) else ((1 : Int32) >>> ((1 : Int32) &&& 31))))) - xs.length) 0).set 1 x)) 58 d4_57 f55 (by decide) (by decide) (by rw [List.length_append, List.length_replicate, (own_len_eq (k := 1) lu (by decide) c1)]; decide) rfl ge32 rfl (fun h58 W59 A60 => ?_)
    have f61 : Exa Z h58 a "com/example/latchwork/latchwork/engine/IntList" := f51.wr W59
    have f62 : Fld Z h58 a "com/example/latchwork/latchwork/engine/IntList" "elements" "[I" (.ref a27) := f52.other W59 (Or.inl ne30)
    have f63 : Fld Z h58 a "com/example/latchwork/latchwork/engine/IntList" "size" "I" (.int ((1 : Int32) + (1 : Int32))) := f53.other W59 (Or.inl ne30)
    have f64 : Ari Z h58 am .int xs := f54.other W59 ne31
    have zs65 : Z.heap.size ≤ h58.size := W59.size ▸ zs56
    have kp66 : Keep h h58 [a, am] := kp57.wr W59 (Or.inr fr33)
    refine Go.vreturn d4_58 rfl (by decide) (by decide) ?_
    exact ⟨⟨a27, _, f62, A60, ne30, ge32, (by rw [List.length_set, List.length_append, List.length_replicate, (own_len_eq (k := 1) lu (by decide) c1)]; decide), (by rw [List.length_set, List.length_append, List.length_replicate, (own_len_eq (k := 1) lu (by decide) c1)]; decide), (own_setn (own_geti r0) (by decide)), (own_sets (by rw [List.length_append, List.length_replicate, (own_len_eq (k := 1) lu (by decide) c1)]; decide))⟩, kp66, f61, f63⟩

theorem ef_k_add2 (m : MethodId) (x0 : Addr) (x1 : Int32) : entryFrame m #[(.ref x0), (.int x1)] 2 = mkF m 0 #[.val (.ref x0), .val (.int x1)] [] := by first | (simp [entryFrame, mkF, argsToLocals, Value.category]; done) | rfl

set_option maxRecDepth 65536 in
set_option maxHeartbeats 40000000 in
theorem k_add2 {l : Launch} {Z : State} {a0 : Array Value} (hw : ∀ d ∈ tables_1, d.before a0 Z = true) {am : Addr} {xs : List Int32} {v0 : Int32} {v1 : Int32} (h : Heap) (hz : Z.heap.size ≤ h.size) (a : Addr) (x : Int32) (fa0 : Exa Z h a "com/example/latchwork/latchwork/engine/IntList") (fa1 : Fld Z h a "com/example/latchwork/latchwork/engine/IntList" "elements" "[I" (.ref am)) (fa2 : Fld Z h a "com/example/latchwork/latchwork/engine/IntList" "size" "I" (.int (2 : Int32))) (fa3 : Ari Z h am .int xs) (lu : xs.length ≤ 32) (ll : 2 ≤ xs.length) (r0 : xs[0]? = some v0) (r1 : xs[1]? = some v1) (ge_a : Z.heap.size ≤ a) (ge_am : Z.heap.size ≤ am) (ne_a_am : a ≠ am) : Go l Z (⟨"com/example/latchwork/latchwork/engine/IntList", "add", "(I)V"⟩ : MethodName) prog_19_method_7_code 2 (Option.none : Option Jvm.ClassFile.FieldType) ({ frames := 2, cells := 1, slots := 16, locals := 72 } : Room) (QV fun h' => (∃ am : Addr, ∃ xs : List Int32, Fld Z h' a "com/example/latchwork/latchwork/engine/IntList" "elements" "[I" (.ref am) ∧ Ari Z h' am .int xs ∧ a ≠ am ∧ Z.heap.size ≤ am ∧ xs.length ≤ 32 ∧ 3 ≤ xs.length ∧ xs[0]? = some v0 ∧ xs[1]? = some v1 ∧ xs[2]? = some x) ∧ Keep h h' [a, am] ∧ Exa Z h' a "com/example/latchwork/latchwork/engine/IntList" ∧ Fld Z h' a "com/example/latchwork/latchwork/engine/IntList" "size" "I" (.int ((2 : Int32) + (1 : Int32)))) 0 0 h 0 #[.val (.ref a), .val (.int x)] [] := by
  have kp0 : Keep h h [a, am] := Keep.refl _ _
  refine Go.aload_n 1 d4_0 rfl rfl rfl ?_
  refine Go.getfield 4 d4_1 (tw21 hw) fa2 rfl ?_
  refine Go.aload_n 5 d4_4 rfl rfl rfl ?_
  refine Go.getfield 8 d4_5 (tw14 hw) fa1 rfl ?_
  refine Go.arraylength (z := (List.length xs).toInt32) 9 d4_8 fa3 rfl rfl ?_
  refine Go.icmp_ne 41 12 d4_9 (by decide) (by decide) rfl (fun c1 => ?_) (fun c1 => ?_)
  ·
    refine Go.aload_n 42 d4_41 rfl rfl rfl ?_
    refine Go.getfield 45 d4_42 (tw14 hw) fa1 rfl ?_
    refine Go.aload_n 46 d4_45 rfl rfl rfl ?_
    refine Go.dup 47 d4_46 rfl rfl ?_
    refine Go.getfield 50 d4_47 (tw21 hw) fa2 rfl ?_
    refine Go.dupX1 51 d4_50 rfl rfl rfl ?_
    refine Go.iconst 52 (1) d4_51 (by decide) rfl ?_
    refine Go.iadd 53 d4_52 rfl ?_
    refine Go.putfield (ty := .int) 56 d4_53 (tw21 hw) fa2 fa0 (Or.inl (tw22 hw)) (tw1 hw) (by decide) rfl rfl ge_a rfl (fun h2 W3 => ?_)
    have f4 : Exa Z h2 a "com/example/latchwork/latchwork/engine/IntList" := fa0.wr W3
    have f5 : Fld Z h2 a "com/example/latchwork/latchwork/engine/IntList" "elements" "[I" (.ref am) := fa1.other W3 (Or.inr (slot_ne (Or.inl (tw15 hw)) (Or.inl (tw22 hw)) (by decide) (by decide +kernel : parseFieldDescriptor "[I" = some (.array .int)) (by decide +kernel : parseFieldDescriptor "I" = some .int)))
    have f6 : Fld Z h2 a "com/example/latchwork/latchwork/engine/IntList" "size" "I" (.int ((2 : Int32) + (1 : Int32))) := fa2.same W3
    have f7 : Ari Z h2 am .int xs := fa3.other W3 (Ne.symm ne_a_am)
    have zs8 : Z.heap.size ≤ h2.size := W3.size ▸ hz
    have kp9 : Keep h h2 [a, am] := kp0.wr W3 (Or.inl (by simp))
    refine Go.iload_n 57 d4_56 rfl rfl ?_
    refine Go.iastore (2) ((xs.set 2 x)) 58 d4_57 f7 (by decide) (by decide) (own_len_ne (k := 2) lu (by decide) ll c1) rfl ge_am rfl (fun h10 W11 A12 => ?_)
    have f13 : Exa Z h10 a "com/example/latchwork/latchwork/engine/IntList" := f4.wr W11
    have f14 : Fld Z h10 a "com/example/latchwork/latchwork/engine/IntList" "elements" "[I" (.ref am) := f5.other W11 (Or.inl ne_a_am)
    have f15 : Fld Z h10 a "com/example/latchwork/latchwork/engine/IntList" "size" "I" (.int ((2 : Int32) + (1 : Int32))) := f6.other W11 (Or.inl ne_a_am)
    have zs16 : Z.heap.size ≤ h10.size := W11.size ▸ zs8
    have kp17 : Keep h h10 [a, am] := kp9.wr W11 (Or.inl (by simp))
    refine Go.vreturn d4_58 rfl (by decide) (by decide) ?_
    exact ⟨⟨am, _, f14, A12, ne_a_am, ge_am, (by rw [List.length_set]; exact lu), (by rw [List.length_set]; exact (own_len_ne (k := 2) lu (by decide) ll c1)), (own_setn r0 (by decide)), (own_setn r1 (by decide)), (own_sets (own_len_ne (k := 2) lu (by decide) ll c1))⟩, kp17, f13, f15⟩
  ·
    refine Go.aload_n 13 d4_12 rfl rfl rfl ?_
    refine Go.aload_n 14 d4_13 rfl rfl rfl ?_
    refine Go.getfield 17 d4_14 (tw14 hw) fa1 rfl ?_
    refine Go.aload_n 18 d4_17 rfl rfl rfl ?_
    refine Go.getfield 21 d4_18 (tw21 hw) fa2 rfl ?_
    refine Go.aload_n 22 d4_21 rfl rfl rfl ?_
    refine Go.getfield 25 d4_22 (tw21 hw) fa2 rfl ?_
    refine Go.iconst 26 (1) d4_25 (by decide) rfl ?_
    refine Go.ishr 27 d4_26 rfl ?_
    refine Go.bipush 29 (8) d4_27 (by decide) rfl ?_
    refine Go.callSIp [.int ((2 : Int32) >>> ((1 : Int32) &&& 31)), .int (8 : Int32)] [.int (2 : Int32), .ref am, .ref a] 32 d4_29 (tw9 hw) (tw10 hw) (tw11 hw) (tw12 hw) pl3 (by decide) (lenOf pd3 rfl) rfl (fun m => ef_k_max m ((2 : Int32) >>> ((1 : Int32) &&& 31)) (8 : Int32)) _ (k_max hw h hz (((2 : Int32) >>> ((1 : Int32) &&& 31))) (8 : Int32)) 3 rfl (Nat.le_of_eq rfl) (by decide) (by decide) (by decide) (by decide) rfl ?_
    refine Go.callSIp [.int (2 : Int32), .int (if ((2 : Int32) >>> ((1 : Int32) &&& 31)) < (8 : Int32) then (8 : Int32) else ((2 : Int32) >>> ((1 : Int32) &&& 31)))] [.ref am, .ref a] 35 d4_32 (tw23 hw) (tw24 hw) (tw11 hw) (tw25 hw) pl5 (by decide) (lenOf pd5 rfl) rfl (fun m => ef_k_ae m (2 : Int32) (if ((2 : Int32) >>> ((1 : Int32) &&& 31)) < (8 : Int32) then (8 : Int32) else ((2 : Int32) >>> ((1 : Int32) &&& 31)))) _ (k_ae hw h hz (2 : Int32) ((if ((2 : Int32) >>> ((1 : Int32) &&& 31)) < (8 : Int32) then (8 : Int32) else ((2 : Int32) >>> ((1 : Int32) &&& 31)))) (by decide)) 2 rfl (Nat.le_of_eq rfl) (by decide) (by decide) (by decide) (by decide) rfl ?_
    refine Go.callSR [.ref am, .int ((2 : Int32) + (if ((2 : Int32) >>> ((1 : Int32) &&& 31)) < (8 : Int32) then (8 : Int32) else ((2 : Int32) >>> ((1 : Int32) &&& 31))))] [.ref a] 38 d4_35 (tw26 hw) (tw27 hw) (tw28 hw) (tw29 hw) pl6 (by decide) (lenOf pd6 rfl) rfl (fun m => ef_k_copy m am ((2 : Int32) + (if ((2 : Int32) >>> ((1 : Int32) &&& 31)) < (8 : Int32) then (8 : Int32) else ((2 : Int32) >>> ((1 : Int32) &&& 31))))) _ (k_copy hw h hz am (((2 : Int32) + (if ((2 : Int32) >>> ((1 : Int32) &&& 31)) < (8 : Int32) then (8 : Int32) else ((2 : Int32) >>> ((1 : Int32) &&& 31))))) fa3 (by decide) (by decide) (by rw [(own_len_eq (k := 2) lu (by decide) c1)]; decide) lu (by rw [← c1]; decide)) 1 rfl (Nat.le_of_eq rfl) (by decide) (by decide) (by decide) (by decide) rfl ?_
    rintro z24 h25 ⟨a27, rfl, g28, K26, f29⟩
    have ne30 : a ≠ a27 := Nat.ne_of_lt (Nat.lt_of_lt_of_le fa0.lt g28)
    have ne31 : am ≠ a27 := Nat.ne_of_lt (Nat.lt_of_lt_of_le fa3.lt g28)
    have ge32 : Z.heap.size ≤ a27 := Nat.le_trans hz g28
    have fr33 : h.size ≤ a27 := Nat.le_trans kp0.1 g28
    have f34 : Exa Z h25 a "com/example/latchwork/latchwork/engine/IntList" := fa0.keep K26
    have f35 : Fld Z h25 a "com/example/latchwork/latchwork/engine/IntList" "elements" "[I" (.ref am) := fa1.keep K26 nin0
    have f36 : Fld Z h25 a "com/example/latchwork/latchwork/engine/IntList" "size" "I" (.int (2 : Int32)) := fa2.keep K26 nin0
    have f37 : Ari Z h25 am .int xs := fa3.keep K26 nin0
    have zs38 : Z.heap.size ≤ h25.size := Nat.le_trans hz K26.1
    have kp39 : Keep h h25 [a, am] := kp0.trans K26 all0
    refine Go.putfield (ty := (.array .int)) 41 d4_38 (tw14 hw) f35 f34 (Or.inl (tw15 hw)) (tw1 hw) (by decide) rfl rfl ge_a rfl (fun h40 W41 => ?_)
    have f42 : Exa Z h40 a "com/example/latchwork/latchwork/engine/IntList" := f34.wr W41
    have f43 : Fld Z h40 a "com/example/latchwork/latchwork/engine/IntList" "elements" "[I" (.ref a27) := f35.same W41
    have f44 : Fld Z h40 a "com/example/latchwork/latchwork/engine/IntList" "size" "I" (.int (2 : Int32)) := f36.other W41 (Or.inr (slot_ne (Or.inl (tw22 hw)) (Or.inl (tw15 hw)) (by decide) (by decide +kernel : parseFieldDescriptor "I" = some .int) (by decide +kernel : parseFieldDescriptor "[I" = some (.array .int))))
    have f45 : Ari Z h40 am .int xs := f37.other W41 (Ne.symm ne_a_am)
    have f46 : Ari Z h40 a27 .int (xs ++ List.replicate ((Int32.toNatClampNeg ((2 : Int32) + (if ((2 : Int32) >>> ((1 : Int32) &&& 31)) < (8 : Int32) then (8 : Int32) else ((2 : Int32) >>> ((1 : Int32) &&& 31))))) - xs.length) 0) := f29.other W41 (Ne.symm ne30)
    have zs47 : Z.heap.size ≤ h40.size := W41.size ▸ zs38
    have kp48 : Keep h h40 [a, am] := kp39.wr W41 (Or.inl (by simp))
    refine Go.aload_n 42 d4_41 rfl rfl rfl ?_
    refine Go.getfield 45 d4_42 (tw14 hw) f43 rfl ?_
    refine Go.aload_n 46 d4_45 rfl rfl rfl ?_
    refine Go.dup 47 d4_46 rfl rfl ?_
    refine Go.getfield 50 d4_47 (tw21 hw) f44 rfl ?_
    refine Go.dupX1 51 d4_50 rfl rfl rfl ?_
    refine Go.iconst 52 (1) d4_51 (by decide) rfl ?_
    refine Go.iadd 53 d4_52 rfl ?_
    refine Go.putfield (ty := .int) 56 d4_53 (tw21 hw) f44 f42 (Or.inl (tw22 hw)) (tw1 hw) (by decide) rfl rfl ge_a rfl (fun h49 W50 => ?_)
    have f51 : Exa Z h49 a "com/example/latchwork/latchwork/engine/IntList" := f42.wr W50
    have f52 : Fld Z h49 a "com/example/latchwork/latchwork/engine/IntList" "elements" "[I" (.ref a27) := f43.other W50 (Or.inr (slot_ne (Or.inl (tw15 hw)) (Or.inl (tw22 hw)) (by decide) (by decide +kernel : parseFieldDescriptor "[I" = some (.array .int)) (by decide +kernel : parseFieldDescriptor "I" = some .int)))
    have f53 : Fld Z h49 a "com/example/latchwork/latchwork/engine/IntList" "size" "I" (.int ((2 : Int32) + (1 : Int32))) := f44.same W50
    have f54 : Ari Z h49 am .int xs := f45.other W50 (Ne.symm ne_a_am)
    have f55 : Ari Z h49 a27 .int (xs ++ List.replicate ((Int32.toNatClampNeg ((2 : Int32) + (if ((2 : Int32) >>> ((1 : Int32) &&& 31)) < (8 : Int32) then (8 : Int32) else ((2 : Int32) >>> ((1 : Int32) &&& 31))))) - xs.length) 0) := f46.other W50 (Ne.symm ne30)
    have zs56 : Z.heap.size ≤ h49.size := W50.size ▸ zs47
    have kp57 : Keep h h49 [a, am] := kp48.wr W50 (Or.inl (by simp))
    refine Go.iload_n 57 d4_56 rfl rfl ?_
    refine Go.iastore (2) (((xs ++ List.replicate ((Int32.toNatClampNeg ((2 : Int32) + (if ((2 : Int32) >>> ((1 : Int32) &&& 31)) < (8 : Int32) then (8 : Int32) else ((2 : Int32) >>> ((1 : Int32) &&& 31))))) - xs.length) 0).set 2 x)) 58 d4_57 f55 (by decide) (by decide) (by rw [List.length_append, List.length_replicate, (own_len_eq (k := 2) lu (by decide) c1)]; decide) rfl ge32 rfl (fun h58 W59 A60 => ?_)
    have f61 : Exa Z h58 a "com/example/latchwork/latchwork/engine/IntList" := f51.wr W59
    have f62 : Fld Z h58 a "com/example/latchwork/latchwork/engine/IntList" "elements" "[I" (.ref a27) := f52.other W59 (Or.inl ne30)
    have f63 : Fld Z h58 a "com/example/latchwork/latchwork/engine/IntList" "size" "I" (.int ((2 : Int32) + (1 : Int32))) := f53.other W59 (Or.inl ne30)
    have f64 : Ari Z h58 am .int xs := f54.other W59 ne31
    have zs65 : Z.heap.size ≤ h58.size := W59.size ▸ zs56
    have kp66 : Keep h h58 [a, am] := kp57.wr W59 (Or.inr fr33)
    refine Go.vreturn d4_58 rfl (by decide) (by decide) ?_
    exact ⟨⟨a27, _, f62, A60, ne30, ge32, (by rw [List.length_set, List.length_append, List.length_replicate, (own_len_eq (k := 2) lu (by decide) c1)]; decide), (by rw [List.length_set, List.length_append, List.length_replicate, (own_len_eq (k := 2) lu (by decide) c1)]; decide), (own_setn (own_geti r0) (by decide)), (own_setn (own_geti r1) (by decide)), (own_sets (by rw [List.length_append, List.length_replicate, (own_len_eq (k := 2) lu (by decide) c1)]; decide))⟩, kp66, f61, f63⟩

theorem ef_k_add3 (m : MethodId) (x0 : Addr) (x1 : Int32) : entryFrame m #[(.ref x0), (.int x1)] 2 = mkF m 0 #[.val (.ref x0), .val (.int x1)] [] := by first | (simp [entryFrame, mkF, argsToLocals, Value.category]; done) | rfl

set_option maxRecDepth 65536 in
set_option maxHeartbeats 40000000 in
theorem k_add3 {l : Launch} {Z : State} {a0 : Array Value} (hw : ∀ d ∈ tables_1, d.before a0 Z = true) {am : Addr} {xs : List Int32} {v0 : Int32} {v1 : Int32} {v2 : Int32} (h : Heap) (hz : Z.heap.size ≤ h.size) (a : Addr) (x : Int32) (fa0 : Exa Z h a "com/example/latchwork/latchwork/engine/IntList") (fa1 : Fld Z h a "com/example/latchwork/latchwork/engine/IntList" "elements" "[I" (.ref am)) (fa2 : Fld Z h a "com/example/latchwork/latchwork/engine/IntList" "size" "I" (.int (3 : Int32))) (fa3 : Ari Z h am .int xs) (lu : xs.length ≤ 32) (ll : 3 ≤ xs.length) (r0 : xs[0]? = some v0) (r1 : xs[1]? = some v1) (r2 : xs[2]? = some v2) (ge_a : Z.heap.size ≤ a) (ge_am : Z.heap.size ≤ am) (ne_a_am : a ≠ am) : Go l Z (⟨"com/example/latchwork/latchwork/engine/IntList", "add", "(I)V"⟩ : MethodName) prog_19_method_7_code 2 (Option.none : Option Jvm.ClassFile.FieldType) ({ frames := 2, cells := 1, slots := 16, locals := 72 } : Room) (QV fun h' => (∃ am : Addr, ∃ xs : List Int32, Fld Z h' a "com/example/latchwork/latchwork/engine/IntList" "elements" "[I" (.ref am) ∧ Ari Z h' am .int xs ∧ a ≠ am ∧ Z.heap.size ≤ am ∧ xs.length ≤ 32 ∧ 4 ≤ xs.length ∧ xs[0]? = some v0 ∧ xs[1]? = some v1 ∧ xs[2]? = some v2 ∧ xs[3]? = some x) ∧ Keep h h' [a, am] ∧ Exa Z h' a "com/example/latchwork/latchwork/engine/IntList" ∧ Fld Z h' a "com/example/latchwork/latchwork/engine/IntList" "size" "I" (.int ((3 : Int32) + (1 : Int32)))) 0 0 h 0 #[.val (.ref a), .val (.int x)] [] := by
  have kp0 : Keep h h [a, am] := Keep.refl _ _
  refine Go.aload_n 1 d4_0 rfl rfl rfl ?_
  refine Go.getfield 4 d4_1 (tw21 hw) fa2 rfl ?_
  refine Go.aload_n 5 d4_4 rfl rfl rfl ?_
  refine Go.getfield 8 d4_5 (tw14 hw) fa1 rfl ?_
  refine Go.arraylength (z := (List.length xs).toInt32) 9 d4_8 fa3 rfl rfl ?_
  refine Go.icmp_ne 41 12 d4_9 (by decide) (by decide) rfl (fun c1 => ?_) (fun c1 => ?_)
  ·
    refine Go.aload_n 42 d4_41 rfl rfl rfl ?_
    refine Go.getfield 45 d4_42 (tw14 hw) fa1 rfl ?_
    refine Go.aload_n 46 d4_45 rfl rfl rfl ?_
    refine Go.dup 47 d4_46 rfl rfl ?_
    refine Go.getfield 50 d4_47 (tw21 hw) fa2 rfl ?_
    refine Go.dupX1 51 d4_50 rfl rfl rfl ?_
    refine Go.iconst 52 (1) d4_51 (by decide) rfl ?_
    refine Go.iadd 53 d4_52 rfl ?_
    refine Go.putfield (ty := .int) 56 d4_53 (tw21 hw) fa2 fa0 (Or.inl (tw22 hw)) (tw1 hw) (by decide) rfl rfl ge_a rfl (fun h2 W3 => ?_)
    have f4 : Exa Z h2 a "com/example/latchwork/latchwork/engine/IntList" := fa0.wr W3
    have f5 : Fld Z h2 a "com/example/latchwork/latchwork/engine/IntList" "elements" "[I" (.ref am) := fa1.other W3 (Or.inr (slot_ne (Or.inl (tw15 hw)) (Or.inl (tw22 hw)) (by decide) (by decide +kernel : parseFieldDescriptor "[I" = some (.array .int)) (by decide +kernel : parseFieldDescriptor "I" = some .int)))
    have f6 : Fld Z h2 a "com/example/latchwork/latchwork/engine/IntList" "size" "I" (.int ((3 : Int32) + (1 : Int32))) := fa2.same W3
    have f7 : Ari Z h2 am .int xs := fa3.other W3 (Ne.symm ne_a_am)
    have zs8 : Z.heap.size ≤ h2.size := W3.size ▸ hz
    have kp9 : Keep h h2 [a, am] := kp0.wr W3 (Or.inl (by simp))
    refine Go.iload_n 57 d4_56 rfl rfl ?_
    refine Go.iastore (3) ((xs.set 3 x)) 58 d4_57 f7 (by decide) (by decide) (own_len_ne (k := 3) lu (by decide) ll c1) rfl ge_am rfl (fun h10 W11 A12 => ?_)
    have f13 : Exa Z h10 a "com/example/latchwork/latchwork/engine/IntList" := f4.wr W11
    have f14 : Fld Z h10 a "com/example/latchwork/latchwork/engine/IntList" "elements" "[I" (.ref am) := f5.other W11 (Or.inl ne_a_am)
    have f15 : Fld Z h10 a "com/example/latchwork/latchwork/engine/IntList" "size" "I" (.int ((3 : Int32) + (1 : Int32))) := f6.other W11 (Or.inl ne_a_am)
    have zs16 : Z.heap.size ≤ h10.size := W11.size ▸ zs8
    have kp17 : Keep h h10 [a, am] := kp9.wr W11 (Or.inl (by simp))
    refine Go.vreturn d4_58 rfl (by decide) (by decide) ?_
    exact ⟨⟨am, _, f14, A12, ne_a_am, ge_am, (by rw [List.length_set]; exact lu), (by rw [List.length_set]; exact (own_len_ne (k := 3) lu (by decide) ll c1)), (own_setn r0 (by decide)), (own_setn r1 (by decide)), (own_setn r2 (by decide)), (own_sets (own_len_ne (k := 3) lu (by decide) ll c1))⟩, kp17, f13, f15⟩
  ·
    refine Go.aload_n 13 d4_12 rfl rfl rfl ?_
    refine Go.aload_n 14 d4_13 rfl rfl rfl ?_
    refine Go.getfield 17 d4_14 (tw14 hw) fa1 rfl ?_
    refine Go.aload_n 18 d4_17 rfl rfl rfl ?_
    refine Go.getfield 21 d4_18 (tw21 hw) fa2 rfl ?_
    refine Go.aload_n 22 d4_21 rfl rfl rfl ?_
    refine Go.getfield 25 d4_22 (tw21 hw) fa2 rfl ?_
    refine Go.iconst 26 (1) d4_25 (by decide) rfl ?_
    refine Go.ishr 27 d4_26 rfl ?_
    refine Go.bipush 29 (8) d4_27 (by decide) rfl ?_
    refine Go.callSIp [.int ((3 : Int32) >>> ((1 : Int32) &&& 31)), .int (8 : Int32)] [.int (3 : Int32), .ref am, .ref a] 32 d4_29 (tw9 hw) (tw10 hw) (tw11 hw) (tw12 hw) pl3 (by decide) (lenOf pd3 rfl) rfl (fun m => ef_k_max m ((3 : Int32) >>> ((1 : Int32) &&& 31)) (8 : Int32)) _ (k_max hw h hz (((3 : Int32) >>> ((1 : Int32) &&& 31))) (8 : Int32)) 3 rfl (Nat.le_of_eq rfl) (by decide) (by decide) (by decide) (by decide) rfl ?_
    refine Go.callSIp [.int (3 : Int32), .int (if ((3 : Int32) >>> ((1 : Int32) &&& 31)) < (8 : Int32) then (8 : Int32) else ((3 : Int32) >>> ((1 : Int32) &&& 31)))] [.ref am, .ref a] 35 d4_32 (tw23 hw) (tw24 hw) (tw11 hw) (tw25 hw) pl5 (by decide) (lenOf pd5 rfl) rfl (fun m => ef_k_ae m (3 : Int32) (if ((3 : Int32) >>> ((1 : Int32) &&& 31)) < (8 : Int32) then (8 : Int32) else ((3 : Int32) >>> ((1 : Int32) &&& 31)))) _ (k_ae hw h hz (3 : Int32) ((if ((3 : Int32) >>> ((1 : Int32) &&& 31)) < (8 : Int32) then (8 : Int32) else ((3 : Int32) >>> ((1 : Int32) &&& 31)))) (by decide)) 2 rfl (Nat.le_of_eq rfl) (by decide) (by decide) (by decide) (by decide) rfl ?_
    refine Go.callSR [.ref am, .int ((3 : Int32) + (if ((3 : Int32) >>> ((1 : Int32) &&& 31)) < (8 : Int32) then (8 : Int32) else ((3 : Int32) >>> ((1 : Int32) &&& 31))))] [.ref a] 38 d4_35 (tw26 hw) (tw27 hw) (tw28 hw) (tw29 hw) pl6 (by decide) (lenOf pd6 rfl) rfl (fun m => ef_k_copy m am ((3 : Int32) + (if ((3 : Int32) >>> ((1 : Int32) &&& 31)) < (8 : Int32) then (8 : Int32) else ((3 : Int32) >>> ((1 : Int32) &&& 31))))) _ (k_copy hw h hz am (((3 : Int32) + (if ((3 : Int32) >>> ((1 : Int32) &&& 31)) < (8 : Int32) then (8 : Int32) else ((3 : Int32) >>> ((1 : Int32) &&& 31))))) fa3 (by decide) (by decide) (by rw [(own_len_eq (k := 3) lu (by decide) c1)]; decide) lu (by rw [← c1]; decide)) 1 rfl (Nat.le_of_eq rfl) (by decide) (by decide) (by decide) (by decide) rfl ?_
    rintro z24 h25 ⟨a27, rfl, g28, K26, f29⟩
    have ne30 : a ≠ a27 := Nat.ne_of_lt (Nat.lt_of_lt_of_le fa0.lt g28)
    have ne31 : am ≠ a27 := Nat.ne_of_lt (Nat.lt_of_lt_of_le fa3.lt g28)
    have ge32 : Z.heap.size ≤ a27 := Nat.le_trans hz g28
    have fr33 : h.size ≤ a27 := Nat.le_trans kp0.1 g28
    have f34 : Exa Z h25 a "com/example/latchwork/latchwork/engine/IntList" := fa0.keep K26
    have f35 : Fld Z h25 a "com/example/latchwork/latchwork/engine/IntList" "elements" "[I" (.ref am) := fa1.keep K26 nin0
    have f36 : Fld Z h25 a "com/example/latchwork/latchwork/engine/IntList" "size" "I" (.int (3 : Int32)) := fa2.keep K26 nin0
    have f37 : Ari Z h25 am .int xs := fa3.keep K26 nin0
    have zs38 : Z.heap.size ≤ h25.size := Nat.le_trans hz K26.1
    have kp39 : Keep h h25 [a, am] := kp0.trans K26 all0
    refine Go.putfield (ty := (.array .int)) 41 d4_38 (tw14 hw) f35 f34 (Or.inl (tw15 hw)) (tw1 hw) (by decide) rfl rfl ge_a rfl (fun h40 W41 => ?_)
    have f42 : Exa Z h40 a "com/example/latchwork/latchwork/engine/IntList" := f34.wr W41
    have f43 : Fld Z h40 a "com/example/latchwork/latchwork/engine/IntList" "elements" "[I" (.ref a27) := f35.same W41
    have f44 : Fld Z h40 a "com/example/latchwork/latchwork/engine/IntList" "size" "I" (.int (3 : Int32)) := f36.other W41 (Or.inr (slot_ne (Or.inl (tw22 hw)) (Or.inl (tw15 hw)) (by decide) (by decide +kernel : parseFieldDescriptor "I" = some .int) (by decide +kernel : parseFieldDescriptor "[I" = some (.array .int))))
    have f45 : Ari Z h40 am .int xs := f37.other W41 (Ne.symm ne_a_am)
    have f46 : Ari Z h40 a27 .int (xs ++ List.replicate ((Int32.toNatClampNeg ((3 : Int32) + (if ((3 : Int32) >>> ((1 : Int32) &&& 31)) < (8 : Int32) then (8 : Int32) else ((3 : Int32) >>> ((1 : Int32) &&& 31))))) - xs.length) 0) := f29.other W41 (Ne.symm ne30)
    have zs47 : Z.heap.size ≤ h40.size := W41.size ▸ zs38
    have kp48 : Keep h h40 [a, am] := kp39.wr W41 (Or.inl (by simp))
    refine Go.aload_n 42 d4_41 rfl rfl rfl ?_
    refine Go.getfield 45 d4_42 (tw14 hw) f43 rfl ?_
    refine Go.aload_n 46 d4_45 rfl rfl rfl ?_
    refine Go.dup 47 d4_46 rfl rfl ?_
    refine Go.getfield 50 d4_47 (tw21 hw) f44 rfl ?_
    refine Go.dupX1 51 d4_50 rfl rfl rfl ?_
    refine Go.iconst 52 (1) d4_51 (by decide) rfl ?_
    refine Go.iadd 53 d4_52 rfl ?_
    refine Go.putfield (ty := .int) 56 d4_53 (tw21 hw) f44 f42 (Or.inl (tw22 hw)) (tw1 hw) (by decide) rfl rfl ge_a rfl (fun h49 W50 => ?_)
    have f51 : Exa Z h49 a "com/example/latchwork/latchwork/engine/IntList" := f42.wr W50
    have f52 : Fld Z h49 a "com/example/latchwork/latchwork/engine/IntList" "elements" "[I" (.ref a27) := f43.other W50 (Or.inr (slot_ne (Or.inl (tw15 hw)) (Or.inl (tw22 hw)) (by decide) (by decide +kernel : parseFieldDescriptor "[I" = some (.array .int)) (by decide +kernel : parseFieldDescriptor "I" = some .int)))
    have f53 : Fld Z h49 a "com/example/latchwork/latchwork/engine/IntList" "size" "I" (.int ((3 : Int32) + (1 : Int32))) := f44.same W50
    have f54 : Ari Z h49 am .int xs := f45.other W50 (Ne.symm ne_a_am)
    have f55 : Ari Z h49 a27 .int (xs ++ List.replicate ((Int32.toNatClampNeg ((3 : Int32) + (if ((3 : Int32) >>> ((1 : Int32) &&& 31)) < (8 : Int32) then (8 : Int32) else ((3 : Int32) >>> ((1 : Int32) &&& 31))))) - xs.length) 0) := f46.other W50 (Ne.symm ne30)
    have zs56 : Z.heap.size ≤ h49.size := W50.size ▸ zs47
    have kp57 : Keep h h49 [a, am] := kp48.wr W50 (Or.inl (by simp))
    refine Go.iload_n 57 d4_56 rfl rfl ?_
    refine Go.iastore (3) (((xs ++ List.replicate ((Int32.toNatClampNeg ((3 : Int32) + (if ((3 : Int32) >>> ((1 : Int32) &&& 31)) < (8 : Int32) then (8 : Int32) else ((3 : Int32) >>> ((1 : Int32) &&& 31))))) - xs.length) 0).set 3 x)) 58 d4_57 f55 (by decide) (by decide) (by rw [List.length_append, List.length_replicate, (own_len_eq (k := 3) lu (by decide) c1)]; decide) rfl ge32 rfl (fun h58 W59 A60 => ?_)
    have f61 : Exa Z h58 a "com/example/latchwork/latchwork/engine/IntList" := f51.wr W59
    have f62 : Fld Z h58 a "com/example/latchwork/latchwork/engine/IntList" "elements" "[I" (.ref a27) := f52.other W59 (Or.inl ne30)
    have f63 : Fld Z h58 a "com/example/latchwork/latchwork/engine/IntList" "size" "I" (.int ((3 : Int32) + (1 : Int32))) := f53.other W59 (Or.inl ne30)
    have f64 : Ari Z h58 am .int xs := f54.other W59 ne31
    have zs65 : Z.heap.size ≤ h58.size := W59.size ▸ zs56
    have kp66 : Keep h h58 [a, am] := kp57.wr W59 (Or.inr fr33)
    refine Go.vreturn d4_58 rfl (by decide) (by decide) ?_
    exact ⟨⟨a27, _, f62, A60, ne30, ge32, (by rw [List.length_set, List.length_append, List.length_replicate, (own_len_eq (k := 3) lu (by decide) c1)]; decide), (by rw [List.length_set, List.length_append, List.length_replicate, (own_len_eq (k := 3) lu (by decide) c1)]; decide), (own_setn (own_geti r0) (by decide)), (own_setn (own_geti r1) (by decide)), (own_setn (own_geti r2) (by decide)), (own_sets (by rw [List.length_append, List.length_replicate, (own_len_eq (k := 3) lu (by decide) c1)]; decide))⟩, kp66, f61, f63⟩

theorem d9_0 : decode prog_19_method_9_code 0 = .ok (.aload_n 0, 1) := by decide +kernel
theorem d9_1 : decode prog_19_method_9_code 1 = .ok (.getfield 18, 3) := by decide +kernel
theorem d9_4 : decode prog_19_method_9_code 4 = .ok (.aload_n 0, 1) := by decide +kernel
theorem d9_5 : decode prog_19_method_9_code 5 = .ok (.dup, 1) := by decide +kernel
theorem d9_6 : decode prog_19_method_9_code 6 = .ok (.getfield 22, 3) := by decide +kernel
theorem d9_9 : decode prog_19_method_9_code 9 = .ok (.iconst 1, 1) := by decide +kernel
theorem d9_10 : decode prog_19_method_9_code 10 = .ok (.isub, 1) := by decide +kernel
theorem d9_11 : decode prog_19_method_9_code 11 = .ok (.dup_x1, 1) := by decide +kernel
theorem d9_12 : decode prog_19_method_9_code 12 = .ok (.putfield 22, 3) := by decide +kernel
theorem d9_15 : decode prog_19_method_9_code 15 = .ok (.iaload, 1) := by decide +kernel
theorem d9_16 : decode prog_19_method_9_code 16 = .ok (.ireturn, 1) := by decide +kernel

theorem pd9 : parseMethodDescriptor "()I" = some ⟨[], some .int⟩ := by decide +kernel
theorem pl9 : plainFor (⟨"com/example/latchwork/latchwork/engine/IntList", "pop", "()I"⟩ : MethodName) = true := by first | exact plainFor_of_name (by first | (simp [plainName, overriddenIn]; done) | decide +kernel) | decide +kernel

theorem ef_k_pop1 (m : MethodId) (x0 : Addr) : entryFrame m #[(.ref x0)] 1 = mkF m 0 #[.val (.ref x0)] [] := by first | (simp [entryFrame, mkF, argsToLocals, Value.category]; done) | rfl

set_option maxRecDepth 65536 in
set_option maxHeartbeats 40000000 in
theorem k_pop1 {l : Launch} {Z : State} {a0 : Array Value} (hw : ∀ d ∈ tables_1, d.before a0 Z = true) {am : Addr} {xs : List Int32} {y : Int32} (h : Heap) (hz : Z.heap.size ≤ h.size) (a : Addr) (fa0 : Exa Z h a "com/example/latchwork/latchwork/engine/IntList") (fa1 : Fld Z h a "com/example/latchwork/latchwork/engine/IntList" "elements" "[I" (.ref am)) (fa2 : Fld Z h a "com/example/latchwork/latchwork/engine/IntList" "size" "I" (.int (1 : Int32))) (fa3 : Ari Z h am .int xs) (ry : xs[0]? = some y) (ge_a : Z.heap.size ≤ a) (ge_am : Z.heap.size ≤ am) (ne_a_am : a ≠ am) : Go l Z (⟨"com/example/latchwork/latchwork/engine/IntList", "pop", "()I"⟩ : MethodName) prog_19_method_9_code 1 (Option.some Jvm.ClassFile.FieldType.int) ({ frames := 0, cells := 0, slots := 0, locals := 0 } : Room) (QI fun rz h' => rz = y ∧ Keep h h' [a] ∧ Exa Z h' a "com/example/latchwork/latchwork/engine/IntList" ∧ Fld Z h' a "com/example/latchwork/latchwork/engine/IntList" "elements" "[I" (.ref am) ∧ Fld Z h' a "com/example/latchwork/latchwork/engine/IntList" "size" "I" (.int ((1 : Int32) - (1 : Int32))) ∧ Ari Z h' am .int xs) 0 0 h 0 #[.val (.ref a)] [] := by
  have kp0 : Keep h h [a] := Keep.refl _ _
  refine Go.aload_n 1 d9_0 rfl rfl rfl ?_
  refine Go.getfield 4 d9_1 (tw14 hw) fa1 rfl ?_
  refine Go.aload_n 5 d9_4 rfl rfl rfl ?_
  refine Go.dup 6 d9_5 rfl rfl ?_
  refine Go.getfield 9 d9_6 (tw21 hw) fa2 rfl ?_
  refine Go.iconst 10 (1) d9_9 (by decide) rfl ?_
  refine Go.isub 11 d9_10 rfl ?_
  refine Go.dupX1 12 d9_11 rfl rfl rfl ?_
  refine Go.putfield (ty := .int) 15 d9_12 (tw21 hw) fa2 fa0 (Or.inl (tw22 hw)) (tw1 hw) (by decide) rfl rfl ge_a rfl (fun h1 W2 => ?_)
  have f3 : Exa Z h1 a "com/example/latchwork/latchwork/engine/IntList" := fa0.wr W2
  have f4 : Fld Z h1 a "com/example/latchwork/latchwork/engine/IntList" "elements" "[I" (.ref am) := fa1.other W2 (Or.inr (slot_ne (Or.inl (tw15 hw)) (Or.inl (tw22 hw)) (by decide) (by decide +kernel : parseFieldDescriptor "[I" = some (.array .int)) (by decide +kernel : parseFieldDescriptor "I" = some .int)))
  have f5 : Fld Z h1 a "com/example/latchwork/latchwork/engine/IntList" "size" "I" (.int ((1 : Int32) - (1 : Int32))) := fa2.same W2
  have f6 : Ari Z h1 am .int xs := fa3.other W2 (Ne.symm ne_a_am)
  have zs7 : Z.heap.size ≤ h1.size := W2.size ▸ hz
  have kp8 : Keep h h1 [a] := kp0.wr W2 (Or.inl (by simp))
  refine Go.iaload (x := y) (0) 16 d9_15 f6 (by decide) (by decide) ry rfl ?_
  refine Go.ireturn d9_16 rfl (by decide) (by decide) ?_
  exact ⟨rfl, kp8, f3, f4, f5, f6⟩

theorem ef_k_pop2 (m : MethodId) (x0 : Addr) : entryFrame m #[(.ref x0)] 1 = mkF m 0 #[.val (.ref x0)] [] := by first | (simp [entryFrame, mkF, argsToLocals, Value.category]; done) | rfl

set_option maxRecDepth 65536 in
set_option maxHeartbeats 40000000 in
theorem k_pop2 {l : Launch} {Z : State} {a0 : Array Value} (hw : ∀ d ∈ tables_1, d.before a0 Z = true) {am : Addr} {xs : List Int32} {y : Int32} (h : Heap) (hz : Z.heap.size ≤ h.size) (a : Addr) (fa0 : Exa Z h a "com/example/latchwork/latchwork/engine/IntList") (fa1 : Fld Z h a "com/example/latchwork/latchwork/engine/IntList" "elements" "[I" (.ref am)) (fa2 : Fld Z h a "com/example/latchwork/latchwork/engine/IntList" "size" "I" (.int (2 : Int32))) (fa3 : Ari Z h am .int xs) (ry : xs[1]? = some y) (ge_a : Z.heap.size ≤ a) (ge_am : Z.heap.size ≤ am) (ne_a_am : a ≠ am) : Go l Z (⟨"com/example/latchwork/latchwork/engine/IntList", "pop", "()I"⟩ : MethodName) prog_19_method_9_code 1 (Option.some Jvm.ClassFile.FieldType.int) ({ frames := 0, cells := 0, slots := 0, locals := 0 } : Room) (QI fun rz h' => rz = y ∧ Keep h h' [a] ∧ Exa Z h' a "com/example/latchwork/latchwork/engine/IntList" ∧ Fld Z h' a "com/example/latchwork/latchwork/engine/IntList" "elements" "[I" (.ref am) ∧ Fld Z h' a "com/example/latchwork/latchwork/engine/IntList" "size" "I" (.int ((2 : Int32) - (1 : Int32))) ∧ Ari Z h' am .int xs) 0 0 h 0 #[.val (.ref a)] [] := by
  have kp0 : Keep h h [a] := Keep.refl _ _
  refine Go.aload_n 1 d9_0 rfl rfl rfl ?_
  refine Go.getfield 4 d9_1 (tw14 hw) fa1 rfl ?_
  refine Go.aload_n 5 d9_4 rfl rfl rfl ?_
  refine Go.dup 6 d9_5 rfl rfl ?_
  refine Go.getfield 9 d9_6 (tw21 hw) fa2 rfl ?_
  refine Go.iconst 10 (1) d9_9 (by decide) rfl ?_
  refine Go.isub 11 d9_10 rfl ?_
  refine Go.dupX1 12 d9_11 rfl rfl rfl ?_
  refine Go.putfield (ty := .int) 15 d9_12 (tw21 hw) fa2 fa0 (Or.inl (tw22 hw)) (tw1 hw) (by decide) rfl rfl ge_a rfl (fun h1 W2 => ?_)
  have f3 : Exa Z h1 a "com/example/latchwork/latchwork/engine/IntList" := fa0.wr W2
  have f4 : Fld Z h1 a "com/example/latchwork/latchwork/engine/IntList" "elements" "[I" (.ref am) := fa1.other W2 (Or.inr (slot_ne (Or.inl (tw15 hw)) (Or.inl (tw22 hw)) (by decide) (by decide +kernel : parseFieldDescriptor "[I" = some (.array .int)) (by decide +kernel : parseFieldDescriptor "I" = some .int)))
  have f5 : Fld Z h1 a "com/example/latchwork/latchwork/engine/IntList" "size" "I" (.int ((2 : Int32) - (1 : Int32))) := fa2.same W2
  have f6 : Ari Z h1 am .int xs := fa3.other W2 (Ne.symm ne_a_am)
  have zs7 : Z.heap.size ≤ h1.size := W2.size ▸ hz
  have kp8 : Keep h h1 [a] := kp0.wr W2 (Or.inl (by simp))
  refine Go.iaload (x := y) (1) 16 d9_15 f6 (by decide) (by decide) ry rfl ?_
  refine Go.ireturn d9_16 rfl (by decide) (by decide) ?_
  exact ⟨rfl, kp8, f3, f4, f5, f6⟩

theorem ef_k_pop3 (m : MethodId) (x0 : Addr) : entryFrame m #[(.ref x0)] 1 = mkF m 0 #[.val (.ref x0)] [] := by first | (simp [entryFrame, mkF, argsToLocals, Value.category]; done) | rfl

set_option maxRecDepth 65536 in
set_option maxHeartbeats 40000000 in
theorem k_pop3 {l : Launch} {Z : State} {a0 : Array Value} (hw : ∀ d ∈ tables_1, d.before a0 Z = true) {am : Addr} {xs : List Int32} {y : Int32} (h : Heap) (hz : Z.heap.size ≤ h.size) (a : Addr) (fa0 : Exa Z h a "com/example/latchwork/latchwork/engine/IntList") (fa1 : Fld Z h a "com/example/latchwork/latchwork/engine/IntList" "elements" "[I" (.ref am)) (fa2 : Fld Z h a "com/example/latchwork/latchwork/engine/IntList" "size" "I" (.int (3 : Int32))) (fa3 : Ari Z h am .int xs) (ry : xs[2]? = some y) (ge_a : Z.heap.size ≤ a) (ge_am : Z.heap.size ≤ am) (ne_a_am : a ≠ am) : Go l Z (⟨"com/example/latchwork/latchwork/engine/IntList", "pop", "()I"⟩ : MethodName) prog_19_method_9_code 1 (Option.some Jvm.ClassFile.FieldType.int) ({ frames := 0, cells := 0, slots := 0, locals := 0 } : Room) (QI fun rz h' => rz = y ∧ Keep h h' [a] ∧ Exa Z h' a "com/example/latchwork/latchwork/engine/IntList" ∧ Fld Z h' a "com/example/latchwork/latchwork/engine/IntList" "elements" "[I" (.ref am) ∧ Fld Z h' a "com/example/latchwork/latchwork/engine/IntList" "size" "I" (.int ((3 : Int32) - (1 : Int32))) ∧ Ari Z h' am .int xs) 0 0 h 0 #[.val (.ref a)] [] := by
  have kp0 : Keep h h [a] := Keep.refl _ _
  refine Go.aload_n 1 d9_0 rfl rfl rfl ?_
  refine Go.getfield 4 d9_1 (tw14 hw) fa1 rfl ?_
  refine Go.aload_n 5 d9_4 rfl rfl rfl ?_
  refine Go.dup 6 d9_5 rfl rfl ?_
  refine Go.getfield 9 d9_6 (tw21 hw) fa2 rfl ?_
  refine Go.iconst 10 (1) d9_9 (by decide) rfl ?_
  refine Go.isub 11 d9_10 rfl ?_
  refine Go.dupX1 12 d9_11 rfl rfl rfl ?_
  refine Go.putfield (ty := .int) 15 d9_12 (tw21 hw) fa2 fa0 (Or.inl (tw22 hw)) (tw1 hw) (by decide) rfl rfl ge_a rfl (fun h1 W2 => ?_)
  have f3 : Exa Z h1 a "com/example/latchwork/latchwork/engine/IntList" := fa0.wr W2
  have f4 : Fld Z h1 a "com/example/latchwork/latchwork/engine/IntList" "elements" "[I" (.ref am) := fa1.other W2 (Or.inr (slot_ne (Or.inl (tw15 hw)) (Or.inl (tw22 hw)) (by decide) (by decide +kernel : parseFieldDescriptor "[I" = some (.array .int)) (by decide +kernel : parseFieldDescriptor "I" = some .int)))
  have f5 : Fld Z h1 a "com/example/latchwork/latchwork/engine/IntList" "size" "I" (.int ((3 : Int32) - (1 : Int32))) := fa2.same W2
  have f6 : Ari Z h1 am .int xs := fa3.other W2 (Ne.symm ne_a_am)
  have zs7 : Z.heap.size ≤ h1.size := W2.size ▸ hz
  have kp8 : Keep h h1 [a] := kp0.wr W2 (Or.inl (by simp))
  refine Go.iaload (x := y) (2) 16 d9_15 f6 (by decide) (by decide) ry rfl ?_
  refine Go.ireturn d9_16 rfl (by decide) (by decide) ?_
  exact ⟨rfl, kp8, f3, f4, f5, f6⟩

theorem ef_k_pop4 (m : MethodId) (x0 : Addr) : entryFrame m #[(.ref x0)] 1 = mkF m 0 #[.val (.ref x0)] [] := by first | (simp [entryFrame, mkF, argsToLocals, Value.category]; done) | rfl

set_option maxRecDepth 65536 in
set_option maxHeartbeats 40000000 in
theorem k_pop4 {l : Launch} {Z : State} {a0 : Array Value} (hw : ∀ d ∈ tables_1, d.before a0 Z = true) {am : Addr} {xs : List Int32} {y : Int32} (h : Heap) (hz : Z.heap.size ≤ h.size) (a : Addr) (fa0 : Exa Z h a "com/example/latchwork/latchwork/engine/IntList") (fa1 : Fld Z h a "com/example/latchwork/latchwork/engine/IntList" "elements" "[I" (.ref am)) (fa2 : Fld Z h a "com/example/latchwork/latchwork/engine/IntList" "size" "I" (.int (4 : Int32))) (fa3 : Ari Z h am .int xs) (ry : xs[3]? = some y) (ge_a : Z.heap.size ≤ a) (ge_am : Z.heap.size ≤ am) (ne_a_am : a ≠ am) : Go l Z (⟨"com/example/latchwork/latchwork/engine/IntList", "pop", "()I"⟩ : MethodName) prog_19_method_9_code 1 (Option.some Jvm.ClassFile.FieldType.int) ({ frames := 0, cells := 0, slots := 0, locals := 0 } : Room) (QI fun rz h' => rz = y ∧ Keep h h' [a] ∧ Exa Z h' a "com/example/latchwork/latchwork/engine/IntList" ∧ Fld Z h' a "com/example/latchwork/latchwork/engine/IntList" "elements" "[I" (.ref am) ∧ Fld Z h' a "com/example/latchwork/latchwork/engine/IntList" "size" "I" (.int ((4 : Int32) - (1 : Int32))) ∧ Ari Z h' am .int xs) 0 0 h 0 #[.val (.ref a)] [] := by
  have kp0 : Keep h h [a] := Keep.refl _ _
  refine Go.aload_n 1 d9_0 rfl rfl rfl ?_
  refine Go.getfield 4 d9_1 (tw14 hw) fa1 rfl ?_
  refine Go.aload_n 5 d9_4 rfl rfl rfl ?_
  refine Go.dup 6 d9_5 rfl rfl ?_
  refine Go.getfield 9 d9_6 (tw21 hw) fa2 rfl ?_
  refine Go.iconst 10 (1) d9_9 (by decide) rfl ?_
  refine Go.isub 11 d9_10 rfl ?_
  refine Go.dupX1 12 d9_11 rfl rfl rfl ?_
  refine Go.putfield (ty := .int) 15 d9_12 (tw21 hw) fa2 fa0 (Or.inl (tw22 hw)) (tw1 hw) (by decide) rfl rfl ge_a rfl (fun h1 W2 => ?_)
  have f3 : Exa Z h1 a "com/example/latchwork/latchwork/engine/IntList" := fa0.wr W2
  have f4 : Fld Z h1 a "com/example/latchwork/latchwork/engine/IntList" "elements" "[I" (.ref am) := fa1.other W2 (Or.inr (slot_ne (Or.inl (tw15 hw)) (Or.inl (tw22 hw)) (by decide) (by decide +kernel : parseFieldDescriptor "[I" = some (.array .int)) (by decide +kernel : parseFieldDescriptor "I" = some .int)))
  have f5 : Fld Z h1 a "com/example/latchwork/latchwork/engine/IntList" "size" "I" (.int ((4 : Int32) - (1 : Int32))) := fa2.same W2
  have f6 : Ari Z h1 am .int xs := fa3.other W2 (Ne.symm ne_a_am)
  have zs7 : Z.heap.size ≤ h1.size := W2.size ▸ hz
  have kp8 : Keep h h1 [a] := kp0.wr W2 (Or.inl (by simp))
  refine Go.iaload (x := y) (3) 16 d9_15 f6 (by decide) (by decide) ry rfl ?_
  refine Go.ireturn d9_16 rfl (by decide) (by decide) ?_
  exact ⟨rfl, kp8, f3, f4, f5, f6⟩

theorem d8_0 : decode prog_19_method_12_code 0 = .ok (.iconst 0, 1) := by decide +kernel
theorem d8_1 : decode prog_19_method_12_code 1 = .ok (.istore_n 2, 1) := by decide +kernel
theorem d8_2 : decode prog_19_method_12_code 2 = .ok (.iload_n 2, 1) := by decide +kernel
theorem d8_3 : decode prog_19_method_12_code 3 = .ok (.aload_n 0, 1) := by decide +kernel
theorem d8_4 : decode prog_19_method_12_code 4 = .ok (.getfield 22, 3) := by decide +kernel
theorem d8_7 : decode prog_19_method_12_code 7 = .ok (.if_icmp .ge 21, 3) := by decide +kernel
theorem d8_10 : decode prog_19_method_12_code 10 = .ok (.aload_n 0, 1) := by decide +kernel
theorem d8_11 : decode prog_19_method_12_code 11 = .ok (.getfield 18, 3) := by decide +kernel
theorem d8_14 : decode prog_19_method_12_code 14 = .ok (.iload_n 2, 1) := by decide +kernel
theorem d8_15 : decode prog_19_method_12_code 15 = .ok (.iaload, 1) := by decide +kernel
theorem d8_16 : decode prog_19_method_12_code 16 = .ok (.iload_n 1, 1) := by decide +kernel
theorem d8_17 : decode prog_19_method_12_code 17 = .ok (.if_icmp .ne 5, 3) := by decide +kernel
theorem d8_20 : decode prog_19_method_12_code 20 = .ok (.iload_n 2, 1) := by decide +kernel
theorem d8_21 : decode prog_19_method_12_code 21 = .ok (.ireturn, 1) := by decide +kernel
theorem d8_22 : decode prog_19_method_12_code 22 = .ok (.iinc 2 1, 3) := by decide +kernel
theorem d8_25 : decode prog_19_method_12_code 25 = .ok (.goto (-23), 3) := by decide +kernel
theorem d8_28 : decode prog_19_method_12_code 28 = .ok (.iconst (-1), 1) := by decide +kernel
theorem d8_29 : decode prog_19_method_12_code 29 = .ok (.ireturn, 1) := by decide +kernel

theorem pd8 : parseMethodDescriptor "(I)I" = some ⟨[.int], some .int⟩ := by decide +kernel
theorem pl8 : plainFor (⟨"com/example/latchwork/latchwork/engine/IntList", "indexOf", "(I)I"⟩ : MethodName) = true := by first | exact plainFor_of_name (by first | (simp [plainName, overriddenIn]; done) | decide +kernel) | decide +kernel

theorem ef_k_idx0 (m : MethodId) (x0 : Addr) (x1 : Int32) : entryFrame m #[(.ref x0), (.int x1)] 3 = mkF m 0 #[.val (.ref x0), .val (.int x1), .unset] [] := by first | (simp [entryFrame, mkF, argsToLocals, Value.category]; done) | rfl

set_option maxRecDepth 65536 in
set_option maxHeartbeats 40000000 in
theorem k_idx0 {l : Launch} {Z : State} {a0 : Array Value} (hw : ∀ d ∈ tables_1, d.before a0 Z = true) {am : Addr} {xs : List Int32} (h : Heap) (hz : Z.heap.size ≤ h.size) (a : Addr) (q : Int32) (fa0 : Fld Z h a "com/example/latchwork/latchwork/engine/IntList" "elements" "[I" (.ref am)) (fa1 : Fld Z h a "com/example/latchwork/latchwork/engine/IntList" "size" "I" (.int (0 : Int32))) (fa2 : Ari Z h am .int xs)    : Go l Z (⟨"com/example/latchwork/latchwork/engine/IntList", "indexOf", "(I)I"⟩ : MethodName) prog_19_method_12_code 3 (Option.some Jvm.ClassFile.FieldType.int) ({ frames := 0, cells := 0, slots := 0, locals := 0 } : Room) (QI fun rz h' => rz = (own_idx [] q 0) ∧ h' = h) 0 0 h 0 #[.val (.ref a), .val (.int q), .unset] [] := by
  refine Go.iconst 1 (0) d8_0 (by decide) rfl ?_
  refine Go.istore_n 2 #[.val (.ref a), .val (.int q), .val (.int (0 : Int32))] d8_1 rfl rfl ?_
  refine Go.iload_n 3 d8_2 rfl rfl ?_
  refine Go.aload_n 4 d8_3 rfl rfl rfl ?_
  refine Go.getfield 7 d8_4 (tw21 hw) fa1 rfl ?_
  refine Go.icmp_ge 28 10 d8_7 (by decide) (by decide) rfl (fun _ => ?_) (fun c => absurd c (by decide))
  refine Go.iconst 29 (-1) d8_28 (by decide) rfl ?_
  refine Go.ireturn d8_29 rfl (by decide) (by decide) ?_
  exact ⟨by simp [own_idx, *], rfl⟩

theorem ef_k_idx1 (m : MethodId) (x0 : Addr) (x1 : Int32) : entryFrame m #[(.ref x0), (.int x1)] 3 = mkF m 0 #[.val (.ref x0), .val (.int x1), .unset] [] := by first | (simp [entryFrame, mkF, argsToLocals, Value.category]; done) | rfl

set_option maxRecDepth 65536 in
set_option maxHeartbeats 40000000 in
theorem k_idx1 {l : Launch} {Z : State} {a0 : Array Value} (hw : ∀ d ∈ tables_1, d.before a0 Z = true) {am : Addr} {xs : List Int32} {v0 : Int32} (h : Heap) (hz : Z.heap.size ≤ h.size) (a : Addr) (q : Int32) (fa0 : Fld Z h a "com/example/latchwork/latchwork/engine/IntList" "elements" "[I" (.ref am)) (fa1 : Fld Z h a "com/example/latchwork/latchwork/engine/IntList" "size" "I" (.int (1 : Int32))) (fa2 : Ari Z h am .int xs) (r0 : xs[0]? = some v0)   : Go l Z (⟨"com/example/latchwork/latchwork/engine/IntList", "indexOf", "(I)I"⟩ : MethodName) prog_19_method_12_code 3 (Option.some Jvm.ClassFile.FieldType.int) ({ frames := 0, cells := 0, slots := 0, locals := 0 } : Room) (QI fun rz h' => rz = (own_idx [v0] q 0) ∧ h' = h) 0 0 h 0 #[.val (.ref a), .val (.int q), .unset] [] := by
  refine Go.iconst 1 (0) d8_0 (by decide) rfl ?_
  refine Go.istore_n 2 #[.val (.ref a), .val (.int q), .val (.int (0 : Int32))] d8_1 rfl rfl ?_
  refine Go.iload_n 3 d8_2 rfl rfl ?_
  refine Go.aload_n 4 d8_3 rfl rfl rfl ?_
  refine Go.getfield 7 d8_4 (tw21 hw) fa1 rfl ?_
  refine Go.icmp_ge 28 10 d8_7 (by decide) (by decide) rfl (fun c => absurd c (by decide)) (fun _ => ?_)
  refine Go.aload_n 11 d8_10 rfl rfl rfl ?_
  refine Go.getfield 14 d8_11 (tw14 hw) fa0 rfl ?_
  refine Go.iload_n 15 d8_14 rfl rfl ?_
  refine Go.iaload (x := v0) (0) 16 d8_15 fa2 (by decide) (by decide) r0 rfl ?_
  refine Go.iload_n 17 d8_16 rfl rfl ?_
  refine Go.icmp_ne 22 20 d8_17 (by decide) (by decide) rfl (fun c2 => ?_) (fun c2 => ?_)
  ·
    refine Go.iinc 25 (1) #[.val (.ref a), .val (.int q), .val (.int ((0 : Int32) + (1 : Int32)))] d8_22 (by decide) rfl rfl rfl ?_
    refine Go.goto 2 d8_25 (by decide) (by decide) ?_
    refine Go.iload_n 3 d8_2 rfl rfl ?_
    refine Go.aload_n 4 d8_3 rfl rfl rfl ?_
    refine Go.getfield 7 d8_4 (tw21 hw) fa1 rfl ?_
    refine Go.icmp_ge 28 10 d8_7 (by decide) (by decide) rfl (fun _ => ?_) (fun c => absurd c (by decide))
    refine Go.iconst 29 (-1) d8_28 (by decide) rfl ?_
    refine Go.ireturn d8_29 rfl (by decide) (by decide) ?_
    exact ⟨by simp [own_idx, *], rfl⟩
  ·
    refine Go.iload_n 21 d8_20 rfl rfl ?_
    refine Go.ireturn d8_21 rfl (by decide) (by decide) ?_
    exact ⟨by simp [own_idx, *], rfl⟩

theorem ef_k_idx2 (m : MethodId) (x0 : Addr) (x1 : Int32) : entryFrame m #[(.ref x0), (.int x1)] 3 = mkF m 0 #[.val (.ref x0), .val (.int x1), .unset] [] := by first | (simp [entryFrame, mkF, argsToLocals, Value.category]; done) | rfl

set_option maxRecDepth 65536 in
set_option maxHeartbeats 40000000 in
theorem k_idx2 {l : Launch} {Z : State} {a0 : Array Value} (hw : ∀ d ∈ tables_1, d.before a0 Z = true) {am : Addr} {xs : List Int32} {v0 : Int32} {v1 : Int32} (h : Heap) (hz : Z.heap.size ≤ h.size) (a : Addr) (q : Int32) (fa0 : Fld Z h a "com/example/latchwork/latchwork/engine/IntList" "elements" "[I" (.ref am)) (fa1 : Fld Z h a "com/example/latchwork/latchwork/engine/IntList" "size" "I" (.int (2 : Int32))) (fa2 : Ari Z h am .int xs) (r0 : xs[0]? = some v0) (r1 : xs[1]? = some v1)   : Go l Z (⟨"com/example/latchwork/latchwork/engine/IntList", "indexOf", "(I)I"⟩ : MethodName) prog_19_method_12_code 3 (Option.some Jvm.ClassFile.FieldType.int) ({ frames := 0, cells := 0, slots := 0, locals := 0 } : Room) (QI fun rz h' => rz = (own_idx [v0, v1] q 0) ∧ h' = h) 0 0 h 0 #[.val (.ref a), .val (.int q), .unset] [] := by
  refine Go.iconst 1 (0) d8_0 (by decide) rfl ?_
  refine Go.istore_n 2 #[.val (.ref a), .val (.int q), .val (.int (0 : Int32))] d8_1 rfl rfl ?_
  refine Go.iload_n 3 d8_2 rfl rfl ?_
  refine Go.aload_n 4 d8_3 rfl rfl rfl ?_
  refine Go.getfield 7 d8_4 (tw21 hw) fa1 rfl ?_
  refine Go.icmp_ge 28 10 d8_7 (by decide) (by decide) rfl (fun c => absurd c (by decide)) (fun _ => ?_)
  refine Go.aload_n 11 d8_10 rfl rfl rfl ?_
  refine Go.getfield 14 d8_11 (tw14 hw) fa0 rfl ?_
  refine Go.iload_n 15 d8_14 rfl rfl ?_
  refine Go.iaload (x := v0) (0) 16 d8_15 fa2 (by decide) (by decide) r0 rfl ?_
  refine Go.iload_n 17 d8_16 rfl rfl ?_
  refine Go.icmp_ne 22 20 d8_17 (by decide) (by decide) rfl (fun c2 => ?_) (fun c2 => ?_)
  ·
    refine Go.iinc 25 (1) #[.val (.ref a), .val (.int q), .val (.int ((0 : Int32) + (1 : Int32)))] d8_22 (by decide) rfl rfl rfl ?_
    refine Go.goto 2 d8_25 (by decide) (by decide) ?_
    refine Go.iload_n 3 d8_2 rfl rfl ?_
    refine Go.aload_n 4 d8_3 rfl rfl rfl ?_
    refine Go.getfield 7 d8_4 (tw21 hw) fa1 rfl ?_
    refine Go.icmp_ge 28 10 d8_7 (by decide) (by decide) rfl (fun c => absurd c (by decide)) (fun _ => ?_)
    refine Go.aload_n 11 d8_10 rfl rfl rfl ?_
    refine Go.getfield 14 d8_11 (tw14 hw) fa0 rfl ?_
    refine Go.iload_n 15 d8_14 rfl rfl ?_
    refine Go.iaload (x := v1) (1) 16 d8_15 fa2 (by decide) (by decide) r1 rfl ?_
    refine Go.iload_n 17 d8_16 rfl rfl ?_
    refine Go.icmp_ne 22 20 d8_17 (by decide) (by decide) rfl (fun c4 => ?_) (fun c4 => ?_)
    ·
      refine Go.iinc 25 (1) #[.val (.ref a), .val (.int q), .val (.int (((0 : Int32) + (1 : Int32)) + (1 : Int32)))] d8_22 (by decide) rfl rfl rfl ?_
      refine Go.goto 2 d8_25 (by decide) (by decide) ?_
      refine Go.iload_n 3 d8_2 rfl rfl ?_
      refine Go.aload_n 4 d8_3 rfl rfl rfl ?_
      refine Go.getfield 7 d8_4 (tw21 hw) fa1 rfl ?_
      refine Go.icmp_ge 28 10 d8_7 (by decide) (by decide) rfl (fun _ => ?_) (fun c => absurd c (by decide))
      refine Go.iconst 29 (-1) d8_28 (by decide) rfl ?_
      refine Go.ireturn d8_29 rfl (by decide) (by decide) ?_
      exact ⟨by simp [own_idx, *], rfl⟩
    ·
      refine Go.iload_n 21 d8_20 rfl rfl ?_
      refine Go.ireturn d8_21 rfl (by decide) (by decide) ?_
      exact ⟨by simp [own_idx, *], rfl⟩
  ·
    refine Go.iload_n 21 d8_20 rfl rfl ?_
    refine Go.ireturn d8_21 rfl (by decide) (by decide) ?_
    exact ⟨by simp [own_idx, *], rfl⟩

theorem ef_k_idx3 (m : MethodId) (x0 : Addr) (x1 : Int32) : entryFrame m #[(.ref x0), (.int x1)] 3 = mkF m 0 #[.val (.ref x0), .val (.int x1), .unset] [] := by first | (simp [entryFrame, mkF, argsToLocals, Value.category]; done) | rfl

set_option maxRecDepth 65536 in
set_option maxHeartbeats 40000000 in
theorem k_idx3 {l : Launch} {Z : State} {a0 : Array Value} (hw : ∀ d ∈ tables_1, d.before a0 Z = true) {am : Addr} {xs : List Int32} {v0 : Int32} {v1 : Int32} {v2 : Int32} (h : Heap) (hz : Z.heap.size ≤ h.size) (a : Addr) (q : Int32) (fa0 : Fld Z h a "com/example/latchwork/latchwork/engine/IntList" "elements" "[I" (.ref am)) (fa1 : Fld Z h a "com/example/latchwork/latchwork/engine/IntList" "size" "I" (.int (3 : Int32))) (fa2 : Ari Z h am .int xs) (r0 : xs[0]? = some v0) (r1 : xs[1]? = some v1) (r2 : xs[2]? = some v2)   : Go l Z (⟨"com/example/latchwork/latchwork/engine/IntList", "indexOf", "(I)I"⟩ : MethodName) prog_19_method_12_code 3 (Option.some Jvm.ClassFile.FieldType.int) ({ frames := 0, cells := 0, slots := 0, locals := 0 } : Room) (QI fun rz h' => rz = (own_idx [v0, v1, v2] q 0) ∧ h' = h) 0 0 h 0 #[.val (.ref a), .val (.int q), .unset] [] := by
  refine Go.iconst 1 (0) d8_0 (by decide) rfl ?_
  refine Go.istore_n 2 #[.val (.ref a), .val (.int q), .val (.int (0 : Int32))] d8_1 rfl rfl ?_
  refine Go.iload_n 3 d8_2 rfl rfl ?_
  refine Go.aload_n 4 d8_3 rfl rfl rfl ?_
  refine Go.getfield 7 d8_4 (tw21 hw) fa1 rfl ?_
  refine Go.icmp_ge 28 10 d8_7 (by decide) (by decide) rfl (fun c => absurd c (by decide)) (fun _ => ?_)
  refine Go.aload_n 11 d8_10 rfl rfl rfl ?_
  refine Go.getfield 14 d8_11 (tw14 hw) fa0 rfl ?_
  refine Go.iload_n 15 d8_14 rfl rfl ?_
  refine Go.iaload (x := v0) (0) 16 d8_15 fa2 (by decide) (by decide) r0 rfl ?_
  refine Go.iload_n 17 d8_16 rfl rfl ?_
  refine Go.icmp_ne 22 20 d8_17 (by decide) (by decide) rfl (fun c2 => ?_) (fun c2 => ?_)
  ·
    refine Go.iinc 25 (1) #[.val (.ref a), .val (.int q), .val (.int ((0 : Int32) + (1 : Int32)))] d8_22 (by decide) rfl rfl rfl ?_
    refine Go.goto 2 d8_25 (by decide) (by decide) ?_
    refine Go.iload_n 3 d8_2 rfl rfl ?_
    refine Go.aload_n 4 d8_3 rfl rfl rfl ?_
    refine Go.getfield 7 d8_4 (tw21 hw) fa1 rfl ?_
    refine Go.icmp_ge 28 10 d8_7 (by decide) (by decide) rfl (fun c => absurd c (by decide)) (fun _ => ?_)
    refine Go.aload_n 11 d8_10 rfl rfl rfl ?_
    refine Go.getfield 14 d8_11 (tw14 hw) fa0 rfl ?_
    refine Go.iload_n 15 d8_14 rfl rfl ?_
    refine Go.iaload (x := v1) (1) 16 d8_15 fa2 (by decide) (by decide) r1 rfl ?_
    refine Go.iload_n 17 d8_16 rfl rfl ?_
    refine Go.icmp_ne 22 20 d8_17 (by decide) (by decide) rfl (fun c4 => ?_) (fun c4 => ?_)
    ·
      refine Go.iinc 25 (1) #[.val (.ref a), .val (.int q), .val (.int (((0 : Int32) + (1 : Int32)) + (1 : Int32)))] d8_22 (by decide) rfl rfl rfl ?_
      refine Go.goto 2 d8_25 (by decide) (by decide) ?_
      refine Go.iload_n 3 d8_2 rfl rfl ?_
      refine Go.aload_n 4 d8_3 rfl rfl rfl ?_
      refine Go.getfield 7 d8_4 (tw21 hw) fa1 rfl ?_
      refine Go.icmp_ge 28 10 d8_7 (by decide) (by decide) rfl (fun c => absurd c (by decide)) (fun _ => ?_)
      refine Go.aload_n 11 d8_10 rfl rfl rfl ?_
      refine Go.getfield 14 d8_11 (tw14 hw) fa0 rfl ?_
      refine Go.iload_n 15 d8_14 rfl rfl ?_
      refine Go.iaload (x := v2) (2) 16 d8_15 fa2 (by decide) (by decide) r2 rfl ?_
      refine Go.iload_n 17 d8_16 rfl rfl ?_
      refine Go.icmp_ne 22 20 d8_17 (by decide) (by decide) rfl (fun c6 => ?_) (fun c6 => ?_)
      ·
        refine Go.iinc 25 (1) #[.val (.ref a), .val (.int q), .val (.int ((((0 : Int32) + (1 : Int32)) + (1 : Int32)) + (1 : Int32)))] d8_22 (by decide) rfl rfl rfl ?_
        refine Go.goto 2 d8_25 (by decide) (by decide) ?_
        refine Go.iload_n 3 d8_2 rfl rfl ?_
        refine Go.aload_n 4 d8_3 rfl rfl rfl ?_
        refine Go.getfield 7 d8_4 (tw21 hw) fa1 rfl ?_
        refine Go.icmp_ge 28 10 d8_7 (by decide) (by decide) rfl (fun _ => ?_) (fun c => absurd c (by decide))
        refine Go.iconst 29 (-1) d8_28 (by decide) rfl ?_
        refine Go.ireturn d8_29 rfl (by decide) (by decide) ?_
        exact ⟨by simp [own_idx, *], rfl⟩
      ·
        refine Go.iload_n 21 d8_20 rfl rfl ?_
        refine Go.ireturn d8_21 rfl (by decide) (by decide) ?_
        exact ⟨by simp [own_idx, *], rfl⟩
    ·
      refine Go.iload_n 21 d8_20 rfl rfl ?_
      refine Go.ireturn d8_21 rfl (by decide) (by decide) ?_
      exact ⟨by simp [own_idx, *], rfl⟩
  ·
    refine Go.iload_n 21 d8_20 rfl rfl ?_
    refine Go.ireturn d8_21 rfl (by decide) (by decide) ?_
    exact ⟨by simp [own_idx, *], rfl⟩

theorem ef_law0 (m : MethodId) (x0 : Int32) (x1 : Int32) (x2 : Int32) (x3 : Int32) (x4 : Int32) (x5 : Int32) : entryFrame m #[(.int x0), (.int x1), (.int x2), (.int x3), (.int x4), (.int x5)] maxLocals = mkF m 0 #[.val (.int x0), .val (.int x1), .val (.int x2), .val (.int x3), .val (.int x4), .val (.int x5), .unset, .unset, .unset, .unset, .unset, .unset, .unset] [] := by first | (simp [entryFrame, mkF, argsToLocals, Value.category, maxLocals]; done) | rfl

set_option maxRecDepth 65536 in
set_option maxHeartbeats 40000000 in
theorem law0 {l : Launch} {Z : State} {a0 : Array Value} (hw : ∀ d ∈ tables_1, d.before a0 Z = true)  (h : Heap) (hz : Z.heap.size ≤ h.size) (i0 : Int32) (i1 : Int32) (i2 : Int32) (i3 : Int32) (i4 : Int32) (i5 : Int32)     : Go l Z x code maxLocals ret room_1 (QI fun z h' => z = 1) 0 0 h 0 #[.val (.int i0), .val (.int i1), .val (.int i2), .val (.int i3), .val (.int i4), .val (.int i5), .unset, .unset, .unset, .unset, .unset, .unset, .unset] [] := by
  refine Go.iload_n 1 at_0 rfl rfl ?_
  refine Go.iconst 2 (3) at_1 (by decide) rfl ?_
  refine Go.iand 3 at_2 rfl ?_
  refine Go.nameI (fun v1 e2 => ?_)
  refine Go.istore 5 #[.val (.int i0), .val (.int i1), .val (.int i2), .val (.int i3), .val (.int i4), .val (.int i5), .val (.int v1), .unset, .unset, .unset, .unset, .unset, .unset] at_3 rfl rfl ?_
  refine Go.iload_n 6 at_5 rfl rfl ?_
  refine Go.bipush 8 (32) at_6 (by decide) rfl ?_
  refine Go.iand 9 at_8 rfl ?_
  have J4 : ∀ (v5 : Int32), v5 = (if (i1 &&& (32 : Int32)) = (0 : Int32) then i5 else (0 : Int32)) → Go l Z x code maxLocals ret room_1 (QI fun z h' => z = 1) 0 0 h 18 #[.val (.int i0), .val (.int i1), .val (.int i2), .val (.int i3), .val (.int i4), .val (.int i5), .val (.int v1), .unset, .unset, .unset, .unset, .unset, .unset] [.int v5] := by
    intro v5 e6
    refine Go.istore 20 #[.val (.int i0), .val (.int i1), .val (.int i2), .val (.int i3), .val (.int i4), .val (.int i5), .val (.int v1), .val (.int v5), .unset, .unset, .unset, .unset, .unset] at_18 rfl rfl ?_
    refine Go.iload_n 21 at_20 rfl rfl ?_
    refine Go.iconst 22 (4) at_21 (by decide) rfl ?_
    refine Go.iand 23 at_22 rfl ?_
    have J8 : ∀ (v9 : Int32), v9 = (if (i1 &&& (4 : Int32)) = (0 : Int32) then i2 else v5) → Go l Z x code maxLocals ret room_1 (QI fun z h' => z = 1) 0 0 h 32 #[.val (.int i0), .val (.int i1), .val (.int i2), .val (.int i3), .val (.int i4), .val (.int i5), .val (.int v1), .val (.int v5), .unset, .unset, .unset, .unset, .unset] [.int v9] := by
      intro v9 e10
      refine Go.istore 34 #[.val (.int i0), .val (.int i1), .val (.int i2), .val (.int i3), .val (.int i4), .val (.int i5), .val (.int v1), .val (.int v5), .val (.int v9), .unset, .unset, .unset, .unset] at_32 rfl rfl ?_
      refine Go.iload_n 35 at_34 rfl rfl ?_
      refine Go.bipush 37 (8) at_35 (by decide) rfl ?_
      refine Go.iand 38 at_37 rfl ?_
      have J12 : ∀ (v13 : Int32), v13 = (if (i1 &&& (8 : Int32)) = (0 : Int32) then i3 else v5) → Go l Z x code maxLocals ret room_1 (QI fun z h' => z = 1) 0 0 h 47 #[.val (.int i0), .val (.int i1), .val (.int i2), .val (.int i3), .val (.int i4), .val (.int i5), .val (.int v1), .val (.int v5), .val (.int v9), .unset, .unset, .unset, .unset] [.int v13] := by
        intro v13 e14
        refine Go.istore 49 #[.val (.int i0), .val (.int i1), .val (.int i2), .val (.int i3), .val (.int i4), .val (.int i5), .val (.int v1), .val (.int v5), .val (.int v9), .val (.int v13), .unset, .unset, .unset] at_47 rfl rfl ?_
        refine Go.iload_n 50 at_49 rfl rfl ?_
        refine Go.bipush 52 (16) at_50 (by decide) rfl ?_
        refine Go.iand 53 at_52 rfl ?_
        have J16 : ∀ (v17 : Int32), v17 = (if (i1 &&& (16 : Int32)) = (0 : Int32) then i4 else v5) → Go l Z x code maxLocals ret room_1 (QI fun z h' => z = 1) 0 0 h 63 #[.val (.int i0), .val (.int i1), .val (.int i2), .val (.int i3), .val (.int i4), .val (.int i5), .val (.int v1), .val (.int v5), .val (.int v9), .val (.int v13), .unset, .unset, .unset] [.int v17] := by
          intro v17 e18
          refine Go.istore 65 #[.val (.int i0), .val (.int i1), .val (.int i2), .val (.int i3), .val (.int i4), .val (.int i5), .val (.int v1), .val (.int v5), .val (.int v9), .val (.int v13), .val (.int v17), .unset, .unset] at_63 rfl rfl ?_
          rcases own_four e2 with hs18 | hs18 | hs18 | hs18
          ·
            subst hs18
            refine Go.new 68 at_65 (tw0 hw) (tw1 hw) (tw2 hw) (by decide) (by decide) rfl (fun a20 h21 q22 E23 A24 D25 => ?_)
            have ge26 : Z.heap.size ≤ a20 := (Eq.symm q22) ▸ hz
            have zs27 : Z.heap.size ≤ h21.size := Nat.le_trans hz E23.1
            have f28 : Fld Z h21 a20 "com/example/latchwork/latchwork/engine/IntList" "elements" "[I" (.null) := D25 (Or.inl (tw15 hw)) (ty := (.array .int)) (by decide)
            have f29 : Fld Z h21 a20 "com/example/latchwork/latchwork/engine/IntList" "size" "I" (.int (0 : Int32)) := D25 (Or.inl (tw22 hw)) (ty := .int) (by decide)
            refine Go.dup 69 at_68 rfl rfl ?_
            refine Go.iload_n 70 at_69 rfl rfl ?_
            refine Go.bipush 72 (7) at_70 (by decide) rfl ?_
            refine Go.iand 73 at_72 rfl ?_
            refine Go.iconst 74 (2) at_73 (by decide) rfl ?_
            refine Go.isub 75 at_74 rfl ?_
            have hcap : ¬ 5 < ((i0 &&& (7 : Int32)) - (2 : Int32)) := own_capr i0 _ rfl
            refine Go.callC [.int ((i0 &&& (7 : Int32)) - (2 : Int32))] [.ref a20] 78 at_75 rfl (tw3 hw) (tw4 hw) (tw2 hw) (tw5 hw) pl1 (by decide) (lenOf pd1 rfl) rfl (fun m => ef_k_init m a20 ((i0 &&& (7 : Int32)) - (2 : Int32))) _ (k_init hw h21 zs27 a20 (((i0 &&& (7 : Int32)) - (2 : Int32))) A24 f28 f29 hcap ge26) 1 rfl (Nat.le_of_eq rfl) (by decide) (by decide) (by decide) (by decide) rfl ?_
            rintro h31 ⟨p35, K32, f33, f34⟩
            have zs36 : Z.heap.size ≤ h31.size := Nat.le_trans zs27 K32.1
            obtain ⟨am36, xs36, fe36, ar36, na36, ga36, lu36, ll36⟩ := p35
            refine Go.astore 80 #[.val (.int i0), .val (.int i1), .val (.int i2), .val (.int i3), .val (.int i4), .val (.int i5), .val (.int (0 : Int32)), .val (.int v5), .val (.int v9), .val (.int v13), .val (.int v17), .val (.ref a20), .unset] at_78 rfl rfl rfl ?_
            refine Go.iload 82 at_80 rfl rfl ?_
            refine Go.iconst 83 (1) at_82 (by decide) rfl ?_
            refine Go.icmp_lt 93 86 at_83 (by decide) (by decide) rfl (fun _ => ?_) (fun c => absurd c (by decide))
            refine Go.iload 95 at_93 rfl rfl ?_
            refine Go.iconst 96 (2) at_95 (by decide) rfl ?_
            refine Go.icmp_lt 106 99 at_96 (by decide) (by decide) rfl (fun _ => ?_) (fun c => absurd c (by decide))
            refine Go.iload 108 at_106 rfl rfl ?_
            refine Go.iconst 109 (3) at_108 (by decide) rfl ?_
            refine Go.icmp_lt 119 112 at_109 (by decide) (by decide) rfl (fun _ => ?_) (fun c => absurd c (by decide))
            refine Go.iload_n 120 at_119 rfl rfl ?_
            refine Go.bipush 122 (64) at_120 (by decide) rfl ?_
            refine Go.iand 123 at_122 rfl ?_
            refine Go.if_eq 139 126 at_123 (by decide) (by decide) rfl (fun c41 => ?_) (fun c41 => ?_)
            ·
              refine Go.iconst 140 (-1) at_139 (by decide) rfl ?_
              refine Go.istore 142 #[.val (.int i0), .val (.int i1), .val (.int i2), .val (.int i3), .val (.int i4), .val (.int i5), .val (.int (0 : Int32)), .val (.int v5), .val (.int v9), .val (.int v13), .val (.int v17), .val (.ref a20), .val (.int (-1 : Int32))] at_140 rfl rfl ?_
              refine Go.iload 144 at_142 rfl rfl ?_
              refine Go.iconst 145 (1) at_144 (by decide) rfl ?_
              refine Go.icmp_lt 161 148 at_145 (by decide) (by decide) rfl (fun _ => ?_) (fun c => absurd c (by decide))
              refine Go.iload 163 at_161 rfl rfl ?_
              refine Go.iconst 164 (2) at_163 (by decide) rfl ?_
              refine Go.icmp_lt 180 167 at_164 (by decide) (by decide) rfl (fun _ => ?_) (fun c => absurd c (by decide))
              refine Go.iload 182 at_180 rfl rfl ?_
              refine Go.iconst 183 (3) at_182 (by decide) rfl ?_
              refine Go.icmp_lt 196 186 at_183 (by decide) (by decide) rfl (fun _ => ?_) (fun c => absurd c (by decide))
              refine Go.aload 198 at_196 rfl rfl rfl ?_
              refine Go.iload 200 at_198 rfl rfl ?_
              refine Go.callVIp [.int v5] [] 203 at_200 (tw37 hw) (tw38 hw) (tw40 hw) (tw39 hw) (tw2 hw) (tw41 hw) f33 pl8 (by decide) (lenOf pd8 rfl) rfl (fun m => ef_k_idx0 m a20 v5) _ (k_idx0 hw h31 zs36 a20 v5 fe36 f34 ar36) 0 rfl (Nat.le_of_eq rfl) (by decide) (by decide) (by decide) (by decide) rfl ?_
              refine Go.iload 205 at_203 rfl rfl ?_
              refine Go.icmp_ne 212 208 at_205 (by decide) (by decide) rfl (fun c48 => ?_) (fun c48 => ?_)
              ·
                refine Go.iconst 213 (0) at_212 (by decide) rfl ?_
                refine Go.nreturn (t := .boolean) (z' := (0 : Int32)) at_213 rfl (by simp) (by decide) (by decide) (by decide) ?_
                exfalso
                have e9 := c48
                first | exact e9 rfl | (simp only [own_idx, if_true, if_false] at e9; exact e9 (by decide)) | (simp only [own_idx, if_true, if_false] at e9; done)
              ·
                refine Go.iconst 209 (1) at_208 (by decide) rfl ?_
                refine Go.goto 213 at_209 (by decide) (by decide) ?_
                refine Go.nreturn (t := .boolean) (z' := (1 : Int32)) at_213 rfl (by simp) (by decide) (by decide) (by decide) ?_
                rfl
            ·
              refine Go.aload 128 at_126 rfl rfl rfl ?_
              refine Go.iload 130 at_128 rfl rfl ?_
              refine Go.callVV [.int v5] [] 133 at_130 (tw16 hw) (tw17 hw) (tw19 hw) (tw18 hw) (tw2 hw) (tw20 hw) f33 pl4 (by decide) (lenOf pd4 rfl) rfl (fun m => ef_k_add0 m a20 v5) _ (k_add0 hw h31 zs36 a20 v5 f33 fe36 f34 ar36 lu36 ll36 ge26 ga36 na36) 0 rfl (Nat.le_of_eq rfl) (by decide) (by decide) (by decide) (by decide) rfl ?_
              rintro h50 ⟨p54, K51, f52, f53⟩
              have zs55 : Z.heap.size ≤ h50.size := Nat.le_trans zs36 K51.1
              obtain ⟨am55, xs55, fe55, ar55, na55, ga55, lu55, ll55, rr55_0⟩ := p54
              refine Go.aload 135 at_133 rfl rfl rfl ?_
              refine Go.callVIe [] [] 138 at_135 (tw42 hw) (tw43 hw) (tw45 hw) (tw44 hw) (tw2 hw) (tw46 hw) f52 pl9 (by decide) (lenOf pd9 rfl) rfl (fun m => ef_k_pop1 m a20) _ _ (k_pop1 (y := v5) hw h50 zs55 a20 f52 fe55 f53 ar55 rr55_0 ge26 ga55 na55) 0 rfl (Nat.le_of_eq rfl) (by decide) (by decide) (by decide) (by decide) rfl ?_
              rintro h58 ⟨K59, f60, f61, f62, f63⟩
              have zs64 : Z.heap.size ≤ h58.size := Nat.le_trans zs55 K59.1
              refine Go.pop 139 at_138 rfl rfl ?_
              refine Go.iconst 140 (-1) at_139 (by decide) rfl ?_
              refine Go.istore 142 #[.val (.int i0), .val (.int i1), .val (.int i2), .val (.int i3), .val (.int i4), .val (.int i5), .val (.int (0 : Int32)), .val (.int v5), .val (.int v9), .val (.int v13), .val (.int v17), .val (.ref a20), .val (.int (-1 : Int32))] at_140 rfl rfl ?_
              refine Go.iload 144 at_142 rfl rfl ?_
              refine Go.iconst 145 (1) at_144 (by decide) rfl ?_
              refine Go.icmp_lt 161 148 at_145 (by decide) (by decide) rfl (fun _ => ?_) (fun c => absurd c (by decide))
              refine Go.iload 163 at_161 rfl rfl ?_
              refine Go.iconst 164 (2) at_163 (by decide) rfl ?_
              refine Go.icmp_lt 180 167 at_164 (by decide) (by decide) rfl (fun _ => ?_) (fun c => absurd c (by decide))
              refine Go.iload 182 at_180 rfl rfl ?_
              refine Go.iconst 183 (3) at_182 (by decide) rfl ?_
              refine Go.icmp_lt 196 186 at_183 (by decide) (by decide) rfl (fun _ => ?_) (fun c => absurd c (by decide))
              refine Go.aload 198 at_196 rfl rfl rfl ?_
              refine Go.iload 200 at_198 rfl rfl ?_
              refine Go.callVIp [.int v5] [] 203 at_200 (tw37 hw) (tw38 hw) (tw40 hw) (tw39 hw) (tw2 hw) (tw41 hw) f60 pl8 (by decide) (lenOf pd8 rfl) rfl (fun m => ef_k_idx0 m a20 v5) _ (k_idx0 hw h58 zs64 a20 v5 f61 f62 f63) 0 rfl (Nat.le_of_eq rfl) (by decide) (by decide) (by decide) (by decide) rfl ?_
              refine Go.iload 205 at_203 rfl rfl ?_
              refine Go.icmp_ne 212 208 at_205 (by decide) (by decide) rfl (fun c71 => ?_) (fun c71 => ?_)
              ·
                refine Go.iconst 213 (0) at_212 (by decide) rfl ?_
                refine Go.nreturn (t := .boolean) (z' := (0 : Int32)) at_213 rfl (by simp) (by decide) (by decide) (by decide) ?_
                exfalso
                have e9 := c71
                first | exact e9 rfl | (simp only [own_idx, if_true, if_false] at e9; exact e9 (by decide)) | (simp only [own_idx, if_true, if_false] at e9; done)
              ·
                refine Go.iconst 209 (1) at_208 (by decide) rfl ?_
                refine Go.goto 213 at_209 (by decide) (by decide) ?_
                refine Go.nreturn (t := .boolean) (z' := (1 : Int32)) at_213 rfl (by simp) (by decide) (by decide) (by decide) ?_
                rfl
          ·
            subst hs18
            refine Go.new 68 at_65 (tw0 hw) (tw1 hw) (tw2 hw) (by decide) (by decide) rfl (fun a72 h73 q74 E75 A76 D77 => ?_)
            have ge78 : Z.heap.size ≤ a72 := (Eq.symm q74) ▸ hz
            have zs79 : Z.heap.size ≤ h73.size := Nat.le_trans hz E75.1
            have f80 : Fld Z h73 a72 "com/example/latchwork/latchwork/engine/IntList" "elements" "[I" (.null) := D77 (Or.inl (tw15 hw)) (ty := (.array .int)) (by decide)
            have f81 : Fld Z h73 a72 "com/example/latchwork/latchwork/engine/IntList" "size" "I" (.int (0 : Int32)) := D77 (Or.inl (tw22 hw)) (ty := .int) (by decide)
            refine Go.dup 69 at_68 rfl rfl ?_
            refine Go.iload_n 70 at_69 rfl rfl ?_
            refine Go.bipush 72 (7) at_70 (by decide) rfl ?_
            refine Go.iand 73 at_72 rfl ?_
            refine Go.iconst 74 (2) at_73 (by decide) rfl ?_
            refine Go.isub 75 at_74 rfl ?_
            have hcap : ¬ 5 < ((i0 &&& (7 : Int32)) - (2 : Int32)) := own_capr i0 _ rfl
            refine Go.callC [.int ((i0 &&& (7 : Int32)) - (2 : Int32))] [.ref a72] 78 at_75 rfl (tw3 hw) (tw4 hw) (tw2 hw) (tw5 hw) pl1 (by decide) (lenOf pd1 rfl) rfl (fun m => ef_k_init m a72 ((i0 &&& (7 : Int32)) - (2 : Int32))) _ (k_init hw h73 zs79 a72 (((i0 &&& (7 : Int32)) - (2 : Int32))) A76 f80 f81 hcap ge78) 1 rfl (Nat.le_of_eq rfl) (by decide) (by decide) (by decide) (by decide) rfl ?_
            rintro h83 ⟨p87, K84, f85, f86⟩
            have zs88 : Z.heap.size ≤ h83.size := Nat.le_trans zs79 K84.1
            obtain ⟨am88, xs88, fe88, ar88, na88, ga88, lu88, ll88⟩ := p87
            refine Go.astore 80 #[.val (.int i0), .val (.int i1), .val (.int i2), .val (.int i3), .val (.int i4), .val (.int i5), .val (.int (1 : Int32)), .val (.int v5), .val (.int v9), .val (.int v13), .val (.int v17), .val (.ref a72), .unset] at_78 rfl rfl rfl ?_
            refine Go.iload 82 at_80 rfl rfl ?_
            refine Go.iconst 83 (1) at_82 (by decide) rfl ?_
            refine Go.icmp_lt 93 86 at_83 (by decide) (by decide) rfl (fun c => absurd c (by decide)) (fun _ => ?_)
            refine Go.aload 88 at_86 rfl rfl rfl ?_
            refine Go.iload 90 at_88 rfl rfl ?_
            refine Go.callVV [.int v9] [] 93 at_90 (tw16 hw) (tw17 hw) (tw19 hw) (tw18 hw) (tw2 hw) (tw20 hw) f85 pl4 (by decide) (lenOf pd4 rfl) rfl (fun m => ef_k_add0 m a72 v9) _ (k_add0 hw h83 zs88 a72 v9 f85 fe88 f86 ar88 lu88 ll88 ge78 ga88 na88) 0 rfl (Nat.le_of_eq rfl) (by decide) (by decide) (by decide) (by decide) rfl ?_
            rintro h92 ⟨p96, K93, f94, f95⟩
            have zs97 : Z.heap.size ≤ h92.size := Nat.le_trans zs88 K93.1
            obtain ⟨am97, xs97, fe97, ar97, na97, ga97, lu97, ll97, rr97_0⟩ := p96
            refine Go.iload 95 at_93 rfl rfl ?_
            refine Go.iconst 96 (2) at_95 (by decide) rfl ?_
            refine Go.icmp_lt 106 99 at_96 (by decide) (by decide) rfl (fun _ => ?_) (fun c => absurd c (by decide))
            refine Go.iload 108 at_106 rfl rfl ?_
            refine Go.iconst 109 (3) at_108 (by decide) rfl ?_
            refine Go.icmp_lt 119 112 at_109 (by decide) (by decide) rfl (fun _ => ?_) (fun c => absurd c (by decide))
            refine Go.iload_n 120 at_119 rfl rfl ?_
            refine Go.bipush 122 (64) at_120 (by decide) rfl ?_
            refine Go.iand 123 at_122 rfl ?_
            refine Go.if_eq 139 126 at_123 (by decide) (by decide) rfl (fun c101 => ?_) (fun c101 => ?_)
            ·
              refine Go.iconst 140 (-1) at_139 (by decide) rfl ?_
              refine Go.istore 142 #[.val (.int i0), .val (.int i1), .val (.int i2), .val (.int i3), .val (.int i4), .val (.int i5), .val (.int (1 : Int32)), .val (.int v5), .val (.int v9), .val (.int v13), .val (.int v17), .val (.ref a72), .val (.int (-1 : Int32))] at_140 rfl rfl ?_
              refine Go.iload 144 at_142 rfl rfl ?_
              refine Go.iconst 145 (1) at_144 (by decide) rfl ?_
              refine Go.icmp_lt 161 148 at_145 (by decide) (by decide) rfl (fun c => absurd c (by decide)) (fun _ => ?_)
              refine Go.iload 150 at_148 rfl rfl ?_
              refine Go.iload 152 at_150 rfl rfl ?_
              refine Go.icmp_ne 161 155 at_152 (by decide) (by decide) rfl (fun c103 => ?_) (fun c103 => ?_)
              ·
                refine Go.iload 163 at_161 rfl rfl ?_
                refine Go.iconst 164 (2) at_163 (by decide) rfl ?_
                refine Go.icmp_lt 180 167 at_164 (by decide) (by decide) rfl (fun _ => ?_) (fun c => absurd c (by decide))
                refine Go.iload 182 at_180 rfl rfl ?_
                refine Go.iconst 183 (3) at_182 (by decide) rfl ?_
                refine Go.icmp_lt 196 186 at_183 (by decide) (by decide) rfl (fun _ => ?_) (fun c => absurd c (by decide))
                refine Go.aload 198 at_196 rfl rfl rfl ?_
                refine Go.iload 200 at_198 rfl rfl ?_
                refine Go.callVIp [.int v5] [] 203 at_200 (tw37 hw) (tw38 hw) (tw40 hw) (tw39 hw) (tw2 hw) (tw41 hw) f94 pl8 (by decide) (lenOf pd8 rfl) rfl (fun m => ef_k_idx1 m a72 v5) _ (k_idx1 (v0 := v9) hw h92 zs97 a72 v5 fe97 f95 ar97 rr97_0) 0 rfl (Nat.le_of_eq rfl) (by decide) (by decide) (by decide) (by decide) rfl ?_
                refine Go.iload 205 at_203 rfl rfl ?_
                refine Go.icmp_ne 212 208 at_205 (by decide) (by decide) rfl (fun c109 => ?_) (fun c109 => ?_)
                ·
                  refine Go.iconst 213 (0) at_212 (by decide) rfl ?_
                  refine Go.nreturn (t := .boolean) (z' := (0 : Int32)) at_213 rfl (by simp) (by decide) (by decide) (by decide) ?_
                  exfalso
                  have e9 := c109
                  first | exact e9 rfl | (simp only [own_idx, c103, if_true, if_false] at e9; exact e9 (by decide)) | (simp only [own_idx, c103, if_true, if_false] at e9; done)
                ·
                  refine Go.iconst 209 (1) at_208 (by decide) rfl ?_
                  refine Go.goto 213 at_209 (by decide) (by decide) ?_
                  refine Go.nreturn (t := .boolean) (z' := (1 : Int32)) at_213 rfl (by simp) (by decide) (by decide) (by decide) ?_
                  rfl
              ·
                refine Go.iconst 156 (0) at_155 (by decide) rfl ?_
                refine Go.istore 158 #[.val (.int i0), .val (.int i1), .val (.int i2), .val (.int i3), .val (.int i4), .val (.int i5), .val (.int (1 : Int32)), .val (.int v5), .val (.int v9), .val (.int v13), .val (.int v17), .val (.ref a72), .val (.int (0 : Int32))] at_156 rfl rfl ?_
                refine Go.goto 196 at_158 (by decide) (by decide) ?_
                refine Go.aload 198 at_196 rfl rfl rfl ?_
                refine Go.iload 200 at_198 rfl rfl ?_
                refine Go.callVIp [.int v5] [] 203 at_200 (tw37 hw) (tw38 hw) (tw40 hw) (tw39 hw) (tw2 hw) (tw41 hw) f94 pl8 (by decide) (lenOf pd8 rfl) rfl (fun m => ef_k_idx1 m a72 v5) _ (k_idx1 (v0 := v9) hw h92 zs97 a72 v5 fe97 f95 ar97 rr97_0) 0 rfl (Nat.le_of_eq rfl) (by decide) (by decide) (by decide) (by decide) rfl ?_
                refine Go.iload 205 at_203 rfl rfl ?_
                refine Go.icmp_ne 212 208 at_205 (by decide) (by decide) rfl (fun c113 => ?_) (fun c113 => ?_)
                ·
                  refine Go.iconst 213 (0) at_212 (by decide) rfl ?_
                  refine Go.nreturn (t := .boolean) (z' := (0 : Int32)) at_213 rfl (by simp) (by decide) (by decide) (by decide) ?_
                  exfalso
                  have e9 := c113
                  first | exact e9 rfl | (simp only [own_idx, c103, if_true, if_false] at e9; exact e9 (by decide)) | (simp only [own_idx, c103, if_true, if_false] at e9; done)
                ·
                  refine Go.iconst 209 (1) at_208 (by decide) rfl ?_
                  refine Go.goto 213 at_209 (by decide) (by decide) ?_
                  refine Go.nreturn (t := .boolean) (z' := (1 : Int32)) at_213 rfl (by simp) (by decide) (by decide) (by decide) ?_
                  rfl
            ·
              refine Go.aload 128 at_126 rfl rfl rfl ?_
              refine Go.iload 130 at_128 rfl rfl ?_
              refine Go.callVV [.int v5] [] 133 at_130 (tw16 hw) (tw17 hw) (tw19 hw) (tw18 hw) (tw2 hw) (tw20 hw) f94 pl4 (by decide) (lenOf pd4 rfl) rfl (fun m => ef_k_add1 m a72 v5) _ (k_add1 (v0 := v9) hw h92 zs97 a72 v5 f94 fe97 f95 ar97 lu97 ll97 rr97_0 ge78 ga97 na97) 0 rfl (Nat.le_of_eq rfl) (by decide) (by decide) (by decide) (by decide) rfl ?_
              rintro h115 ⟨p119, K116, f117, f118⟩
              have zs120 : Z.heap.size ≤ h115.size := Nat.le_trans zs97 K116.1
              obtain ⟨am120, xs120, fe120, ar120, na120, ga120, lu120, ll120, rr120_0, rr120_1⟩ := p119
              refine Go.aload 135 at_133 rfl rfl rfl ?_
              refine Go.callVIe [] [] 138 at_135 (tw42 hw) (tw43 hw) (tw45 hw) (tw44 hw) (tw2 hw) (tw46 hw) f117 pl9 (by decide) (lenOf pd9 rfl) rfl (fun m => ef_k_pop2 m a72) _ _ (k_pop2 (y := v5) hw h115 zs120 a72 f117 fe120 f118 ar120 rr120_1 ge78 ga120 na120) 0 rfl (Nat.le_of_eq rfl) (by decide) (by decide) (by decide) (by decide) rfl ?_
              rintro h123 ⟨K124, f125, f126, f127, f128⟩
              have zs129 : Z.heap.size ≤ h123.size := Nat.le_trans zs120 K124.1
              refine Go.pop 139 at_138 rfl rfl ?_
              refine Go.iconst 140 (-1) at_139 (by decide) rfl ?_
              refine Go.istore 142 #[.val (.int i0), .val (.int i1), .val (.int i2), .val (.int i3), .val (.int i4), .val (.int i5), .val (.int (1 : Int32)), .val (.int v5), .val (.int v9), .val (.int v13), .val (.int v17), .val (.ref a72), .val (.int (-1 : Int32))] at_140 rfl rfl ?_
              refine Go.iload 144 at_142 rfl rfl ?_
              refine Go.iconst 145 (1) at_144 (by decide) rfl ?_
              refine Go.icmp_lt 161 148 at_145 (by decide) (by decide) rfl (fun c => absurd c (by decide)) (fun _ => ?_)
              refine Go.iload 150 at_148 rfl rfl ?_
              refine Go.iload 152 at_150 rfl rfl ?_
              refine Go.icmp_ne 161 155 at_152 (by decide) (by decide) rfl (fun c131 => ?_) (fun c131 => ?_)
              ·
                refine Go.iload 163 at_161 rfl rfl ?_
                refine Go.iconst 164 (2) at_163 (by decide) rfl ?_
                refine Go.icmp_lt 180 167 at_164 (by decide) (by decide) rfl (fun _ => ?_) (fun c => absurd c (by decide))
                refine Go.iload 182 at_180 rfl rfl ?_
                refine Go.iconst 183 (3) at_182 (by decide) rfl ?_
                refine Go.icmp_lt 196 186 at_183 (by decide) (by decide) rfl (fun _ => ?_) (fun c => absurd c (by decide))
                refine Go.aload 198 at_196 rfl rfl rfl ?_
                refine Go.iload 200 at_198 rfl rfl ?_
                refine Go.callVIp [.int v5] [] 203 at_200 (tw37 hw) (tw38 hw) (tw40 hw) (tw39 hw) (tw2 hw) (tw41 hw) f125 pl8 (by decide) (lenOf pd8 rfl) rfl (fun m => ef_k_idx1 m a72 v5) _ (k_idx1 (v0 := v9) hw h123 zs129 a72 v5 f126 f127 f128 rr120_0) 0 rfl (Nat.le_of_eq rfl) (by decide) (by decide) (by decide) (by decide) rfl ?_
                refine Go.iload 205 at_203 rfl rfl ?_
                refine Go.icmp_ne 212 208 at_205 (by decide) (by decide) rfl (fun c137 => ?_) (fun c137 => ?_)
                ·
                  refine Go.iconst 213 (0) at_212 (by decide) rfl ?_
                  refine Go.nreturn (t := .boolean) (z' := (0 : Int32)) at_213 rfl (by simp) (by decide) (by decide) (by decide) ?_
                  exfalso
                  have e9 := c137
                  first | exact e9 rfl | (simp only [own_idx, c131, if_true, if_false] at e9; exact e9 (by decide)) | (simp only [own_idx, c131, if_true, if_false] at e9; done)
                ·
                  refine Go.iconst 209 (1) at_208 (by decide) rfl ?_
                  refine Go.goto 213 at_209 (by decide) (by decide) ?_
                  refine Go.nreturn (t := .boolean) (z' := (1 : Int32)) at_213 rfl (by simp) (by decide) (by decide) (by decide) ?_
                  rfl
              ·
                refine Go.iconst 156 (0) at_155 (by decide) rfl ?_
                refine Go.istore 158 #[.val (.int i0), .val (.int i1), .val (.int i2), .val (.int i3), .val (.int i4), .val (.int i5), .val (.int (1 : Int32)), .val (.int v5), .val (.int v9), .val (.int v13), .val (.int v17), .val (.ref a72), .val (.int (0 : Int32))] at_156 rfl rfl ?_
                refine Go.goto 196 at_158 (by decide) (by decide) ?_
                refine Go.aload 198 at_196 rfl rfl rfl ?_
                refine Go.iload 200 at_198 rfl rfl ?_
                refine Go.callVIp [.int v5] [] 203 at_200 (tw37 hw) (tw38 hw) (tw40 hw) (tw39 hw) (tw2 hw) (tw41 hw) f125 pl8 (by decide) (lenOf pd8 rfl) rfl (fun m => ef_k_idx1 m a72 v5) _ (k_idx1 (v0 := v9) hw h123 zs129 a72 v5 f126 f127 f128 rr120_0) 0 rfl (Nat.le_of_eq rfl) (by decide) (by decide) (by decide) (by decide) rfl ?_
                refine Go.iload 205 at_203 rfl rfl ?_
                refine Go.icmp_ne 212 208 at_205 (by decide) (by decide) rfl (fun c141 => ?_) (fun c141 => ?_)
                ·
                  refine Go.iconst 213 (0) at_212 (by decide) rfl ?_
                  refine Go.nreturn (t := .boolean) (z' := (0 : Int32)) at_213 rfl (by simp) (by decide) (by decide) (by decide) ?_
                  exfalso
                  have e9 := c141
                  first | exact e9 rfl | (simp only [own_idx, c131, if_true, if_false] at e9; exact e9 (by decide)) | (simp only [own_idx, c131, if_true, if_false] at e9; done)
                ·
                  refine Go.iconst 209 (1) at_208 (by decide) rfl ?_
                  refine Go.goto 213 at_209 (by decide) (by decide) ?_
                  refine Go.nreturn (t := .boolean) (z' := (1 : Int32)) at_213 rfl (by simp) (by decide) (by decide) (by decide) ?_
                  rfl
          ·
            subst hs18
            refine Go.new 68 at_65 (tw0 hw) (tw1 hw) (tw2 hw) (by decide) (by decide) rfl (fun a142 h143 q144 E145 A146 D147 => ?_)
            have ge148 : Z.heap.size ≤ a142 := (Eq.symm q144) ▸ hz
            have zs149 : Z.heap.size ≤ h143.size := Nat.le_trans hz E145.1
            have f150 : Fld Z h143 a142 "com/example/latchwork/latchwork/engine/IntList" "elements" "[I" (.null) := D147 (Or.inl (tw15 hw)) (ty := (.array .int)) (by decide)
            have f151 : Fld Z h143 a142 "com/example/latchwork/latchwork/engine/IntList" "size" "I" (.int (0 : Int32)) := D147 (Or.inl (tw22 hw)) (ty := .int) (by decide)
            refine Go.dup 69 at_68 rfl rfl ?_
            refine Go.iload_n 70 at_69 rfl rfl ?_
            refine Go.bipush 72 (7) at_70 (by decide) rfl ?_
            refine Go.iand 73 at_72 rfl ?_
            refine Go.iconst 74 (2) at_73 (by decide) rfl ?_
            refine Go.isub 75 at_74 rfl ?_
            have hcap : ¬ 5 < ((i0 &&& (7 : Int32)) - (2 : Int32)) := own_capr i0 _ rfl
            refine Go.callC [.int ((i0 &&& (7 : Int32)) - (2 : Int32))] [.ref a142] 78 at_75 rfl (tw3 hw) (tw4 hw) (tw2 hw) (tw5 hw) pl1 (by decide) (lenOf pd1 rfl) rfl (fun m => ef_k_init m a142 ((i0 &&& (7 : Int32)) - (2 : Int32))) _ (k_init hw h143 zs149 a142 (((i0 &&& (7 : Int32)) - (2 : Int32))) A146 f150 f151 hcap ge148) 1 rfl (Nat.le_of_eq rfl) (by decide) (by decide) (by decide) (by decide) rfl ?_
            rintro h153 ⟨p157, K154, f155, f156⟩
            have zs158 : Z.heap.size ≤ h153.size := Nat.le_trans zs149 K154.1
            obtain ⟨am158, xs158, fe158, ar158, na158, ga158, lu158, ll158⟩ := p157
            refine Go.astore 80 #[.val (.int i0), .val (.int i1), .val (.int i2), .val (.int i3), .val (.int i4), .val (.int i5), .val (.int (2 : Int32)), .val (.int v5), .val (.int v9), .val (.int v13), .val (.int v17), .val (.ref a142), .unset] at_78 rfl rfl rfl ?_
            refine Go.iload 82 at_80 rfl rfl ?_
            refine Go.iconst 83 (1) at_82 (by decide) rfl ?_
            refine Go.icmp_lt 93 86 at_83 (by decide) (by decide) rfl (fun c => absurd c (by decide)) (fun _ => ?_)
            refine Go.aload 88 at_86 rfl rfl rfl ?_
            refine Go.iload 90 at_88 rfl rfl ?_
            refine Go.callVV [.int v9] [] 93 at_90 (tw16 hw) (tw17 hw) (tw19 hw) (tw18 hw) (tw2 hw) (tw20 hw) f155 pl4 (by decide) (lenOf pd4 rfl) rfl (fun m => ef_k_add0 m a142 v9) _ (k_add0 hw h153 zs158 a142 v9 f155 fe158 f156 ar158 lu158 ll158 ge148 ga158 na158) 0 rfl (Nat.le_of_eq rfl) (by decide) (by decide) (by decide) (by decide) rfl ?_
            rintro h162 ⟨p166, K163, f164, f165⟩
            have zs167 : Z.heap.size ≤ h162.size := Nat.le_trans zs158 K163.1
            obtain ⟨am167, xs167, fe167, ar167, na167, ga167, lu167, ll167, rr167_0⟩ := p166
            refine Go.iload 95 at_93 rfl rfl ?_
            refine Go.iconst 96 (2) at_95 (by decide) rfl ?_
            refine Go.icmp_lt 106 99 at_96 (by decide) (by decide) rfl (fun c => absurd c (by decide)) (fun _ => ?_)
            refine Go.aload 101 at_99 rfl rfl rfl ?_
            refine Go.iload 103 at_101 rfl rfl ?_
            refine Go.callVV [.int v13] [] 106 at_103 (tw16 hw) (tw17 hw) (tw19 hw) (tw18 hw) (tw2 hw) (tw20 hw) f164 pl4 (by decide) (lenOf pd4 rfl) rfl (fun m => ef_k_add1 m a142 v13) _ (k_add1 (v0 := v9) hw h162 zs167 a142 v13 f164 fe167 f165 ar167 lu167 ll167 rr167_0 ge148 ga167 na167) 0 rfl (Nat.le_of_eq rfl) (by decide) (by decide) (by decide) (by decide) rfl ?_
            rintro h171 ⟨p175, K172, f173, f174⟩
            have zs176 : Z.heap.size ≤ h171.size := Nat.le_trans zs167 K172.1
            obtain ⟨am176, xs176, fe176, ar176, na176, ga176, lu176, ll176, rr176_0, rr176_1⟩ := p175
            refine Go.iload 108 at_106 rfl rfl ?_
            refine Go.iconst 109 (3) at_108 (by decide) rfl ?_
            refine Go.icmp_lt 119 112 at_109 (by decide) (by decide) rfl (fun _ => ?_) (fun c => absurd c (by decide))
            refine Go.iload_n 120 at_119 rfl rfl ?_
            refine Go.bipush 122 (64) at_120 (by decide) rfl ?_
            refine Go.iand 123 at_122 rfl ?_
            refine Go.if_eq 139 126 at_123 (by decide) (by decide) rfl (fun c179 => ?_) (fun c179 => ?_)
            ·
              refine Go.iconst 140 (-1) at_139 (by decide) rfl ?_
              refine Go.istore 142 #[.val (.int i0), .val (.int i1), .val (.int i2), .val (.int i3), .val (.int i4), .val (.int i5), .val (.int (2 : Int32)), .val (.int v5), .val (.int v9), .val (.int v13), .val (.int v17), .val (.ref a142), .val (.int (-1 : Int32))] at_140 rfl rfl ?_
              refine Go.iload 144 at_142 rfl rfl ?_
              refine Go.iconst 145 (1) at_144 (by decide) rfl ?_
              refine Go.icmp_lt 161 148 at_145 (by decide) (by decide) rfl (fun c => absurd c (by decide)) (fun _ => ?_)
              refine Go.iload 150 at_148 rfl rfl ?_
              refine Go.iload 152 at_150 rfl rfl ?_
              refine Go.icmp_ne 161 155 at_152 (by decide) (by decide) rfl (fun c181 => ?_) (fun c181 => ?_)
              ·
                refine Go.iload 163 at_161 rfl rfl ?_
                refine Go.iconst 164 (2) at_163 (by decide) rfl ?_
                refine Go.icmp_lt 180 167 at_164 (by decide) (by decide) rfl (fun c => absurd c (by decide)) (fun _ => ?_)
                refine Go.iload 169 at_167 rfl rfl ?_
                refine Go.iload 171 at_169 rfl rfl ?_
                refine Go.icmp_ne 180 174 at_171 (by decide) (by decide) rfl (fun c183 => ?_) (fun c183 => ?_)
                ·
                  refine Go.iload 182 at_180 rfl rfl ?_
                  refine Go.iconst 183 (3) at_182 (by decide) rfl ?_
                  refine Go.icmp_lt 196 186 at_183 (by decide) (by decide) rfl (fun _ => ?_) (fun c => absurd c (by decide))
                  refine Go.aload 198 at_196 rfl rfl rfl ?_
                  refine Go.iload 200 at_198 rfl rfl ?_
                  refine Go.callVIp [.int v5] [] 203 at_200 (tw37 hw) (tw38 hw) (tw40 hw) (tw39 hw) (tw2 hw) (tw41 hw) f173 pl8 (by decide) (lenOf pd8 rfl) rfl (fun m => ef_k_idx2 m a142 v5) _ (k_idx2 (v0 := v9) (v1 := v13) hw h171 zs176 a142 v5 fe176 f174 ar176 rr176_0 rr176_1) 0 rfl (Nat.le_of_eq rfl) (by decide) (by decide) (by decide) (by decide) rfl ?_
                  refine Go.iload 205 at_203 rfl rfl ?_
                  refine Go.icmp_ne 212 208 at_205 (by decide) (by decide) rfl (fun c188 => ?_) (fun c188 => ?_)
                  ·
                    refine Go.iconst 213 (0) at_212 (by decide) rfl ?_
                    refine Go.nreturn (t := .boolean) (z' := (0 : Int32)) at_213 rfl (by simp) (by decide) (by decide) (by decide) ?_
                    exfalso
                    have e9 := c188
                    first | exact e9 rfl | (simp only [own_idx, c181, c183, if_true, if_false] at e9; exact e9 (by decide)) | (simp only [own_idx, c181, c183, if_true, if_false] at e9; done)
                  ·
                    refine Go.iconst 209 (1) at_208 (by decide) rfl ?_
                    refine Go.goto 213 at_209 (by decide) (by decide) ?_
                    refine Go.nreturn (t := .boolean) (z' := (1 : Int32)) at_213 rfl (by simp) (by decide) (by decide) (by decide) ?_
                    rfl
                ·
                  refine Go.iconst 175 (1) at_174 (by decide) rfl ?_
                  refine Go.istore 177 #[.val (.int i0), .val (.int i1), .val (.int i2), .val (.int i3), .val (.int i4), .val (.int i5), .val (.int (2 : Int32)), .val (.int v5), .val (.int v9), .val (.int v13), .val (.int v17), .val (.ref a142), .val (.int (1 : Int32))] at_175 rfl rfl ?_
                  refine Go.goto 196 at_177 (by decide) (by decide) ?_
                  refine Go.aload 198 at_196 rfl rfl rfl ?_
                  refine Go.iload 200 at_198 rfl rfl ?_
                  refine Go.callVIp [.int v5] [] 203 at_200 (tw37 hw) (tw38 hw) (tw40 hw) (tw39 hw) (tw2 hw) (tw41 hw) f173 pl8 (by decide) (lenOf pd8 rfl) rfl (fun m => ef_k_idx2 m a142 v5) _ (k_idx2 (v0 := v9) (v1 := v13) hw h171 zs176 a142 v5 fe176 f174 ar176 rr176_0 rr176_1) 0 rfl (Nat.le_of_eq rfl) (by decide) (by decide) (by decide) (by decide) rfl ?_
                  refine Go.iload 205 at_203 rfl rfl ?_
                  refine Go.icmp_ne 212 208 at_205 (by decide) (by decide) rfl (fun c192 => ?_) (fun c192 => ?_)
                  ·
                    refine Go.iconst 213 (0) at_212 (by decide) rfl ?_
                    refine Go.nreturn (t := .boolean) (z' := (0 : Int32)) at_213 rfl (by simp) (by decide) (by decide) (by decide) ?_
                    exfalso
                    have e9 := c192
                    first | exact e9 rfl | (simp only [own_idx, c181, c183, if_true, if_false] at e9; exact e9 (by decide)) | (simp only [own_idx, c181, c183, if_true, if_false] at e9; done)
                  ·
                    refine Go.iconst 209 (1) at_208 (by decide) rfl ?_
                    refine Go.goto 213 at_209 (by decide) (by decide) ?_
                    refine Go.nreturn (t := .boolean) (z' := (1 : Int32)) at_213 rfl (by simp) (by decide) (by decide) (by decide) ?_
                    rfl
              ·
                refine Go.iconst 156 (0) at_155 (by decide) rfl ?_
                refine Go.istore 158 #[.val (.int i0), .val (.int i1), .val (.int i2), .val (.int i3), .val (.int i4), .val (.int i5), .val (.int (2 : Int32)), .val (.int v5), .val (.int v9), .val (.int v13), .val (.int v17), .val (.ref a142), .val (.int (0 : Int32))] at_156 rfl rfl ?_
                refine Go.goto 196 at_158 (by decide) (by decide) ?_
                refine Go.aload 198 at_196 rfl rfl rfl ?_
                refine Go.iload 200 at_198 rfl rfl ?_
                refine Go.callVIp [.int v5] [] 203 at_200 (tw37 hw) (tw38 hw) (tw40 hw) (tw39 hw) (tw2 hw) (tw41 hw) f173 pl8 (by decide) (lenOf pd8 rfl) rfl (fun m => ef_k_idx2 m a142 v5) _ (k_idx2 (v0 := v9) (v1 := v13) hw h171 zs176 a142 v5 fe176 f174 ar176 rr176_0 rr176_1) 0 rfl (Nat.le_of_eq rfl) (by decide) (by decide) (by decide) (by decide) rfl ?_
                refine Go.iload 205 at_203 rfl rfl ?_
                refine Go.icmp_ne 212 208 at_205 (by decide) (by decide) rfl (fun c196 => ?_) (fun c196 => ?_)
                ·
                  refine Go.iconst 213 (0) at_212 (by decide) rfl ?_
                  refine Go.nreturn (t := .boolean) (z' := (0 : Int32)) at_213 rfl (by simp) (by decide) (by decide) (by decide) ?_
                  exfalso
                  have e9 := c196
                  first | exact e9 rfl | (simp only [own_idx, c181, if_true, if_false] at e9; exact e9 (by decide)) | (simp only [own_idx, c181, if_true, if_false] at e9; done)
                ·
                  refine Go.iconst 209 (1) at_208 (by decide) rfl ?_
                  refine Go.goto 213 at_209 (by decide) (by decide) ?_
                  refine Go.nreturn (t := .boolean) (z' := (1 : Int32)) at_213 rfl (by simp) (by decide) (by decide) (by decide) ?_
                  rfl
            ·
              refine Go.aload 128 at_126 rfl rfl rfl ?_
              refine Go.iload 130 at_128 rfl rfl ?_
              refine Go.callVV [.int v5] [] 133 at_130 (tw16 hw) (tw17 hw) (tw19 hw) (tw18 hw) (tw2 hw) (tw20 hw) f173 pl4 (by decide) (lenOf pd4 rfl) rfl (fun m => ef_k_add2 m a142 v5) _ (k_add2 (v0 := v9) (v1 := v13) hw h171 zs176 a142 v5 f173 fe176 f174 ar176 lu176 ll176 rr176_0 rr176_1 ge148 ga176 na176) 0 rfl (Nat.le_of_eq rfl) (by decide) (by decide) (by decide) (by decide) rfl ?_
              rintro h198 ⟨p202, K199, f200, f201⟩
              have zs203 : Z.heap.size ≤ h198.size := Nat.le_trans zs176 K199.1
              obtain ⟨am203, xs203, fe203, ar203, na203, ga203, lu203, ll203, rr203_0, rr203_1, rr203_2⟩ := p202
              refine Go.aload 135 at_133 rfl rfl rfl ?_
              refine Go.callVIe [] [] 138 at_135 (tw42 hw) (tw43 hw) (tw45 hw) (tw44 hw) (tw2 hw) (tw46 hw) f200 pl9 (by decide) (lenOf pd9 rfl) rfl (fun m => ef_k_pop3 m a142) _ _ (k_pop3 (y := v5) hw h198 zs203 a142 f200 fe203 f201 ar203 rr203_2 ge148 ga203 na203) 0 rfl (Nat.le_of_eq rfl) (by decide) (by decide) (by decide) (by decide) rfl ?_
              rintro h206 ⟨K207, f208, f209, f210, f211⟩
              have zs212 : Z.heap.size ≤ h206.size := Nat.le_trans zs203 K207.1
              refine Go.pop 139 at_138 rfl rfl ?_
              refine Go.iconst 140 (-1) at_139 (by decide) rfl ?_
              refine Go.istore 142 #[.val (.int i0), .val (.int i1), .val (.int i2), .val (.int i3), .val (.int i4), .val (.int i5), .val (.int (2 : Int32)), .val (.int v5), .val (.int v9), .val (.int v13), .val (.int v17), .val (.ref a142), .val (.int (-1 : Int32))] at_140 rfl rfl ?_
              refine Go.iload 144 at_142 rfl rfl ?_
              refine Go.iconst 145 (1) at_144 (by decide) rfl ?_
              refine Go.icmp_lt 161 148 at_145 (by decide) (by decide) rfl (fun c => absurd c (by decide)) (fun _ => ?_)
              refine Go.iload 150 at_148 rfl rfl ?_
              refine Go.iload 152 at_150 rfl rfl ?_
              refine Go.icmp_ne 161 155 at_152 (by decide) (by decide) rfl (fun c214 => ?_) (fun c214 => ?_)
              ·
                refine Go.iload 163 at_161 rfl rfl ?_
                refine Go.iconst 164 (2) at_163 (by decide) rfl ?_
                refine Go.icmp_lt 180 167 at_164 (by decide) (by decide) rfl (fun c => absurd c (by decide)) (fun _ => ?_)
                refine Go.iload 169 at_167 rfl rfl ?_
                refine Go.iload 171 at_169 rfl rfl ?_
                refine Go.icmp_ne 180 174 at_171 (by decide) (by decide) rfl (fun c216 => ?_) (fun c216 => ?_)
                ·
                  refine Go.iload 182 at_180 rfl rfl ?_
                  refine Go.iconst 183 (3) at_182 (by decide) rfl ?_
                  refine Go.icmp_lt 196 186 at_183 (by decide) (by decide) rfl (fun _ => ?_) (fun c => absurd c (by decide))
                  refine Go.aload 198 at_196 rfl rfl rfl ?_
                  refine Go.iload 200 at_198 rfl rfl ?_
                  refine Go.callVIp [.int v5] [] 203 at_200 (tw37 hw) (tw38 hw) (tw40 hw) (tw39 hw) (tw2 hw) (tw41 hw) f208 pl8 (by decide) (lenOf pd8 rfl) rfl (fun m => ef_k_idx2 m a142 v5) _ (k_idx2 (v0 := v9) (v1 := v13) hw h206 zs212 a142 v5 f209 f210 f211 rr203_0 rr203_1) 0 rfl (Nat.le_of_eq rfl) (by decide) (by decide) (by decide) (by decide) rfl ?_
                  refine Go.iload 205 at_203 rfl rfl ?_
                  refine Go.icmp_ne 212 208 at_205 (by decide) (by decide) rfl (fun c221 => ?_) (fun c221 => ?_)
                  ·
                    refine Go.iconst 213 (0) at_212 (by decide) rfl ?_
                    refine Go.nreturn (t := .boolean) (z' := (0 : Int32)) at_213 rfl (by simp) (by decide) (by decide) (by decide) ?_
                    exfalso
                    have e9 := c221
                    first | exact e9 rfl | (simp only [own_idx, c214, c216, if_true, if_false] at e9; exact e9 (by decide)) | (simp only [own_idx, c214, c216, if_true, if_false] at e9; done)
                  ·
                    refine Go.iconst 209 (1) at_208 (by decide) rfl ?_
                    refine Go.goto 213 at_209 (by decide) (by decide) ?_
                    refine Go.nreturn (t := .boolean) (z' := (1 : Int32)) at_213 rfl (by simp) (by decide) (by decide) (by decide) ?_
                    rfl
                ·
                  refine Go.iconst 175 (1) at_174 (by decide) rfl ?_
                  refine Go.istore 177 #[.val (.int i0), .val (.int i1), .val (.int i2), .val (.int i3), .val (.int i4), .val (.int i5), .val (.int (2 : Int32)), .val (.int v5), .val (.int v9), .val (.int v13), .val (.int v17), .val (.ref a142), .val (.int (1 : Int32))] at_175 rfl rfl ?_
                  refine Go.goto 196 at_177 (by decide) (by decide) ?_
                  refine Go.aload 198 at_196 rfl rfl rfl ?_
                  refine Go.iload 200 at_198 rfl rfl ?_
                  refine Go.callVIp [.int v5] [] 203 at_200 (tw37 hw) (tw38 hw) (tw40 hw) (tw39 hw) (tw2 hw) (tw41 hw) f208 pl8 (by decide) (lenOf pd8 rfl) rfl (fun m => ef_k_idx2 m a142 v5) _ (k_idx2 (v0 := v9) (v1 := v13) hw h206 zs212 a142 v5 f209 f210 f211 rr203_0 rr203_1) 0 rfl (Nat.le_of_eq rfl) (by decide) (by decide) (by decide) (by decide) rfl ?_
                  refine Go.iload 205 at_203 rfl rfl ?_
                  refine Go.icmp_ne 212 208 at_205 (by decide) (by decide) rfl (fun c225 => ?_) (fun c225 => ?_)
                  ·
                    refine Go.iconst 213 (0) at_212 (by decide) rfl ?_
                    refine Go.nreturn (t := .boolean) (z' := (0 : Int32)) at_213 rfl (by simp) (by decide) (by decide) (by decide) ?_
                    exfalso
                    have e9 := c225
                    first | exact e9 rfl | (simp only [own_idx, c214, c216, if_true, if_false] at e9; exact e9 (by decide)) | (simp only [own_idx, c214, c216, if_true, if_false] at e9; done)
                  ·
                    refine Go.iconst 209 (1) at_208 (by decide) rfl ?_
                    refine Go.goto 213 at_209 (by decide) (by decide) ?_
                    refine Go.nreturn (t := .boolean) (z' := (1 : Int32)) at_213 rfl (by simp) (by decide) (by decide) (by decide) ?_
                    rfl
              ·
                refine Go.iconst 156 (0) at_155 (by decide) rfl ?_
                refine Go.istore 158 #[.val (.int i0), .val (.int i1), .val (.int i2), .val (.int i3), .val (.int i4), .val (.int i5), .val (.int (2 : Int32)), .val (.int v5), .val (.int v9), .val (.int v13), .val (.int v17), .val (.ref a142), .val (.int (0 : Int32))] at_156 rfl rfl ?_
                refine Go.goto 196 at_158 (by decide) (by decide) ?_
                refine Go.aload 198 at_196 rfl rfl rfl ?_
                refine Go.iload 200 at_198 rfl rfl ?_
                refine Go.callVIp [.int v5] [] 203 at_200 (tw37 hw) (tw38 hw) (tw40 hw) (tw39 hw) (tw2 hw) (tw41 hw) f208 pl8 (by decide) (lenOf pd8 rfl) rfl (fun m => ef_k_idx2 m a142 v5) _ (k_idx2 (v0 := v9) (v1 := v13) hw h206 zs212 a142 v5 f209 f210 f211 rr203_0 rr203_1) 0 rfl (Nat.le_of_eq rfl) (by decide) (by decide) (by decide) (by decide) rfl ?_
                refine Go.iload 205 at_203 rfl rfl ?_
                refine Go.icmp_ne 212 208 at_205 (by decide) (by decide) rfl (fun c229 => ?_) (fun c229 => ?_)
                ·
                  refine Go.iconst 213 (0) at_212 (by decide) rfl ?_
                  refine Go.nreturn (t := .boolean) (z' := (0 : Int32)) at_213 rfl (by simp) (by decide) (by decide) (by decide) ?_
                  exfalso
                  have e9 := c229
                  first | exact e9 rfl | (simp only [own_idx, c214, if_true, if_false] at e9; exact e9 (by decide)) | (simp only [own_idx, c214, if_true, if_false] at e9; done)
                ·
                  refine Go.iconst 209 (1) at_208 (by decide) rfl ?_
                  refine Go.goto 213 at_209 (by decide) (by decide) ?_
                  refine Go.nreturn (t := .boolean) (z' := (1 : Int32)) at_213 rfl (by simp) (by decide) (by decide) (by decide) ?_
                  rfl
          ·
            subst hs18
            refine Go.new 68 at_65 (tw0 hw) (tw1 hw) (tw2 hw) (by decide) (by decide) rfl (fun a230 h231 q232 E233 A234 D235 => ?_)
            have ge236 : Z.heap.size ≤ a230 := (Eq.symm q232) ▸ hz
            have zs237 : Z.heap.size ≤ h231.size := Nat.le_trans hz E233.1
            have f238 : Fld Z h231 a230 "com/example/latchwork/latchwork/engine/IntList" "elements" "[I" (.null) := D235 (Or.inl (tw15 hw)) (ty := (.array .int)) (by decide)
            have f239 : Fld Z h231 a230 "com/example/latchwork/latchwork/engine/IntList" "size" "I" (.int (0 : Int32)) := D235 (Or.inl (tw22 hw)) (ty := .int) (by decide)
            refine Go.dup 69 at_68 rfl rfl ?_
            refine Go.iload_n 70 at_69 rfl rfl ?_
            refine Go.bipush 72 (7) at_70 (by decide) rfl ?_
            refine Go.iand 73 at_72 rfl ?_
            refine Go.iconst 74 (2) at_73 (by decide) rfl ?_
            refine Go.isub 75 at_74 rfl ?_
            have hcap : ¬ 5 < ((i0 &&& (7 : Int32)) - (2 : Int32)) := own_capr i0 _ rfl
            refine Go.callC [.int ((i0 &&& (7 : Int32)) - (2 : Int32))] [.ref a230] 78 at_75 rfl (tw3 hw) (tw4 hw) (tw2 hw) (tw5 hw) pl1 (by decide) (lenOf pd1 rfl) rfl (fun m => ef_k_init m a230 ((i0 &&& (7 : Int32)) - (2 : Int32))) _ (k_init hw h231 zs237 a230 (((i0 &&& (7 : Int32)) - (2 : Int32))) A234 f238 f239 hcap ge236) 1 rfl (Nat.le_of_eq rfl) (by decide) (by decide) (by decide) (by decide) rfl ?_
            rintro h241 ⟨p245, K242, f243, f244⟩
            have zs246 : Z.heap.size ≤ h241.size := Nat.le_trans zs237 K242.1
            obtain ⟨am246, xs246, fe246, ar246, na246, ga246, lu246, ll246⟩ := p245
            refine Go.astore 80 #[.val (.int i0), .val (.int i1), .val (.int i2), .val (.int i3), .val (.int i4), .val (.int i5), .val (.int (3 : Int32)), .val (.int v5), .val (.int v9), .val (.int v13), .val (.int v17), .val (.ref a230), .unset] at_78 rfl rfl rfl ?_
            refine Go.iload 82 at_80 rfl rfl ?_
            refine Go.iconst 83 (1) at_82 (by decide) rfl ?_
            refine Go.icmp_lt 93 86 at_83 (by decide) (by decide) rfl (fun c => absurd c (by decide)) (fun _ => ?_)
            refine Go.aload 88 at_86 rfl rfl rfl ?_
            refine Go.iload 90 at_88 rfl rfl ?_
            refine Go.callVV [.int v9] [] 93 at_90 (tw16 hw) (tw17 hw) (tw19 hw) (tw18 hw) (tw2 hw) (tw20 hw) f243 pl4 (by decide) (lenOf pd4 rfl) rfl (fun m => ef_k_add0 m a230 v9) _ (k_add0 hw h241 zs246 a230 v9 f243 fe246 f244 ar246 lu246 ll246 ge236 ga246 na246) 0 rfl (Nat.le_of_eq rfl) (by decide) (by decide) (by decide) (by decide) rfl ?_
            rintro h250 ⟨p254, K251, f252, f253⟩
            have zs255 : Z.heap.size ≤ h250.size := Nat.le_trans zs246 K251.1
            obtain ⟨am255, xs255, fe255, ar255, na255, ga255, lu255, ll255, rr255_0⟩ := p254
            refine Go.iload 95 at_93 rfl rfl ?_
            refine Go.iconst 96 (2) at_95 (by decide) rfl ?_
            refine Go.icmp_lt 106 99 at_96 (by decide) (by decide) rfl (fun c => absurd c (by decide)) (fun _ => ?_)
            refine Go.aload 101 at_99 rfl rfl rfl ?_
            refine Go.iload 103 at_101 rfl rfl ?_
            refine Go.callVV [.int v13] [] 106 at_103 (tw16 hw) (tw17 hw) (tw19 hw) (tw18 hw) (tw2 hw) (tw20 hw) f252 pl4 (by decide) (lenOf pd4 rfl) rfl (fun m => ef_k_add1 m a230 v13) _ (k_add1 (v0 := v9) hw h250 zs255 a230 v13 f252 fe255 f253 ar255 lu255 ll255 rr255_0 ge236 ga255 na255) 0 rfl (Nat.le_of_eq rfl) (by decide) (by decide) (by decide) (by decide) rfl ?_
            rintro h259 ⟨p263, K260, f261, f262⟩
            have zs264 : Z.heap.size ≤ h259.size := Nat.le_trans zs255 K260.1
            obtain ⟨am264, xs264, fe264, ar264, na264, ga264, lu264, ll264, rr264_0, rr264_1⟩ := p263
            refine Go.iload 108 at_106 rfl rfl ?_
            refine Go.iconst 109 (3) at_108 (by decide) rfl ?_
            refine Go.icmp_lt 119 112 at_109 (by decide) (by decide) rfl (fun c => absurd c (by decide)) (fun _ => ?_)
            refine Go.aload 114 at_112 rfl rfl rfl ?_
            refine Go.iload 116 at_114 rfl rfl ?_
            refine Go.callVV [.int v17] [] 119 at_116 (tw16 hw) (tw17 hw) (tw19 hw) (tw18 hw) (tw2 hw) (tw20 hw) f261 pl4 (by decide) (lenOf pd4 rfl) rfl (fun m => ef_k_add2 m a230 v17) _ (k_add2 (v0 := v9) (v1 := v13) hw h259 zs264 a230 v17 f261 fe264 f262 ar264 lu264 ll264 rr264_0 rr264_1 ge236 ga264 na264) 0 rfl (Nat.le_of_eq rfl) (by decide) (by decide) (by decide) (by decide) rfl ?_
            rintro h268 ⟨p272, K269, f270, f271⟩
            have zs273 : Z.heap.size ≤ h268.size := Nat.le_trans zs264 K269.1
            obtain ⟨am273, xs273, fe273, ar273, na273, ga273, lu273, ll273, rr273_0, rr273_1, rr273_2⟩ := p272
            refine Go.iload_n 120 at_119 rfl rfl ?_
            refine Go.bipush 122 (64) at_120 (by decide) rfl ?_
            refine Go.iand 123 at_122 rfl ?_
            refine Go.if_eq 139 126 at_123 (by decide) (by decide) rfl (fun c275 => ?_) (fun c275 => ?_)
            ·
              refine Go.iconst 140 (-1) at_139 (by decide) rfl ?_
              refine Go.istore 142 #[.val (.int i0), .val (.int i1), .val (.int i2), .val (.int i3), .val (.int i4), .val (.int i5), .val (.int (3 : Int32)), .val (.int v5), .val (.int v9), .val (.int v13), .val (.int v17), .val (.ref a230), .val (.int (-1 : Int32))] at_140 rfl rfl ?_
              refine Go.iload 144 at_142 rfl rfl ?_
              refine Go.iconst 145 (1) at_144 (by decide) rfl ?_
              refine Go.icmp_lt 161 148 at_145 (by decide) (by decide) rfl (fun c => absurd c (by decide)) (fun _ => ?_)
              refine Go.iload 150 at_148 rfl rfl ?_
              refine Go.iload 152 at_150 rfl rfl ?_
              refine Go.icmp_ne 161 155 at_152 (by decide) (by decide) rfl (fun c277 => ?_) (fun c277 => ?_)
              ·
                refine Go.iload 163 at_161 rfl rfl ?_
                refine Go.iconst 164 (2) at_163 (by decide) rfl ?_
                refine Go.icmp_lt 180 167 at_164 (by decide) (by decide) rfl (fun c => absurd c (by decide)) (fun _ => ?_)
                refine Go.iload 169 at_167 rfl rfl ?_
                refine Go.iload 171 at_169 rfl rfl ?_
                refine Go.icmp_ne 180 174 at_171 (by decide) (by decide) rfl (fun c279 => ?_) (fun c279 => ?_)
                ·
                  refine Go.iload 182 at_180 rfl rfl ?_
                  refine Go.iconst 183 (3) at_182 (by decide) rfl ?_
                  refine Go.icmp_lt 196 186 at_183 (by decide) (by decide) rfl (fun c => absurd c (by decide)) (fun _ => ?_)
                  refine Go.iload 188 at_186 rfl rfl ?_
                  refine Go.iload 190 at_188 rfl rfl ?_
                  refine Go.icmp_ne 196 193 at_190 (by decide) (by decide) rfl (fun c281 => ?_) (fun c281 => ?_)
                  ·
                    refine Go.aload 198 at_196 rfl rfl rfl ?_
                    refine Go.iload 200 at_198 rfl rfl ?_
                    refine Go.callVIp [.int v5] [] 203 at_200 (tw37 hw) (tw38 hw) (tw40 hw) (tw39 hw) (tw2 hw) (tw41 hw) f270 pl8 (by decide) (lenOf pd8 rfl) rfl (fun m => ef_k_idx3 m a230 v5) _ (k_idx3 (v0 := v9) (v1 := v13) (v2 := v17) hw h268 zs273 a230 v5 fe273 f271 ar273 rr273_0 rr273_1 rr273_2) 0 rfl (Nat.le_of_eq rfl) (by decide) (by decide) (by decide) (by decide) rfl ?_
                    refine Go.iload 205 at_203 rfl rfl ?_
                    refine Go.icmp_ne 212 208 at_205 (by decide) (by decide) rfl (fun c285 => ?_) (fun c285 => ?_)
                    ·
                      refine Go.iconst 213 (0) at_212 (by decide) rfl ?_
                      refine Go.nreturn (t := .boolean) (z' := (0 : Int32)) at_213 rfl (by simp) (by decide) (by decide) (by decide) ?_
                      exfalso
                      have e9 := c285
                      first | exact e9 rfl | (simp only [own_idx, c277, c279, c281, if_true, if_false] at e9; exact e9 (by decide)) | (simp only [own_idx, c277, c279, c281, if_true, if_false] at e9; done)
                    ·
                      refine Go.iconst 209 (1) at_208 (by decide) rfl ?_
                      refine Go.goto 213 at_209 (by decide) (by decide) ?_
                      refine Go.nreturn (t := .boolean) (z' := (1 : Int32)) at_213 rfl (by simp) (by decide) (by decide) (by decide) ?_
                      rfl
                  ·
                    refine Go.iconst 194 (2) at_193 (by decide) rfl ?_
                    refine Go.istore 196 #[.val (.int i0), .val (.int i1), .val (.int i2), .val (.int i3), .val (.int i4), .val (.int i5), .val (.int (3 : Int32)), .val (.int v5), .val (.int v9), .val (.int v13), .val (.int v17), .val (.ref a230), .val (.int (2 : Int32))] at_194 rfl rfl ?_
                    refine Go.aload 198 at_196 rfl rfl rfl ?_
                    refine Go.iload 200 at_198 rfl rfl ?_
                    refine Go.callVIp [.int v5] [] 203 at_200 (tw37 hw) (tw38 hw) (tw40 hw) (tw39 hw) (tw2 hw) (tw41 hw) f270 pl8 (by decide) (lenOf pd8 rfl) rfl (fun m => ef_k_idx3 m a230 v5) _ (k_idx3 (v0 := v9) (v1 := v13) (v2 := v17) hw h268 zs273 a230 v5 fe273 f271 ar273 rr273_0 rr273_1 rr273_2) 0 rfl (Nat.le_of_eq rfl) (by decide) (by decide) (by decide) (by decide) rfl ?_
                    refine Go.iload 205 at_203 rfl rfl ?_
                    refine Go.icmp_ne 212 208 at_205 (by decide) (by decide) rfl (fun c289 => ?_) (fun c289 => ?_)
                    ·
                      refine Go.iconst 213 (0) at_212 (by decide) rfl ?_
                      refine Go.nreturn (t := .boolean) (z' := (0 : Int32)) at_213 rfl (by simp) (by decide) (by decide) (by decide) ?_
                      exfalso
                      have e9 := c289
                      first | exact e9 rfl | (simp only [own_idx, c277, c279, c281, if_true, if_false] at e9; exact e9 (by decide)) | (simp only [own_idx, c277, c279, c281, if_true, if_false] at e9; done)
                    ·
                      refine Go.iconst 209 (1) at_208 (by decide) rfl ?_
                      refine Go.goto 213 at_209 (by decide) (by decide) ?_
                      refine Go.nreturn (t := .boolean) (z' := (1 : Int32)) at_213 rfl (by simp) (by decide) (by decide) (by decide) ?_
                      rfl
                ·
                  refine Go.iconst 175 (1) at_174 (by decide) rfl ?_
                  refine Go.istore 177 #[.val (.int i0), .val (.int i1), .val (.int i2), .val (.int i3), .val (.int i4), .val (.int i5), .val (.int (3 : Int32)), .val (.int v5), .val (.int v9), .val (.int v13), .val (.int v17), .val (.ref a230), .val (.int (1 : Int32))] at_175 rfl rfl ?_
                  refine Go.goto 196 at_177 (by decide) (by decide) ?_
                  refine Go.aload 198 at_196 rfl rfl rfl ?_
                  refine Go.iload 200 at_198 rfl rfl ?_
                  refine Go.callVIp [.int v5] [] 203 at_200 (tw37 hw) (tw38 hw) (tw40 hw) (tw39 hw) (tw2 hw) (tw41 hw) f270 pl8 (by decide) (lenOf pd8 rfl) rfl (fun m => ef_k_idx3 m a230 v5) _ (k_idx3 (v0 := v9) (v1 := v13) (v2 := v17) hw h268 zs273 a230 v5 fe273 f271 ar273 rr273_0 rr273_1 rr273_2) 0 rfl (Nat.le_of_eq rfl) (by decide) (by decide) (by decide) (by decide) rfl ?_
                  refine Go.iload 205 at_203 rfl rfl ?_
                  refine Go.icmp_ne 212 208 at_205 (by decide) (by decide) rfl (fun c293 => ?_) (fun c293 => ?_)
                  ·
                    refine Go.iconst 213 (0) at_212 (by decide) rfl ?_
                    refine Go.nreturn (t := .boolean) (z' := (0 : Int32)) at_213 rfl (by simp) (by decide) (by decide) (by decide) ?_
                    exfalso
                    have e9 := c293
                    first | exact e9 rfl | (simp only [own_idx, c277, c279, if_true, if_false] at e9; exact e9 (by decide)) | (simp only [own_idx, c277, c279, if_true, if_false] at e9; done)
                  ·
                    refine Go.iconst 209 (1) at_208 (by decide) rfl ?_
                    refine Go.goto 213 at_209 (by decide) (by decide) ?_
                    refine Go.nreturn (t := .boolean) (z' := (1 : Int32)) at_213 rfl (by simp) (by decide) (by decide) (by decide) ?_
                    rfl
              ·
                refine Go.iconst 156 (0) at_155 (by decide) rfl ?_
                refine Go.istore 158 #[.val (.int i0), .val (.int i1), .val (.int i2), .val (.int i3), .val (.int i4), .val (.int i5), .val (.int (3 : Int32)), .val (.int v5), .val (.int v9), .val (.int v13), .val (.int v17), .val (.ref a230), .val (.int (0 : Int32))] at_156 rfl rfl ?_
                refine Go.goto 196 at_158 (by decide) (by decide) ?_
                refine Go.aload 198 at_196 rfl rfl rfl ?_
                refine Go.iload 200 at_198 rfl rfl ?_
                refine Go.callVIp [.int v5] [] 203 at_200 (tw37 hw) (tw38 hw) (tw40 hw) (tw39 hw) (tw2 hw) (tw41 hw) f270 pl8 (by decide) (lenOf pd8 rfl) rfl (fun m => ef_k_idx3 m a230 v5) _ (k_idx3 (v0 := v9) (v1 := v13) (v2 := v17) hw h268 zs273 a230 v5 fe273 f271 ar273 rr273_0 rr273_1 rr273_2) 0 rfl (Nat.le_of_eq rfl) (by decide) (by decide) (by decide) (by decide) rfl ?_
                refine Go.iload 205 at_203 rfl rfl ?_
                refine Go.icmp_ne 212 208 at_205 (by decide) (by decide) rfl (fun c297 => ?_) (fun c297 => ?_)
                ·
                  refine Go.iconst 213 (0) at_212 (by decide) rfl ?_
                  refine Go.nreturn (t := .boolean) (z' := (0 : Int32)) at_213 rfl (by simp) (by decide) (by decide) (by decide) ?_
                  exfalso
                  have e9 := c297
                  first | exact e9 rfl | (simp only [own_idx, c277, if_true, if_false] at e9; exact e9 (by decide)) | (simp only [own_idx, c277, if_true, if_false] at e9; done)
                ·
                  refine Go.iconst 209 (1) at_208 (by decide) rfl ?_
                  refine Go.goto 213 at_209 (by decide) (by decide) ?_
                  refine Go.nreturn (t := .boolean) (z' := (1 : Int32)) at_213 rfl (by simp) (by decide) (by decide) (by decide) ?_
                  rfl
            ·
              refine Go.aload 128 at_126 rfl rfl rfl ?_
              refine Go.iload 130 at_128 rfl rfl ?_
              refine Go.callVV [.int v5] [] 133 at_130 (tw16 hw) (tw17 hw) (tw19 hw) (tw18 hw) (tw2 hw) (tw20 hw) f270 pl4 (by decide) (lenOf pd4 rfl) rfl (fun m => ef_k_add3 m a230 v5) _ (k_add3 (v0 := v9) (v1 := v13) (v2 := v17) hw h268 zs273 a230 v5 f270 fe273 f271 ar273 lu273 ll273 rr273_0 rr273_1 rr273_2 ge236 ga273 na273) 0 rfl (Nat.le_of_eq rfl) (by decide) (by decide) (by decide) (by decide) rfl ?_
              rintro h299 ⟨p303, K300, f301, f302⟩
              have zs304 : Z.heap.size ≤ h299.size := Nat.le_trans zs273 K300.1
              obtain ⟨am304, xs304, fe304, ar304, na304, ga304, lu304, ll304, rr304_0, rr304_1, rr304_2, rr304_3⟩ := p303
              refine Go.aload 135 at_133 rfl rfl rfl ?_
              refine Go.callVIe [] [] 138 at_135 (tw42 hw) (tw43 hw) (tw45 hw) (tw44 hw) (tw2 hw) (tw46 hw) f301 pl9 (by decide) (lenOf pd9 rfl) rfl (fun m => ef_k_pop4 m a230) _ _ (k_pop4 (y := v5) hw h299 zs304 a230 f301 fe304 f302 ar304 rr304_3 ge236 ga304 na304) 0 rfl (Nat.le_of_eq rfl) (by decide) (by decide) (by decide) (by decide) rfl ?_
              rintro h307 ⟨K308, f309, f310, f311, f312⟩
              have zs313 : Z.heap.size ≤ h307.size := Nat.le_trans zs304 K308.1
              refine Go.pop 139 at_138 rfl rfl ?_
              refine Go.iconst 140 (-1) at_139 (by decide) rfl ?_
              refine Go.istore 142 #[.val (.int i0), .val (.int i1), .val (.int i2), .val (.int i3), .val (.int i4), .val (.int i5), .val (.int (3 : Int32)), .val (.int v5), .val (.int v9), .val (.int v13), .val (.int v17), .val (.ref a230), .val (.int (-1 : Int32))] at_140 rfl rfl ?_
              refine Go.iload 144 at_142 rfl rfl ?_
              refine Go.iconst 145 (1) at_144 (by decide) rfl ?_
              refine Go.icmp_lt 161 148 at_145 (by decide) (by decide) rfl (fun c => absurd c (by decide)) (fun _ => ?_)
              refine Go.iload 150 at_148 rfl rfl ?_
              refine Go.iload 152 at_150 rfl rfl ?_
              refine Go.icmp_ne 161 155 at_152 (by decide) (by decide) rfl (fun c315 => ?_) (fun c315 => ?_)
              ·
                refine Go.iload 163 at_161 rfl rfl ?_
                refine Go.iconst 164 (2) at_163 (by decide) rfl ?_
                refine Go.icmp_lt 180 167 at_164 (by decide) (by decide) rfl (fun c => absurd c (by decide)) (fun _ => ?_)
                refine Go.iload 169 at_167 rfl rfl ?_
                refine Go.iload 171 at_169 rfl rfl ?_
                refine Go.icmp_ne 180 174 at_171 (by decide) (by decide) rfl (fun c317 => ?_) (fun c317 => ?_)
                ·
                  refine Go.iload 182 at_180 rfl rfl ?_
                  refine Go.iconst 183 (3) at_182 (by decide) rfl ?_
                  refine Go.icmp_lt 196 186 at_183 (by decide) (by decide) rfl (fun c => absurd c (by decide)) (fun _ => ?_)
                  refine Go.iload 188 at_186 rfl rfl ?_
                  refine Go.iload 190 at_188 rfl rfl ?_
                  refine Go.icmp_ne 196 193 at_190 (by decide) (by decide) rfl (fun c319 => ?_) (fun c319 => ?_)
                  ·
                    refine Go.aload 198 at_196 rfl rfl rfl ?_
                    refine Go.iload 200 at_198 rfl rfl ?_
                    refine Go.callVIp [.int v5] [] 203 at_200 (tw37 hw) (tw38 hw) (tw40 hw) (tw39 hw) (tw2 hw) (tw41 hw) f309 pl8 (by decide) (lenOf pd8 rfl) rfl (fun m => ef_k_idx3 m a230 v5) _ (k_idx3 (v0 := v9) (v1 := v13) (v2 := v17) hw h307 zs313 a230 v5 f310 f311 f312 rr304_0 rr304_1 rr304_2) 0 rfl (Nat.le_of_eq rfl) (by decide) (by decide) (by decide) (by decide) rfl ?_
                    refine Go.iload 205 at_203 rfl rfl ?_
                    refine Go.icmp_ne 212 208 at_205 (by decide) (by decide) rfl (fun c323 => ?_) (fun c323 => ?_)
                    ·
                      refine Go.iconst 213 (0) at_212 (by decide) rfl ?_
                      refine Go.nreturn (t := .boolean) (z' := (0 : Int32)) at_213 rfl (by simp) (by decide) (by decide) (by decide) ?_
                      exfalso
                      have e9 := c323
                      first | exact e9 rfl | (simp only [own_idx, c315, c317, c319, if_true, if_false] at e9; exact e9 (by decide)) | (simp only [own_idx, c315, c317, c319, if_true, if_false] at e9; done)
                    ·
                      refine Go.iconst 209 (1) at_208 (by decide) rfl ?_
                      refine Go.goto 213 at_209 (by decide) (by decide) ?_
                      refine Go.nreturn (t := .boolean) (z' := (1 : Int32)) at_213 rfl (by simp) (by decide) (by decide) (by decide) ?_
                      rfl
                  ·
                    refine Go.iconst 194 (2) at_193 (by decide) rfl ?_
                    refine Go.istore 196 #[.val (.int i0), .val (.int i1), .val (.int i2), .val (.int i3), .val (.int i4), .val (.int i5), .val (.int (3 : Int32)), .val (.int v5), .val (.int v9), .val (.int v13), .val (.int v17), .val (.ref a230), .val (.int (2 : Int32))] at_194 rfl rfl ?_
                    refine Go.aload 198 at_196 rfl rfl rfl ?_
                    refine Go.iload 200 at_198 rfl rfl ?_
                    refine Go.callVIp [.int v5] [] 203 at_200 (tw37 hw) (tw38 hw) (tw40 hw) (tw39 hw) (tw2 hw) (tw41 hw) f309 pl8 (by decide) (lenOf pd8 rfl) rfl (fun m => ef_k_idx3 m a230 v5) _ (k_idx3 (v0 := v9) (v1 := v13) (v2 := v17) hw h307 zs313 a230 v5 f310 f311 f312 rr304_0 rr304_1 rr304_2) 0 rfl (Nat.le_of_eq rfl) (by decide) (by decide) (by decide) (by decide) rfl ?_
                    refine Go.iload 205 at_203 rfl rfl ?_
                    refine Go.icmp_ne 212 208 at_205 (by decide) (by decide) rfl (fun c327 => ?_) (fun c327 => ?_)
                    ·
                      refine Go.iconst 213 (0) at_212 (by decide) rfl ?_
                      refine Go.nreturn (t := .boolean) (z' := (0 : Int32)) at_213 rfl (by simp) (by decide) (by decide) (by decide) ?_
                      exfalso
                      have e9 := c327
                      first | exact e9 rfl | (simp only [own_idx, c315, c317, c319, if_true, if_false] at e9; exact e9 (by decide)) | (simp only [own_idx, c315, c317, c319, if_true, if_false] at e9; done)
                    ·
                      refine Go.iconst 209 (1) at_208 (by decide) rfl ?_
                      refine Go.goto 213 at_209 (by decide) (by decide) ?_
                      refine Go.nreturn (t := .boolean) (z' := (1 : Int32)) at_213 rfl (by simp) (by decide) (by decide) (by decide) ?_
                      rfl
                ·
                  refine Go.iconst 175 (1) at_174 (by decide) rfl ?_
                  refine Go.istore 177 #[.val (.int i0), .val (.int i1), .val (.int i2), .val (.int i3), .val (.int i4), .val (.int i5), .val (.int (3 : Int32)), .val (.int v5), .val (.int v9), .val (.int v13), .val (.int v17), .val (.ref a230), .val (.int (1 : Int32))] at_175 rfl rfl ?_
                  refine Go.goto 196 at_177 (by decide) (by decide) ?_
                  refine Go.aload 198 at_196 rfl rfl rfl ?_
                  refine Go.iload 200 at_198 rfl rfl ?_
                  refine Go.callVIp [.int v5] [] 203 at_200 (tw37 hw) (tw38 hw) (tw40 hw) (tw39 hw) (tw2 hw) (tw41 hw) f309 pl8 (by decide) (lenOf pd8 rfl) rfl (fun m => ef_k_idx3 m a230 v5) _ (k_idx3 (v0 := v9) (v1 := v13) (v2 := v17) hw h307 zs313 a230 v5 f310 f311 f312 rr304_0 rr304_1 rr304_2) 0 rfl (Nat.le_of_eq rfl) (by decide) (by decide) (by decide) (by decide) rfl ?_
                  refine Go.iload 205 at_203 rfl rfl ?_
                  refine Go.icmp_ne 212 208 at_205 (by decide) (by decide) rfl (fun c331 => ?_) (fun c331 => ?_)
                  ·
                    refine Go.iconst 213 (0) at_212 (by decide) rfl ?_
                    refine Go.nreturn (t := .boolean) (z' := (0 : Int32)) at_213 rfl (by simp) (by decide) (by decide) (by decide) ?_
                    exfalso
                    have e9 := c331
                    first | exact e9 rfl | (simp only [own_idx, c315, c317, if_true, if_false] at e9; exact e9 (by decide)) | (simp only [own_idx, c315, c317, if_true, if_false] at e9; done)
                  ·
                    refine Go.iconst 209 (1) at_208 (by decide) rfl ?_
                    refine Go.goto 213 at_209 (by decide) (by decide) ?_
                    refine Go.nreturn (t := .boolean) (z' := (1 : Int32)) at_213 rfl (by simp) (by decide) (by decide) (by decide) ?_
                    rfl
              ·
                refine Go.iconst 156 (0) at_155 (by decide) rfl ?_
                refine Go.istore 158 #[.val (.int i0), .val (.int i1), .val (.int i2), .val (.int i3), .val (.int i4), .val (.int i5), .val (.int (3 : Int32)), .val (.int v5), .val (.int v9), .val (.int v13), .val (.int v17), .val (.ref a230), .val (.int (0 : Int32))] at_156 rfl rfl ?_
                refine Go.goto 196 at_158 (by decide) (by decide) ?_
                refine Go.aload 198 at_196 rfl rfl rfl ?_
                refine Go.iload 200 at_198 rfl rfl ?_
                refine Go.callVIp [.int v5] [] 203 at_200 (tw37 hw) (tw38 hw) (tw40 hw) (tw39 hw) (tw2 hw) (tw41 hw) f309 pl8 (by decide) (lenOf pd8 rfl) rfl (fun m => ef_k_idx3 m a230 v5) _ (k_idx3 (v0 := v9) (v1 := v13) (v2 := v17) hw h307 zs313 a230 v5 f310 f311 f312 rr304_0 rr304_1 rr304_2) 0 rfl (Nat.le_of_eq rfl) (by decide) (by decide) (by decide) (by decide) rfl ?_
                refine Go.iload 205 at_203 rfl rfl ?_
                refine Go.icmp_ne 212 208 at_205 (by decide) (by decide) rfl (fun c335 => ?_) (fun c335 => ?_)
                ·
                  refine Go.iconst 213 (0) at_212 (by decide) rfl ?_
                  refine Go.nreturn (t := .boolean) (z' := (0 : Int32)) at_213 rfl (by simp) (by decide) (by decide) (by decide) ?_
                  exfalso
                  have e9 := c335
                  first | exact e9 rfl | (simp only [own_idx, c315, if_true, if_false] at e9; exact e9 (by decide)) | (simp only [own_idx, c315, if_true, if_false] at e9; done)
                ·
                  refine Go.iconst 209 (1) at_208 (by decide) rfl ?_
                  refine Go.goto 213 at_209 (by decide) (by decide) ?_
                  refine Go.nreturn (t := .boolean) (z' := (1 : Int32)) at_213 rfl (by simp) (by decide) (by decide) (by decide) ?_
                  rfl
        refine Go.if_eq 61 56 at_53 (by decide) (by decide) rfl (fun c336 => ?_) (fun c336 => ?_)
        ·
          refine Go.iload 63 at_61 rfl rfl ?_
          exact (J16 _ (by first | rfl | (simp only [if_pos c336]; done) | simp [c336])).le (by decide) (by decide)
        ·
          refine Go.iload 58 at_56 rfl rfl ?_
          refine Go.goto 63 at_58 (by decide) (by decide) ?_
          exact (J16 _ (by first | rfl | (simp only [if_neg c336]; done) | simp [c336])).le (by decide) (by decide)
      refine Go.if_eq 46 41 at_38 (by decide) (by decide) rfl (fun c337 => ?_) (fun c337 => ?_)
      ·
        refine Go.iload_n 47 at_46 rfl rfl ?_
        exact (J12 _ (by first | rfl | (simp only [if_pos c337]; done) | simp [c337])).le (by decide) (by decide)
      ·
        refine Go.iload 43 at_41 rfl rfl ?_
        refine Go.goto 47 at_43 (by decide) (by decide) ?_
        exact (J12 _ (by first | rfl | (simp only [if_neg c337]; done) | simp [c337])).le (by decide) (by decide)
    refine Go.if_eq 31 26 at_23 (by decide) (by decide) rfl (fun c338 => ?_) (fun c338 => ?_)
    ·
      refine Go.iload_n 32 at_31 rfl rfl ?_
      exact (J8 _ (by first | rfl | (simp only [if_pos c338]; done) | simp [c338])).le (by decide) (by decide)
    ·
      refine Go.iload 28 at_26 rfl rfl ?_
      refine Go.goto 32 at_28 (by decide) (by decide) ?_
      exact (J8 _ (by first | rfl | (simp only [if_neg c338]; done) | simp [c338])).le (by decide) (by decide)
  refine Go.if_eq 16 12 at_9 (by decide) (by decide) rfl (fun c339 => ?_) (fun c339 => ?_)
  ·
    refine Go.iload 18 at_16 rfl rfl ?_
    exact (J4 _ (by first | rfl | (simp only [if_pos c339]; done) | simp [c339])).le (by decide) (by decide)
  ·
    refine Go.iconst 13 (0) at_12 (by decide) rfl ?_
    refine Go.goto 18 at_13 (by decide) (by decide) ?_
    exact (J4 _ (by first | rfl | (simp only [if_neg c339]; done) | simp [c339])).le (by decide) (by decide)
set_option maxRecDepth 65536 in
set_option maxHeartbeats 40000000 in
theorem comes_1 {Post : Tables → Env → Array Value → State → Outcome → State → Prop} (hpost : ∀ tb e args s v u, (limb_1_1.after args s (.returned v) u = true ∧ limb_1_2.after args s (.returned v) u = true ∧ True) → FrameEnd s (.returned v) u (Jvm.fieldLocs frame_1_writes args s ++ Jvm.arrayLocs frame_1_arrays args s ++ Jvm.staticLocs frame_1_statics s) 16 128 → Post tb e args s (.returned v) u) :
    ArmFor flags0 classFile x code maxLocals ret World_1 tables_1 room_1 Calls_1 rest_1 Pre_1 Post := by
  intro l hfl _ _ p e ha hc hk s m args below hf hA hF happ hP
  obtain ⟨hcalls, hrest, hpre⟩ := hP
  obtain ⟨-, -, -, hnamed, -, -, -, hat⟩ := (Spec.applies_iff hf).mp happ
  obtain ⟨hg, hn⟩ := and_e (Cond.before_iff.mp (show (Jvm.Cond.and given_1 narrow_1).before args s = true from hpre))
  obtain ⟨h1, g0⟩ := and_e hg
  obtain ⟨w0, w1, w2, w3, w4, w5, rfl⟩ : ∃ w0 w1 w2 w3 w4 w5 : Value, args = #[w0, w1, w2, w3, w4, w5] := by
    have hs : args.size = 6 := by simpa [Cond.value, given_1] using h1
    obtain ⟨L⟩ := args
    match L, hs with
    | [w0, w1, w2, w3, w4, w5], _ => exact ⟨w0, w1, w2, w3, w4, w5, rfl⟩
  have hw := fun d (hd : d ∈ tables_1) => atoms_spec (ws := Jvm.Cond.code x code maxLocals ret :: tables_1) hat d (List.mem_cons_of_mem _ hd)
  obtain ⟨b0, g1⟩ := and_e g0
  obtain ⟨i0, ei0⟩ := is_v b0
  obtain rfl : w0 = (.int i0) := Option.some.inj ei0
  obtain ⟨b1, g2⟩ := and_e g1
  obtain ⟨i1, ei1⟩ := is_v b1
  obtain rfl : w1 = (.int i1) := Option.some.inj ei1
  obtain ⟨b2, g3⟩ := and_e g2
  obtain ⟨i2, ei2⟩ := is_v b2
  obtain rfl : w2 = (.int i2) := Option.some.inj ei2
  obtain ⟨b3, g4⟩ := and_e g3
  obtain ⟨i3, ei3⟩ := is_v b3
  obtain rfl : w3 = (.int i3) := Option.some.inj ei3
  obtain ⟨b4, g5⟩ := and_e g4
  obtain ⟨i4, ei4⟩ := is_v b4
  obtain rfl : w4 = (.int i4) := Option.some.inj ei4
  have b5 := g5
  obtain ⟨i5, ei5⟩ := is_v b5
  obtain rfl : w5 = (.int i5) := Option.some.inj ei5
  have G := law0 (l := l) hw s.heap (Nat.le_refl _) i0 i1 i2 i3 i4 i5
  obtain ⟨n, o, h1, h2, h3, _, L, rfl, ⟨⟨z, rfl, rfl⟩, N⟩, hq⟩ := Go.met (as' := #[.int i0, .int i1, .int i2, .int i3, .int i4, .int i5]) (plainFor_of_name pnx) (fun m => ef_law0 m i0 i1 i2 i3 i4 i5) G tables_1 p e ha hc hk s m _ below hf ((Spec.applies_iff_loose hf).mp happ).1 ⟨rfl, State.Warmed39.refl s, rfl⟩ trivial
  refine ⟨n, _, h1, h2, h3, hpost _ _ _ _ _ _ ⟨Cond.after_iff.mpr rfl, Cond.after_iff.mpr (eq_i res_at (Term.int_eval (1)) rfl), trivial⟩ ⟨hq.1, hq.2.1, (hq.2.2.sift fun y hy => Or.inr (N y hy)).mono (by decide) (by decide)⟩⟩
theorem main_1_1 : Claimed_1_1 := comes_1 fun _ _ _ _ _ _ h hF => ⟨h.1, hF⟩
theorem main_1_2 : Claimed_1_2 := comes_1 fun _ _ _ _ _ _ h hF => ⟨h.2.1, hF⟩
end Jvm.Pilot.@@N@@
namespace Jvm.Pilot.@@N@@
open Jvm Jvm.ClassFile Sem Op Lib Jvm.Free Jvm.Stand Jvm.Pilot.@@N@@.Jvm.D
/-! MADE BY PROGRAM (witnessworld.py) out of the Statement's table words and the real class files: 12 classes; the members and pool entries that the words name. The judged class is class 1, her method 1. -/
namespace start1
open Jvm.ClassFile
def u (s : String) : CpInfo := .utf8 (stringToUtf16 s)
/-- a pool by its gaps: so many unusable entries, then the entry; so many at the end -/
def gap : Nat → List CpInfo → List CpInfo
  | 0, r => r
  | n + 1, r => .unusable :: gap n r
def poolList (es : List (Nat × CpInfo)) (last : Nat) : List CpInfo := es.foldr (fun e r => gap e.1 (e.2 :: r)) (gap last [])
def pool (es : List (Nat × CpInfo)) (last : Nat) : Array CpInfo := ⟨poolList es last⟩
def fileOf (pool : Array CpInfo) (this : Nat) (attrs : Array Attribute := #[]) (ms : Array MethodInfo := #[]) (fl : Nat := 33) (sup : Nat := 0) (ifs : Array Nat := #[]) (fds : Array FieldInfo := #[]) : ClassFile where
  minorVersion := 0
  majorVersion := 65
  constantPool := pool
  accessFlags := fl
  thisClass := this
  superClass := sup
  interfaces := ifs
  fields := fds
  methods := ms
  attributes := attrs
def plain (name : String) (sup : Option ClassId) : Class where
  name := name
  kind := .ordinary
  loader := none
  accessFlags := 33
  super := sup
  interfaces := #[]
  cf := none
  fields := #[]
  methods := #[]
  instanceTypes := #[]
  staticTypes := #[]
  resolved := #[]
  callSites := []
  init := .initialized
  statics := none
  mirror := none

def pool0 : Array CpInfo := pool [(5, u "<init>"), (0, u "()V"), (1, .class_ 10), (1, u "java/lang/Object")] 113

def k0c0 : Code := { maxStack := 0, maxLocals := 1, code := object_method_1_code, exceptionTable := #[], attributes := #[] }
def k0m0 : Method := { name := "<init>", desc := "()V", sig := { parameters := [], returnType := none }, accessFlags := 1, code := some k0c0 }
/-- java/lang/Object -/
def k0 : Class := { plain "java/lang/Object" none with
  accessFlags := 33
  interfaces := #[]
  cf := some (fileOf pool0 8 #[] #[{ accessFlags := 1, nameIndex := 5, descriptorIndex := 6, attributes := #[] }] 33 0 #[] #[])
  fields := #[]
  methods := #[k0m0]
  instanceTypes := #[]
  staticTypes := #[]
  resolved := Array.replicate 124 none
  statics := none }

def pool1 : Array CpInfo := pool [(2, .class_ 4), (1, u "java/lang/Object"), (0, u "<init>"), (0, u "()V"), (0, .class_ 8), (0, u "com/example/latchwork/latchwork/engine/IntList"), (0, .methodref 7 10), (0, .nameAndType 5 11), (0, u "(I)V"), (0, .methodref 7 13), (0, .nameAndType 14 11), (0, u "add"), (0, .methodref 7 16), (0, .nameAndType 17 18), (0, u "pop"), (0, u "()I"), (0, .methodref 7 20), (0, .nameAndType 21 22), (0, u "indexOf"), (0, u "(I)I"), (0, .class_ 24), (0, u "com/example/latchwork/latchwork/engine/IntListIndexOfPinLaw"), (2, u "law"), (0, u "(IIIIII)Z")] 3

def k1m0 : Method := { name := "<init>", desc := "()V", sig := { parameters := [], returnType := none }, accessFlags := 2, code := none }
def k1c1 : Code := { maxStack := 4, maxLocals := 13, code := code, exceptionTable := #[], attributes := #[] }
def k1m1 : Method := { name := "law", desc := "(IIIIII)Z", sig := { parameters := [.int, .int, .int, .int, .int, .int], returnType := some .boolean }, accessFlags := 9, code := some k1c1 }
/-- com/example/latchwork/latchwork/engine/IntListIndexOfPinLaw -/
def k1 : Class := { plain "com/example/latchwork/latchwork/engine/IntListIndexOfPinLaw" (some 0) with
  accessFlags := 49
  interfaces := #[]
  cf := some (fileOf pool1 23 #[] #[{ accessFlags := 2, nameIndex := 5, descriptorIndex := 6, attributes := #[] }, { accessFlags := 9, nameIndex := 27, descriptorIndex := 28, attributes := #[] }] 49 2 #[] #[])
  fields := #[]
  methods := #[k1m0, k1m1]
  instanceTypes := #[]
  staticTypes := #[]
  resolved := Array.replicate 32 none
  statics := none }

def pool2 : Array CpInfo := pool [(2, .class_ 4), (1, u "com/example/latchwork/latchwork/engine/IntList"), (0, u "<init>"), (0, u "(I)V"), (0, .methodref 8 9), (0, .class_ 10), (0, .nameAndType 5 11), (0, u "java/lang/Object"), (0, u "()V"), (0, .methodref 13 14), (0, .class_ 15), (0, .nameAndType 16 17), (0, u "java/lang/Math"), (0, u "max"), (0, u "(II)I"), (0, .fieldref 2 19), (0, .nameAndType 20 21), (0, u "elements"), (0, u "[I"), (0, .fieldref 2 23), (0, .nameAndType 24 25), (0, u "size"), (0, u "I"), (0, .methodref 13 27), (0, .nameAndType 28 17), (0, u "addExact"), (0, .methodref 30 31), (0, .class_ 32), (0, .nameAndType 33 34), (0, u "java/util/Arrays"), (0, u "copyOf"), (0, u "([II)[I"), (2, u "add"), (8, u "()I"), (4, u "(I)I"), (5, u "pop"), (2, u "indexOf")] 5

def k2m0 : Method := { name := "<init>", desc := "()V", sig := { parameters := [], returnType := none }, accessFlags := 0, code := none }
def k2c1 : Code := { maxStack := 3, maxLocals := 2, code := prog_19_method_2_code, exceptionTable := #[], attributes := #[] }
def k2m1 : Method := { name := "<init>", desc := "(I)V", sig := { parameters := [.int], returnType := none }, accessFlags := 0, code := some k2c1 }
def k2c2 : Code := { maxStack := 5, maxLocals := 2, code := prog_19_method_7_code, exceptionTable := #[], attributes := #[] }
def k2m2 : Method := { name := "add", desc := "(I)V", sig := { parameters := [.int], returnType := none }, accessFlags := 0, code := some k2c2 }
def k2c3 : Code := { maxStack := 4, maxLocals := 1, code := prog_19_method_9_code, exceptionTable := #[], attributes := #[] }
def k2m3 : Method := { name := "pop", desc := "()I", sig := { parameters := [], returnType := some .int }, accessFlags := 0, code := some k2c3 }
def k2c4 : Code := { maxStack := 2, maxLocals := 3, code := prog_19_method_12_code, exceptionTable := #[], attributes := #[] }
def k2m4 : Method := { name := "indexOf", desc := "(I)I", sig := { parameters := [.int], returnType := some .int }, accessFlags := 0, code := some k2c4 }
/-- com/example/latchwork/latchwork/engine/IntList -/
def k2 : Class := { plain "com/example/latchwork/latchwork/engine/IntList" (some 0) with
  accessFlags := 48
  interfaces := #[]
  cf := some (fileOf pool2 2 #[] #[{ accessFlags := 0, nameIndex := 5, descriptorIndex := 11, attributes := #[] }, { accessFlags := 0, nameIndex := 5, descriptorIndex := 6, attributes := #[] }, { accessFlags := 0, nameIndex := 37, descriptorIndex := 6, attributes := #[] }, { accessFlags := 0, nameIndex := 57, descriptorIndex := 46, attributes := #[] }, { accessFlags := 0, nameIndex := 60, descriptorIndex := 51, attributes := #[] }] 48 8 #[] #[{ accessFlags := 2, nameIndex := 20, descriptorIndex := 21, attributes := #[] }, { accessFlags := 2, nameIndex := 24, descriptorIndex := 25, attributes := #[] }])
  fields := #[{ name := "elements", type := (.array .int), accessFlags := 2, slot := 0, constantValue := 0 }, { name := "size", type := .int, accessFlags := 2, slot := 1, constantValue := 0 }]
  methods := #[k2m0, k2m1, k2m2, k2m3, k2m4]
  instanceTypes := #[(.array .int), .int]
  staticTypes := #[]
  resolved := Array.replicate 66 none
  statics := none }

def pool3 : Array CpInfo := pool [(1, .class_ 2), (0, u "java/lang/Math"), (1, .class_ 6), (1, u "java/lang/Object"), (0, u "<init>"), (0, u "()V"), (89, .class_ 100), (1, u "java/lang/Math$RandomNumberGeneratorHolder"), (71, u "negativeZeroFloatBits"), (0, u "J"), (2, u "negativeZeroDoubleBits"), (21, u "max"), (2, u "min"), (43, u "$assertionsDisabled"), (0, u "Z"), (88, u "(II)I"), (2, u "twoToTheDoubleScaleDown"), (0, u "D"), (4, u "twoToTheDoubleScaleUp"), (9, u "E"), (3, u "PI"), (2, u "TAU"), (2, u "DEGREES_TO_RADIANS"), (0, u "RADIANS_TO_DEGREES"), (27, u "addExact")] 66

def k3m0 : Method := { name := "<init>", desc := "()V", sig := { parameters := [], returnType := none }, accessFlags := 2, code := none }
def k3c1 : Code := { maxStack := 3, maxLocals := 3, code := jdk_29_method_24_code, exceptionTable := #[], attributes := #[] }
def k3m1 : Method := { name := "addExact", desc := "(II)I", sig := { parameters := [.int, .int], returnType := some .int }, accessFlags := 9, code := some k3c1 }
def k3c2 : Code := { maxStack := 2, maxLocals := 2, code := jdk_29_method_65_code, exceptionTable := #[], attributes := #[] }
def k3m2 : Method := { name := "max", desc := "(II)I", sig := { parameters := [.int, .int], returnType := some .int }, accessFlags := 9, code := some k3c2 }
def k3c3 : Code := { maxStack := 2, maxLocals := 2, code := jdk_29_method_69_code, exceptionTable := #[], attributes := #[] }
def k3m3 : Method := { name := "min", desc := "(II)I", sig := { parameters := [.int, .int], returnType := some .int }, accessFlags := 9, code := some k3c3 }
/-- java/lang/Math -/
def k3 : Class := { plain "java/lang/Math" (some 0) with
  accessFlags := 49
  interfaces := #[]
  cf := some (fileOf pool3 1 #[.nestMembers #[98]] #[{ accessFlags := 2, nameIndex := 7, descriptorIndex := 8, attributes := #[] }, { accessFlags := 9, nameIndex := 393, descriptorIndex := 335, attributes := #[] }, { accessFlags := 9, nameIndex := 198, descriptorIndex := 335, attributes := #[] }, { accessFlags := 9, nameIndex := 201, descriptorIndex := 335, attributes := #[] }] 49 4 #[] #[{ accessFlags := 25, nameIndex := 354, descriptorIndex := 339, attributes := #[] }, { accessFlags := 25, nameIndex := 358, descriptorIndex := 339, attributes := #[] }, { accessFlags := 25, nameIndex := 361, descriptorIndex := 339, attributes := #[] }, { accessFlags := 26, nameIndex := 364, descriptorIndex := 339, attributes := #[] }, { accessFlags := 26, nameIndex := 365, descriptorIndex := 339, attributes := #[] }, { accessFlags := 26, nameIndex := 172, descriptorIndex := 173, attributes := #[] }, { accessFlags := 26, nameIndex := 176, descriptorIndex := 173, attributes := #[] }, { accessFlags := 8, nameIndex := 344, descriptorIndex := 339, attributes := #[] }, { accessFlags := 8, nameIndex := 338, descriptorIndex := 339, attributes := #[] }, { accessFlags := 4120, nameIndex := 245, descriptorIndex := 246, attributes := #[] }])
  fields := #[{ name := "E", type := .double, accessFlags := 25, slot := 0, constantValue := 0 }, { name := "PI", type := .double, accessFlags := 25, slot := 1, constantValue := 0 }, { name := "TAU", type := .double, accessFlags := 25, slot := 2, constantValue := 0 }, { name := "DEGREES_TO_RADIANS", type := .double, accessFlags := 26, slot := 3, constantValue := 0 }, { name := "RADIANS_TO_DEGREES", type := .double, accessFlags := 26, slot := 4, constantValue := 0 }, { name := "negativeZeroFloatBits", type := .long, accessFlags := 26, slot := 5, constantValue := 0 }, { name := "negativeZeroDoubleBits", type := .long, accessFlags := 26, slot := 6, constantValue := 0 }, { name := "twoToTheDoubleScaleUp", type := .double, accessFlags := 8, slot := 7, constantValue := 0 }, { name := "twoToTheDoubleScaleDown", type := .double, accessFlags := 8, slot := 8, constantValue := 0 }, { name := "$assertionsDisabled", type := .boolean, accessFlags := 4120, slot := 9, constantValue := 0 }]
  methods := #[k3m0, k3m1, k3m2, k3m3]
  instanceTypes := #[]
  staticTypes := #[.double, .double, .double, .double, .double, .long, .long, .double, .double, .boolean]
  resolved := Array.replicate 460 none
  statics := none }

def pool4 : Array CpInfo := pool [(2, .class_ 4), (1, u "java/lang/Object"), (0, u "<init>"), (0, u "()V"), (7, .class_ 16), (1, u "java/util/Arrays"), (57, .class_ 76), (1, u "java/util/Arrays$NaturalOrder"), (36, .class_ 115), (1, u "java/util/Arrays$LegacyMergeSort"), (1, u "Z"), (32, .methodref 151 152), (0, .class_ 153), (0, .nameAndType 154 155), (0, u "java/lang/System"), (0, u "arraycopy"), (0, u "(Ljava/lang/Object;ILjava/lang/Object;II)V"), (146, u "copyOf"), (1, .methodref 305 306), (0, .class_ 307), (0, .nameAndType 308 309), (0, u "java/lang/Math"), (0, u "min"), (0, u "(II)I"), (65, .class_ 376), (0, u "java/util/Arrays$ArrayList"), (68, u "$assertionsDisabled"), (269, u "MIN_ARRAY_SORT_GRAN"), (0, u "I"), (2, u "INSERTIONSORT_THRESHOLD"), (151, u "([II)[I"), (103, .class_ 976), (0, u "java/util/Arrays$ArrayItr")] 52

def k4m0 : Method := { name := "<init>", desc := "()V", sig := { parameters := [], returnType := none }, accessFlags := 2, code := none }
def k4c1 : Code := { maxStack := 6, maxLocals := 3, code := jdk_65_method_123_code, exceptionTable := #[], attributes := #[] }
def k4m1 : Method := { name := "copyOf", desc := "([II)[I", sig := { parameters := [(.array .int), .int], returnType := some (.array .int) }, accessFlags := 9, code := some k4c1 }
/-- java/util/Arrays -/
def k4 : Class := { plain "java/util/Arrays" (some 0) with
  accessFlags := 49
  interfaces := #[]
  cf := some (fileOf pool4 14 #[.nestMembers #[975, 375, 113, 74]] #[{ accessFlags := 2, nameIndex := 5, descriptorIndex := 6, attributes := #[] }, { accessFlags := 9, nameIndex := 302, descriptorIndex := 871, attributes := #[] }] 49 2 #[] #[{ accessFlags := 26, nameIndex := 715, descriptorIndex := 716, attributes := #[] }, { accessFlags := 26, nameIndex := 719, descriptorIndex := 716, attributes := #[] }, { accessFlags := 4120, nameIndex := 445, descriptorIndex := 117, attributes := #[] }])
  fields := #[{ name := "MIN_ARRAY_SORT_GRAN", type := .int, accessFlags := 26, slot := 0, constantValue := 0 }, { name := "INSERTIONSORT_THRESHOLD", type := .int, accessFlags := 26, slot := 1, constantValue := 0 }, { name := "$assertionsDisabled", type := .boolean, accessFlags := 4120, slot := 2, constantValue := 0 }]
  methods := #[k4m0, k4m1]
  instanceTypes := #[]
  staticTypes := #[.int, .int, .boolean]
  resolved := Array.replicate 1029 none
  statics := none }

def pool5 : Array CpInfo := pool [(2, .class_ 4), (1, u "java/lang/Object"), (0, u "<init>"), (0, u "()V"), (1, .class_ 10), (1, u "java/lang/System"), (0, u "allowSecurityManager"), (0, u "I"), (16, u "cons"), (0, u "Ljava/io/Console;"), (77, .class_ 110), (1, u "java/lang/System$CallersHolder"), (43, u "initialErrStream"), (0, u "Ljava/io/PrintStream;"), (19, u "security"), (0, u "Ljava/lang/SecurityManager;"), (31, .class_ 209), (0, u "java/lang/System$1"), (7, u "props"), (0, u "Ljava/util/Properties;"), (2, u "lineSeparator"), (0, u "Ljava/lang/String;"), (96, .class_ 321), (1, u "java/lang/System$LoggerFinder"), (5, .class_ 328), (0, u "java/lang/System$Logger"), (67, u "err"), (2, u "out"), (91, u "notSupportedJnuEncoding"), (15, u "in"), (17, u "initialIn"), (0, u "Ljava/io/InputStream;"), (35, u "bootLayer"), (0, u "Ljava/lang/ModuleLayer;"), (99, .class_ 664), (0, u "java/lang/System$2"), (9, u "NEVER"), (2, u "MAYBE"), (49, u "arraycopy"), (0, u "(Ljava/lang/Object;ILjava/lang/Object;II)V"), (72, .class_ 802), (0, u "java/lang/System$Logger$Level")] 31

def k5m0 : Method := { name := "<init>", desc := "()V", sig := { parameters := [], returnType := none }, accessFlags := 2, code := none }
def k5m1 : Method := { name := "arraycopy", desc := "(Ljava/lang/Object;ILjava/lang/Object;II)V", sig := { parameters := [(.object "java/lang/Object"), .int, (.object "java/lang/Object"), .int, .int], returnType := none }, accessFlags := 265, code := none }
/-- java/lang/System -/
def k5 : Class := { plain "java/lang/System" (some 0) with
  accessFlags := 49
  interfaces := #[]
  cf := some (fileOf pool5 8 #[.nestMembers #[319, 327, 801, 108, 663, 208]] #[{ accessFlags := 2, nameIndex := 5, descriptorIndex := 6, attributes := #[] }, { accessFlags := 265, nameIndex := 727, descriptorIndex := 728, attributes := #[] }] 49 2 #[] #[{ accessFlags := 25, nameIndex := 507, descriptorIndex := 526, attributes := #[] }, { accessFlags := 25, nameIndex := 399, descriptorIndex := 155, attributes := #[] }, { accessFlags := 25, nameIndex := 396, descriptorIndex := 155, attributes := #[] }, { accessFlags := 10, nameIndex := 525, descriptorIndex := 526, attributes := #[] }, { accessFlags := 26, nameIndex := 674, descriptorIndex := 12, attributes := #[] }, { accessFlags := 26, nameIndex := 677, descriptorIndex := 12, attributes := #[] }, { accessFlags := 10, nameIndex := 11, descriptorIndex := 12, attributes := #[] }, { accessFlags := 74, nameIndex := 175, descriptorIndex := 176, attributes := #[] }, { accessFlags := 10, nameIndex := 491, descriptorIndex := 222, attributes := #[] }, { accessFlags := 74, nameIndex := 29, descriptorIndex := 30, attributes := #[] }, { accessFlags := 74, nameIndex := 154, descriptorIndex := 155, attributes := #[] }, { accessFlags := 10, nameIndex := 217, descriptorIndex := 218, attributes := #[] }, { accessFlags := 10, nameIndex := 221, descriptorIndex := 222, attributes := #[] }, { accessFlags := 8, nameIndex := 562, descriptorIndex := 563, attributes := #[] }])
  fields := #[{ name := "in", type := (.object "java/io/InputStream"), accessFlags := 25, slot := 0, constantValue := 0 }, { name := "out", type := (.object "java/io/PrintStream"), accessFlags := 25, slot := 1, constantValue := 0 }, { name := "err", type := (.object "java/io/PrintStream"), accessFlags := 25, slot := 2, constantValue := 0 }, { name := "initialIn", type := (.object "java/io/InputStream"), accessFlags := 10, slot := 3, constantValue := 0 }, { name := "NEVER", type := .int, accessFlags := 26, slot := 4, constantValue := 0 }, { name := "MAYBE", type := .int, accessFlags := 26, slot := 5, constantValue := 0 }, { name := "allowSecurityManager", type := .int, accessFlags := 10, slot := 6, constantValue := 0 }, { name := "security", type := (.object "java/lang/SecurityManager"), accessFlags := 74, slot := 7, constantValue := 0 }, { name := "notSupportedJnuEncoding", type := (.object "java/lang/String"), accessFlags := 10, slot := 8, constantValue := 0 }, { name := "cons", type := (.object "java/io/Console"), accessFlags := 74, slot := 9, constantValue := 0 }, { name := "initialErrStream", type := (.object "java/io/PrintStream"), accessFlags := 74, slot := 10, constantValue := 0 }, { name := "props", type := (.object "java/util/Properties"), accessFlags := 10, slot := 11, constantValue := 0 }, { name := "lineSeparator", type := (.object "java/lang/String"), accessFlags := 10, slot := 12, constantValue := 0 }, { name := "bootLayer", type := (.object "java/lang/ModuleLayer"), accessFlags := 8, slot := 13, constantValue := 0 }]
  methods := #[k5m0, k5m1]
  instanceTypes := #[]
  staticTypes := #[(.object "java/io/InputStream"), (.object "java/io/PrintStream"), (.object "java/io/PrintStream"), (.object "java/io/InputStream"), .int, .int, .int, (.object "java/lang/SecurityManager"), (.object "java/lang/String"), (.object "java/io/Console"), (.object "java/io/PrintStream"), (.object "java/util/Properties"), (.object "java/lang/String"), (.object "java/lang/ModuleLayer")]
  resolved := Array.replicate 834 none
  statics := none }

def pool6 : Array CpInfo := pool [(1, u "java/lang/Cloneable"), (0, .class_ 1), (0, u "java/lang/Object"), (0, .class_ 3)] 3

/-- java/lang/Cloneable -/
def k6 : Class := { plain "java/lang/Cloneable" (some 0) with
  accessFlags := 1537
  interfaces := #[]
  cf := some (fileOf pool6 2 #[] #[] 1537 4 #[] #[])
  fields := #[]
  methods := #[]
  instanceTypes := #[]
  staticTypes := #[]
  resolved := Array.replicate 8 none
  statics := none }

def pool7 : Array CpInfo := pool [(1, u "java/io/Serializable"), (0, .class_ 1), (0, u "java/lang/Object"), (0, .class_ 3)] 3

/-- java/io/Serializable -/
def k7 : Class := { plain "java/io/Serializable" (some 0) with
  accessFlags := 1537
  interfaces := #[]
  cf := some (fileOf pool7 2 #[] #[] 1537 4 #[] #[])
  fields := #[]
  methods := #[]
  instanceTypes := #[]
  staticTypes := #[]
  resolved := Array.replicate 8 none
  statics := none }

/-- the primitive byte -/
def k8 : Class := { plain "byte" none with kind := .primitive 'B', accessFlags := 0x411 }
/-- [B -/
def k9 : Class := { plain "[B" (some 0) with kind := .array 8 .byte, interfaces := #[6, 7], accessFlags := 1041 }

/-- the primitive int -/
def k10 : Class := { plain "int" none with kind := .primitive 'I', accessFlags := 0x411 }
/-- [I -/
def k11 : Class := { plain "[I" (some 0) with kind := .array 10 .int, interfaces := #[6, 7], accessFlags := 1041 }

def heap : Heap := #[]
def classes : Array Class := #[k0, k1, k2, k3, k4, k5, k6, k7, k8, k9, k10, k11]
def interned : List (Array UInt16 × Addr) := []
def slotsUsed : Nat := 0
def theMethod : MethodId := ⟨1, 1⟩
def args0 : Array Value := #[.int 5, .int 6, .int 7, .int 3, .int 3, .int 3]
def aboutOver (below : List Frame) : State where
  vm := { classes := classes, interned := interned.toArray }
  heap := heap
  slotsUsed := slotsUsed
  threads := #[{ frames := .invoking theMethod args0 :: below }]
def below0 : List Frame := [.native { method := ⟨0, 0⟩, args := #[] }]
def about1 : State := aboutOver below0
def p0 : Program := .bare "" "" ""
def e0 : Env := launch0.env 0 0 0
theorem w_frames : about1.frames = Frame.invoking theMethod args0 :: below0 := rfl
set_option maxRecDepth 65536 in
theorem w_args : argsFit about1.vm theMethod args0 = true := by decide +kernel
set_option maxRecDepth 65536 in
theorem w_heap : heapFits about1 = true := by decide +kernel
set_option maxRecDepth 65536 in
theorem w_runnable : about1.curStatus? = some .runnable := by decide +kernel
set_option maxRecDepth 65536 in
theorem w_alone : about1.alone = true := by decide +kernel
set_option maxRecDepth 65536 in
theorem w_named : about1.methodNamed? x = some theMethod := by decide +kernel
set_option maxRecDepth 65536 in
theorem w_hears : about1.hears theMethod below0 = true := by decide +kernel
set_option maxRecDepth 65536 in
theorem w_ripe : about1.ripe theMethod args0 below0 = true := by decide +kernel
theorem w_running : about1.status = .running := rfl
set_option maxRecDepth 65536 in
theorem w_room : about1.hasRoom e0.platform room_1 = true :=
  launch0.hasRoom_least _ room_1 (by decide +kernel) (by decide +kernel) (by decide +kernel) (by decide +kernel) (by decide +kernel) (by decide +kernel)
theorem allAtoms_all (ts : List Jvm.Cond) (a : Array Jvm.Value) (st : Jvm.State) : (allAtoms ts).before a st = ts.all (fun c => c.before a st) := by
  induction ts with
  | nil => rfl
  | cons c t ih =>
    show (Jvm.Cond.and c (allAtoms t)).before a st = _
    rw [Jvm.Cond.before_and, ih, List.all_cons]
def words1 : List Jvm.Cond := Jvm.Cond.code x code maxLocals ret :: tables_1
/-- a 'code' word, met by the world's own term for the bytes: nothing is compared byte by byte -/
theorem code_word {y : MethodName} {bytes : ByteArray} {mx : Nat} {rt : Option FieldType} {a : Array Value} {s : State} {m : MethodId} {meth : Method} {c : Code} (h1 : s.methodNamed? y = some m) (h2 : s.vm.method? m = some meth) (h3 : meth.code = some c) (h4 : c.code = bytes)
    (h5 : (c.maxLocals == mx && c.exceptionTable.isEmpty && decide (c.maxStack ≤ mostOperands) && decide (meth.sig.returnType = rt) && !meth.locks && decide (parseMethodDescriptor y.desc = some meth.sig)) = true) : (Jvm.Cond.code y bytes mx rt).before a s = true := by
  simp only [Bool.and_eq_true, beq_iff_eq, Bool.not_eq_true', decide_eq_true_eq] at h5
  obtain ⟨⟨⟨⟨⟨g1, g2⟩, g3⟩, g4⟩, g5⟩, g6⟩ := h5
  simp [Cond.before, Cond.holds, Cond.value, h1, h2, h3, h4, g1, g2, g3, g4, g5, g6]
def isCode : Jvm.Cond → Bool
  | .code _ _ _ _ => true
  | _ => false
theorem all_split {L : List Jvm.Cond} {P : Jvm.Cond → Bool} (h1 : L.all (fun c => isCode c || P c) = true) (h2 : ∀ c ∈ L.filter isCode, P c = true) : L.all P = true := by
  refine List.all_eq_true.mpr fun c hc => ?_
  have h := List.all_eq_true.mp h1 c hc
  rcases Bool.eq_false_or_eq_true (isCode c) with hi | hi
  · exact h2 c (List.mem_filter.mpr ⟨hc, hi⟩)
  · simpa [hi] using h
set_option maxRecDepth 65536 in
theorem w_c0 : (Jvm.Cond.code x code maxLocals ret).before args0 about1 = true := code_word (m := ⟨1, 1⟩) (meth := k1m1) (c := k1c1) (by decide +kernel) rfl rfl rfl (by decide +kernel)
set_option maxRecDepth 65536 in
theorem w_c1 : (Jvm.Cond.code ({ cls := "com/example/latchwork/latchwork/engine/IntList", name := "<init>", desc := "(I)V" } : Jvm.MethodName) prog_19_method_2_code (2 : Nat) (Option.none : Option Jvm.ClassFile.FieldType)).before args0 about1 = true := code_word (m := ⟨2, 1⟩) (meth := k2m1) (c := k2c1) (by decide +kernel) rfl rfl rfl (by decide +kernel)
set_option maxRecDepth 65536 in
theorem w_c2 : (Jvm.Cond.code ({ cls := "java/lang/Object", name := "<init>", desc := "()V" } : Jvm.MethodName) object_method_1_code (1 : Nat) (Option.none : Option Jvm.ClassFile.FieldType)).before args0 about1 = true := code_word (m := ⟨0, 0⟩) (meth := k0m0) (c := k0c0) (by decide +kernel) rfl rfl rfl (by decide +kernel)
set_option maxRecDepth 65536 in
theorem w_c3 : (Jvm.Cond.code ({ cls := "java/lang/Math", name := "max", desc := "(II)I" } : Jvm.MethodName) jdk_29_method_65_code (2 : Nat) (Option.some Jvm.ClassFile.FieldType.int)).before args0 about1 = true := code_word (m := ⟨3, 2⟩) (meth := k3m2) (c := k3c2) (by decide +kernel) rfl rfl rfl (by decide +kernel)
set_option maxRecDepth 65536 in
theorem w_c4 : (Jvm.Cond.code ({ cls := "com/example/latchwork/latchwork/engine/IntList", name := "add", desc := "(I)V" } : Jvm.MethodName) prog_19_method_7_code (2 : Nat) (Option.none : Option Jvm.ClassFile.FieldType)).before args0 about1 = true := code_word (m := ⟨2, 2⟩) (meth := k2m2) (c := k2c2) (by decide +kernel) rfl rfl rfl (by decide +kernel)
set_option maxRecDepth 65536 in
theorem w_c5 : (Jvm.Cond.code ({ cls := "java/lang/Math", name := "addExact", desc := "(II)I" } : Jvm.MethodName) jdk_29_method_24_code (3 : Nat) (Option.some Jvm.ClassFile.FieldType.int)).before args0 about1 = true := code_word (m := ⟨3, 1⟩) (meth := k3m1) (c := k3c1) (by decide +kernel) rfl rfl rfl (by decide +kernel)
set_option maxRecDepth 65536 in
theorem w_c6 : (Jvm.Cond.code ({ cls := "java/util/Arrays", name := "copyOf", desc := "([II)[I" } : Jvm.MethodName) jdk_65_method_123_code (3 : Nat) (Option.some (Jvm.ClassFile.FieldType.array Jvm.ClassFile.FieldType.int))).before args0 about1 = true := code_word (m := ⟨4, 1⟩) (meth := k4m1) (c := k4c1) (by decide +kernel) rfl rfl rfl (by decide +kernel)
set_option maxRecDepth 65536 in
theorem w_c7 : (Jvm.Cond.code ({ cls := "java/lang/Math", name := "min", desc := "(II)I" } : Jvm.MethodName) jdk_29_method_69_code (2 : Nat) (Option.some Jvm.ClassFile.FieldType.int)).before args0 about1 = true := code_word (m := ⟨3, 3⟩) (meth := k3m3) (c := k3c3) (by decide +kernel) rfl rfl rfl (by decide +kernel)
set_option maxRecDepth 65536 in
theorem w_c8 : (Jvm.Cond.code ({ cls := "com/example/latchwork/latchwork/engine/IntList", name := "indexOf", desc := "(I)I" } : Jvm.MethodName) prog_19_method_12_code (3 : Nat) (Option.some Jvm.ClassFile.FieldType.int)).before args0 about1 = true := code_word (m := ⟨2, 4⟩) (meth := k2m4) (c := k2c4) (by decide +kernel) rfl rfl rfl (by decide +kernel)
set_option maxRecDepth 65536 in
theorem w_c9 : (Jvm.Cond.code ({ cls := "com/example/latchwork/latchwork/engine/IntList", name := "pop", desc := "()I" } : Jvm.MethodName) prog_19_method_9_code (1 : Nat) (Option.some Jvm.ClassFile.FieldType.int)).before args0 about1 = true := code_word (m := ⟨2, 3⟩) (meth := k2m3) (c := k2c3) (by decide +kernel) rfl rfl rfl (by decide +kernel)
def codes1 : List Jvm.Cond := [Jvm.Cond.code x code maxLocals ret, Jvm.Cond.code ({ cls := "com/example/latchwork/latchwork/engine/IntList", name := "<init>", desc := "(I)V" } : Jvm.MethodName) prog_19_method_2_code (2 : Nat) (Option.none : Option Jvm.ClassFile.FieldType), Jvm.Cond.code ({ cls := "java/lang/Object", name := "<init>", desc := "()V" } : Jvm.MethodName) object_method_1_code (1 : Nat) (Option.none : Option Jvm.ClassFile.FieldType), Jvm.Cond.code ({ cls := "java/lang/Math", name := "max", desc := "(II)I" } : Jvm.MethodName) jdk_29_method_65_code (2 : Nat) (Option.some Jvm.ClassFile.FieldType.int), Jvm.Cond.code ({ cls := "com/example/latchwork/latchwork/engine/IntList", name := "add", desc := "(I)V" } : Jvm.MethodName) prog_19_method_7_code (2 : Nat) (Option.none : Option Jvm.ClassFile.FieldType), Jvm.Cond.code ({ cls := "java/lang/Math", name := "addExact", desc := "(II)I" } : Jvm.MethodName) jdk_29_method_24_code (3 : Nat) (Option.some Jvm.ClassFile.FieldType.int), Jvm.Cond.code ({ cls := "java/util/Arrays", name := "copyOf", desc := "([II)[I" } : Jvm.MethodName) jdk_65_method_123_code (3 : Nat) (Option.some (Jvm.ClassFile.FieldType.array Jvm.ClassFile.FieldType.int)), Jvm.Cond.code ({ cls := "java/lang/Math", name := "min", desc := "(II)I" } : Jvm.MethodName) jdk_29_method_69_code (2 : Nat) (Option.some Jvm.ClassFile.FieldType.int), Jvm.Cond.code ({ cls := "com/example/latchwork/latchwork/engine/IntList", name := "indexOf", desc := "(I)I" } : Jvm.MethodName) prog_19_method_12_code (3 : Nat) (Option.some Jvm.ClassFile.FieldType.int), Jvm.Cond.code ({ cls := "com/example/latchwork/latchwork/engine/IntList", name := "pop", desc := "()I" } : Jvm.MethodName) prog_19_method_9_code (1 : Nat) (Option.some Jvm.ClassFile.FieldType.int)]
set_option maxRecDepth 65536 in
theorem codes_eq : words1.filter isCode = codes1 := rfl
theorem w_codes : ∀ c ∈ words1.filter isCode, c.before args0 about1 = true := by
  rw [codes_eq]
  intro c hc
  simp only [codes1, List.mem_cons, List.not_mem_nil, or_false] at hc
  rcases hc with rfl | rfl | rfl | rfl | rfl | rfl | rfl | rfl | rfl | rfl
  · exact w_c0
  · exact w_c1
  · exact w_c2
  · exact w_c3
  · exact w_c4
  · exact w_c5
  · exact w_c6
  · exact w_c7
  · exact w_c8
  · exact w_c9
set_option maxRecDepth 65536 in
theorem w_t1 : (words1.take 24).all (fun c => isCode c || c.before args0 about1) = true := by decide +kernel
set_option maxRecDepth 65536 in
theorem w_t2 : (words1.drop 24).all (fun c => isCode c || c.before args0 about1) = true := by decide +kernel
theorem w_tables : (allAtoms (Jvm.Cond.code x code maxLocals ret :: tables_1)).before args0 about1 = true := by
  rw [allAtoms_all]
  show words1.all (fun c => c.before args0 about1) = true
  refine all_split ?_ w_codes
  rw [← List.take_append_drop 24 words1, List.all_append, w_t1, w_t2]
  rfl
set_option maxRecDepth 65536 in
theorem w_case : (Jvm.Cond.and given_1 narrow_1).before args0 about1 = true := by decide +kernel
theorem w_applies : (headSpec (Jvm.Cond.code x code maxLocals ret :: tables_1) room_1).applies x e0.platform about1 = true :=
  (Spec.applies_iff w_frames).mpr ⟨w_running, w_runnable, w_alone, w_named, w_hears, w_ripe, w_room, w_tables⟩
theorem atStart : AtStart classFile x code maxLocals ret World_1 tables_1 room_1 Calls_1 rest_1 Pre_1 launch0 p0 e0 about1 theMethod args0 below0 :=
  ⟨lists_1, trivial, launch0.admits_env _ _ _, launch0.least_env, fairChoices_fair.cas, fairChoices_fair.clock, w_frames, w_args, w_heap, w_applies, trivial, trivial, w_case⟩
end start1
theorem witness_1 : WitnessClaimed_1 := ⟨start1.p0, start1.e0, start1.about1, start1.theMethod, start1.args0, start1.below0, start1.atStart⟩
end Jvm.Pilot.@@N@@
