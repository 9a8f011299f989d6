import JvmDerived
import JvmDerived.Pilot.@@N@@Statement
import JvmDerived.Pilot.@@N@@Code
set_option linter.unusedVariables false
set_option linter.unusedSimpArgs false

namespace Jvm.OwnGo
open Sem ClassFile Op Lib Jvm.Stand Jvm.Free Jvm.LawKit Jvm.RoadKit
/-- what is known of a body while it is walked -/
def Cx (Z : State) (y : MethodName) (code : ByteArray) (ml : Nat) (ret : Option FieldType) (p : Program) (s : State) (m : MethodId) (meth : Method) (c : Code) : Prop :=
  p.tables.exec = Jvm.exec ∧ c.code = code ∧ Z.Warmed39 s.vm ∧ s.vm.findClass y.cls = some m.cls ∧ c.maxLocals = ml ∧ meth.sig.returnType = ret ∧ meth.locks = false ∧ meth.name = y.name
/-- from the frame (pc, Ls, st) over the heap h, with at most k cells and n slots made so far, the body of y returns with Q -/
def Go (l : Launch) (Z : State) (y : MethodName) (code : ByteArray) (ml : Nat) (ret : Option FieldType) (R : Room) (Q : Option Value → Heap → Prop) (k n : Nat) (h : Heap) (pc : Nat) (Ls : Array Slot) (st : List Value) : Prop :=
  ∀ (p : Program) (e : Env) (s : State) (m : MethodId) (args : Array Value) (below : List Frame) (meth : Method) (c : Code), Cx Z y code ml ret p s m meth c →
  ∀ (T : State) (L : List Loc) (k' n' : Nat), Stand p l e R s m args below meth c T L k' n' → k' ≤ k → n' ≤ n → Fr Z.heap.size L → T.heap = h →
  ∃ (v : Option Value) (T' : State) (L' : List Loc) (k'' n'' : Nat), Stand p l e R s m args below meth c T' L' k'' n'' ∧ k'' ≤ R.cells ∧ n'' ≤ R.slots ∧ Fr Z.heap.size L' ∧ Q v T'.heap ∧ (ret = none → v = none) ∧
    ∀ fs, (∀ (f : JFrame) (acts : List Action), f.method = m → f.locked = none → f.entered = [] → (doReturn e (T'.setTop f) acts v).1 = T'.setFrames fs) → Steps p.tables e below (T.setTop (mkF m pc Ls st)) (T'.setFrames fs)
/-- the shapes of an answer -/
def QI (P : Int32 → Heap → Prop) (v : Option Value) (h : Heap) : Prop := ∃ z : Int32, v = some (.int z) ∧ P z h
def QJ (P : Int64 → Heap → Prop) (v : Option Value) (h : Heap) : Prop := ∃ z : Int64, v = some (.long z) ∧ P z h
def QR (P : Value → Heap → Prop) (v : Option Value) (h : Heap) : Prop := ∃ z : Value, v = some z ∧ P z h
def QV (P : Heap → Prop) (v : Option Value) (h : Heap) : Prop := v = none ∧ P h
section Laws
variable {l : Launch} {Z : State} {y : MethodName} {code : ByteArray} {ml : Nat} {ret : Option FieldType} {R : Room} {Q : Option Value → Heap → Prop} {k n : Nat} {h : Heap} {pc : Nat} {Ls : Array Slot} {st : List Value} {a0 : Array Value}
theorem Go.pure {pc' : Nat} {Ls' : Array Slot} {st' : List Value} (g : Go l Z y code ml ret R Q k n h pc' Ls' st')
    (f : ∀ (p : Program) (e : Env) (s : State) (m : MethodId) (args : Array Value) (below : List Frame) (meth : Method) (c : Code), Cx Z y code ml ret p s m meth c → ∀ (T : State) (L : List Loc) (k' n' : Nat), Stand p l e R s m args below meth c T L k' n' → T.heap = h → ∀ target, Steps p.tables e below (T.setTop (mkF m pc' Ls' st')) target → Steps p.tables e below (T.setTop (mkF m pc Ls st)) target) :
    Go l Z y code ml ret R Q k n h pc Ls st := by
  intro p e s m args below meth c K T L k' n' X h1 h2 N hT
  obtain ⟨v, T', L', k'', n'', X', b1, b2, N', q, hv, stp⟩ := g p e s m args below meth c K T L k' n' X h1 h2 N hT
  exact ⟨v, T', L', k'', n'', X', b1, b2, N', q, hv, fun fs hl => f p e s m args below meth c K T L k' n' X hT _ (stp fs hl)⟩
/-- a step that moves the state: by a law that hands out the new Stand -/
theorem Go.move {pc' : Nat} {Ls' : Array Slot} {st' : List Value} {kk nn : Nat} {P : Heap → Prop} (g : ∀ h', P h' → Go l Z y code ml ret R Q kk nn h' pc' Ls' st')
    (f : ∀ (p : Program) (e : Env) (s : State) (m : MethodId) (args : Array Value) (below : List Frame) (meth : Method) (c : Code), Cx Z y code ml ret p s m meth c → ∀ (T : State) (L : List Loc) (k' n' : Nat), Stand p l e R s m args below meth c T L k' n' → k' ≤ k → n' ≤ n → Fr Z.heap.size L → T.heap = h →
      ∃ (T' : State) (L' : List Loc) (k'' n'' : Nat), Stand p l e R s m args below meth c T' L' k'' n'' ∧ k'' ≤ kk ∧ n'' ≤ nn ∧ Fr Z.heap.size L' ∧ P T'.heap ∧ ∀ target, Steps p.tables e below (T'.setTop (mkF m pc' Ls' st')) target → Steps p.tables e below (T.setTop (mkF m pc Ls st)) target) :
    Go l Z y code ml ret R Q k n h pc Ls st := by
  intro p e s m args below meth c K T L k' n' X h1 h2 N hT
  obtain ⟨T1, L1, k1, n1, X1, c1, c2, N1, p1, s1⟩ := f p e s m args below meth c K T L k' n' X h1 h2 N hT
  obtain ⟨v, T', L', k'', n'', X', b1, b2, N', q, hv, stp⟩ := g _ p1 p e s m args below meth c K T1 L1 k1 n1 X1 c1 c2 N1 rfl
  exact ⟨v, T', L', k'', n'', X', b1, b2, N', q, hv, fun fs hl => s1 _ (stp fs hl)⟩
theorem Go.le {k₀ n₀ : Nat} (g : Go l Z y code ml ret R Q k n h pc Ls st) (hk : k₀ ≤ k) (hn : n₀ ≤ n) : Go l Z y code ml ret R Q k₀ n₀ h pc Ls st :=
  fun p e s m args below meth c K T L k' n' X h1 h2 N hT => g p e s m args below meth c K T L k' n' X (Nat.le_trans h1 hk) (Nat.le_trans h2 hn) N hT
theorem Go.mono {Q' : Option Value → Heap → Prop} (g : Go l Z y code ml ret R Q k n h pc Ls st) (hq : ∀ v h', Q v h' → Q' v h') : Go l Z y code ml ret R Q' k n h pc Ls st := by
  intro p e s m args below meth c K T L k' n' X h1 h2 N hT
  obtain ⟨v, T', L', k'', n'', X', b1, b2, N', q, r⟩ := g p e s m args below meth c K T L k' n' X h1 h2 N hT
  exact ⟨v, T', L', k'', n'', X', b1, b2, N', hq _ _ q, r⟩
theorem Go.nameI {x : Int32} (g : ∀ v : Int32, v = x → Go l Z y code ml ret R Q k n h pc Ls (.int v :: st)) : Go l Z y code ml ret R Q k n h pc Ls (.int x :: st) := g x rfl
theorem Go.nameJ {x : Int64} (g : ∀ v : Int64, v = x → Go l Z y code ml ret R Q k n h pc Ls (.long v :: st)) : Go l Z y code ml ret R Q k n h pc Ls (.long x :: st) := g x rfl

theorem Go.iadd {x z : Int32} (q : Nat) (hd : decode code pc = .ok (.iadd, 1))  (hq : pc + 1 = q) (g : Go l Z y code ml ret R Q k n h q Ls (.int (x + z) :: st)) : Go l Z y code ml ret R Q k n h pc Ls (.int z :: .int x :: st) := by
  subst hq; exact g.pure fun p e s m args below meth c K T L k' n' X hT t r => XS.iadd X.here K.1 rfl (hb K.2.1 hd) rfl  r
theorem Go.isub {x z : Int32} (q : Nat) (hd : decode code pc = .ok (.isub, 1))  (hq : pc + 1 = q) (g : Go l Z y code ml ret R Q k n h q Ls (.int (x - z) :: st)) : Go l Z y code ml ret R Q k n h pc Ls (.int z :: .int x :: st) := by
  subst hq; exact g.pure fun p e s m args below meth c K T L k' n' X hT t r => XS.isub X.here K.1 rfl (hb K.2.1 hd) rfl  r
theorem Go.iand {x z : Int32} (q : Nat) (hd : decode code pc = .ok (.iand, 1))  (hq : pc + 1 = q) (g : Go l Z y code ml ret R Q k n h q Ls (.int (x &&& z) :: st)) : Go l Z y code ml ret R Q k n h pc Ls (.int z :: .int x :: st) := by
  subst hq; exact g.pure fun p e s m args below meth c K T L k' n' X hT t r => XS.iand X.here K.1 rfl (hb K.2.1 hd) rfl  r
theorem Go.imul {x z : Int32} (q : Nat) (hd : decode code pc = .ok (.imul, 1))  (hq : pc + 1 = q) (g : Go l Z y code ml ret R Q k n h q Ls (.int (x * z) :: st)) : Go l Z y code ml ret R Q k n h pc Ls (.int z :: .int x :: st) := by
  subst hq; exact g.pure fun p e s m args below meth c K T L k' n' X hT t r => XS.imul X.here K.1 rfl (hb K.2.1 hd) rfl  r
theorem Go.ixor {x z : Int32} (q : Nat) (hd : decode code pc = .ok (.ixor, 1))  (hq : pc + 1 = q) (g : Go l Z y code ml ret R Q k n h q Ls (.int (x ^^^ z) :: st)) : Go l Z y code ml ret R Q k n h pc Ls (.int z :: .int x :: st) := by
  subst hq; exact g.pure fun p e s m args below meth c K T L k' n' X hT t r => XT.ixor X.here K.1 rfl (hb K.2.1 hd) rfl  r
theorem Go.ior {x z : Int32} (q : Nat) (hd : decode code pc = .ok (.ior, 1))  (hq : pc + 1 = q) (g : Go l Z y code ml ret R Q k n h q Ls (.int (x ||| z) :: st)) : Go l Z y code ml ret R Q k n h pc Ls (.int z :: .int x :: st) := by
  subst hq; exact g.pure fun p e s m args below meth c K T L k' n' X hT t r => XT.ior X.here K.1 rfl (hb K.2.1 hd) rfl  r
theorem Go.ishl {x z : Int32} (q : Nat) (hd : decode code pc = .ok (.ishl, 1))  (hq : pc + 1 = q) (g : Go l Z y code ml ret R Q k n h q Ls (.int (x <<< (z &&& 31)) :: st)) : Go l Z y code ml ret R Q k n h pc Ls (.int z :: .int x :: st) := by
  subst hq; exact g.pure fun p e s m args below meth c K T L k' n' X hT t r => XT.ishl X.here K.1 rfl (hb K.2.1 hd) rfl  r
theorem Go.ishr {x z : Int32} (q : Nat) (hd : decode code pc = .ok (.ishr, 1))  (hq : pc + 1 = q) (g : Go l Z y code ml ret R Q k n h q Ls (.int (x >>> (z &&& 31)) :: st)) : Go l Z y code ml ret R Q k n h pc Ls (.int z :: .int x :: st) := by
  subst hq; exact g.pure fun p e s m args below meth c K T L k' n' X hT t r => XT.ishr X.here K.1 rfl (hb K.2.1 hd) rfl  r
theorem Go.iushr {x z : Int32} (q : Nat) (hd : decode code pc = .ok (.iushr, 1))  (hq : pc + 1 = q) (g : Go l Z y code ml ret R Q k n h q Ls (.int (XT.ushr x z) :: st)) : Go l Z y code ml ret R Q k n h pc Ls (.int z :: .int x :: st) := by
  subst hq; exact g.pure fun p e s m args below meth c K T L k' n' X hT t r => XT.iushr X.here K.1 rfl (hb K.2.1 hd) rfl  r
theorem Go.idiv {x z : Int32} (q : Nat) (hd : decode code pc = .ok (.idiv, 1)) (hz : z ≠ 0) (hq : pc + 1 = q) (g : Go l Z y code ml ret R Q k n h q Ls (.int (x / z) :: st)) : Go l Z y code ml ret R Q k n h pc Ls (.int z :: .int x :: st) := by
  subst hq; exact g.pure fun p e s m args below meth c K T L k' n' X hT t r => XS.idiv X.here K.1 rfl (hb K.2.1 hd) rfl hz r
theorem Go.irem {x z : Int32} (q : Nat) (hd : decode code pc = .ok (.irem, 1)) (hz : z ≠ 0) (hq : pc + 1 = q) (g : Go l Z y code ml ret R Q k n h q Ls (.int (x % z) :: st)) : Go l Z y code ml ret R Q k n h pc Ls (.int z :: .int x :: st) := by
  subst hq; exact g.pure fun p e s m args below meth c K T L k' n' X hT t r => iremM X K.1 rfl (hb K.2.1 hd) rfl hz r
theorem Go.ineg {x : Int32} (q : Nat) (hd : decode code pc = .ok (.ineg, 1))  (hq : pc + 1 = q) (g : Go l Z y code ml ret R Q k n h q Ls (.int (-x) :: st)) : Go l Z y code ml ret R Q k n h pc Ls (.int x :: st) := by
  subst hq; exact g.pure fun p e s m args below meth c K T L k' n' X hT t r => XS.ineg X.here K.1 rfl (hb K.2.1 hd) rfl  r
theorem Go.ladd {x z : Int64} (q : Nat) (hd : decode code pc = .ok (.ladd, 1))  (hq : pc + 1 = q) (g : Go l Z y code ml ret R Q k n h q Ls (.long (x + z) :: st)) : Go l Z y code ml ret R Q k n h pc Ls (.long z :: .long x :: st) := by
  subst hq; exact g.pure fun p e s m args below meth c K T L k' n' X hT t r => XT.ladd X.here K.1 rfl (hb K.2.1 hd) rfl  r
theorem Go.lsub {x z : Int64} (q : Nat) (hd : decode code pc = .ok (.lsub, 1))  (hq : pc + 1 = q) (g : Go l Z y code ml ret R Q k n h q Ls (.long (x - z) :: st)) : Go l Z y code ml ret R Q k n h pc Ls (.long z :: .long x :: st) := by
  subst hq; exact g.pure fun p e s m args below meth c K T L k' n' X hT t r => XT.lsub X.here K.1 rfl (hb K.2.1 hd) rfl  r
theorem Go.lmul {x z : Int64} (q : Nat) (hd : decode code pc = .ok (.lmul, 1))  (hq : pc + 1 = q) (g : Go l Z y code ml ret R Q k n h q Ls (.long (x * z) :: st)) : Go l Z y code ml ret R Q k n h pc Ls (.long z :: .long x :: st) := by
  subst hq; exact g.pure fun p e s m args below meth c K T L k' n' X hT t r => XT.lmul X.here K.1 rfl (hb K.2.1 hd) rfl  r
theorem Go.land {x z : Int64} (q : Nat) (hd : decode code pc = .ok (.land, 1))  (hq : pc + 1 = q) (g : Go l Z y code ml ret R Q k n h q Ls (.long (x &&& z) :: st)) : Go l Z y code ml ret R Q k n h pc Ls (.long z :: .long x :: st) := by
  subst hq; exact g.pure fun p e s m args below meth c K T L k' n' X hT t r => XT.land X.here K.1 rfl (hb K.2.1 hd) rfl  r
theorem Go.lor {x z : Int64} (q : Nat) (hd : decode code pc = .ok (.lor, 1))  (hq : pc + 1 = q) (g : Go l Z y code ml ret R Q k n h q Ls (.long (x ||| z) :: st)) : Go l Z y code ml ret R Q k n h pc Ls (.long z :: .long x :: st) := by
  subst hq; exact g.pure fun p e s m args below meth c K T L k' n' X hT t r => XT.lor X.here K.1 rfl (hb K.2.1 hd) rfl  r
theorem Go.lxor {x z : Int64} (q : Nat) (hd : decode code pc = .ok (.lxor, 1))  (hq : pc + 1 = q) (g : Go l Z y code ml ret R Q k n h q Ls (.long (x ^^^ z) :: st)) : Go l Z y code ml ret R Q k n h pc Ls (.long z :: .long x :: st) := by
  subst hq; exact g.pure fun p e s m args below meth c K T L k' n' X hT t r => XT.lxor X.here K.1 rfl (hb K.2.1 hd) rfl  r
theorem Go.ldiv {x z : Int64} (q : Nat) (hd : decode code pc = .ok (.ldiv, 1)) (hz : z ≠ 0) (hq : pc + 1 = q) (g : Go l Z y code ml ret R Q k n h q Ls (.long (x / z) :: st)) : Go l Z y code ml ret R Q k n h pc Ls (.long z :: .long x :: st) := by
  subst hq; exact g.pure fun p e s m args below meth c K T L k' n' X hT t r => XT.ldiv X.here K.1 rfl (hb K.2.1 hd) rfl hz r
theorem Go.lrem {x z : Int64} (q : Nat) (hd : decode code pc = .ok (.lrem, 1)) (hz : z ≠ 0) (hq : pc + 1 = q) (g : Go l Z y code ml ret R Q k n h q Ls (.long (x - (x / z) * z) :: st)) : Go l Z y code ml ret R Q k n h pc Ls (.long z :: .long x :: st) := by
  subst hq; exact g.pure fun p e s m args below meth c K T L k' n' X hT t r => XT.lrem X.here K.1 rfl (hb K.2.1 hd) rfl hz r
theorem Go.lneg {x : Int64} (q : Nat) (hd : decode code pc = .ok (.lneg, 1))  (hq : pc + 1 = q) (g : Go l Z y code ml ret R Q k n h q Ls (.long (-x) :: st)) : Go l Z y code ml ret R Q k n h pc Ls (.long x :: st) := by
  subst hq; exact g.pure fun p e s m args below meth c K T L k' n' X hT t r => XT.lneg X.here K.1 rfl (hb K.2.1 hd) rfl  r
theorem Go.lshl {x : Int64} {z : Int32} (q : Nat) (hd : decode code pc = .ok (.lshl, 1))  (hq : pc + 1 = q) (g : Go l Z y code ml ret R Q k n h q Ls (.long (x <<< (z.toInt64 &&& 63)) :: st)) : Go l Z y code ml ret R Q k n h pc Ls (.int z :: .long x :: st) := by
  subst hq; exact g.pure fun p e s m args below meth c K T L k' n' X hT t r => XT.lshl X.here K.1 rfl (hb K.2.1 hd) rfl  r
theorem Go.lshr {x : Int64} {z : Int32} (q : Nat) (hd : decode code pc = .ok (.lshr, 1))  (hq : pc + 1 = q) (g : Go l Z y code ml ret R Q k n h q Ls (.long (x >>> (z.toInt64 &&& 63)) :: st)) : Go l Z y code ml ret R Q k n h pc Ls (.int z :: .long x :: st) := by
  subst hq; exact g.pure fun p e s m args below meth c K T L k' n' X hT t r => XT.lshr X.here K.1 rfl (hb K.2.1 hd) rfl  r
theorem Go.lushr {x : Int64} {z : Int32} (q : Nat) (hd : decode code pc = .ok (.lushr, 1))  (hq : pc + 1 = q) (g : Go l Z y code ml ret R Q k n h q Ls (.long (XT.ushrL x z) :: st)) : Go l Z y code ml ret R Q k n h pc Ls (.int z :: .long x :: st) := by
  subst hq; exact g.pure fun p e s m args below meth c K T L k' n' X hT t r => XT.lushr X.here K.1 rfl (hb K.2.1 hd) rfl  r
theorem Go.lcmp {x z : Int64} (q : Nat) (hd : decode code pc = .ok (.lcmp, 1))  (hq : pc + 1 = q) (g : Go l Z y code ml ret R Q k n h q Ls (.int (XT.cmpL x z) :: st)) : Go l Z y code ml ret R Q k n h pc Ls (.long z :: .long x :: st) := by
  subst hq; exact g.pure fun p e s m args below meth c K T L k' n' X hT t r => XT.lcmp X.here K.1 rfl (hb K.2.1 hd) rfl  r
theorem Go.i2l {x : Int32} (q : Nat) (hd : decode code pc = .ok (.i2l, 1))  (hq : pc + 1 = q) (g : Go l Z y code ml ret R Q k n h q Ls (.long x.toInt64 :: st)) : Go l Z y code ml ret R Q k n h pc Ls (.int x :: st) := by
  subst hq; exact g.pure fun p e s m args below meth c K T L k' n' X hT t r => XT.i2l X.here K.1 rfl (hb K.2.1 hd) rfl  r
theorem Go.l2i {x : Int64} (q : Nat) (hd : decode code pc = .ok (.l2i, 1))  (hq : pc + 1 = q) (g : Go l Z y code ml ret R Q k n h q Ls (.int x.toInt32 :: st)) : Go l Z y code ml ret R Q k n h pc Ls (.long x :: st) := by
  subst hq; exact g.pure fun p e s m args below meth c K T L k' n' X hT t r => XT.l2i X.here K.1 rfl (hb K.2.1 hd) rfl  r
theorem Go.i2b {x : Int32} (q : Nat) (hd : decode code pc = .ok (.i2b, 1))  (hq : pc + 1 = q) (g : Go l Z y code ml ret R Q k n h q Ls (.int x.toInt8.toInt32 :: st)) : Go l Z y code ml ret R Q k n h pc Ls (.int x :: st) := by
  subst hq; exact g.pure fun p e s m args below meth c K T L k' n' X hT t r => XT.i2b X.here K.1 rfl (hb K.2.1 hd) rfl  r
theorem Go.i2c {x : Int32} (q : Nat) (hd : decode code pc = .ok (.i2c, 1))  (hq : pc + 1 = q) (g : Go l Z y code ml ret R Q k n h q Ls (.int x.toUInt32.toUInt16.toUInt32.toInt32 :: st)) : Go l Z y code ml ret R Q k n h pc Ls (.int x :: st) := by
  subst hq; exact g.pure fun p e s m args below meth c K T L k' n' X hT t r => XT.i2c X.here K.1 rfl (hb K.2.1 hd) rfl  r
theorem Go.i2s {x : Int32} (q : Nat) (hd : decode code pc = .ok (.i2s, 1))  (hq : pc + 1 = q) (g : Go l Z y code ml ret R Q k n h q Ls (.int x.toInt16.toInt32 :: st)) : Go l Z y code ml ret R Q k n h pc Ls (.int x :: st) := by
  subst hq; exact g.pure fun p e s m args below meth c K T L k' n' X hT t r => XT.i2s X.here K.1 rfl (hb K.2.1 hd) rfl  r
theorem Go.pop {x : Value} (q : Nat) (hd : decode code pc = .ok (.pop, 1)) (hc : x.category = 1) (hq : pc + 1 = q) (g : Go l Z y code ml ret R Q k n h q Ls (st)) : Go l Z y code ml ret R Q k n h pc Ls (x :: st) := by
  subst hq; exact g.pure fun p e s m args below meth c K T L k' n' X hT t r => XT.pop X.here K.1 rfl (hb K.2.1 hd) rfl hc r
theorem Go.dup {x : Value} (q : Nat) (hd : decode code pc = .ok (.dup, 1)) (hc : x.category = 1) (hq : pc + 1 = q) (g : Go l Z y code ml ret R Q k n h q Ls (x :: x :: st)) : Go l Z y code ml ret R Q k n h pc Ls (x :: st) := by
  subst hq; exact g.pure fun p e s m args below meth c K T L k' n' X hT t r => XS.dup X.here K.1 rfl (hb K.2.1 hd) rfl hc r
theorem Go.dupX1 {x z : Value} (q : Nat) (hd : decode code pc = .ok (.dup_x1, 1)) (hc : x.category = 1) (hc' : z.category = 1) (hq : pc + 1 = q) (g : Go l Z y code ml ret R Q k n h q Ls (x :: z :: x :: st)) : Go l Z y code ml ret R Q k n h pc Ls (x :: z :: st) := by
  subst hq; exact g.pure fun p e s m args below meth c K T L k' n' X hT t r => XT.dupX1 X.here K.1 rfl (hb K.2.1 hd) rfl hc hc' r
theorem Go.dup2 {x z : Value} (q : Nat) (hd : decode code pc = .ok (.dup2, 1)) (hc : x.category = 1) (hc' : z.category = 1) (hq : pc + 1 = q) (g : Go l Z y code ml ret R Q k n h q Ls (x :: z :: x :: z :: st)) : Go l Z y code ml ret R Q k n h pc Ls (x :: z :: st) := by
  subst hq; exact g.pure fun p e s m args below meth c K T L k' n' X hT t r => XT.dup2 X.here K.1 rfl (hb K.2.1 hd) rfl hc hc' r
theorem Go.dup2L {x : Int64} (q : Nat) (hd : decode code pc = .ok (.dup2, 1))  (hq : pc + 1 = q) (g : Go l Z y code ml ret R Q k n h q Ls (.long x :: .long x :: st)) : Go l Z y code ml ret R Q k n h pc Ls (.long x :: st) := by
  subst hq; exact g.pure fun p e s m args below meth c K T L k' n' X hT t r => XT.dup2L X.here K.1 rfl (hb K.2.1 hd) rfl  r
theorem Go.iconst {i : Int} (q : Nat) (v : Int32) (hd : decode code pc = .ok (.iconst i, 1)) (hv : Int32.ofInt i = v) (hq : pc + 1 = q) (g : Go l Z y code ml ret R Q k n h q Ls (.int v :: st)) : Go l Z y code ml ret R Q k n h pc Ls st := by
  subst hq; exact g.pure fun p e s m args below meth c K T L k' n' X hT t r => XT.iconstV X.here K.1 rfl v (hb K.2.1 hd) hv r
theorem Go.bipush {i : Int} (q : Nat) (v : Int32) (hd : decode code pc = .ok (.bipush i, 2)) (hv : (Int8.ofInt i).toInt32 = v) (hq : pc + 2 = q) (g : Go l Z y code ml ret R Q k n h q Ls (.int v :: st)) : Go l Z y code ml ret R Q k n h pc Ls st := by
  subst hq; exact g.pure fun p e s m args below meth c K T L k' n' X hT t r => XT.bipushV X.here K.1 rfl v (hb K.2.1 hd) hv r
theorem Go.sipush {i : Int} (q : Nat) (v : Int32) (hd : decode code pc = .ok (.sipush i, 3)) (hv : (Int16.ofInt i).toInt32 = v) (hq : pc + 3 = q) (g : Go l Z y code ml ret R Q k n h q Ls (.int v :: st)) : Go l Z y code ml ret R Q k n h pc Ls st := by
  subst hq; exact g.pure fun p e s m args below meth c K T L k' n' X hT t r => XT.sipushV X.here K.1 rfl v (hb K.2.1 hd) hv r
theorem Go.lconst {i : Fin 2} (q : Nat) (v : Int64) (hd : decode code pc = .ok (.lconst i, 1)) (hv : Int64.ofNat i = v) (hq : pc + 1 = q) (g : Go l Z y code ml ret R Q k n h q Ls (.long v :: st)) : Go l Z y code ml ret R Q k n h pc Ls st := by
  subst hq; exact g.pure fun p e s m args below meth c K T L k' n' X hT t r => XT.lconstV X.here K.1 rfl v (hb K.2.1 hd) hv r
theorem Go.aconst_null (q : Nat) (hd : decode code pc = .ok (.aconst_null, 1)) (hq : pc + 1 = q) (g : Go l Z y code ml ret R Q k n h q Ls (.null :: st)) : Go l Z y code ml ret R Q k n h pc Ls st := by
  subst hq; exact g.pure fun p e s m args below meth c K T L k' n' X hT t r => XS.aconstNull X.here K.1 rfl (hb K.2.1 hd) r
theorem Go.ldc {i : Nat} {v : Int32} (q : Nat) (hd : decode code pc = .ok (.ldc i, 2)) (w : (Cond.constant y.cls i v).before a0 Z = true) (hq : pc + 2 = q) (g : Go l Z y code ml ret R Q k n h q Ls (.int v :: st)) : Go l Z y code ml ret R Q k n h pc Ls st := by
  subst hq; exact g.pure fun p e s m args below meth c K T L k' n' X hT t r => X.ldcI K.1 K.2.2.2.1 (mvT K.2.2.1 w) rfl (hb K.2.1 hd) r
theorem Go.ldc_w {i : Nat} {v : Int32} (q : Nat) (hd : decode code pc = .ok (.ldc_w i, 3)) (w : (Cond.constant y.cls i v).before a0 Z = true) (hq : pc + 3 = q) (g : Go l Z y code ml ret R Q k n h q Ls (.int v :: st)) : Go l Z y code ml ret R Q k n h pc Ls st := by
  subst hq; exact g.pure fun p e s m args below meth c K T L k' n' X hT t r => X.ldcWI K.1 K.2.2.2.1 (mvT K.2.2.1 w) rfl (hb K.2.1 hd) r
theorem Go.ldc2_w {i : Nat} {v : Int64} (q : Nat) (hd : decode code pc = .ok (.ldc2_w i, 3)) (w : (Cond.constantLong y.cls i v).before a0 Z = true) (hq : pc + 3 = q) (g : Go l Z y code ml ret R Q k n h q Ls (.long v :: st)) : Go l Z y code ml ret R Q k n h pc Ls st := by
  subst hq; exact g.pure fun p e s m args below meth c K T L k' n' X hT t r => X.ldc2J K.1 K.2.2.2.1 (mvT K.2.2.1 w) rfl (hb K.2.1 hd) r
theorem Go.iload {i : Nat} {v : Int32} (q : Nat) (hd : decode code pc = .ok (.iload i, 2)) (hl : Ls[i]? = some (.val (.int v))) (hq : pc + 2 = q) (g : Go l Z y code ml ret R Q k n h q Ls (.int v :: st)) : Go l Z y code ml ret R Q k n h pc Ls st := by
  subst hq; exact g.pure fun p e s m args below meth c K T L k' n' X hT t r => XS.iload X.here K.1 rfl (hb K.2.1 hd) hl r
theorem Go.iload_n {i : Fin 4} {v : Int32} (q : Nat) (hd : decode code pc = .ok (.iload_n i, 1)) (hl : Ls[i.val]? = some (.val (.int v))) (hq : pc + 1 = q) (g : Go l Z y code ml ret R Q k n h q Ls (.int v :: st)) : Go l Z y code ml ret R Q k n h pc Ls st := by
  subst hq; exact g.pure fun p e s m args below meth c K T L k' n' X hT t r => XS.iloadN X.here K.1 rfl (hb K.2.1 hd) hl r
theorem Go.lload {i : Nat} {v : Int64} (q : Nat) (hd : decode code pc = .ok (.lload i, 2)) (hl : Ls[i]? = some (.val (.long v))) (hq : pc + 2 = q) (g : Go l Z y code ml ret R Q k n h q Ls (.long v :: st)) : Go l Z y code ml ret R Q k n h pc Ls st := by
  subst hq; exact g.pure fun p e s m args below meth c K T L k' n' X hT t r => XT.lload X.here K.1 rfl (hb K.2.1 hd) hl r
theorem Go.lload_n {i : Fin 4} {v : Int64} (q : Nat) (hd : decode code pc = .ok (.lload_n i, 1)) (hl : Ls[i.val]? = some (.val (.long v))) (hq : pc + 1 = q) (g : Go l Z y code ml ret R Q k n h q Ls (.long v :: st)) : Go l Z y code ml ret R Q k n h pc Ls st := by
  subst hq; exact g.pure fun p e s m args below meth c K T L k' n' X hT t r => XT.lloadN X.here K.1 rfl (hb K.2.1 hd) hl r
theorem Go.aload {i : Nat} {v : Value} (q : Nat) (hd : decode code pc = .ok (.aload i, 2)) (hl : Ls[i]? = some (.val v)) (hv : v.isRef = true) (hq : pc + 2 = q) (g : Go l Z y code ml ret R Q k n h q Ls (v :: st)) : Go l Z y code ml ret R Q k n h pc Ls st := by
  subst hq; exact g.pure fun p e s m args below meth c K T L k' n' X hT t r => XS.aload X.here K.1 rfl (hb K.2.1 hd) hl hv r
theorem Go.aload_n {i : Fin 4} {v : Value} (q : Nat) (hd : decode code pc = .ok (.aload_n i, 1)) (hl : Ls[i.val]? = some (.val v)) (hv : v.isRef = true) (hq : pc + 1 = q) (g : Go l Z y code ml ret R Q k n h q Ls (v :: st)) : Go l Z y code ml ret R Q k n h pc Ls st := by
  subst hq; exact g.pure fun p e s m args below meth c K T L k' n' X hT t r => XS.aloadN X.here K.1 rfl (hb K.2.1 hd) hl hv r
theorem Go.istore {i : Nat} {v : Int32} (q : Nat) (Ls' : Array Slot) (hd : decode code pc = .ok (.istore i, 2)) (hl : storeLocals Ls i (.int v) = some Ls') (hq : pc + 2 = q) (g : Go l Z y code ml ret R Q k n h q Ls' st) : Go l Z y code ml ret R Q k n h pc Ls (.int v :: st) := by
  subst hq; exact g.pure fun p e s m args below meth c K T L k' n' X hT t r => XS.istore X.here K.1 rfl (hb K.2.1 hd) rfl hl r
theorem Go.istore_n {i : Fin 4} {v : Int32} (q : Nat) (Ls' : Array Slot) (hd : decode code pc = .ok (.istore_n i, 1)) (hl : storeLocals Ls i.val (.int v) = some Ls') (hq : pc + 1 = q) (g : Go l Z y code ml ret R Q k n h q Ls' st) : Go l Z y code ml ret R Q k n h pc Ls (.int v :: st) := by
  subst hq; exact g.pure fun p e s m args below meth c K T L k' n' X hT t r => XS.istoreN X.here K.1 rfl (hb K.2.1 hd) rfl hl r
theorem Go.lstore {i : Nat} {v : Int64} (q : Nat) (Ls' : Array Slot) (hd : decode code pc = .ok (.lstore i, 2)) (hl : storeLocals Ls i (.long v) = some Ls') (hq : pc + 2 = q) (g : Go l Z y code ml ret R Q k n h q Ls' st) : Go l Z y code ml ret R Q k n h pc Ls (.long v :: st) := by
  subst hq; exact g.pure fun p e s m args below meth c K T L k' n' X hT t r => XT.lstore X.here K.1 rfl (hb K.2.1 hd) rfl hl r
theorem Go.lstore_n {i : Fin 4} {v : Int64} (q : Nat) (Ls' : Array Slot) (hd : decode code pc = .ok (.lstore_n i, 1)) (hl : storeLocals Ls i.val (.long v) = some Ls') (hq : pc + 1 = q) (g : Go l Z y code ml ret R Q k n h q Ls' st) : Go l Z y code ml ret R Q k n h pc Ls (.long v :: st) := by
  subst hq; exact g.pure fun p e s m args below meth c K T L k' n' X hT t r => XT.lstoreN X.here K.1 rfl (hb K.2.1 hd) rfl hl r
theorem Go.astore {i : Nat} {v : Value} (q : Nat) (Ls' : Array Slot) (hd : decode code pc = .ok (.astore i, 2)) (hv : v.isRef = true) (hl : storeLocals Ls i v = some Ls') (hq : pc + 2 = q) (g : Go l Z y code ml ret R Q k n h q Ls' st) : Go l Z y code ml ret R Q k n h pc Ls (v :: st) := by
  subst hq; exact g.pure fun p e s m args below meth c K T L k' n' X hT t r => XS.astore X.here K.1 rfl (hb K.2.1 hd) rfl hv hl r
theorem Go.astore_n {i : Fin 4} {v : Value} (q : Nat) (Ls' : Array Slot) (hd : decode code pc = .ok (.astore_n i, 1)) (hv : v.isRef = true) (hl : storeLocals Ls i.val v = some Ls') (hq : pc + 1 = q) (g : Go l Z y code ml ret R Q k n h q Ls' st) : Go l Z y code ml ret R Q k n h pc Ls (v :: st) := by
  subst hq; exact g.pure fun p e s m args below meth c K T L k' n' X hT t r => XS.astoreN X.here K.1 rfl (hb K.2.1 hd) rfl hv hl r
theorem Go.iinc {i : Nat} {cst : Int} {x : Int32} (q : Nat) (v : Int32) (Ls' : Array Slot) (hd : decode code pc = .ok (.iinc i cst, 3)) (hv : Int32.ofInt cst = v) (hl : Ls[i]? = some (.val (.int x))) (hl' : storeLocals Ls i (.int (x + v)) = some Ls') (hq : pc + 3 = q) (g : Go l Z y code ml ret R Q k n h q Ls' st) : Go l Z y code ml ret R Q k n h pc Ls st := by
  subst hq; exact g.pure fun p e s m args below meth c K T L k' n' X hT t r => XT.iincV X.here K.1 rfl v (hb K.2.1 hd) hv hl hl' r
theorem Go.goto {o : Int} (q : Nat) (hd : decode code pc = .ok (.goto o, 3)) (ho : 0 ≤ (pc : Int) + o) (hq : ((pc : Int) + o).toNat = q) (g : Go l Z y code ml ret R Q k n h q Ls st) : Go l Z y code ml ret R Q k n h pc Ls st :=
  g.pure fun p e s m args below meth c K T L k' n' X hT t r => XS.goto X.here K.1 rfl rfl (hb K.2.1 hd) ho hq r
theorem Go.icmp_eq {o : Int} {x z : Int32} (q1 q2 : Nat) (hd : decode code pc = .ok (.if_icmp .eq o, 3)) (ho : 0 ≤ (pc : Int) + o) (h1 : ((pc : Int) + o).toNat = q1) (h2 : pc + 3 = q2) (g1 : x = z → Go l Z y code ml ret R Q k n h q1 Ls st) (g2 : ¬ x = z → Go l Z y code ml ret R Q k n h q2 Ls st) : Go l Z y code ml ret R Q k n h pc Ls (.int z :: .int x :: st) := by
  subst h2
  by_cases hc : x = z
  · exact (g1 hc).pure fun p e s m args below meth c K T L k' n' X hT t r => XS.icmpYes X.here K.1 rfl rfl (hb K.2.1 hd) rfl (XT.ii_eq_t hc) ho h1 r
  · exact (g2 (by first | exact hc | exact Decidable.not_not.mp hc)).pure fun p e s m args below meth c K T L k' n' X hT t r => XS.icmpNo X.here K.1 rfl (hb K.2.1 hd) rfl (XT.ii_eq_f (by first | exact hc | exact Decidable.not_not.mp hc)) r
theorem Go.lcmp_eq {o : Int} {x z : Int64} (q1 q2 : Nat) (hd : decode code pc = .ok (.ifCond .eq o, 3)) (ho : 0 ≤ (pc : Int) + o) (h1 : ((pc : Int) + o).toNat = q1) (h2 : pc + 3 = q2) (g1 : x = z → Go l Z y code ml ret R Q k n h q1 Ls st) (g2 : ¬ x = z → Go l Z y code ml ret R Q k n h q2 Ls st) : Go l Z y code ml ret R Q k n h pc Ls (.int (XT.cmpL x z) :: st) := by
  subst h2
  by_cases hc : x = z
  · exact (g1 hc).pure fun p e s m args below meth c K T L k' n' X hT t r => XS.ifYes X.here K.1 rfl rfl (hb K.2.1 hd) rfl (XT.ll_eq_t hc) ho h1 r
  · exact (g2 (by first | exact hc | exact Decidable.not_not.mp hc)).pure fun p e s m args below meth c K T L k' n' X hT t r => XS.ifNo X.here K.1 rfl (hb K.2.1 hd) rfl (XT.ll_eq_f (by first | exact hc | exact Decidable.not_not.mp hc)) r
theorem Go.icmp_ne {o : Int} {x z : Int32} (q1 q2 : Nat) (hd : decode code pc = .ok (.if_icmp .ne o, 3)) (ho : 0 ≤ (pc : Int) + o) (h1 : ((pc : Int) + o).toNat = q1) (h2 : pc + 3 = q2) (g1 : ¬ x = z → Go l Z y code ml ret R Q k n h q1 Ls st) (g2 : x = z → Go l Z y code ml ret R Q k n h q2 Ls st) : Go l Z y code ml ret R Q k n h pc Ls (.int z :: .int x :: st) := by
  subst h2
  by_cases hc : ¬ x = z
  · exact (g1 hc).pure fun p e s m args below meth c K T L k' n' X hT t r => XS.icmpYes X.here K.1 rfl rfl (hb K.2.1 hd) rfl (XT.ii_ne_t hc) ho h1 r
  · exact (g2 (by first | exact hc | exact Decidable.not_not.mp hc)).pure fun p e s m args below meth c K T L k' n' X hT t r => XS.icmpNo X.here K.1 rfl (hb K.2.1 hd) rfl (XT.ii_ne_f (by first | exact hc | exact Decidable.not_not.mp hc)) r
theorem Go.lcmp_ne {o : Int} {x z : Int64} (q1 q2 : Nat) (hd : decode code pc = .ok (.ifCond .ne o, 3)) (ho : 0 ≤ (pc : Int) + o) (h1 : ((pc : Int) + o).toNat = q1) (h2 : pc + 3 = q2) (g1 : ¬ x = z → Go l Z y code ml ret R Q k n h q1 Ls st) (g2 : x = z → Go l Z y code ml ret R Q k n h q2 Ls st) : Go l Z y code ml ret R Q k n h pc Ls (.int (XT.cmpL x z) :: st) := by
  subst h2
  by_cases hc : ¬ x = z
  · exact (g1 hc).pure fun p e s m args below meth c K T L k' n' X hT t r => XS.ifYes X.here K.1 rfl rfl (hb K.2.1 hd) rfl (XT.ll_ne_t hc) ho h1 r
  · exact (g2 (by first | exact hc | exact Decidable.not_not.mp hc)).pure fun p e s m args below meth c K T L k' n' X hT t r => XS.ifNo X.here K.1 rfl (hb K.2.1 hd) rfl (XT.ll_ne_f (by first | exact hc | exact Decidable.not_not.mp hc)) r
theorem Go.icmp_lt {o : Int} {x z : Int32} (q1 q2 : Nat) (hd : decode code pc = .ok (.if_icmp .lt o, 3)) (ho : 0 ≤ (pc : Int) + o) (h1 : ((pc : Int) + o).toNat = q1) (h2 : pc + 3 = q2) (g1 : x < z → Go l Z y code ml ret R Q k n h q1 Ls st) (g2 : ¬ x < z → Go l Z y code ml ret R Q k n h q2 Ls st) : Go l Z y code ml ret R Q k n h pc Ls (.int z :: .int x :: st) := by
  subst h2
  by_cases hc : x < z
  · exact (g1 hc).pure fun p e s m args below meth c K T L k' n' X hT t r => XS.icmpYes X.here K.1 rfl rfl (hb K.2.1 hd) rfl (XT.ii_lt_t hc) ho h1 r
  · exact (g2 (by first | exact hc | exact Decidable.not_not.mp hc)).pure fun p e s m args below meth c K T L k' n' X hT t r => XS.icmpNo X.here K.1 rfl (hb K.2.1 hd) rfl (XT.ii_lt_f (by first | exact hc | exact Decidable.not_not.mp hc)) r
theorem Go.lcmp_lt {o : Int} {x z : Int64} (q1 q2 : Nat) (hd : decode code pc = .ok (.ifCond .lt o, 3)) (ho : 0 ≤ (pc : Int) + o) (h1 : ((pc : Int) + o).toNat = q1) (h2 : pc + 3 = q2) (g1 : x < z → Go l Z y code ml ret R Q k n h q1 Ls st) (g2 : ¬ x < z → Go l Z y code ml ret R Q k n h q2 Ls st) : Go l Z y code ml ret R Q k n h pc Ls (.int (XT.cmpL x z) :: st) := by
  subst h2
  by_cases hc : x < z
  · exact (g1 hc).pure fun p e s m args below meth c K T L k' n' X hT t r => XS.ifYes X.here K.1 rfl rfl (hb K.2.1 hd) rfl (XT.ll_lt_t hc) ho h1 r
  · exact (g2 (by first | exact hc | exact Decidable.not_not.mp hc)).pure fun p e s m args below meth c K T L k' n' X hT t r => XS.ifNo X.here K.1 rfl (hb K.2.1 hd) rfl (XT.ll_lt_f (by first | exact hc | exact Decidable.not_not.mp hc)) r
theorem Go.icmp_ge {o : Int} {x z : Int32} (q1 q2 : Nat) (hd : decode code pc = .ok (.if_icmp .ge o, 3)) (ho : 0 ≤ (pc : Int) + o) (h1 : ((pc : Int) + o).toNat = q1) (h2 : pc + 3 = q2) (g1 : ¬ x < z → Go l Z y code ml ret R Q k n h q1 Ls st) (g2 : x < z → Go l Z y code ml ret R Q k n h q2 Ls st) : Go l Z y code ml ret R Q k n h pc Ls (.int z :: .int x :: st) := by
  subst h2
  by_cases hc : ¬ x < z
  · exact (g1 hc).pure fun p e s m args below meth c K T L k' n' X hT t r => XS.icmpYes X.here K.1 rfl rfl (hb K.2.1 hd) rfl (XT.ii_ge_t hc) ho h1 r
  · exact (g2 (by first | exact hc | exact Decidable.not_not.mp hc)).pure fun p e s m args below meth c K T L k' n' X hT t r => XS.icmpNo X.here K.1 rfl (hb K.2.1 hd) rfl (XT.ii_ge_f (by first | exact hc | exact Decidable.not_not.mp hc)) r
theorem Go.lcmp_ge {o : Int} {x z : Int64} (q1 q2 : Nat) (hd : decode code pc = .ok (.ifCond .ge o, 3)) (ho : 0 ≤ (pc : Int) + o) (h1 : ((pc : Int) + o).toNat = q1) (h2 : pc + 3 = q2) (g1 : ¬ x < z → Go l Z y code ml ret R Q k n h q1 Ls st) (g2 : x < z → Go l Z y code ml ret R Q k n h q2 Ls st) : Go l Z y code ml ret R Q k n h pc Ls (.int (XT.cmpL x z) :: st) := by
  subst h2
  by_cases hc : ¬ x < z
  · exact (g1 hc).pure fun p e s m args below meth c K T L k' n' X hT t r => XS.ifYes X.here K.1 rfl rfl (hb K.2.1 hd) rfl (XT.ll_ge_t hc) ho h1 r
  · exact (g2 (by first | exact hc | exact Decidable.not_not.mp hc)).pure fun p e s m args below meth c K T L k' n' X hT t r => XS.ifNo X.here K.1 rfl (hb K.2.1 hd) rfl (XT.ll_ge_f (by first | exact hc | exact Decidable.not_not.mp hc)) r
theorem Go.icmp_gt {o : Int} {x z : Int32} (q1 q2 : Nat) (hd : decode code pc = .ok (.if_icmp .gt o, 3)) (ho : 0 ≤ (pc : Int) + o) (h1 : ((pc : Int) + o).toNat = q1) (h2 : pc + 3 = q2) (g1 : z < x → Go l Z y code ml ret R Q k n h q1 Ls st) (g2 : ¬ z < x → Go l Z y code ml ret R Q k n h q2 Ls st) : Go l Z y code ml ret R Q k n h pc Ls (.int z :: .int x :: st) := by
  subst h2
  by_cases hc : z < x
  · exact (g1 hc).pure fun p e s m args below meth c K T L k' n' X hT t r => XS.icmpYes X.here K.1 rfl rfl (hb K.2.1 hd) rfl (XT.ii_gt_t hc) ho h1 r
  · exact (g2 (by first | exact hc | exact Decidable.not_not.mp hc)).pure fun p e s m args below meth c K T L k' n' X hT t r => XS.icmpNo X.here K.1 rfl (hb K.2.1 hd) rfl (XT.ii_gt_f (by first | exact hc | exact Decidable.not_not.mp hc)) r
theorem Go.lcmp_gt {o : Int} {x z : Int64} (q1 q2 : Nat) (hd : decode code pc = .ok (.ifCond .gt o, 3)) (ho : 0 ≤ (pc : Int) + o) (h1 : ((pc : Int) + o).toNat = q1) (h2 : pc + 3 = q2) (g1 : z < x → Go l Z y code ml ret R Q k n h q1 Ls st) (g2 : ¬ z < x → Go l Z y code ml ret R Q k n h q2 Ls st) : Go l Z y code ml ret R Q k n h pc Ls (.int (XT.cmpL x z) :: st) := by
  subst h2
  by_cases hc : z < x
  · exact (g1 hc).pure fun p e s m args below meth c K T L k' n' X hT t r => XS.ifYes X.here K.1 rfl rfl (hb K.2.1 hd) rfl (XT.ll_gt_t hc) ho h1 r
  · exact (g2 (by first | exact hc | exact Decidable.not_not.mp hc)).pure fun p e s m args below meth c K T L k' n' X hT t r => XS.ifNo X.here K.1 rfl (hb K.2.1 hd) rfl (XT.ll_gt_f (by first | exact hc | exact Decidable.not_not.mp hc)) r
theorem Go.icmp_le {o : Int} {x z : Int32} (q1 q2 : Nat) (hd : decode code pc = .ok (.if_icmp .le o, 3)) (ho : 0 ≤ (pc : Int) + o) (h1 : ((pc : Int) + o).toNat = q1) (h2 : pc + 3 = q2) (g1 : ¬ z < x → Go l Z y code ml ret R Q k n h q1 Ls st) (g2 : z < x → Go l Z y code ml ret R Q k n h q2 Ls st) : Go l Z y code ml ret R Q k n h pc Ls (.int z :: .int x :: st) := by
  subst h2
  by_cases hc : ¬ z < x
  · exact (g1 hc).pure fun p e s m args below meth c K T L k' n' X hT t r => XS.icmpYes X.here K.1 rfl rfl (hb K.2.1 hd) rfl (XT.ii_le_t hc) ho h1 r
  · exact (g2 (by first | exact hc | exact Decidable.not_not.mp hc)).pure fun p e s m args below meth c K T L k' n' X hT t r => XS.icmpNo X.here K.1 rfl (hb K.2.1 hd) rfl (XT.ii_le_f (by first | exact hc | exact Decidable.not_not.mp hc)) r
theorem Go.lcmp_le {o : Int} {x z : Int64} (q1 q2 : Nat) (hd : decode code pc = .ok (.ifCond .le o, 3)) (ho : 0 ≤ (pc : Int) + o) (h1 : ((pc : Int) + o).toNat = q1) (h2 : pc + 3 = q2) (g1 : ¬ z < x → Go l Z y code ml ret R Q k n h q1 Ls st) (g2 : z < x → Go l Z y code ml ret R Q k n h q2 Ls st) : Go l Z y code ml ret R Q k n h pc Ls (.int (XT.cmpL x z) :: st) := by
  subst h2
  by_cases hc : ¬ z < x
  · exact (g1 hc).pure fun p e s m args below meth c K T L k' n' X hT t r => XS.ifYes X.here K.1 rfl rfl (hb K.2.1 hd) rfl (XT.ll_le_t hc) ho h1 r
  · exact (g2 (by first | exact hc | exact Decidable.not_not.mp hc)).pure fun p e s m args below meth c K T L k' n' X hT t r => XS.ifNo X.here K.1 rfl (hb K.2.1 hd) rfl (XT.ll_le_f (by first | exact hc | exact Decidable.not_not.mp hc)) r
theorem if0_eq_t {x : Int32} (h : x = 0) : ifCond.holds .eq x = true := by
  have e : ifCond.holds .eq x = if_icmp.holds .eq x 0 := rfl
  rw [e]; exact XT.ii_eq_t h
theorem if0_eq_f {x : Int32} (h : ¬ x = 0) : ifCond.holds .eq x = false := by
  have e : ifCond.holds .eq x = if_icmp.holds .eq x 0 := rfl
  rw [e]; exact XT.ii_eq_f h
theorem Go.if_eq {o : Int} {x : Int32} (q1 q2 : Nat) (hd : decode code pc = .ok (.ifCond .eq o, 3)) (ho : 0 ≤ (pc : Int) + o) (h1 : ((pc : Int) + o).toNat = q1) (h2 : pc + 3 = q2) (g1 : x = 0 → Go l Z y code ml ret R Q k n h q1 Ls st) (g2 : ¬ x = 0 → Go l Z y code ml ret R Q k n h q2 Ls st) : Go l Z y code ml ret R Q k n h pc Ls (.int x :: st) := by
  subst h2
  by_cases hc : x = 0
  · exact (g1 hc).pure fun p e s m args below meth c K T L k' n' X hT t r => XS.ifYes X.here K.1 rfl rfl (hb K.2.1 hd) rfl (if0_eq_t hc) ho h1 r
  · exact (g2 (by first | exact hc | exact Decidable.not_not.mp hc)).pure fun p e s m args below meth c K T L k' n' X hT t r => XS.ifNo X.here K.1 rfl (hb K.2.1 hd) rfl (if0_eq_f (by first | exact hc | exact Decidable.not_not.mp hc)) r
theorem if0_ne_t {x : Int32} (h : ¬ x = 0) : ifCond.holds .ne x = true := by
  have e : ifCond.holds .ne x = if_icmp.holds .ne x 0 := rfl
  rw [e]; exact XT.ii_ne_t h
theorem if0_ne_f {x : Int32} (h : x = 0) : ifCond.holds .ne x = false := by
  have e : ifCond.holds .ne x = if_icmp.holds .ne x 0 := rfl
  rw [e]; exact XT.ii_ne_f h
theorem Go.if_ne {o : Int} {x : Int32} (q1 q2 : Nat) (hd : decode code pc = .ok (.ifCond .ne o, 3)) (ho : 0 ≤ (pc : Int) + o) (h1 : ((pc : Int) + o).toNat = q1) (h2 : pc + 3 = q2) (g1 : ¬ x = 0 → Go l Z y code ml ret R Q k n h q1 Ls st) (g2 : x = 0 → Go l Z y code ml ret R Q k n h q2 Ls st) : Go l Z y code ml ret R Q k n h pc Ls (.int x :: st) := by
  subst h2
  by_cases hc : ¬ x = 0
  · exact (g1 hc).pure fun p e s m args below meth c K T L k' n' X hT t r => XS.ifYes X.here K.1 rfl rfl (hb K.2.1 hd) rfl (if0_ne_t hc) ho h1 r
  · exact (g2 (by first | exact hc | exact Decidable.not_not.mp hc)).pure fun p e s m args below meth c K T L k' n' X hT t r => XS.ifNo X.here K.1 rfl (hb K.2.1 hd) rfl (if0_ne_f (by first | exact hc | exact Decidable.not_not.mp hc)) r
theorem if0_lt_t {x : Int32} (h : x < 0) : ifCond.holds .lt x = true := by
  have e : ifCond.holds .lt x = if_icmp.holds .lt x 0 := rfl
  rw [e]; exact XT.ii_lt_t h
theorem if0_lt_f {x : Int32} (h : ¬ x < 0) : ifCond.holds .lt x = false := by
  have e : ifCond.holds .lt x = if_icmp.holds .lt x 0 := rfl
  rw [e]; exact XT.ii_lt_f h
theorem Go.if_lt {o : Int} {x : Int32} (q1 q2 : Nat) (hd : decode code pc = .ok (.ifCond .lt o, 3)) (ho : 0 ≤ (pc : Int) + o) (h1 : ((pc : Int) + o).toNat = q1) (h2 : pc + 3 = q2) (g1 : x < 0 → Go l Z y code ml ret R Q k n h q1 Ls st) (g2 : ¬ x < 0 → Go l Z y code ml ret R Q k n h q2 Ls st) : Go l Z y code ml ret R Q k n h pc Ls (.int x :: st) := by
  subst h2
  by_cases hc : x < 0
  · exact (g1 hc).pure fun p e s m args below meth c K T L k' n' X hT t r => XS.ifYes X.here K.1 rfl rfl (hb K.2.1 hd) rfl (if0_lt_t hc) ho h1 r
  · exact (g2 (by first | exact hc | exact Decidable.not_not.mp hc)).pure fun p e s m args below meth c K T L k' n' X hT t r => XS.ifNo X.here K.1 rfl (hb K.2.1 hd) rfl (if0_lt_f (by first | exact hc | exact Decidable.not_not.mp hc)) r
theorem if0_ge_t {x : Int32} (h : ¬ x < 0) : ifCond.holds .ge x = true := by
  have e : ifCond.holds .ge x = if_icmp.holds .ge x 0 := rfl
  rw [e]; exact XT.ii_ge_t h
theorem if0_ge_f {x : Int32} (h : x < 0) : ifCond.holds .ge x = false := by
  have e : ifCond.holds .ge x = if_icmp.holds .ge x 0 := rfl
  rw [e]; exact XT.ii_ge_f h
theorem Go.if_ge {o : Int} {x : Int32} (q1 q2 : Nat) (hd : decode code pc = .ok (.ifCond .ge o, 3)) (ho : 0 ≤ (pc : Int) + o) (h1 : ((pc : Int) + o).toNat = q1) (h2 : pc + 3 = q2) (g1 : ¬ x < 0 → Go l Z y code ml ret R Q k n h q1 Ls st) (g2 : x < 0 → Go l Z y code ml ret R Q k n h q2 Ls st) : Go l Z y code ml ret R Q k n h pc Ls (.int x :: st) := by
  subst h2
  by_cases hc : ¬ x < 0
  · exact (g1 hc).pure fun p e s m args below meth c K T L k' n' X hT t r => XS.ifYes X.here K.1 rfl rfl (hb K.2.1 hd) rfl (if0_ge_t hc) ho h1 r
  · exact (g2 (by first | exact hc | exact Decidable.not_not.mp hc)).pure fun p e s m args below meth c K T L k' n' X hT t r => XS.ifNo X.here K.1 rfl (hb K.2.1 hd) rfl (if0_ge_f (by first | exact hc | exact Decidable.not_not.mp hc)) r
theorem if0_gt_t {x : Int32} (h : 0 < x) : ifCond.holds .gt x = true := by
  have e : ifCond.holds .gt x = if_icmp.holds .gt x 0 := rfl
  rw [e]; exact XT.ii_gt_t h
theorem if0_gt_f {x : Int32} (h : ¬ 0 < x) : ifCond.holds .gt x = false := by
  have e : ifCond.holds .gt x = if_icmp.holds .gt x 0 := rfl
  rw [e]; exact XT.ii_gt_f h
theorem Go.if_gt {o : Int} {x : Int32} (q1 q2 : Nat) (hd : decode code pc = .ok (.ifCond .gt o, 3)) (ho : 0 ≤ (pc : Int) + o) (h1 : ((pc : Int) + o).toNat = q1) (h2 : pc + 3 = q2) (g1 : 0 < x → Go l Z y code ml ret R Q k n h q1 Ls st) (g2 : ¬ 0 < x → Go l Z y code ml ret R Q k n h q2 Ls st) : Go l Z y code ml ret R Q k n h pc Ls (.int x :: st) := by
  subst h2
  by_cases hc : 0 < x
  · exact (g1 hc).pure fun p e s m args below meth c K T L k' n' X hT t r => XS.ifYes X.here K.1 rfl rfl (hb K.2.1 hd) rfl (if0_gt_t hc) ho h1 r
  · exact (g2 (by first | exact hc | exact Decidable.not_not.mp hc)).pure fun p e s m args below meth c K T L k' n' X hT t r => XS.ifNo X.here K.1 rfl (hb K.2.1 hd) rfl (if0_gt_f (by first | exact hc | exact Decidable.not_not.mp hc)) r
theorem if0_le_t {x : Int32} (h : ¬ 0 < x) : ifCond.holds .le x = true := by
  have e : ifCond.holds .le x = if_icmp.holds .le x 0 := rfl
  rw [e]; exact XT.ii_le_t h
theorem if0_le_f {x : Int32} (h : 0 < x) : ifCond.holds .le x = false := by
  have e : ifCond.holds .le x = if_icmp.holds .le x 0 := rfl
  rw [e]; exact XT.ii_le_f h
theorem Go.if_le {o : Int} {x : Int32} (q1 q2 : Nat) (hd : decode code pc = .ok (.ifCond .le o, 3)) (ho : 0 ≤ (pc : Int) + o) (h1 : ((pc : Int) + o).toNat = q1) (h2 : pc + 3 = q2) (g1 : ¬ 0 < x → Go l Z y code ml ret R Q k n h q1 Ls st) (g2 : 0 < x → Go l Z y code ml ret R Q k n h q2 Ls st) : Go l Z y code ml ret R Q k n h pc Ls (.int x :: st) := by
  subst h2
  by_cases hc : ¬ 0 < x
  · exact (g1 hc).pure fun p e s m args below meth c K T L k' n' X hT t r => XS.ifYes X.here K.1 rfl rfl (hb K.2.1 hd) rfl (if0_le_t hc) ho h1 r
  · exact (g2 (by first | exact hc | exact Decidable.not_not.mp hc)).pure fun p e s m args below meth c K T L k' n' X hT t r => XS.ifNo X.here K.1 rfl (hb K.2.1 hd) rfl (if0_le_f (by first | exact hc | exact Decidable.not_not.mp hc)) r
theorem Go.ifnull_no {o : Int} {b : Addr} (q : Nat) (hd : decode code pc = .ok (.ifnull o, 3)) (hq : pc + 3 = q) (g : Go l Z y code ml ret R Q k n h q Ls st) : Go l Z y code ml ret R Q k n h pc Ls (.ref b :: st) := by
  subst hq; exact g.pure fun p e s m args below meth c K T L k' n' X hT t r => XS.ifnullNo X.here K.1 rfl (hb K.2.1 hd) rfl r
theorem Go.ifnull_yes {o : Int} (q : Nat) (hd : decode code pc = .ok (.ifnull o, 3)) (ho : 0 ≤ (pc : Int) + o) (hq : ((pc : Int) + o).toNat = q) (g : Go l Z y code ml ret R Q k n h q Ls st) : Go l Z y code ml ret R Q k n h pc Ls (.null :: st) :=
  g.pure fun p e s m args below meth c K T L k' n' X hT t r => XS.ifnullYes X.here K.1 rfl rfl (hb K.2.1 hd) rfl ho hq r
theorem Go.ifnonnull_yes {o : Int} {b : Addr} (q : Nat) (hd : decode code pc = .ok (.ifnonnull o, 3)) (ho : 0 ≤ (pc : Int) + o) (hq : ((pc : Int) + o).toNat = q) (g : Go l Z y code ml ret R Q k n h q Ls st) : Go l Z y code ml ret R Q k n h pc Ls (.ref b :: st) :=
  g.pure fun p e s m args below meth c K T L k' n' X hT t r => XT.ifnonnullYes X.here K.1 rfl rfl (hb K.2.1 hd) rfl ho hq r
theorem Go.ifnonnull_no {o : Int} (q : Nat) (hd : decode code pc = .ok (.ifnonnull o, 3)) (hq : pc + 3 = q) (g : Go l Z y code ml ret R Q k n h q Ls st) : Go l Z y code ml ret R Q k n h pc Ls (.null :: st) := by
  subst hq; exact g.pure fun p e s m args below meth c K T L k' n' X hT t r => XT.ifnonnullNo X.here K.1 rfl (hb K.2.1 hd) rfl r
theorem Go.acmp {cd : ACond} {o : Int} {x z : Value} (q : Nat) (same : Bool) (hd : decode code pc = .ok (.if_acmp cd o, 3)) (h1 : x.isRef = true) (h2 : z.isRef = true) (hs : decide (x = z) = same) (ho : 0 ≤ (pc : Int) + o) (hq : q = if acV cd same = true then ((pc : Int) + o).toNat else pc + 3) (g : Go l Z y code ml ret R Q k n h q Ls st) : Go l Z y code ml ret R Q k n h pc Ls (z :: x :: st) :=
  g.pure fun p e s m args below meth c K T L k' n' X hT t r => Jvm.RoadKit.acmp X K.1 rfl h1 h2 rfl (hb K.2.1 hd) rfl hs ho hq r
theorem Go.acmp_eq {o : Int} {x z : Addr} (q1 q2 : Nat) (hd : decode code pc = .ok (.if_acmp .eq o, 3)) (ho : 0 ≤ (pc : Int) + o) (h1 : ((pc : Int) + o).toNat = q1) (h2 : pc + 3 = q2) (g1 : x = z → Go l Z y code ml ret R Q k n h q1 Ls st) (g2 : ¬ x = z → Go l Z y code ml ret R Q k n h q2 Ls st) : Go l Z y code ml ret R Q k n h pc Ls (.ref z :: .ref x :: st) := by
  subst h1 h2
  by_cases hc : x = z
  · exact Go.acmp _ true hd rfl rfl (by simp [hc]) ho rfl (by simpa [acV] using g1 hc)
  · exact Go.acmp _ false hd rfl rfl (by simp [hc]) ho rfl (by simpa [acV] using g2 hc)
theorem Go.acmp_ne {o : Int} {x z : Addr} (q1 q2 : Nat) (hd : decode code pc = .ok (.if_acmp .ne o, 3)) (ho : 0 ≤ (pc : Int) + o) (h1 : ((pc : Int) + o).toNat = q1) (h2 : pc + 3 = q2) (g1 : ¬ x = z → Go l Z y code ml ret R Q k n h q1 Ls st) (g2 : x = z → Go l Z y code ml ret R Q k n h q2 Ls st) : Go l Z y code ml ret R Q k n h pc Ls (.ref z :: .ref x :: st) := by
  subst h1 h2
  by_cases hc : x = z
  · exact Go.acmp _ true hd rfl rfl (by simp [hc]) ho rfl (by simpa [acV] using g2 hc)
  · exact Go.acmp _ false hd rfl rfl (by simp [hc]) ho rfl (by simpa [acV] using g1 hc)

theorem Go.retV {w : Value} {t : FieldType} {i : Instr} (hd : decode code pc = .ok (i, 1)) (hret : ret = some t) (hn : narrow t w = w)
    (hi : (i = .ireturn ∧ (t = .int ∨ t = .boolean ∨ t = .byte ∨ t = .char ∨ t = .short) ∧ ∃ z, w = .int z) ∨ (i = .lreturn ∧ t = .long ∧ ∃ z, w = .long z) ∨ (i = .dreturn ∧ t = .double ∧ ∃ z, w = .double z) ∨ (i = .freturn ∧ t = .float ∧ ∃ z, w = .float z) ∨ (i = .areturn ∧ t.isReference = true ∧ w.isRef = true))
    (hk : k ≤ R.cells) (hN : n ≤ R.slots) (hQ : Q (some w) h) : Go l Z y code ml ret R Q k n h pc Ls (w :: st) := by
  intro p e s m args below meth c K T L k' n' X h1 h2 N hT
  refine ⟨some w, T, L, k', n', X, Nat.le_trans h1 hk, Nat.le_trans h2 hN, N, hT ▸ hQ, fun e => ?_, fun fs hl => ?_⟩
  · rw [hret] at e; cases e
  · exact retOut X K.1 (K.2.2.2.2.2.1.trans hret) hn hi (hb K.2.1 hd) hl
theorem Go.ireturn {z : Int32} {P : Int32 → Heap → Prop} (hd : decode code pc = .ok (.ireturn, 1)) (hret : ret = some .int) (hk : k ≤ R.cells) (hN : n ≤ R.slots) (hP : P z h) : Go l Z y code ml ret R (QI P) k n h pc Ls (.int z :: st) :=
  Go.retV hd hret rfl (Or.inl ⟨rfl, Or.inl rfl, z, rfl⟩) hk hN ⟨z, rfl, hP⟩
theorem Go.lreturn {z : Int64} {P : Int64 → Heap → Prop} (hd : decode code pc = .ok (.lreturn, 1)) (hret : ret = some .long) (hk : k ≤ R.cells) (hN : n ≤ R.slots) (hP : P z h) : Go l Z y code ml ret R (QJ P) k n h pc Ls (.long z :: st) :=
  Go.retV hd hret rfl (Or.inr (Or.inl ⟨rfl, rfl, z, rfl⟩)) hk hN ⟨z, rfl, hP⟩
theorem Go.areturn {z : Value} {t : FieldType} {P : Value → Heap → Prop} (hd : decode code pc = .ok (.areturn, 1)) (hret : ret = some t) (ht : t.isReference = true) (hz : z.isRef = true) (hk : k ≤ R.cells) (hN : n ≤ R.slots) (hP : P z h) : Go l Z y code ml ret R (QR P) k n h pc Ls (z :: st) := by
  refine Go.retV hd hret ?_ (Or.inr (Or.inr (Or.inr (Or.inr ⟨rfl, ht, hz⟩)))) hk hN ⟨z, rfl, hP⟩
  cases t <;> cases z <;> first | rfl | (simp [Value.isRef] at hz)
/-- a boolean, byte, char or short: narrowed -/
theorem Go.nreturn {z z' : Int32} {t : FieldType} {P : Int32 → Heap → Prop} (hd : decode code pc = .ok (.ireturn, 1)) (hret : ret = some t) (ht : t = .boolean ∨ t = .byte ∨ t = .char ∨ t = .short) (hz : nar t z = z') (hk : k ≤ R.cells) (hN : n ≤ R.slots) (hP : P z' h) : Go l Z y code ml ret R (QI P) k n h pc Ls (.int z :: st) := by
  subst hz
  intro p e s m args below meth c K T L k' n' X h1 h2 N hT
  refine ⟨some (.int (nar t z)), T, L, k', n', X, Nat.le_trans h1 hk, Nat.le_trans h2 hN, N, ⟨_, rfl, hT ▸ hP⟩, fun e => ?_, fun fs hl => ?_⟩
  · rw [hret] at e; cases e
  · exact retN X K.1 (K.2.2.2.2.2.1.trans hret) ht (hb K.2.1 hd) hl
theorem Go.vreturn {P : Heap → Prop} (hd : decode code pc = .ok (.return_, 1)) (hret : ret = none) (hk : k ≤ R.cells) (hN : n ≤ R.slots) (hP : P h) : Go l Z y code ml ret R (QV P) k n h pc Ls [] := by
  intro p e s m args below meth c K T L k' n' X h1 h2 N hT
  exact ⟨none, T, L, k', n', X, Nat.le_trans h1 hk, Nat.le_trans h2 hN, N, ⟨rfl, hT ▸ hP⟩, fun _ => rfl, fun fs hl => X.returnOut K.1 (K.2.2.2.2.2.1.trans hret) (hb K.2.1 hd) hl⟩
/-- the whole body, as a contract -/
theorem Go.met {as' : Array Value} (hx : plainFor y = true) (hent : ∀ m, entryFrame m as' ml = mkF m 0 Ls []) (G : Go l Z y code ml ret R Q 0 0 h 0 Ls []) (ws : List Jvm.Cond) :
    MetFree l y (head1 (Jvm.Cond.code y code ml ret :: ws) R) (fun a U => a = as' ∧ Z.Warmed39 U.vm ∧ U.heap = h) (fun _ _ _ _ _ => True) (fun _ U o U' => ∃ v L, o = .returned v ∧ (Q v U'.heap ∧ Fr Z.heap.size L) ∧ FrameEnd U o U' L R.cells R.slots) := by
  refine MetFree.of_bodySF hx hisR ?_
  intro p e s m args below meth c s₁ Bd hml hP hK
  obtain ⟨rfl, hZ, hh⟩ := hP
  have X0 : Stand p l e R s m args below meth c s₁ [] 0 0 := Stand.of_body Bd
  have e0 : s₁.heap = h := by rw [← hh, Bd.state]; rfl
  have hnm := (name_of_methodNamed Bd.named Bd.method).1
  obtain ⟨v, T', L', k'', n'', X', b1, b2, N', q, hv, stp⟩ := G p e s m args below meth c ⟨Bd.exec, Bd.bytes, hZ, findClass_of_methodNamed Bd.named, hml, Bd.returns, Bd.notSynchronized, hnm⟩ s₁ [] 0 0 X0 (Nat.le_refl _) (Nat.le_refl _) (Fr.nil _) e0
  obtain ⟨fs, hr, hrun, hended, hW, hsame⟩ := X'.leave (v := v) (fun hh => hv (by rw [← Bd.returns]; exact hh))
  refine ⟨_, _, castTop (hent m) (stp fs hr), hrun, hended, v, L', rfl, ⟨q, N'⟩, ⟨_, rfl⟩, hW, hsame.mono b1 b2⟩


theorem Go.getfield {i : Nat} {O nm d : String} {a : Addr} {v : Value} (q : Nat) (hd : decode code pc = .ok (.getfield i, 3)) (w : (Cond.fieldLink y.cls i O nm d).before a0 Z = true) (F : Fld Z h a O nm d v) (hq : pc + 3 = q) (g : Go l Z y code ml ret R Q k n h q Ls (v :: st)) : Go l Z y code ml ret R Q k n h pc Ls (.ref a :: st) := by
  subst hq
  refine Go.move (P := fun h' => h' = h) (kk := k) (nn := n) (fun h' e => e ▸ g) ?_
  intro p e s m args below meth c K T L k' n' X h1 h2 N hT
  obtain ⟨T', X', e', s'⟩ := getF X K.1 K.2.2.1 K.2.2.2.1 (host := "") (Or.inl w) Via.refl hT F (g := mkF m pc Ls (.ref a :: st)) rfl rfl (hb K.2.1 hd)
  exact ⟨T', L, k', n', X', h1, h2, N, e', s'⟩
theorem Go.getfieldN {i : Nat} {O nm d host : String} {a : Addr} {v : Value} (q : Nat) (hd : decode code pc = .ok (.getfield i, 3)) (w : (Cond.fieldLinkNest y.cls i O nm d host).before a0 Z = true) (F : Fld Z h a O nm d v) (hq : pc + 3 = q) (g : Go l Z y code ml ret R Q k n h q Ls (v :: st)) : Go l Z y code ml ret R Q k n h pc Ls (.ref a :: st) := by
  subst hq
  refine Go.move (P := fun h' => h' = h) (kk := k) (nn := n) (fun h' e => e ▸ g) ?_
  intro p e s m args below meth c K T L k' n' X h1 h2 N hT
  obtain ⟨T', X', e', s'⟩ := getF X K.1 K.2.2.1 K.2.2.2.1 (host := host) (Or.inr w) Via.refl hT F (g := mkF m pc Ls (.ref a :: st)) rfl rfl (hb K.2.1 hd)
  exact ⟨T', L, k', n', X', h1, h2, N, e', s'⟩
theorem Go.getfieldU {i : Nat} {R0 O nm d : String} {a : Addr} {v : Value} (q : Nat) (hd : decode code pc = .ok (.getfield i, 3)) (w : (Cond.fieldLink y.cls i R0 nm d).before a0 Z = true) (via : Via Z R0 O nm d) (F : Fld Z h a O nm d v) (hq : pc + 3 = q) (g : Go l Z y code ml ret R Q k n h q Ls (v :: st)) : Go l Z y code ml ret R Q k n h pc Ls (.ref a :: st) := by
  subst hq
  refine Go.move (P := fun h' => h' = h) (kk := k) (nn := n) (fun h' e => e ▸ g) ?_
  intro p e s m args below meth c K T L k' n' X h1 h2 N hT
  obtain ⟨T', X', e', s'⟩ := getF X K.1 K.2.2.1 K.2.2.2.1 (host := "") (Or.inl w) via hT F (g := mkF m pc Ls (.ref a :: st)) rfl rfl (hb K.2.1 hd)
  exact ⟨T', L, k', n', X', h1, h2, N, e', s'⟩
theorem Go.getstatic {i : Nat} {O nm d : String} {v : Value} (q : Nat) (hd : decode code pc = .ok (.getstatic i, 3)) (w : (Cond.fieldLink y.cls i O nm d).before a0 Z = true) (F : Sta Z h O nm d v) (hq : pc + 3 = q) (g : Go l Z y code ml ret R Q k n h q Ls (v :: st)) : Go l Z y code ml ret R Q k n h pc Ls st := by
  subst hq
  refine Go.move (P := fun h' => h' = h) (kk := k) (nn := n) (fun h' e => e ▸ g) ?_
  intro p e s m args below meth c K T L k' n' X h1 h2 N hT
  obtain ⟨T', X', e', s'⟩ := getS X K.1 K.2.2.1 (host := "") K.2.2.2.1 w Via.refl hT F (g := mkF m pc Ls st) rfl (hb K.2.1 hd)
  exact ⟨T', L, k', n', X', h1, h2, N, e', s'⟩
theorem Go.putfield {i kk : Nat} {C O nm d : String} {ty : FieldType} {a : Addr} {v old : Value} (q : Nat) (hd : decode code pc = .ok (.putfield i, 3)) (w : (Cond.fieldLink y.cls i O nm d).before a0 Z = true) (F : Fld Z h a O nm d old) (E : Exa Z h a C) (hL : (Cond.lays C O nm d).before a0 Z = true ∨ ((Cond.laysFinal C O nm d).before a0 Z = true ∧ y.cls = O ∧ y.name = "<init>"))
    (wi : (Cond.instantiable C kk).before a0 Z = true) (hty : parseFieldDescriptor d = some ty) (hn : narrow ty v = v) (hf : fits ty v = true) (hge : Z.heap.size ≤ a) (hq : pc + 3 = q)
    (g : ∀ h', Wr h h' a (Jvm.RoadKit.slotOf Z O nm d) v → Go l Z y code ml ret R Q k n h' q Ls st) : Go l Z y code ml ret R Q k n h pc Ls (v :: .ref a :: st) := by
  subst hq
  refine Go.move (P := fun h' => Wr h h' a (Jvm.RoadKit.slotOf Z O nm d) v) (kk := k) (nn := n) g ?_
  intro p e s m args below meth c K T L k' n' X h1 h2 N hT
  obtain ⟨T', h', X', e', W', s'⟩ := putF X K.1 K.2.2.1 K.2.2.2.1 (host := "") (Or.inl w) Via.refl hT F E (hL.imp id fun ⟨a1, a2, a3⟩ => ⟨a1, a2, K.2.2.2.2.2.2.2.trans a3⟩) wi hty hn hf (g := mkF m pc Ls (v :: .ref a :: st)) rfl rfl (hb K.2.1 hd)
  exact ⟨T', _, k', n', X', h1, h2, Fr.snoc X' N hge, e' ▸ W', s'⟩
theorem Go.putfieldU {i kk : Nat} {R0 C O nm d : String} {ty : FieldType} {a : Addr} {v old : Value} (q : Nat) (hd : decode code pc = .ok (.putfield i, 3)) (w : (Cond.fieldLink y.cls i R0 nm d).before a0 Z = true) (via : Via Z R0 O nm d) (F : Fld Z h a O nm d old) (E : Exa Z h a C) (hL : (Cond.lays C O nm d).before a0 Z = true ∨ ((Cond.laysFinal C O nm d).before a0 Z = true ∧ y.cls = O ∧ y.name = "<init>"))
    (wi : (Cond.instantiable C kk).before a0 Z = true) (hty : parseFieldDescriptor d = some ty) (hn : narrow ty v = v) (hf : fits ty v = true) (hge : Z.heap.size ≤ a) (hq : pc + 3 = q)
    (g : ∀ h', Wr h h' a (Jvm.RoadKit.slotOf Z O nm d) v → Go l Z y code ml ret R Q k n h' q Ls st) : Go l Z y code ml ret R Q k n h pc Ls (v :: .ref a :: st) := by
  subst hq
  refine Go.move (P := fun h' => Wr h h' a (Jvm.RoadKit.slotOf Z O nm d) v) (kk := k) (nn := n) g ?_
  intro p e s m args below meth c K T L k' n' X h1 h2 N hT
  obtain ⟨T', h', X', e', W', s'⟩ := putF X K.1 K.2.2.1 K.2.2.2.1 (host := "") (Or.inl w) via hT F E (hL.imp id fun ⟨a1, a2, a3⟩ => ⟨a1, a2, K.2.2.2.2.2.2.2.trans a3⟩) wi hty hn hf (g := mkF m pc Ls (v :: .ref a :: st)) rfl rfl (hb K.2.1 hd)
  exact ⟨T', _, k', n', X', h1, h2, Fr.snoc X' N hge, e' ▸ W', s'⟩
/-- a field that narrows (boolean, byte, char, short) -/
theorem Go.putfieldN {i kk : Nat} {C O nm d : String} {ty : FieldType} {a : Addr} {v v' old : Value} (q : Nat) (hd : decode code pc = .ok (.putfield i, 3)) (w : (Cond.fieldLink y.cls i O nm d).before a0 Z = true) (F : Fld Z h a O nm d old) (E : Exa Z h a C) (hL : (Cond.lays C O nm d).before a0 Z = true ∨ ((Cond.laysFinal C O nm d).before a0 Z = true ∧ y.cls = O ∧ y.name = "<init>"))
    (wi : (Cond.instantiable C kk).before a0 Z = true) (hty : parseFieldDescriptor d = some ty) (hn : narrow ty v = v') (hf : fits ty v' = true) (hge : Z.heap.size ≤ a) (hq : pc + 3 = q)
    (g : ∀ h', Wr h h' a (Jvm.RoadKit.slotOf Z O nm d) v' → Go l Z y code ml ret R Q k n h' q Ls st) : Go l Z y code ml ret R Q k n h pc Ls (v :: .ref a :: st) := by
  subst hq
  refine Go.move (P := fun h' => Wr h h' a (Jvm.RoadKit.slotOf Z O nm d) v') (kk := k) (nn := n) g ?_
  intro p e s m args below meth c K T L k' n' X h1 h2 N hT
  obtain ⟨T', h', X', e', W', s'⟩ := putFN X K.1 K.2.2.1 K.2.2.2.1 w Via.refl hT F E (hL.imp id fun ⟨a1, a2, a3⟩ => ⟨a1, a2, K.2.2.2.2.2.2.2.trans a3⟩) wi hty hn hf (g := mkF m pc Ls (v :: .ref a :: st)) rfl rfl (hb K.2.1 hd)
  exact ⟨T', _, k', n', X', h1, h2, Fr.snoc X' N hge, e' ▸ W', s'⟩
theorem Go.new {i sz : Nat} {C : String} (q : Nat) (hd : decode code pc = .ok (.new i, 3)) (w : (Cond.classLink y.cls i C).before a0 Z = true) (wi : (Cond.instantiable C sz).before a0 Z = true) (wz : (Cond.initialized C).before a0 Z = true) (hk : k + 1 ≤ R.cells) (hN : n + sz ≤ R.slots) (hq : pc + 3 = q)
    (g : ∀ (a : Addr) h', a = h.size → Ext h h' → Exa Z h' a C → (∀ {O nm d : String} {ty : FieldType}, Laid Z a0 C O nm d → parseFieldDescriptor d = some ty → Fld Z h' a O nm d (defaultValue ty)) → Go l Z y code ml ret R Q (k + 1) (n + sz) h' q Ls (.ref a :: st)) : Go l Z y code ml ret R Q k n h pc Ls st := by
  subst hq
  refine Go.move (P := fun h' => Ext h h' ∧ Exa Z h' h.size C ∧ (∀ {O nm d : String} {ty : FieldType}, Laid Z a0 C O nm d → parseFieldDescriptor d = some ty → Fld Z h' h.size O nm d (defaultValue ty))) (kk := k + 1) (nn := n + sz) (fun h' p => g h.size h' rfl p.1 p.2.1 p.2.2) ?_
  intro p e s m args below meth c K T L k' n' X h1 h2 N hT
  obtain ⟨T', h', X', e', E', A', D', -, s'⟩ := newO X K.1 K.2.2.1 K.2.2.2.1 w wi wz hT (g := mkF m pc Ls st) rfl (hb K.2.1 hd) (Nat.le_trans (Nat.add_le_add_right h1 1) hk) (Nat.le_trans (Nat.add_le_add_right h2 sz) hN)
  subst e'
  exact ⟨T', L, k' + 1, n' + sz, X', Nat.add_le_add_right h1 1, Nat.add_le_add_right h2 sz, N, ⟨E', A', D'⟩, s'⟩
theorem Go.initO {i : Nat} {a : Addr} (W : Nat) (q : Nat) (hd : decode code pc = .ok (.invokespecial i, 3)) (w1 : (Cond.methodLink y.cls i Lib.objectInit).before a0 Z = true) (w2 : (Cond.instanceMethod Lib.objectInit).before a0 Z = true) (w3 : (Cond.code Lib.objectInit ⟨#[0xb1]⟩ 1 none).before a0 Z = true)
    (hsz : Ls.size = ml) (hf : 1 ≤ R.frames) (hW : (st.map fun v => v.category).sum ≤ W) (hl : W + 12 ≤ R.locals) (hq : pc + 3 = q) (g : Go l Z y code ml ret R Q k n h q Ls st) : Go l Z y code ml ret R Q k n h pc Ls (.ref a :: st) := by
  subst hq
  refine Go.move (P := fun h' => h' = h) (kk := k) (nn := n) (fun h' e => e ▸ g) ?_
  intro p e s m args below meth c K T L k' n' X h1 h2 N hT
  obtain ⟨T', X', e', s'⟩ := Jvm.RoadKit.initO X K.1 K.2.2.1 K.2.2.2.1 w1 w2 w3 hT (g := mkF m pc Ls (.ref a :: st)) rfl (hsz.trans K.2.2.2.2.1.symm) rfl (hb K.2.1 hd) hf (W := W) (by show 2 * 0 + _ ≤ _; rw [Nat.mul_zero, Nat.zero_add]; exact hW) hl
  exact ⟨T', L, k', n', X', h1, h2, N, e', s'⟩


section Calls
variable {y' : MethodName} {code' : ByteArray} {ml' : Nat} {ret' : Option FieldType} {R' : Room} {Q' : Option Value → Heap → Prop} {Ls' : Array Slot} {i W : Nat}
theorem Go.callS (argsL : List Value) (rest : List Value) (q : Nat) (hd : decode code pc = .ok (.invokestatic i, 3)) (w1 : (Cond.methodLink y.cls i y').before a0 Z = true) (w2 : (Cond.static y').before a0 Z = true) (w3 : (Cond.initialized y'.cls).before a0 Z = true) (w4 : (Cond.code y' code' ml' ret').before a0 Z = true)
    (hpl : plainFor y' = true) (hy : y'.cls ≠ "java/lang/invoke/MethodHandle" ∧ y'.cls ≠ "java/lang/invoke/VarHandle") (hlen : ∀ sig, parseMethodDescriptor y'.desc = some sig → argsL.length = sig.parameters.length) (hst : st = argsL.reverse ++ rest) (hent : ∀ m, entryFrame m argsL.toArray ml' = mkF m 0 Ls' [])
    (G : Go l Z y' code' ml' ret' R' Q' 0 0 h 0 Ls' []) (W : Nat) (hsz : Ls.size = ml) (hW : (rest.map fun v => v.category).sum ≤ W) (hf : R'.frames + 1 ≤ R.frames) (hl : W + (ml' + 11) + R'.locals ≤ R.locals) (hk : k + R'.cells ≤ R.cells) (hN : n + R'.slots ≤ R.slots) (hq : pc + 3 = q)
    (g : ∀ v h', Q' v h' → Go l Z y code ml ret R Q (k + R'.cells) (n + R'.slots) h' q Ls (v.toList ++ rest)) : Go l Z y code ml ret R Q k n h pc Ls st := by
  subst hq
  intro p e s m args below meth c K T L k' n' X h1 h2 N hT
  obtain ⟨v, vm₁, ⟨T', L', k'', n''⟩, -, X', ⟨Lc, ⟨hQ, N'⟩, e1, e2, e3⟩, s'⟩ := Jvm.LawKit.callS X K.1 K.2.2.2.1 (mvT K.2.2.1 w1) (mvT K.2.2.1 w2) (mvT K.2.2.1 w3) (mvT K.2.2.1 w4) hy (backOf (W := W) (Q := fun v h L => Q' v h ∧ Fr Z.heap.size L) (Go.met hpl hent G []) K.2.2.1 w4 w3 hf hl) (g := mkF m pc Ls st) rfl (hsz.trans K.2.2.2.2.1.symm) (argsL := argsL) (rest := rest) hlen hst (by show 2 * 0 + _ ≤ _; rw [Nat.mul_zero, Nat.zero_add]; exact hW) (hb K.2.1 hd) (fun _ _ => ⟨rfl, hT, Nat.le_trans (Nat.add_le_add_right h1 _) hk, Nat.le_trans (Nat.add_le_add_right h2 _) hN⟩)
  dsimp only [Pt.U, Pt.locs, Pt.cells, Pt.slots] at X' e1 e2 e3 s' hQ
  subst e1 e2 e3
  obtain ⟨v2, T2, L2, k2, n2, X2, b1, b2, N2, q2, hv, stp⟩ := g v _ hQ p e s m args below meth c K T' _ _ _ X' (Nat.add_le_add_right h1 _) (Nat.add_le_add_right h2 _) (Fr.app N N') rfl
  exact ⟨v2, T2, L2, k2, n2, X2, b1, b2, N2, q2, hv, fun fs hl => s' _ (stp fs hl)⟩
theorem Go.callC {a : Addr} (argsL : List Value) (rest : List Value) (q : Nat) (hd : decode code pc = .ok (.invokespecial i, 3)) (hy1 : y'.name = "<init>") (w1 : (Cond.methodLink y.cls i y').before a0 Z = true) (w2 : (Cond.instanceMethod y').before a0 Z = true) (w3 : (Cond.initialized y'.cls).before a0 Z = true) (w4 : (Cond.code y' code' ml' none).before a0 Z = true)
    (hpl : plainFor y' = true) (hy : y'.cls ≠ "java/lang/invoke/MethodHandle" ∧ y'.cls ≠ "java/lang/invoke/VarHandle") (hlen : ∀ sig, parseMethodDescriptor y'.desc = some sig → argsL.length = sig.parameters.length) (hst : st = argsL.reverse ++ .ref a :: rest) (hent : ∀ m, entryFrame m (.ref a :: argsL).toArray ml' = mkF m 0 Ls' [])
    (P' : Heap → Prop) (G : Go l Z y' code' ml' none R' (QV P') 0 0 h 0 Ls' []) (W : Nat) (hsz : Ls.size = ml) (hW : (rest.map fun v => v.category).sum ≤ W) (hf : R'.frames + 1 ≤ R.frames) (hl : W + (ml' + 11) + R'.locals ≤ R.locals) (hk : k + R'.cells ≤ R.cells) (hN : n + R'.slots ≤ R.slots) (hq : pc + 3 = q)
    (g : ∀ h', P' h' → Go l Z y code ml ret R Q (k + R'.cells) (n + R'.slots) h' q Ls rest) : Go l Z y code ml ret R Q k n h pc Ls st := by
  subst hq
  intro p e s m args below meth c K T L k' n' X h1 h2 N hT
  obtain ⟨v, vm₁, ⟨T', L', k'', n''⟩, -, X', ⟨Lc, ⟨⟨rfl, hQ⟩, N'⟩, e1, e2, e3⟩, s'⟩ := X.specialBack K.1 hy1 K.2.2.2.1 (mvT K.2.2.1 w1) (mvT K.2.2.1 w2) (mvT K.2.2.1 w4) hy (backOf (W := W) (Q := fun v h L => QV P' v h ∧ Fr Z.heap.size L) (Go.met hpl hent G []) K.2.2.1 w4 w3 hf hl) (g := mkF m pc Ls st) rfl (hsz.trans K.2.2.2.2.1.symm) (Steps.refl _) (a := a) (argsL := argsL) (rest := rest) hlen hst (by show 2 * 0 + _ ≤ _; rw [Nat.mul_zero, Nat.zero_add]; exact hW) (hb K.2.1 hd) (fun _ _ => ⟨rfl, hT, Nat.le_trans (Nat.add_le_add_right h1 _) hk, Nat.le_trans (Nat.add_le_add_right h2 _) hN⟩)
  dsimp only [Pt.U, Pt.locs, Pt.cells, Pt.slots] at X' e1 e2 e3 s' hQ
  subst e1 e2 e3
  obtain ⟨v2, T2, L2, k2, n2, X2, b1, b2, N2, q2, hv, stp⟩ := g _ hQ p e s m args below meth c K T' _ _ _ X' (Nat.add_le_add_right h1 _) (Nat.add_le_add_right h2 _) (Fr.app N N') rfl
  exact ⟨v2, T2, L2, k2, n2, X2, b1, b2, N2, q2, hv, fun fs hl => s'.trans (stp fs hl)⟩
theorem Go.callV {a : Addr} {C : String} (argsL : List Value) (rest : List Value) (q : Nat) (hd : decode code pc = .ok (.invokevirtual i, 3)) (w1 : (Cond.methodLink y.cls i y').before a0 Z = true) (w1' : (Cond.declares y').before a0 Z = true) (w1s : (Cond.selects C y' y').before a0 Z = true) (w2 : (Cond.instanceMethod y').before a0 Z = true) (w3 : (Cond.initialized y'.cls).before a0 Z = true) (w4 : (Cond.code y' code' ml' ret').before a0 Z = true) (E : Exa Z h a C)
    (hpl : plainFor y' = true) (hy : y'.cls ≠ "java/lang/invoke/MethodHandle" ∧ y'.cls ≠ "java/lang/invoke/VarHandle") (hlen : ∀ sig, parseMethodDescriptor y'.desc = some sig → argsL.length = sig.parameters.length) (hst : st = argsL.reverse ++ .ref a :: rest) (hent : ∀ m, entryFrame m (.ref a :: argsL).toArray ml' = mkF m 0 Ls' [])
    (G : Go l Z y' code' ml' ret' R' Q' 0 0 h 0 Ls' []) (W : Nat) (hsz : Ls.size = ml) (hW : (rest.map fun v => v.category).sum ≤ W) (hf : R'.frames + 1 ≤ R.frames) (hl : W + (ml' + 11) + R'.locals ≤ R.locals) (hk : k + R'.cells ≤ R.cells) (hN : n + R'.slots ≤ R.slots) (hq : pc + 3 = q)
    (g : ∀ v h', Q' v h' → Go l Z y code ml ret R Q (k + R'.cells) (n + R'.slots) h' q Ls (v.toList ++ rest)) : Go l Z y code ml ret R Q k n h pc Ls st := by
  subst hq
  intro p e s m args below meth c K T L k' n' X h1 h2 N hT
  obtain ⟨cq, kq, qa, qb, qc⟩ := isOf K.2.2.1 hT E
  obtain ⟨v, vm₁, ⟨T', L', k'', n''⟩, -, X', ⟨Lc, ⟨hQ, N'⟩, e1, e2, e3⟩, s'⟩ := X.virtualBack K.1 K.2.2.2.1 (mvT K.2.2.1 w1) (mvT K.2.2.1 w1') (notFace_of_selects (args := #[]) (mvT K.2.2.1 w1s)) (mvT K.2.2.1 w1s) (mvT K.2.2.1 w2) hy (backOf (W := W) (Q := fun v h L => Q' v h ∧ Fr Z.heap.size L) (Go.met hpl hent G []) K.2.2.1 w4 w3 hf hl) qa qc (g := mkF m pc Ls st) rfl (hsz.trans K.2.2.2.2.1.symm) (Steps.refl _) (argsL := argsL) (rest := rest) hlen hst (by show 2 * 0 + _ ≤ _; rw [Nat.mul_zero, Nat.zero_add]; exact hW) (hb K.2.1 hd) (fun _ _ => ⟨rfl, hT, Nat.le_trans (Nat.add_le_add_right h1 _) hk, Nat.le_trans (Nat.add_le_add_right h2 _) hN⟩)
  dsimp only [Pt.U, Pt.locs, Pt.cells, Pt.slots] at X' e1 e2 e3 s' hQ
  subst e1 e2 e3
  obtain ⟨v2, T2, L2, k2, n2, X2, b1, b2, N2, q2, hv, stp⟩ := g v _ hQ p e s m args below meth c K T' _ _ _ X' (Nat.add_le_add_right h1 _) (Nat.add_le_add_right h2 _) (Fr.app N N') rfl
  exact ⟨v2, T2, L2, k2, n2, X2, b1, b2, N2, q2, hv, fun fs hl => s'.trans (stp fs hl)⟩
theorem Go.callCp {a : Addr} (argsL : List Value) (rest : List Value) (q : Nat) (hd : decode code pc = .ok (.invokespecial i, 3)) (hy1 : y'.name = "<init>") (w1 : (Cond.methodLink y.cls i y').before a0 Z = true) (w2 : (Cond.instanceMethod y').before a0 Z = true) (w3 : (Cond.initialized y'.cls).before a0 Z = true) (w4 : (Cond.code y' code' ml' none).before a0 Z = true)
    (hpl : plainFor y' = true) (hy : y'.cls ≠ "java/lang/invoke/MethodHandle" ∧ y'.cls ≠ "java/lang/invoke/VarHandle") (hlen : ∀ sig, parseMethodDescriptor y'.desc = some sig → argsL.length = sig.parameters.length) (hst : st = argsL.reverse ++ .ref a :: rest) (hent : ∀ m, entryFrame m (.ref a :: argsL).toArray ml' = mkF m 0 Ls' [])
    (G : Go l Z y' code' ml' none R' (QV fun h' => h' = h) 0 0 h 0 Ls' []) (W : Nat) (hsz : Ls.size = ml) (hW : (rest.map fun v => v.category).sum ≤ W) (hf : R'.frames + 1 ≤ R.frames) (hl : W + (ml' + 11) + R'.locals ≤ R.locals) (hk : k + R'.cells ≤ R.cells) (hN : n + R'.slots ≤ R.slots) (hq : pc + 3 = q)
    (g : Go l Z y code ml ret R Q (k + R'.cells) (n + R'.slots) h q Ls rest) : Go l Z y code ml ret R Q k n h pc Ls st :=
  Go.callC argsL rest q hd hy1 w1 w2 w3 w4 hpl hy hlen hst hent _ G W hsz hW hf hl hk hN hq (fun h' e => by subst e; exact g)
end Calls

section
variable {y' : MethodName} {code' : ByteArray} {ml' : Nat} {ret' : Option FieldType} {R' : Room} {Ls' : Array Slot} {i : Nat}
theorem Go.callSI (argsL : List Value) (rest : List Value) (q : Nat) (hd : decode code pc = .ok (.invokestatic i, 3)) (w1 : (Cond.methodLink y.cls i y').before a0 Z = true) (w2 : (Cond.static y').before a0 Z = true) (w3 : (Cond.initialized y'.cls).before a0 Z = true) (w4 : (Cond.code y' code' ml' ret').before a0 Z = true)
    (hpl : plainFor y' = true) (hy : y'.cls ≠ "java/lang/invoke/MethodHandle" ∧ y'.cls ≠ "java/lang/invoke/VarHandle") (hlen : ∀ sig, parseMethodDescriptor y'.desc = some sig → argsL.length = sig.parameters.length) (hst : st = argsL.reverse ++ rest) (hent : ∀ m, entryFrame m argsL.toArray ml' = mkF m 0 Ls' [])
    (P' : Int32 → Heap → Prop) (G : Go l Z y' code' ml' ret' R' (QI P') 0 0 h 0 Ls' []) (W : Nat) (hsz : Ls.size = ml) (hW : (rest.map fun v => v.category).sum ≤ W) (hf : R'.frames + 1 ≤ R.frames) (hl : W + (ml' + 11) + R'.locals ≤ R.locals) (hk : k + R'.cells ≤ R.cells) (hN : n + R'.slots ≤ R.slots) (hq : pc + 3 = q)
    (g : ∀ (z : Int32) h', P' z h' → Go l Z y code ml ret R Q (k + R'.cells) (n + R'.slots) h' q Ls (.int z :: rest)) : Go l Z y code ml ret R Q k n h pc Ls st := by
  exact Go.callS argsL rest q hd w1 w2 w3 w4 hpl hy hlen hst hent G W hsz hW hf hl hk hN hq (fun v h' hq' => by obtain ⟨z, e, hp⟩ := hq'; subst e; exact g z h' hp)
end
section
variable {y' : MethodName} {code' : ByteArray} {ml' : Nat} {ret' : Option FieldType} {R' : Room} {Ls' : Array Slot} {i : Nat}
theorem Go.callSIp (argsL : List Value) (rest : List Value) (q : Nat) (hd : decode code pc = .ok (.invokestatic i, 3)) (w1 : (Cond.methodLink y.cls i y').before a0 Z = true) (w2 : (Cond.static y').before a0 Z = true) (w3 : (Cond.initialized y'.cls).before a0 Z = true) (w4 : (Cond.code y' code' ml' ret').before a0 Z = true)
    (hpl : plainFor y' = true) (hy : y'.cls ≠ "java/lang/invoke/MethodHandle" ∧ y'.cls ≠ "java/lang/invoke/VarHandle") (hlen : ∀ sig, parseMethodDescriptor y'.desc = some sig → argsL.length = sig.parameters.length) (hst : st = argsL.reverse ++ rest) (hent : ∀ m, entryFrame m argsL.toArray ml' = mkF m 0 Ls' [])
    (F : Int32) (G : Go l Z y' code' ml' ret' R' (QI fun z h' => z = F ∧ h' = h) 0 0 h 0 Ls' []) (W : Nat) (hsz : Ls.size = ml) (hW : (rest.map fun v => v.category).sum ≤ W) (hf : R'.frames + 1 ≤ R.frames) (hl : W + (ml' + 11) + R'.locals ≤ R.locals) (hk : k + R'.cells ≤ R.cells) (hN : n + R'.slots ≤ R.slots) (hq : pc + 3 = q)
    (g : Go l Z y code ml ret R Q (k + R'.cells) (n + R'.slots) h q Ls (.int F :: rest)) : Go l Z y code ml ret R Q k n h pc Ls st := by
  exact Go.callS argsL rest q hd w1 w2 w3 w4 hpl hy hlen hst hent G W hsz hW hf hl hk hN hq (fun v h' hq' => by obtain ⟨z, e, hp, hh⟩ := hq'; subst e; subst hh; rw [hp]; exact g)
end
section
variable {y' : MethodName} {code' : ByteArray} {ml' : Nat} {ret' : Option FieldType} {R' : Room} {Ls' : Array Slot} {i : Nat}
theorem Go.callSIe (argsL : List Value) (rest : List Value) (q : Nat) (hd : decode code pc = .ok (.invokestatic i, 3)) (w1 : (Cond.methodLink y.cls i y').before a0 Z = true) (w2 : (Cond.static y').before a0 Z = true) (w3 : (Cond.initialized y'.cls).before a0 Z = true) (w4 : (Cond.code y' code' ml' ret').before a0 Z = true)
    (hpl : plainFor y' = true) (hy : y'.cls ≠ "java/lang/invoke/MethodHandle" ∧ y'.cls ≠ "java/lang/invoke/VarHandle") (hlen : ∀ sig, parseMethodDescriptor y'.desc = some sig → argsL.length = sig.parameters.length) (hst : st = argsL.reverse ++ rest) (hent : ∀ m, entryFrame m argsL.toArray ml' = mkF m 0 Ls' [])
    (F : Int32) (P' : Heap → Prop) (G : Go l Z y' code' ml' ret' R' (QI fun z h' => z = F ∧ P' h') 0 0 h 0 Ls' []) (W : Nat) (hsz : Ls.size = ml) (hW : (rest.map fun v => v.category).sum ≤ W) (hf : R'.frames + 1 ≤ R.frames) (hl : W + (ml' + 11) + R'.locals ≤ R.locals) (hk : k + R'.cells ≤ R.cells) (hN : n + R'.slots ≤ R.slots) (hq : pc + 3 = q)
    (g : ∀ h', P' h' → Go l Z y code ml ret R Q (k + R'.cells) (n + R'.slots) h' q Ls (.int F :: rest)) : Go l Z y code ml ret R Q k n h pc Ls st := by
  exact Go.callS argsL rest q hd w1 w2 w3 w4 hpl hy hlen hst hent G W hsz hW hf hl hk hN hq (fun v h' hq' => by obtain ⟨z, e, hp, hh⟩ := hq'; subst e; rw [hp]; exact g h' hh)
end
section
variable {y' : MethodName} {code' : ByteArray} {ml' : Nat} {ret' : Option FieldType} {R' : Room} {Ls' : Array Slot} {i : Nat}
theorem Go.callSJ (argsL : List Value) (rest : List Value) (q : Nat) (hd : decode code pc = .ok (.invokestatic i, 3)) (w1 : (Cond.methodLink y.cls i y').before a0 Z = true) (w2 : (Cond.static y').before a0 Z = true) (w3 : (Cond.initialized y'.cls).before a0 Z = true) (w4 : (Cond.code y' code' ml' ret').before a0 Z = true)
    (hpl : plainFor y' = true) (hy : y'.cls ≠ "java/lang/invoke/MethodHandle" ∧ y'.cls ≠ "java/lang/invoke/VarHandle") (hlen : ∀ sig, parseMethodDescriptor y'.desc = some sig → argsL.length = sig.parameters.length) (hst : st = argsL.reverse ++ rest) (hent : ∀ m, entryFrame m argsL.toArray ml' = mkF m 0 Ls' [])
    (P' : Int64 → Heap → Prop) (G : Go l Z y' code' ml' ret' R' (QJ P') 0 0 h 0 Ls' []) (W : Nat) (hsz : Ls.size = ml) (hW : (rest.map fun v => v.category).sum ≤ W) (hf : R'.frames + 1 ≤ R.frames) (hl : W + (ml' + 11) + R'.locals ≤ R.locals) (hk : k + R'.cells ≤ R.cells) (hN : n + R'.slots ≤ R.slots) (hq : pc + 3 = q)
    (g : ∀ (z : Int64) h', P' z h' → Go l Z y code ml ret R Q (k + R'.cells) (n + R'.slots) h' q Ls (.long z :: rest)) : Go l Z y code ml ret R Q k n h pc Ls st := by
  exact Go.callS argsL rest q hd w1 w2 w3 w4 hpl hy hlen hst hent G W hsz hW hf hl hk hN hq (fun v h' hq' => by obtain ⟨z, e, hp⟩ := hq'; subst e; exact g z h' hp)
end
section
variable {y' : MethodName} {code' : ByteArray} {ml' : Nat} {ret' : Option FieldType} {R' : Room} {Ls' : Array Slot} {i : Nat}
theorem Go.callSJp (argsL : List Value) (rest : List Value) (q : Nat) (hd : decode code pc = .ok (.invokestatic i, 3)) (w1 : (Cond.methodLink y.cls i y').before a0 Z = true) (w2 : (Cond.static y').before a0 Z = true) (w3 : (Cond.initialized y'.cls).before a0 Z = true) (w4 : (Cond.code y' code' ml' ret').before a0 Z = true)
    (hpl : plainFor y' = true) (hy : y'.cls ≠ "java/lang/invoke/MethodHandle" ∧ y'.cls ≠ "java/lang/invoke/VarHandle") (hlen : ∀ sig, parseMethodDescriptor y'.desc = some sig → argsL.length = sig.parameters.length) (hst : st = argsL.reverse ++ rest) (hent : ∀ m, entryFrame m argsL.toArray ml' = mkF m 0 Ls' [])
    (F : Int64) (G : Go l Z y' code' ml' ret' R' (QJ fun z h' => z = F ∧ h' = h) 0 0 h 0 Ls' []) (W : Nat) (hsz : Ls.size = ml) (hW : (rest.map fun v => v.category).sum ≤ W) (hf : R'.frames + 1 ≤ R.frames) (hl : W + (ml' + 11) + R'.locals ≤ R.locals) (hk : k + R'.cells ≤ R.cells) (hN : n + R'.slots ≤ R.slots) (hq : pc + 3 = q)
    (g : Go l Z y code ml ret R Q (k + R'.cells) (n + R'.slots) h q Ls (.long F :: rest)) : Go l Z y code ml ret R Q k n h pc Ls st := by
  exact Go.callS argsL rest q hd w1 w2 w3 w4 hpl hy hlen hst hent G W hsz hW hf hl hk hN hq (fun v h' hq' => by obtain ⟨z, e, hp, hh⟩ := hq'; subst e; subst hh; rw [hp]; exact g)
end
section
variable {y' : MethodName} {code' : ByteArray} {ml' : Nat} {ret' : Option FieldType} {R' : Room} {Ls' : Array Slot} {i : Nat}
theorem Go.callSJe (argsL : List Value) (rest : List Value) (q : Nat) (hd : decode code pc = .ok (.invokestatic i, 3)) (w1 : (Cond.methodLink y.cls i y').before a0 Z = true) (w2 : (Cond.static y').before a0 Z = true) (w3 : (Cond.initialized y'.cls).before a0 Z = true) (w4 : (Cond.code y' code' ml' ret').before a0 Z = true)
    (hpl : plainFor y' = true) (hy : y'.cls ≠ "java/lang/invoke/MethodHandle" ∧ y'.cls ≠ "java/lang/invoke/VarHandle") (hlen : ∀ sig, parseMethodDescriptor y'.desc = some sig → argsL.length = sig.parameters.length) (hst : st = argsL.reverse ++ rest) (hent : ∀ m, entryFrame m argsL.toArray ml' = mkF m 0 Ls' [])
    (F : Int64) (P' : Heap → Prop) (G : Go l Z y' code' ml' ret' R' (QJ fun z h' => z = F ∧ P' h') 0 0 h 0 Ls' []) (W : Nat) (hsz : Ls.size = ml) (hW : (rest.map fun v => v.category).sum ≤ W) (hf : R'.frames + 1 ≤ R.frames) (hl : W + (ml' + 11) + R'.locals ≤ R.locals) (hk : k + R'.cells ≤ R.cells) (hN : n + R'.slots ≤ R.slots) (hq : pc + 3 = q)
    (g : ∀ h', P' h' → Go l Z y code ml ret R Q (k + R'.cells) (n + R'.slots) h' q Ls (.long F :: rest)) : Go l Z y code ml ret R Q k n h pc Ls st := by
  exact Go.callS argsL rest q hd w1 w2 w3 w4 hpl hy hlen hst hent G W hsz hW hf hl hk hN hq (fun v h' hq' => by obtain ⟨z, e, hp, hh⟩ := hq'; subst e; rw [hp]; exact g h' hh)
end
section
variable {y' : MethodName} {code' : ByteArray} {ml' : Nat} {ret' : Option FieldType} {R' : Room} {Ls' : Array Slot} {i : Nat}
theorem Go.callSR (argsL : List Value) (rest : List Value) (q : Nat) (hd : decode code pc = .ok (.invokestatic i, 3)) (w1 : (Cond.methodLink y.cls i y').before a0 Z = true) (w2 : (Cond.static y').before a0 Z = true) (w3 : (Cond.initialized y'.cls).before a0 Z = true) (w4 : (Cond.code y' code' ml' ret').before a0 Z = true)
    (hpl : plainFor y' = true) (hy : y'.cls ≠ "java/lang/invoke/MethodHandle" ∧ y'.cls ≠ "java/lang/invoke/VarHandle") (hlen : ∀ sig, parseMethodDescriptor y'.desc = some sig → argsL.length = sig.parameters.length) (hst : st = argsL.reverse ++ rest) (hent : ∀ m, entryFrame m argsL.toArray ml' = mkF m 0 Ls' [])
    (P' : Value → Heap → Prop) (G : Go l Z y' code' ml' ret' R' (QR P') 0 0 h 0 Ls' []) (W : Nat) (hsz : Ls.size = ml) (hW : (rest.map fun v => v.category).sum ≤ W) (hf : R'.frames + 1 ≤ R.frames) (hl : W + (ml' + 11) + R'.locals ≤ R.locals) (hk : k + R'.cells ≤ R.cells) (hN : n + R'.slots ≤ R.slots) (hq : pc + 3 = q)
    (g : ∀ (z : Value) h', P' z h' → Go l Z y code ml ret R Q (k + R'.cells) (n + R'.slots) h' q Ls ( z :: rest)) : Go l Z y code ml ret R Q k n h pc Ls st := by
  exact Go.callS argsL rest q hd w1 w2 w3 w4 hpl hy hlen hst hent G W hsz hW hf hl hk hN hq (fun v h' hq' => by obtain ⟨z, e, hp⟩ := hq'; subst e; exact g z h' hp)
end
section
variable {y' : MethodName} {code' : ByteArray} {ml' : Nat} {ret' : Option FieldType} {R' : Room} {Ls' : Array Slot} {i : Nat}
theorem Go.callSRp (argsL : List Value) (rest : List Value) (q : Nat) (hd : decode code pc = .ok (.invokestatic i, 3)) (w1 : (Cond.methodLink y.cls i y').before a0 Z = true) (w2 : (Cond.static y').before a0 Z = true) (w3 : (Cond.initialized y'.cls).before a0 Z = true) (w4 : (Cond.code y' code' ml' ret').before a0 Z = true)
    (hpl : plainFor y' = true) (hy : y'.cls ≠ "java/lang/invoke/MethodHandle" ∧ y'.cls ≠ "java/lang/invoke/VarHandle") (hlen : ∀ sig, parseMethodDescriptor y'.desc = some sig → argsL.length = sig.parameters.length) (hst : st = argsL.reverse ++ rest) (hent : ∀ m, entryFrame m argsL.toArray ml' = mkF m 0 Ls' [])
    (F : Value) (G : Go l Z y' code' ml' ret' R' (QR fun z h' => z = F ∧ h' = h) 0 0 h 0 Ls' []) (W : Nat) (hsz : Ls.size = ml) (hW : (rest.map fun v => v.category).sum ≤ W) (hf : R'.frames + 1 ≤ R.frames) (hl : W + (ml' + 11) + R'.locals ≤ R.locals) (hk : k + R'.cells ≤ R.cells) (hN : n + R'.slots ≤ R.slots) (hq : pc + 3 = q)
    (g : Go l Z y code ml ret R Q (k + R'.cells) (n + R'.slots) h q Ls ( F :: rest)) : Go l Z y code ml ret R Q k n h pc Ls st := by
  exact Go.callS argsL rest q hd w1 w2 w3 w4 hpl hy hlen hst hent G W hsz hW hf hl hk hN hq (fun v h' hq' => by obtain ⟨z, e, hp, hh⟩ := hq'; subst e; subst hh; rw [hp]; exact g)
end
section
variable {y' : MethodName} {code' : ByteArray} {ml' : Nat} {ret' : Option FieldType} {R' : Room} {Ls' : Array Slot} {i : Nat}
theorem Go.callSRe (argsL : List Value) (rest : List Value) (q : Nat) (hd : decode code pc = .ok (.invokestatic i, 3)) (w1 : (Cond.methodLink y.cls i y').before a0 Z = true) (w2 : (Cond.static y').before a0 Z = true) (w3 : (Cond.initialized y'.cls).before a0 Z = true) (w4 : (Cond.code y' code' ml' ret').before a0 Z = true)
    (hpl : plainFor y' = true) (hy : y'.cls ≠ "java/lang/invoke/MethodHandle" ∧ y'.cls ≠ "java/lang/invoke/VarHandle") (hlen : ∀ sig, parseMethodDescriptor y'.desc = some sig → argsL.length = sig.parameters.length) (hst : st = argsL.reverse ++ rest) (hent : ∀ m, entryFrame m argsL.toArray ml' = mkF m 0 Ls' [])
    (F : Value) (P' : Heap → Prop) (G : Go l Z y' code' ml' ret' R' (QR fun z h' => z = F ∧ P' h') 0 0 h 0 Ls' []) (W : Nat) (hsz : Ls.size = ml) (hW : (rest.map fun v => v.category).sum ≤ W) (hf : R'.frames + 1 ≤ R.frames) (hl : W + (ml' + 11) + R'.locals ≤ R.locals) (hk : k + R'.cells ≤ R.cells) (hN : n + R'.slots ≤ R.slots) (hq : pc + 3 = q)
    (g : ∀ h', P' h' → Go l Z y code ml ret R Q (k + R'.cells) (n + R'.slots) h' q Ls ( F :: rest)) : Go l Z y code ml ret R Q k n h pc Ls st := by
  exact Go.callS argsL rest q hd w1 w2 w3 w4 hpl hy hlen hst hent G W hsz hW hf hl hk hN hq (fun v h' hq' => by obtain ⟨z, e, hp, hh⟩ := hq'; subst e; rw [hp]; exact g h' hh)
end
section
variable {y' : MethodName} {code' : ByteArray} {ml' : Nat} {ret' : Option FieldType} {R' : Room} {Ls' : Array Slot} {i : Nat}
theorem Go.callSV (argsL : List Value) (rest : List Value) (q : Nat) (hd : decode code pc = .ok (.invokestatic i, 3)) (w1 : (Cond.methodLink y.cls i y').before a0 Z = true) (w2 : (Cond.static y').before a0 Z = true) (w3 : (Cond.initialized y'.cls).before a0 Z = true) (w4 : (Cond.code y' code' ml' ret').before a0 Z = true)
    (hpl : plainFor y' = true) (hy : y'.cls ≠ "java/lang/invoke/MethodHandle" ∧ y'.cls ≠ "java/lang/invoke/VarHandle") (hlen : ∀ sig, parseMethodDescriptor y'.desc = some sig → argsL.length = sig.parameters.length) (hst : st = argsL.reverse ++ rest) (hent : ∀ m, entryFrame m argsL.toArray ml' = mkF m 0 Ls' [])
    (P' : Heap → Prop) (G : Go l Z y' code' ml' ret' R' (QV P') 0 0 h 0 Ls' []) (W : Nat) (hsz : Ls.size = ml) (hW : (rest.map fun v => v.category).sum ≤ W) (hf : R'.frames + 1 ≤ R.frames) (hl : W + (ml' + 11) + R'.locals ≤ R.locals) (hk : k + R'.cells ≤ R.cells) (hN : n + R'.slots ≤ R.slots) (hq : pc + 3 = q)
    (g : ∀ h', P' h' → Go l Z y code ml ret R Q (k + R'.cells) (n + R'.slots) h' q Ls rest) : Go l Z y code ml ret R Q k n h pc Ls st := by
  exact Go.callS argsL rest q hd w1 w2 w3 w4 hpl hy hlen hst hent G W hsz hW hf hl hk hN hq (fun v h' hq' => by obtain ⟨e, hp⟩ := hq'; subst e; exact g h' hp)
end
section
variable {y' : MethodName} {code' : ByteArray} {ml' : Nat} {ret' : Option FieldType} {R' : Room} {Ls' : Array Slot} {i : Nat}
theorem Go.callSVp (argsL : List Value) (rest : List Value) (q : Nat) (hd : decode code pc = .ok (.invokestatic i, 3)) (w1 : (Cond.methodLink y.cls i y').before a0 Z = true) (w2 : (Cond.static y').before a0 Z = true) (w3 : (Cond.initialized y'.cls).before a0 Z = true) (w4 : (Cond.code y' code' ml' ret').before a0 Z = true)
    (hpl : plainFor y' = true) (hy : y'.cls ≠ "java/lang/invoke/MethodHandle" ∧ y'.cls ≠ "java/lang/invoke/VarHandle") (hlen : ∀ sig, parseMethodDescriptor y'.desc = some sig → argsL.length = sig.parameters.length) (hst : st = argsL.reverse ++ rest) (hent : ∀ m, entryFrame m argsL.toArray ml' = mkF m 0 Ls' [])
    (G : Go l Z y' code' ml' ret' R' (QV fun h' => h' = h) 0 0 h 0 Ls' []) (W : Nat) (hsz : Ls.size = ml) (hW : (rest.map fun v => v.category).sum ≤ W) (hf : R'.frames + 1 ≤ R.frames) (hl : W + (ml' + 11) + R'.locals ≤ R.locals) (hk : k + R'.cells ≤ R.cells) (hN : n + R'.slots ≤ R.slots) (hq : pc + 3 = q)
    (g : Go l Z y code ml ret R Q (k + R'.cells) (n + R'.slots) h q Ls rest) : Go l Z y code ml ret R Q k n h pc Ls st := by
  exact Go.callS argsL rest q hd w1 w2 w3 w4 hpl hy hlen hst hent G W hsz hW hf hl hk hN hq (fun v h' hq' => by obtain ⟨e, hp⟩ := hq'; subst e; subst hp; exact g)
end
section
variable {y' : MethodName} {code' : ByteArray} {ml' : Nat} {ret' : Option FieldType} {R' : Room} {Ls' : Array Slot} {i : Nat}
theorem Go.callVI {a : Addr} {C : String} (argsL : List Value) (rest : List Value) (q : Nat) (hd : decode code pc = .ok (.invokevirtual i, 3)) (w1 : (Cond.methodLink y.cls i y').before a0 Z = true) (w1' : (Cond.declares y').before a0 Z = true) (w1s : (Cond.selects C y' y').before a0 Z = true) (w2 : (Cond.instanceMethod y').before a0 Z = true) (w3 : (Cond.initialized y'.cls).before a0 Z = true) (w4 : (Cond.code y' code' ml' ret').before a0 Z = true) (E : Exa Z h a C)
    (hpl : plainFor y' = true) (hy : y'.cls ≠ "java/lang/invoke/MethodHandle" ∧ y'.cls ≠ "java/lang/invoke/VarHandle") (hlen : ∀ sig, parseMethodDescriptor y'.desc = some sig → argsL.length = sig.parameters.length) (hst : st = argsL.reverse ++ .ref a :: rest) (hent : ∀ m, entryFrame m (.ref a :: argsL).toArray ml' = mkF m 0 Ls' [])
    (P' : Int32 → Heap → Prop) (G : Go l Z y' code' ml' ret' R' (QI P') 0 0 h 0 Ls' []) (W : Nat) (hsz : Ls.size = ml) (hW : (rest.map fun v => v.category).sum ≤ W) (hf : R'.frames + 1 ≤ R.frames) (hl : W + (ml' + 11) + R'.locals ≤ R.locals) (hk : k + R'.cells ≤ R.cells) (hN : n + R'.slots ≤ R.slots) (hq : pc + 3 = q)
    (g : ∀ (z : Int32) h', P' z h' → Go l Z y code ml ret R Q (k + R'.cells) (n + R'.slots) h' q Ls (.int z :: rest)) : Go l Z y code ml ret R Q k n h pc Ls st := by
  exact Go.callV argsL rest q hd w1 w1' w1s w2 w3 w4 E hpl hy hlen hst hent G W hsz hW hf hl hk hN hq (fun v h' hq' => by obtain ⟨z, e, hp⟩ := hq'; subst e; exact g z h' hp)
end
section
variable {y' : MethodName} {code' : ByteArray} {ml' : Nat} {ret' : Option FieldType} {R' : Room} {Ls' : Array Slot} {i : Nat}
theorem Go.callVIp {a : Addr} {C : String} (argsL : List Value) (rest : List Value) (q : Nat) (hd : decode code pc = .ok (.invokevirtual i, 3)) (w1 : (Cond.methodLink y.cls i y').before a0 Z = true) (w1' : (Cond.declares y').before a0 Z = true) (w1s : (Cond.selects C y' y').before a0 Z = true) (w2 : (Cond.instanceMethod y').before a0 Z = true) (w3 : (Cond.initialized y'.cls).before a0 Z = true) (w4 : (Cond.code y' code' ml' ret').before a0 Z = true) (E : Exa Z h a C)
    (hpl : plainFor y' = true) (hy : y'.cls ≠ "java/lang/invoke/MethodHandle" ∧ y'.cls ≠ "java/lang/invoke/VarHandle") (hlen : ∀ sig, parseMethodDescriptor y'.desc = some sig → argsL.length = sig.parameters.length) (hst : st = argsL.reverse ++ .ref a :: rest) (hent : ∀ m, entryFrame m (.ref a :: argsL).toArray ml' = mkF m 0 Ls' [])
    (F : Int32) (G : Go l Z y' code' ml' ret' R' (QI fun z h' => z = F ∧ h' = h) 0 0 h 0 Ls' []) (W : Nat) (hsz : Ls.size = ml) (hW : (rest.map fun v => v.category).sum ≤ W) (hf : R'.frames + 1 ≤ R.frames) (hl : W + (ml' + 11) + R'.locals ≤ R.locals) (hk : k + R'.cells ≤ R.cells) (hN : n + R'.slots ≤ R.slots) (hq : pc + 3 = q)
    (g : Go l Z y code ml ret R Q (k + R'.cells) (n + R'.slots) h q Ls (.int F :: rest)) : Go l Z y code ml ret R Q k n h pc Ls st := by
  exact Go.callV argsL rest q hd w1 w1' w1s w2 w3 w4 E hpl hy hlen hst hent G W hsz hW hf hl hk hN hq (fun v h' hq' => by obtain ⟨z, e, hp, hh⟩ := hq'; subst e; subst hh; rw [hp]; exact g)
end
section
variable {y' : MethodName} {code' : ByteArray} {ml' : Nat} {ret' : Option FieldType} {R' : Room} {Ls' : Array Slot} {i : Nat}
theorem Go.callVIe {a : Addr} {C : String} (argsL : List Value) (rest : List Value) (q : Nat) (hd : decode code pc = .ok (.invokevirtual i, 3)) (w1 : (Cond.methodLink y.cls i y').before a0 Z = true) (w1' : (Cond.declares y').before a0 Z = true) (w1s : (Cond.selects C y' y').before a0 Z = true) (w2 : (Cond.instanceMethod y').before a0 Z = true) (w3 : (Cond.initialized y'.cls).before a0 Z = true) (w4 : (Cond.code y' code' ml' ret').before a0 Z = true) (E : Exa Z h a C)
    (hpl : plainFor y' = true) (hy : y'.cls ≠ "java/lang/invoke/MethodHandle" ∧ y'.cls ≠ "java/lang/invoke/VarHandle") (hlen : ∀ sig, parseMethodDescriptor y'.desc = some sig → argsL.length = sig.parameters.length) (hst : st = argsL.reverse ++ .ref a :: rest) (hent : ∀ m, entryFrame m (.ref a :: argsL).toArray ml' = mkF m 0 Ls' [])
    (F : Int32) (P' : Heap → Prop) (G : Go l Z y' code' ml' ret' R' (QI fun z h' => z = F ∧ P' h') 0 0 h 0 Ls' []) (W : Nat) (hsz : Ls.size = ml) (hW : (rest.map fun v => v.category).sum ≤ W) (hf : R'.frames + 1 ≤ R.frames) (hl : W + (ml' + 11) + R'.locals ≤ R.locals) (hk : k + R'.cells ≤ R.cells) (hN : n + R'.slots ≤ R.slots) (hq : pc + 3 = q)
    (g : ∀ h', P' h' → Go l Z y code ml ret R Q (k + R'.cells) (n + R'.slots) h' q Ls (.int F :: rest)) : Go l Z y code ml ret R Q k n h pc Ls st := by
  exact Go.callV argsL rest q hd w1 w1' w1s w2 w3 w4 E hpl hy hlen hst hent G W hsz hW hf hl hk hN hq (fun v h' hq' => by obtain ⟨z, e, hp, hh⟩ := hq'; subst e; rw [hp]; exact g h' hh)
end
section
variable {y' : MethodName} {code' : ByteArray} {ml' : Nat} {ret' : Option FieldType} {R' : Room} {Ls' : Array Slot} {i : Nat}
theorem Go.callVJ {a : Addr} {C : String} (argsL : List Value) (rest : List Value) (q : Nat) (hd : decode code pc = .ok (.invokevirtual i, 3)) (w1 : (Cond.methodLink y.cls i y').before a0 Z = true) (w1' : (Cond.declares y').before a0 Z = true) (w1s : (Cond.selects C y' y').before a0 Z = true) (w2 : (Cond.instanceMethod y').before a0 Z = true) (w3 : (Cond.initialized y'.cls).before a0 Z = true) (w4 : (Cond.code y' code' ml' ret').before a0 Z = true) (E : Exa Z h a C)
    (hpl : plainFor y' = true) (hy : y'.cls ≠ "java/lang/invoke/MethodHandle" ∧ y'.cls ≠ "java/lang/invoke/VarHandle") (hlen : ∀ sig, parseMethodDescriptor y'.desc = some sig → argsL.length = sig.parameters.length) (hst : st = argsL.reverse ++ .ref a :: rest) (hent : ∀ m, entryFrame m (.ref a :: argsL).toArray ml' = mkF m 0 Ls' [])
    (P' : Int64 → Heap → Prop) (G : Go l Z y' code' ml' ret' R' (QJ P') 0 0 h 0 Ls' []) (W : Nat) (hsz : Ls.size = ml) (hW : (rest.map fun v => v.category).sum ≤ W) (hf : R'.frames + 1 ≤ R.frames) (hl : W + (ml' + 11) + R'.locals ≤ R.locals) (hk : k + R'.cells ≤ R.cells) (hN : n + R'.slots ≤ R.slots) (hq : pc + 3 = q)
    (g : ∀ (z : Int64) h', P' z h' → Go l Z y code ml ret R Q (k + R'.cells) (n + R'.slots) h' q Ls (.long z :: rest)) : Go l Z y code ml ret R Q k n h pc Ls st := by
  exact Go.callV argsL rest q hd w1 w1' w1s w2 w3 w4 E hpl hy hlen hst hent G W hsz hW hf hl hk hN hq (fun v h' hq' => by obtain ⟨z, e, hp⟩ := hq'; subst e; exact g z h' hp)
end
section
variable {y' : MethodName} {code' : ByteArray} {ml' : Nat} {ret' : Option FieldType} {R' : Room} {Ls' : Array Slot} {i : Nat}
theorem Go.callVJp {a : Addr} {C : String} (argsL : List Value) (rest : List Value) (q : Nat) (hd : decode code pc = .ok (.invokevirtual i, 3)) (w1 : (Cond.methodLink y.cls i y').before a0 Z = true) (w1' : (Cond.declares y').before a0 Z = true) (w1s : (Cond.selects C y' y').before a0 Z = true) (w2 : (Cond.instanceMethod y').before a0 Z = true) (w3 : (Cond.initialized y'.cls).before a0 Z = true) (w4 : (Cond.code y' code' ml' ret').before a0 Z = true) (E : Exa Z h a C)
    (hpl : plainFor y' = true) (hy : y'.cls ≠ "java/lang/invoke/MethodHandle" ∧ y'.cls ≠ "java/lang/invoke/VarHandle") (hlen : ∀ sig, parseMethodDescriptor y'.desc = some sig → argsL.length = sig.parameters.length) (hst : st = argsL.reverse ++ .ref a :: rest) (hent : ∀ m, entryFrame m (.ref a :: argsL).toArray ml' = mkF m 0 Ls' [])
    (F : Int64) (G : Go l Z y' code' ml' ret' R' (QJ fun z h' => z = F ∧ h' = h) 0 0 h 0 Ls' []) (W : Nat) (hsz : Ls.size = ml) (hW : (rest.map fun v => v.category).sum ≤ W) (hf : R'.frames + 1 ≤ R.frames) (hl : W + (ml' + 11) + R'.locals ≤ R.locals) (hk : k + R'.cells ≤ R.cells) (hN : n + R'.slots ≤ R.slots) (hq : pc + 3 = q)
    (g : Go l Z y code ml ret R Q (k + R'.cells) (n + R'.slots) h q Ls (.long F :: rest)) : Go l Z y code ml ret R Q k n h pc Ls st := by
  exact Go.callV argsL rest q hd w1 w1' w1s w2 w3 w4 E hpl hy hlen hst hent G W hsz hW hf hl hk hN hq (fun v h' hq' => by obtain ⟨z, e, hp, hh⟩ := hq'; subst e; subst hh; rw [hp]; exact g)
end
section
variable {y' : MethodName} {code' : ByteArray} {ml' : Nat} {ret' : Option FieldType} {R' : Room} {Ls' : Array Slot} {i : Nat}
theorem Go.callVJe {a : Addr} {C : String} (argsL : List Value) (rest : List Value) (q : Nat) (hd : decode code pc = .ok (.invokevirtual i, 3)) (w1 : (Cond.methodLink y.cls i y').before a0 Z = true) (w1' : (Cond.declares y').before a0 Z = true) (w1s : (Cond.selects C y' y').before a0 Z = true) (w2 : (Cond.instanceMethod y').before a0 Z = true) (w3 : (Cond.initialized y'.cls).before a0 Z = true) (w4 : (Cond.code y' code' ml' ret').before a0 Z = true) (E : Exa Z h a C)
    (hpl : plainFor y' = true) (hy : y'.cls ≠ "java/lang/invoke/MethodHandle" ∧ y'.cls ≠ "java/lang/invoke/VarHandle") (hlen : ∀ sig, parseMethodDescriptor y'.desc = some sig → argsL.length = sig.parameters.length) (hst : st = argsL.reverse ++ .ref a :: rest) (hent : ∀ m, entryFrame m (.ref a :: argsL).toArray ml' = mkF m 0 Ls' [])
    (F : Int64) (P' : Heap → Prop) (G : Go l Z y' code' ml' ret' R' (QJ fun z h' => z = F ∧ P' h') 0 0 h 0 Ls' []) (W : Nat) (hsz : Ls.size = ml) (hW : (rest.map fun v => v.category).sum ≤ W) (hf : R'.frames + 1 ≤ R.frames) (hl : W + (ml' + 11) + R'.locals ≤ R.locals) (hk : k + R'.cells ≤ R.cells) (hN : n + R'.slots ≤ R.slots) (hq : pc + 3 = q)
    (g : ∀ h', P' h' → Go l Z y code ml ret R Q (k + R'.cells) (n + R'.slots) h' q Ls (.long F :: rest)) : Go l Z y code ml ret R Q k n h pc Ls st := by
  exact Go.callV argsL rest q hd w1 w1' w1s w2 w3 w4 E hpl hy hlen hst hent G W hsz hW hf hl hk hN hq (fun v h' hq' => by obtain ⟨z, e, hp, hh⟩ := hq'; subst e; rw [hp]; exact g h' hh)
end
section
variable {y' : MethodName} {code' : ByteArray} {ml' : Nat} {ret' : Option FieldType} {R' : Room} {Ls' : Array Slot} {i : Nat}
theorem Go.callVR {a : Addr} {C : String} (argsL : List Value) (rest : List Value) (q : Nat) (hd : decode code pc = .ok (.invokevirtual i, 3)) (w1 : (Cond.methodLink y.cls i y').before a0 Z = true) (w1' : (Cond.declares y').before a0 Z = true) (w1s : (Cond.selects C y' y').before a0 Z = true) (w2 : (Cond.instanceMethod y').before a0 Z = true) (w3 : (Cond.initialized y'.cls).before a0 Z = true) (w4 : (Cond.code y' code' ml' ret').before a0 Z = true) (E : Exa Z h a C)
    (hpl : plainFor y' = true) (hy : y'.cls ≠ "java/lang/invoke/MethodHandle" ∧ y'.cls ≠ "java/lang/invoke/VarHandle") (hlen : ∀ sig, parseMethodDescriptor y'.desc = some sig → argsL.length = sig.parameters.length) (hst : st = argsL.reverse ++ .ref a :: rest) (hent : ∀ m, entryFrame m (.ref a :: argsL).toArray ml' = mkF m 0 Ls' [])
    (P' : Value → Heap → Prop) (G : Go l Z y' code' ml' ret' R' (QR P') 0 0 h 0 Ls' []) (W : Nat) (hsz : Ls.size = ml) (hW : (rest.map fun v => v.category).sum ≤ W) (hf : R'.frames + 1 ≤ R.frames) (hl : W + (ml' + 11) + R'.locals ≤ R.locals) (hk : k + R'.cells ≤ R.cells) (hN : n + R'.slots ≤ R.slots) (hq : pc + 3 = q)
    (g : ∀ (z : Value) h', P' z h' → Go l Z y code ml ret R Q (k + R'.cells) (n + R'.slots) h' q Ls ( z :: rest)) : Go l Z y code ml ret R Q k n h pc Ls st := by
  exact Go.callV argsL rest q hd w1 w1' w1s w2 w3 w4 E hpl hy hlen hst hent G W hsz hW hf hl hk hN hq (fun v h' hq' => by obtain ⟨z, e, hp⟩ := hq'; subst e; exact g z h' hp)
end
section
variable {y' : MethodName} {code' : ByteArray} {ml' : Nat} {ret' : Option FieldType} {R' : Room} {Ls' : Array Slot} {i : Nat}
theorem Go.callVRp {a : Addr} {C : String} (argsL : List Value) (rest : List Value) (q : Nat) (hd : decode code pc = .ok (.invokevirtual i, 3)) (w1 : (Cond.methodLink y.cls i y').before a0 Z = true) (w1' : (Cond.declares y').before a0 Z = true) (w1s : (Cond.selects C y' y').before a0 Z = true) (w2 : (Cond.instanceMethod y').before a0 Z = true) (w3 : (Cond.initialized y'.cls).before a0 Z = true) (w4 : (Cond.code y' code' ml' ret').before a0 Z = true) (E : Exa Z h a C)
    (hpl : plainFor y' = true) (hy : y'.cls ≠ "java/lang/invoke/MethodHandle" ∧ y'.cls ≠ "java/lang/invoke/VarHandle") (hlen : ∀ sig, parseMethodDescriptor y'.desc = some sig → argsL.length = sig.parameters.length) (hst : st = argsL.reverse ++ .ref a :: rest) (hent : ∀ m, entryFrame m (.ref a :: argsL).toArray ml' = mkF m 0 Ls' [])
    (F : Value) (G : Go l Z y' code' ml' ret' R' (QR fun z h' => z = F ∧ h' = h) 0 0 h 0 Ls' []) (W : Nat) (hsz : Ls.size = ml) (hW : (rest.map fun v => v.category).sum ≤ W) (hf : R'.frames + 1 ≤ R.frames) (hl : W + (ml' + 11) + R'.locals ≤ R.locals) (hk : k + R'.cells ≤ R.cells) (hN : n + R'.slots ≤ R.slots) (hq : pc + 3 = q)
    (g : Go l Z y code ml ret R Q (k + R'.cells) (n + R'.slots) h q Ls ( F :: rest)) : Go l Z y code ml ret R Q k n h pc Ls st := by
  exact Go.callV argsL rest q hd w1 w1' w1s w2 w3 w4 E hpl hy hlen hst hent G W hsz hW hf hl hk hN hq (fun v h' hq' => by obtain ⟨z, e, hp, hh⟩ := hq'; subst e; subst hh; rw [hp]; exact g)
end
section
variable {y' : MethodName} {code' : ByteArray} {ml' : Nat} {ret' : Option FieldType} {R' : Room} {Ls' : Array Slot} {i : Nat}
theorem Go.callVRe {a : Addr} {C : String} (argsL : List Value) (rest : List Value) (q : Nat) (hd : decode code pc = .ok (.invokevirtual i, 3)) (w1 : (Cond.methodLink y.cls i y').before a0 Z = true) (w1' : (Cond.declares y').before a0 Z = true) (w1s : (Cond.selects C y' y').before a0 Z = true) (w2 : (Cond.instanceMethod y').before a0 Z = true) (w3 : (Cond.initialized y'.cls).before a0 Z = true) (w4 : (Cond.code y' code' ml' ret').before a0 Z = true) (E : Exa Z h a C)
    (hpl : plainFor y' = true) (hy : y'.cls ≠ "java/lang/invoke/MethodHandle" ∧ y'.cls ≠ "java/lang/invoke/VarHandle") (hlen : ∀ sig, parseMethodDescriptor y'.desc = some sig → argsL.length = sig.parameters.length) (hst : st = argsL.reverse ++ .ref a :: rest) (hent : ∀ m, entryFrame m (.ref a :: argsL).toArray ml' = mkF m 0 Ls' [])
    (F : Value) (P' : Heap → Prop) (G : Go l Z y' code' ml' ret' R' (QR fun z h' => z = F ∧ P' h') 0 0 h 0 Ls' []) (W : Nat) (hsz : Ls.size = ml) (hW : (rest.map fun v => v.category).sum ≤ W) (hf : R'.frames + 1 ≤ R.frames) (hl : W + (ml' + 11) + R'.locals ≤ R.locals) (hk : k + R'.cells ≤ R.cells) (hN : n + R'.slots ≤ R.slots) (hq : pc + 3 = q)
    (g : ∀ h', P' h' → Go l Z y code ml ret R Q (k + R'.cells) (n + R'.slots) h' q Ls ( F :: rest)) : Go l Z y code ml ret R Q k n h pc Ls st := by
  exact Go.callV argsL rest q hd w1 w1' w1s w2 w3 w4 E hpl hy hlen hst hent G W hsz hW hf hl hk hN hq (fun v h' hq' => by obtain ⟨z, e, hp, hh⟩ := hq'; subst e; rw [hp]; exact g h' hh)
end
section
variable {y' : MethodName} {code' : ByteArray} {ml' : Nat} {ret' : Option FieldType} {R' : Room} {Ls' : Array Slot} {i : Nat}
theorem Go.callVV {a : Addr} {C : String} (argsL : List Value) (rest : List Value) (q : Nat) (hd : decode code pc = .ok (.invokevirtual i, 3)) (w1 : (Cond.methodLink y.cls i y').before a0 Z = true) (w1' : (Cond.declares y').before a0 Z = true) (w1s : (Cond.selects C y' y').before a0 Z = true) (w2 : (Cond.instanceMethod y').before a0 Z = true) (w3 : (Cond.initialized y'.cls).before a0 Z = true) (w4 : (Cond.code y' code' ml' ret').before a0 Z = true) (E : Exa Z h a C)
    (hpl : plainFor y' = true) (hy : y'.cls ≠ "java/lang/invoke/MethodHandle" ∧ y'.cls ≠ "java/lang/invoke/VarHandle") (hlen : ∀ sig, parseMethodDescriptor y'.desc = some sig → argsL.length = sig.parameters.length) (hst : st = argsL.reverse ++ .ref a :: rest) (hent : ∀ m, entryFrame m (.ref a :: argsL).toArray ml' = mkF m 0 Ls' [])
    (P' : Heap → Prop) (G : Go l Z y' code' ml' ret' R' (QV P') 0 0 h 0 Ls' []) (W : Nat) (hsz : Ls.size = ml) (hW : (rest.map fun v => v.category).sum ≤ W) (hf : R'.frames + 1 ≤ R.frames) (hl : W + (ml' + 11) + R'.locals ≤ R.locals) (hk : k + R'.cells ≤ R.cells) (hN : n + R'.slots ≤ R.slots) (hq : pc + 3 = q)
    (g : ∀ h', P' h' → Go l Z y code ml ret R Q (k + R'.cells) (n + R'.slots) h' q Ls rest) : Go l Z y code ml ret R Q k n h pc Ls st := by
  exact Go.callV argsL rest q hd w1 w1' w1s w2 w3 w4 E hpl hy hlen hst hent G W hsz hW hf hl hk hN hq (fun v h' hq' => by obtain ⟨e, hp⟩ := hq'; subst e; exact g h' hp)
end
section
variable {y' : MethodName} {code' : ByteArray} {ml' : Nat} {ret' : Option FieldType} {R' : Room} {Ls' : Array Slot} {i : Nat}
theorem Go.callVVp {a : Addr} {C : String} (argsL : List Value) (rest : List Value) (q : Nat) (hd : decode code pc = .ok (.invokevirtual i, 3)) (w1 : (Cond.methodLink y.cls i y').before a0 Z = true) (w1' : (Cond.declares y').before a0 Z = true) (w1s : (Cond.selects C y' y').before a0 Z = true) (w2 : (Cond.instanceMethod y').before a0 Z = true) (w3 : (Cond.initialized y'.cls).before a0 Z = true) (w4 : (Cond.code y' code' ml' ret').before a0 Z = true) (E : Exa Z h a C)
    (hpl : plainFor y' = true) (hy : y'.cls ≠ "java/lang/invoke/MethodHandle" ∧ y'.cls ≠ "java/lang/invoke/VarHandle") (hlen : ∀ sig, parseMethodDescriptor y'.desc = some sig → argsL.length = sig.parameters.length) (hst : st = argsL.reverse ++ .ref a :: rest) (hent : ∀ m, entryFrame m (.ref a :: argsL).toArray ml' = mkF m 0 Ls' [])
    (G : Go l Z y' code' ml' ret' R' (QV fun h' => h' = h) 0 0 h 0 Ls' []) (W : Nat) (hsz : Ls.size = ml) (hW : (rest.map fun v => v.category).sum ≤ W) (hf : R'.frames + 1 ≤ R.frames) (hl : W + (ml' + 11) + R'.locals ≤ R.locals) (hk : k + R'.cells ≤ R.cells) (hN : n + R'.slots ≤ R.slots) (hq : pc + 3 = q)
    (g : Go l Z y code ml ret R Q (k + R'.cells) (n + R'.slots) h q Ls rest) : Go l Z y code ml ret R Q k n h pc Ls st := by
  exact Go.callV argsL rest q hd w1 w1' w1s w2 w3 w4 E hpl hy hlen hst hent G W hsz hW hf hl hk hN hq (fun v h' hq' => by obtain ⟨e, hp⟩ := hq'; subst e; subst hp; exact g)
end



theorem own_eqf {args : Array Value} {s : State} {t : Term} {O n d : String} {v : Int32} {x : Addr} (ht : t.eval args s none [] s = some (.ref x)) (h : (Jvm.Cond.eq (Term.field t O n d) (Term.int v)).value args s none s [] = some true) : Fld s s.heap x O n d (.int v) := by
  apply Fld.start
  have e := fld_at (C := O) (n := n) (dd := d) ht
  have i : (Term.int v).eval args s none [] s = some (.int v) := Term.int_eval v
  simp only [Jvm.Cond.value, e, i] at h
  cases q : s.fieldOf? x O n d with
  | none => rw [q] at h; simp at h
  | some w =>
    rw [q] at h
    cases w <;> simp at h
    rw [h]
/-- an array of ints, shorts, chars, bytes or booleans, with its elements -/
def Ari (Z : State) (h : Heap) (a : Addr) (ty : FieldType) (xs : List Int32) : Prop := ∃ c : Cell, Arr Z h a c ty ∧ c.slots.toList = xs.map Value.int ∧ xs.length < 2147483648
def Arj (Z : State) (h : Heap) (a : Addr) (xs : List Int64) : Prop := ∃ c : Cell, Arr Z h a c .long ∧ c.slots.toList = xs.map Value.long ∧ xs.length < 2147483648
theorem Ari.lt {a : Addr} {ty : FieldType} {xs : List Int32} (F : Ari Z h a ty xs) : a < h.size := by obtain ⟨c, A, -⟩ := F; exact A.lt
theorem Arj.lt {a : Addr} {xs : List Int64} (F : Arj Z h a xs) : a < h.size := by obtain ⟨c, A, -⟩ := F; exact A.lt
theorem Ari.ext {h' : Heap} {a : Addr} {ty : FieldType} {xs : List Int32} (F : Ari Z h a ty xs) (E : Ext h h') : Ari Z h' a ty xs := by obtain ⟨c, A, r⟩ := F; exact ⟨c, A.ext E, r⟩
theorem Arj.ext {h' : Heap} {a : Addr} {xs : List Int64} (F : Arj Z h a xs) (E : Ext h h') : Arj Z h' a xs := by obtain ⟨c, A, r⟩ := F; exact ⟨c, A.ext E, r⟩
theorem Ari.other {h' : Heap} {a b : Addr} {sl : Nat} {v : Value} {ty : FieldType} {xs : List Int32} (F : Ari Z h b ty xs) (W : Wr h h' a sl v) (q : b ≠ a) : Ari Z h' b ty xs := by obtain ⟨c, A, r⟩ := F; exact ⟨c, A.other W q, r⟩
theorem Arj.other {h' : Heap} {a b : Addr} {sl : Nat} {v : Value} {xs : List Int64} (F : Arj Z h b xs) (W : Wr h h' a sl v) (q : b ≠ a) : Arj Z h' b xs := by obtain ⟨c, A, r⟩ := F; exact ⟨c, A.other W q, r⟩
theorem Ari.keep {h' : Heap} {a : Addr} {ws : List Addr} {ty : FieldType} {xs : List Int32} (F : Ari Z h a ty xs) (K : Keep h h' ws) (q : a ∉ ws) : Ari Z h' a ty xs := by obtain ⟨c, A, r⟩ := F; exact ⟨c, ⟨K.2.1 _ _ A.1 q, A.2⟩, r⟩
theorem Arj.keep {h' : Heap} {a : Addr} {ws : List Addr} {xs : List Int64} (F : Arj Z h a xs) (K : Keep h h' ws) (q : a ∉ ws) : Arj Z h' a xs := by obtain ⟨c, A, r⟩ := F; exact ⟨c, ⟨K.2.1 _ _ A.1 q, A.2⟩, r⟩
theorem own_size {c : Cell} {α : Type} {f : α → Value} {xs : List α} (e : c.slots.toList = xs.map f) : c.slots.size = xs.length := by
  have q := congrArg List.length e
  simpa using q
theorem own_at {c : Cell} {α : Type} {f : α → Value} {xs : List α} (e : c.slots.toList = xs.map f) {i : Nat} {x : α} (hx : xs[i]? = some x) : c.slots[i]? = some (f x) := by
  have q : c.slots.toList[i]? = some (f x) := by rw [e, List.getElem?_map, hx]; rfl
  simpa using q
theorem own_in {c : Cell} {α : Type} {f : α → Value} {xs : List α} (e : c.slots.toList = xs.map f) {i : Nat} {j : Int32} (hj : ¬ j < 0) (hi : j.toNatClampNeg = i) (hx : i < xs.length) : ¬ (j < 0 ∨ c.slots.size ≤ j.toNatClampNeg) := by
  rw [own_size e, hi]; intro q; rcases q with q | q
  · exact hj q
  · exact absurd hx (Nat.not_lt.mpr q)
theorem own_set {c : Cell} {α : Type} {f : α → Value} {xs : List α} (e : c.slots.toList = xs.map f) (i : Nat) (x : α) : (c.setSlot i (f x)).slots.toList = (xs.set i x).map f := by
  show (c.slots.setIfInBounds i (f x)).toList = _
  rw [Array.toList_setIfInBounds, e, List.map_set]
theorem Ari.set {h' : Heap} {a : Addr} {ty : FieldType} {xs xs' : List Int32} {i : Nat} {x : Int32} (F : Ari Z h a ty xs) (W : Wr h h' a i (.int x)) (e : xs.set i x = xs') : Ari Z h' a ty xs' := by
  subst e
  obtain ⟨c, A, r, r2⟩ := F
  exact ⟨_, A.same W, own_set r i x, by rw [List.length_set]; exact r2⟩
theorem Arj.set {h' : Heap} {a : Addr} {xs xs' : List Int64} {i : Nat} {x : Int64} (F : Arj Z h a xs) (W : Wr h h' a i (.long x)) (e : xs.set i x = xs') : Arj Z h' a xs' := by
  subst e
  obtain ⟨c, A, r, r2⟩ := F
  exact ⟨_, A.same W, own_set r i x, by rw [List.length_set]; exact r2⟩

theorem Go.iaload {a : Addr} {j x : Int32} {xs : List Int32} (i : Nat) (q : Nat) (hd : decode code pc = .ok (.iaload, 1)) (A : Ari Z h a .int xs) (hj : ¬ j < 0) (hi : j.toNatClampNeg = i) (hx : xs[i]? = some x) (hq : pc + 1 = q) (g : Go l Z y code ml ret R Q k n h q Ls (.int x :: st)) : Go l Z y code ml ret R Q k n h pc Ls (.int j :: .ref a :: st) := by
  subst hq hi
  obtain ⟨cl, A, r, r2⟩ := A
  have hv := own_at r hx
  have hin := own_in r hj rfl (List.getElem?_eq_some_iff.mp hx).1
  exact g.pure fun p e s m args below meth c K T L k' n' X hT t rr => X.iaload K.1 (cell := cl) (v := .int x) (by rw [hT]; exact A.1) (State.isArrayOf_alike K.2.2.1.alike A.2.1) A.2.2 hin hv (g := mkF m pc Ls (.int j :: .ref a :: st)) rfl rfl (hb K.2.1 hd) t rr
theorem Go.baload {a : Addr} {j x : Int32} {xs : List Int32} (i : Nat) (q : Nat) (hd : decode code pc = .ok (.baload, 1)) (A : Ari Z h a .byte xs) (hj : ¬ j < 0) (hi : j.toNatClampNeg = i) (hx : xs[i]? = some x) (hq : pc + 1 = q) (g : Go l Z y code ml ret R Q k n h q Ls (.int x :: st)) : Go l Z y code ml ret R Q k n h pc Ls (.int j :: .ref a :: st) := by
  subst hq hi
  obtain ⟨cl, A, r, r2⟩ := A
  have hv := own_at r hx
  have hin := own_in r hj rfl (List.getElem?_eq_some_iff.mp hx).1
  exact g.pure fun p e s m args below meth c K T L k' n' X hT t rr => X.baloadBytes K.1 (cell := cl) (v := .int x) (by rw [hT]; exact A.1) (State.isArrayOf_alike K.2.2.1.alike A.2.1) A.2.2 hin hv (g := mkF m pc Ls (.int j :: .ref a :: st)) rfl rfl (hb K.2.1 hd) t rr
theorem Go.zaload {a : Addr} {j x : Int32} {xs : List Int32} (i : Nat) (q : Nat) (hd : decode code pc = .ok (.baload, 1)) (A : Ari Z h a .boolean xs) (hj : ¬ j < 0) (hi : j.toNatClampNeg = i) (hx : xs[i]? = some x) (hq : pc + 1 = q) (g : Go l Z y code ml ret R Q k n h q Ls (.int x :: st)) : Go l Z y code ml ret R Q k n h pc Ls (.int j :: .ref a :: st) := by
  subst hq hi
  obtain ⟨cl, A, r, r2⟩ := A
  have hv := own_at r hx
  have hin := own_in r hj rfl (List.getElem?_eq_some_iff.mp hx).1
  exact g.pure fun p e s m args below meth c K T L k' n' X hT t rr => X.baloadBooleans K.1 (cell := cl) (v := .int x) (by rw [hT]; exact A.1) (State.isArrayOf_alike K.2.2.1.alike A.2.1) A.2.2 hin hv (g := mkF m pc Ls (.int j :: .ref a :: st)) rfl rfl (hb K.2.1 hd) t rr
theorem Go.caload {a : Addr} {j x : Int32} {xs : List Int32} (i : Nat) (q : Nat) (hd : decode code pc = .ok (.caload, 1)) (A : Ari Z h a .char xs) (hj : ¬ j < 0) (hi : j.toNatClampNeg = i) (hx : xs[i]? = some x) (hq : pc + 1 = q) (g : Go l Z y code ml ret R Q k n h q Ls (.int x :: st)) : Go l Z y code ml ret R Q k n h pc Ls (.int j :: .ref a :: st) := by
  subst hq hi
  obtain ⟨cl, A, r, r2⟩ := A
  have hv := own_at r hx
  have hin := own_in r hj rfl (List.getElem?_eq_some_iff.mp hx).1
  exact g.pure fun p e s m args below meth c K T L k' n' X hT t rr => X.caload K.1 (cell := cl) (v := .int x) (by rw [hT]; exact A.1) (State.isArrayOf_alike K.2.2.1.alike A.2.1) A.2.2 hin hv (g := mkF m pc Ls (.int j :: .ref a :: st)) rfl rfl (hb K.2.1 hd) t rr
theorem Go.laload {a : Addr} {j : Int32} {x : Int64} {xs : List Int64} (i : Nat) (q : Nat) (hd : decode code pc = .ok (.laload, 1)) (A : Arj Z h a xs) (hj : ¬ j < 0) (hi : j.toNatClampNeg = i) (hx : xs[i]? = some x) (hq : pc + 1 = q) (g : Go l Z y code ml ret R Q k n h q Ls (.long x :: st)) : Go l Z y code ml ret R Q k n h pc Ls (.int j :: .ref a :: st) := by
  subst hq hi
  obtain ⟨cl, A, r, r2⟩ := A
  have hv := own_at r hx
  have hin := own_in r hj rfl (List.getElem?_eq_some_iff.mp hx).1
  exact g.pure fun p e s m args below meth c K T L k' n' X hT t rr => X.laload K.1 (cell := cl) (v := .long x) (by rw [hT]; exact A.1) (State.isArrayOf_alike K.2.2.1.alike A.2.1) A.2.2 hin hv (g := mkF m pc Ls (.int j :: .ref a :: st)) rfl rfl (hb K.2.1 hd) t rr
theorem Go.arraylength {a : Addr} {ty : FieldType} {xs : List Int32} {z : Int32} (q : Nat) (hd : decode code pc = .ok (.arraylength, 1)) (A : Ari Z h a ty xs) (hz : xs.length.toInt32 = z) (hq : pc + 1 = q) (g : Go l Z y code ml ret R Q k n h q Ls (.int z :: st)) : Go l Z y code ml ret R Q k n h pc Ls (.ref a :: st) := by
  subst hq
  obtain ⟨cl, A, r, r2⟩ := A
  subst hz
  exact g.pure fun p e s m args below meth c K T L k' n' X hT t rr => X.arraylength K.1 (cell := cl) (by rw [hT]; exact A.1) (State.isArrayOf_alike K.2.2.1.alike A.2.1) (g := mkF m pc Ls (.ref a :: st)) rfl rfl (hb K.2.1 hd) t (by rw [own_size r]; exact rr)
theorem Go.arraylengthJ {a : Addr} {xs : List Int64} {z : Int32} (q : Nat) (hd : decode code pc = .ok (.arraylength, 1)) (A : Arj Z h a xs) (hz : xs.length.toInt32 = z) (hq : pc + 1 = q) (g : Go l Z y code ml ret R Q k n h q Ls (.int z :: st)) : Go l Z y code ml ret R Q k n h pc Ls (.ref a :: st) := by
  subst hq
  obtain ⟨cl, A, r, r2⟩ := A
  subst hz
  exact g.pure fun p e s m args below meth c K T L k' n' X hT t rr => X.arraylength K.1 (cell := cl) (by rw [hT]; exact A.1) (State.isArrayOf_alike K.2.2.1.alike A.2.1) (g := mkF m pc Ls (.ref a :: st)) rfl rfl (hb K.2.1 hd) t (by rw [own_size r]; exact rr)
theorem Go.iastore {a : Addr} {j x : Int32} {xs : List Int32} (i : Nat) (xs' : List Int32) (q : Nat) (hd : decode code pc = .ok (.iastore, 1)) (A : Ari Z h a .int xs) (hj : ¬ j < 0) (hi : j.toNatClampNeg = i) (hx : i < xs.length) (he : xs.set i (x) = xs') (hge : Z.heap.size ≤ a) (hq : pc + 1 = q)
    (g : ∀ h', Wr h h' a i (.int (x)) → Ari Z h' a .int xs' → Go l Z y code ml ret R Q k n h' q Ls st) : Go l Z y code ml ret R Q k n h pc Ls (.int x :: .int j :: .ref a :: st) := by
  subst hq hi
  refine Go.move (P := fun h' => Wr h h' a j.toNatClampNeg (.int (x))) (kk := k) (nn := n) (fun h' W => g h' W (A.set W he)) ?_
  obtain ⟨cl, A, r, r2⟩ := A
  intro p e s m args below meth c K T L k' n' X h1 h2 N hT
  obtain ⟨T', h', X', e', W', s'⟩ := stI X K.1 K.2.2.1 hT A (own_in r hj rfl hx) (g := mkF m pc Ls (.int x :: .int j :: .ref a :: st)) rfl rfl (hb K.2.1 hd)
  exact ⟨T', _, k', n', X', h1, h2, Fr.snoc X' N hge, e' ▸ W', s'⟩
theorem Go.bastore {a : Addr} {j x : Int32} {xs : List Int32} (i : Nat) (xs' : List Int32) (q : Nat) (hd : decode code pc = .ok (.bastore, 1)) (A : Ari Z h a .byte xs) (hj : ¬ j < 0) (hi : j.toNatClampNeg = i) (hx : i < xs.length) (he : xs.set i (nar .byte x) = xs') (hge : Z.heap.size ≤ a) (hq : pc + 1 = q)
    (g : ∀ h', Wr h h' a i (.int (nar .byte x)) → Ari Z h' a .byte xs' → Go l Z y code ml ret R Q k n h' q Ls st) : Go l Z y code ml ret R Q k n h pc Ls (.int x :: .int j :: .ref a :: st) := by
  subst hq hi
  refine Go.move (P := fun h' => Wr h h' a j.toNatClampNeg (.int (nar .byte x))) (kk := k) (nn := n) (fun h' W => g h' W (A.set W he)) ?_
  obtain ⟨cl, A, r, r2⟩ := A
  intro p e s m args below meth c K T L k' n' X h1 h2 N hT
  obtain ⟨T', h', X', e', W', s'⟩ := stB X K.1 K.2.2.1 hT A (own_in r hj rfl hx) (g := mkF m pc Ls (.int x :: .int j :: .ref a :: st)) rfl rfl (hb K.2.1 hd)
  exact ⟨T', _, k', n', X', h1, h2, Fr.snoc X' N hge, e' ▸ W', s'⟩
theorem Go.zastore {a : Addr} {j x : Int32} {xs : List Int32} (i : Nat) (xs' : List Int32) (q : Nat) (hd : decode code pc = .ok (.bastore, 1)) (A : Ari Z h a .boolean xs) (hj : ¬ j < 0) (hi : j.toNatClampNeg = i) (hx : i < xs.length) (he : xs.set i (nar .boolean x) = xs') (hge : Z.heap.size ≤ a) (hq : pc + 1 = q)
    (g : ∀ h', Wr h h' a i (.int (nar .boolean x)) → Ari Z h' a .boolean xs' → Go l Z y code ml ret R Q k n h' q Ls st) : Go l Z y code ml ret R Q k n h pc Ls (.int x :: .int j :: .ref a :: st) := by
  subst hq hi
  refine Go.move (P := fun h' => Wr h h' a j.toNatClampNeg (.int (nar .boolean x))) (kk := k) (nn := n) (fun h' W => g h' W (A.set W he)) ?_
  obtain ⟨cl, A, r, r2⟩ := A
  intro p e s m args below meth c K T L k' n' X h1 h2 N hT
  obtain ⟨T', h', X', e', W', s'⟩ := stZ X K.1 K.2.2.1 hT A (own_in r hj rfl hx) (g := mkF m pc Ls (.int x :: .int j :: .ref a :: st)) rfl rfl (hb K.2.1 hd)
  exact ⟨T', _, k', n', X', h1, h2, Fr.snoc X' N hge, e' ▸ W', s'⟩
theorem Go.castore {a : Addr} {j x : Int32} {xs : List Int32} (i : Nat) (xs' : List Int32) (q : Nat) (hd : decode code pc = .ok (.castore, 1)) (A : Ari Z h a .char xs) (hj : ¬ j < 0) (hi : j.toNatClampNeg = i) (hx : i < xs.length) (he : xs.set i (nar .char x) = xs') (hge : Z.heap.size ≤ a) (hq : pc + 1 = q)
    (g : ∀ h', Wr h h' a i (.int (nar .char x)) → Ari Z h' a .char xs' → Go l Z y code ml ret R Q k n h' q Ls st) : Go l Z y code ml ret R Q k n h pc Ls (.int x :: .int j :: .ref a :: st) := by
  subst hq hi
  refine Go.move (P := fun h' => Wr h h' a j.toNatClampNeg (.int (nar .char x))) (kk := k) (nn := n) (fun h' W => g h' W (A.set W he)) ?_
  obtain ⟨cl, A, r, r2⟩ := A
  intro p e s m args below meth c K T L k' n' X h1 h2 N hT
  obtain ⟨T', h', X', e', W', s'⟩ := stC X K.1 K.2.2.1 hT A (own_in r hj rfl hx) (g := mkF m pc Ls (.int x :: .int j :: .ref a :: st)) rfl rfl (hb K.2.1 hd)
  exact ⟨T', _, k', n', X', h1, h2, Fr.snoc X' N hge, e' ▸ W', s'⟩
theorem Go.lastore {a : Addr} {j : Int32} {x : Int64} {xs : List Int64} (i : Nat) (xs' : List Int64) (q : Nat) (hd : decode code pc = .ok (.lastore, 1)) (A : Arj Z h a xs) (hj : ¬ j < 0) (hi : j.toNatClampNeg = i) (hx : i < xs.length) (he : xs.set i x = xs') (hge : Z.heap.size ≤ a) (hq : pc + 1 = q)
    (g : ∀ h', Wr h h' a i (.long x) → Arj Z h' a xs' → Go l Z y code ml ret R Q k n h' q Ls st) : Go l Z y code ml ret R Q k n h pc Ls (.long x :: .int j :: .ref a :: st) := by
  subst hq hi
  refine Go.move (P := fun h' => Wr h h' a j.toNatClampNeg (.long x)) (kk := k) (nn := n) (fun h' W => g h' W (A.set W he)) ?_
  obtain ⟨cl, A, r, r2⟩ := A
  intro p e s m args below meth c K T L k' n' X h1 h2 N hT
  obtain ⟨T', h', X', e', W', s'⟩ := stJ X K.1 K.2.2.1 hT A (own_in r hj rfl hx) (g := mkF m pc Ls (.long x :: .int j :: .ref a :: st)) rfl rfl (hb K.2.1 hd)
  exact ⟨T', _, k', n', X', h1, h2, Fr.snoc X' N hge, e' ▸ W', s'⟩
theorem Go.newI {aty : ArrayType} {z : Int32} (cap : Nat) (xs : List Int32) (q : Nat) (hd : decode code pc = .ok (.newarray aty, 2)) (w : (Cond.arrayClass (newarray.typeOf aty)).before a0 Z = true) (hdv : defaultValue (newarray.typeOf aty) = .int 0) (hz : ¬ z < 0) (hcap : z.toNatClampNeg ≤ cap) (hbig : cap * 8 ≤ 536870912) (hxs : List.replicate z.toNatClampNeg 0 = xs) (hk : k + 1 ≤ R.cells) (hN : n + cap ≤ R.slots) (hq : pc + 2 = q)
    (g : ∀ (a : Addr) h', a = h.size → Ext h h' → Ari Z h' a (newarray.typeOf aty) xs → Go l Z y code ml ret R Q (k + 1) (n + cap) h' q Ls (.ref a :: st)) : Go l Z y code ml ret R Q k n h pc Ls (.int z :: st) := by
  subst hq hxs
  refine Go.move (P := fun h' => Ext h h' ∧ Ari Z h' h.size (newarray.typeOf aty) (List.replicate z.toNatClampNeg 0)) (kk := k + 1) (nn := n + cap) (fun h' p => g h.size h' rfl p.1 p.2) ?_
  intro p e s m args below meth c K T L k' n' X h1 h2 N hT
  obtain ⟨T', h', cA, X', e', E', A', s'⟩ := newP X K.1 K.2.2.1 w hT (g := mkF m pc Ls (.int z :: st)) rfl (hb K.2.1 hd) rfl hz hcap hbig (Nat.le_trans (Nat.add_le_add_right h1 1) hk) (Nat.le_trans (Nat.add_le_add_right h2 cap) hN)
  subst e'
  refine ⟨T', L, k' + 1, n' + cap, X', Nat.add_le_add_right h1 1, Nat.add_le_add_right h2 cap, N, ⟨E', _, A', ?_, ?_⟩, s'⟩
  · show (Array.replicate z.toNatClampNeg (defaultValue (newarray.typeOf aty))).toList = _
    rw [hdv]; simp [List.map_replicate]
  · rw [List.length_replicate]; omega
theorem Go.newJ {aty : ArrayType} {z : Int32} (cap : Nat) (xs : List Int64) (q : Nat) (hd : decode code pc = .ok (.newarray aty, 2)) (w : (Cond.arrayClass (newarray.typeOf aty)).before a0 Z = true) (hdv : newarray.typeOf aty = .long) (hz : ¬ z < 0) (hcap : z.toNatClampNeg ≤ cap) (hbig : cap * 8 ≤ 536870912) (hxs : List.replicate z.toNatClampNeg 0 = xs) (hk : k + 1 ≤ R.cells) (hN : n + cap ≤ R.slots) (hq : pc + 2 = q)
    (g : ∀ (a : Addr) h', a = h.size → Ext h h' → Arj Z h' a xs → Go l Z y code ml ret R Q (k + 1) (n + cap) h' q Ls (.ref a :: st)) : Go l Z y code ml ret R Q k n h pc Ls (.int z :: st) := by
  subst hq hxs
  refine Go.move (P := fun h' => Ext h h' ∧ Arj Z h' h.size (List.replicate z.toNatClampNeg 0)) (kk := k + 1) (nn := n + cap) (fun h' p => g h.size h' rfl p.1 p.2) ?_
  intro p e s m args below meth c K T L k' n' X h1 h2 N hT
  obtain ⟨T', h', cA, X', e', E', A', s'⟩ := newP X K.1 K.2.2.1 w hT (g := mkF m pc Ls (.int z :: st)) rfl (hb K.2.1 hd) rfl hz hcap hbig (Nat.le_trans (Nat.add_le_add_right h1 1) hk) (Nat.le_trans (Nat.add_le_add_right h2 cap) hN)
  subst e'
  refine ⟨T', L, k' + 1, n' + cap, X', Nat.add_le_add_right h1 1, Nat.add_le_add_right h2 cap, N, ⟨E', _, hdv ▸ A', ?_, ?_⟩, s'⟩
  · show (Array.replicate z.toNatClampNeg (defaultValue .long)).toList = _
    simp [List.map_replicate, defaultValue]
  · rw [List.length_replicate]; omega
end Laws
end Jvm.OwnGo

namespace Jvm.Pilot.@@N@@
open Jvm Jvm.ClassFile Sem Op Lib Jvm.Free Jvm.Stand Jvm.LawKit Jvm.RoadKit Bundle Jvm.OwnGo Jvm.Pilot.@@N@@.Jvm.D
theorem pnx : plainName x.cls = true := by first | (simp [x, plainName, overriddenIn]; done) | decide +kernel
theorem tw0 {a0 : Array Value} {Z : State} (hw : ∀ d ∈ tables_1, d.before a0 Z = true) : ((Jvm.Cond.constant "com/example/medianpoint/medianpoint/RelaxationOpenStatusPinLaw" (7 : Nat) (2147483647 : Int32))).before a0 Z = true := hw _ (List.mem_of_getElem? (i := 0) rfl)
theorem tw1 {a0 : Array Value} {Z : State} (hw : ∀ d ∈ tables_1, d.before a0 Z = true) : ((Jvm.Cond.arrayClass Jvm.ClassFile.FieldType.boolean)).before a0 Z = true := hw _ (List.mem_of_getElem? (i := 1) rfl)
theorem tw2 {a0 : Array Value} {Z : State} (hw : ∀ d ∈ tables_1, d.before a0 Z = true) : ((Jvm.Cond.methodLink "com/example/medianpoint/medianpoint/RelaxationOpenStatusPinLaw" (8 : Nat) ({ cls := "com/example/medianpoint/medianpoint/Relaxation", name := "openStatus", desc := "([Z)[B" } : Jvm.MethodName))).before a0 Z = true := hw _ (List.mem_of_getElem? (i := 2) rfl)
theorem tw3 {a0 : Array Value} {Z : State} (hw : ∀ d ∈ tables_1, d.before a0 Z = true) : ((Jvm.Cond.static ({ cls := "com/example/medianpoint/medianpoint/Relaxation", name := "openStatus", desc := "([Z)[B" } : Jvm.MethodName))).before a0 Z = true := hw _ (List.mem_of_getElem? (i := 3) rfl)
theorem tw4 {a0 : Array Value} {Z : State} (hw : ∀ d ∈ tables_1, d.before a0 Z = true) : ((Jvm.Cond.initialized "com/example/medianpoint/medianpoint/Relaxation")).before a0 Z = true := hw _ (List.mem_of_getElem? (i := 4) rfl)
theorem tw5 {a0 : Array Value} {Z : State} (hw : ∀ d ∈ tables_1, d.before a0 Z = true) : ((Jvm.Cond.code ({ cls := "com/example/medianpoint/medianpoint/Relaxation", name := "openStatus", desc := "([Z)[B" } : Jvm.MethodName) prog_36_method_2_code (3 : Nat) (Option.some (Jvm.ClassFile.FieldType.array Jvm.ClassFile.FieldType.byte)))).before a0 Z = true := hw _ (List.mem_of_getElem? (i := 5) rfl)
theorem tw6 {a0 : Array Value} {Z : State} (hw : ∀ d ∈ tables_1, d.before a0 Z = true) : ((Jvm.Cond.arrayClass Jvm.ClassFile.FieldType.byte)).before a0 Z = true := hw _ (List.mem_of_getElem? (i := 6) rfl)
theorem tw7 {a0 : Array Value} {Z : State} (hw : ∀ d ∈ tables_1, d.before a0 Z = true) : ((Jvm.Cond.methodLink "com/example/medianpoint/medianpoint/RelaxationOpenStatusPinLaw" (14 : Nat) ({ cls := "com/example/medianpoint/medianpoint/RelaxationOpenStatusPinLaw", name := "at", desc := "([B[ZIII)Z" } : Jvm.MethodName))).before a0 Z = true := hw _ (List.mem_of_getElem? (i := 7) rfl)
theorem tw8 {a0 : Array Value} {Z : State} (hw : ∀ d ∈ tables_1, d.before a0 Z = true) : ((Jvm.Cond.static ({ cls := "com/example/medianpoint/medianpoint/RelaxationOpenStatusPinLaw", name := "at", desc := "([B[ZIII)Z" } : Jvm.MethodName))).before a0 Z = true := hw _ (List.mem_of_getElem? (i := 8) rfl)
theorem tw9 {a0 : Array Value} {Z : State} (hw : ∀ d ∈ tables_1, d.before a0 Z = true) : ((Jvm.Cond.initialized "com/example/medianpoint/medianpoint/RelaxationOpenStatusPinLaw")).before a0 Z = true := hw _ (List.mem_of_getElem? (i := 9) rfl)
theorem tw10 {a0 : Array Value} {Z : State} (hw : ∀ d ∈ tables_1, d.before a0 Z = true) : ((Jvm.Cond.code ({ cls := "com/example/medianpoint/medianpoint/RelaxationOpenStatusPinLaw", name := "at", desc := "([B[ZIII)Z" } : Jvm.MethodName) method_3_code (7 : Nat) (Option.some Jvm.ClassFile.FieldType.boolean))).before a0 Z = true := hw _ (List.mem_of_getElem? (i := 10) rfl)
theorem own_nn {x : Int32} (h : 0 ≤ x.toInt) : x.toInt = (x.toBitVec.toNat : Int) := by
  have q := BitVec.toInt_eq_toNat_cond x.toBitVec
  have e : x.toInt = x.toBitVec.toInt := rfl
  rw [e] at h ⊢
  rw [q] at h ⊢
  have := x.toBitVec.isLt
  split at h <;> rename_i c
  · rw [if_pos c]
  · omega
theorem own_nn' {x : Int32} (h : x.toBitVec.toNat < 2147483648) : x.toInt = (x.toBitVec.toNat : Int) := by
  have q := BitVec.toInt_eq_toNat_cond x.toBitVec
  have e : x.toInt = x.toBitVec.toInt := rfl
  rw [e, q, if_pos (by omega)]
theorem own_ofnat {x : Int32} (h : 0 ≤ x.toInt) : x = Int32.ofNat x.toBitVec.toNat := by
  apply Int32.toBitVec_inj.mp
  apply BitVec.eq_of_toNat_eq
  show _ = (BitVec.ofNat 32 x.toBitVec.toNat).toNat
  rw [BitVec.toNat_ofNat, Nat.mod_eq_of_lt x.toBitVec.isLt]
theorem own_b32 (x : Int32) : -2147483648 ≤ x.toInt ∧ x.toInt < 2147483648 := ⟨Int32.le_toInt x, Int32.toInt_lt x⟩
theorem own_b64 (x : Int64) : -9223372036854775808 ≤ x.toInt ∧ x.toInt < 9223372036854775808 := ⟨Int64.le_toInt x, Int64.toInt_lt x⟩
theorem own_add64 {x y : Int64} (h1 : -9223372036854775808 ≤ x.toInt + y.toInt) (h2 : x.toInt + y.toInt < 9223372036854775808) : (x + y).toInt = x.toInt + y.toInt := XT.add64 ⟨h1, h2⟩
theorem own_sub64 {x y : Int64} (h1 : -9223372036854775808 ≤ x.toInt - y.toInt) (h2 : x.toInt - y.toInt < 9223372036854775808) : (x - y).toInt = x.toInt - y.toInt := XT.sub64 ⟨h1, h2⟩
theorem own_mul64 {x y : Int64} (h1 : -9223372036854775808 ≤ x.toInt * y.toInt) (h2 : x.toInt * y.toInt < 9223372036854775808) : (x * y).toInt = x.toInt * y.toInt := XT.mul64 ⟨h1, h2⟩
theorem own_add32 {x y : Int32} (h1 : -2147483648 ≤ x.toInt + y.toInt) (h2 : x.toInt + y.toInt < 2147483648) : (x + y).toInt = x.toInt + y.toInt := XT.add32 ⟨h1, h2⟩
theorem own_sub32 {x y : Int32} (h1 : -2147483648 ≤ x.toInt - y.toInt) (h2 : x.toInt - y.toInt < 2147483648) : (x - y).toInt = x.toInt - y.toInt := XT.sub32 ⟨h1, h2⟩
theorem own_w (x : Int32) : x.toInt64.toInt = x.toInt := Int32.toInt_toInt64 x
theorem own_div64 {x y : Int64} (hx : 0 ≤ x.toInt) (hy : 0 < y.toInt) : (x / y).toInt = x.toInt / y.toInt := by
  rw [Int64.toInt_div, Int.tdiv_eq_ediv_of_nonneg hx]
  have b := own_b64 x
  have h1 : 0 ≤ x.toInt / y.toInt := Int.ediv_nonneg hx (Int.le_of_lt hy)
  have h2 : x.toInt / y.toInt ≤ x.toInt := Int.ediv_le_self _ hx
  exact Int.bmod_eq_of_le (by omega) (by omega)
theorem own_div32 {x y : Int32} (hx : 0 ≤ x.toInt) (hy : 0 < y.toInt) : (x / y).toInt = x.toInt / y.toInt := by
  rw [Int32.toInt_div, Int.tdiv_eq_ediv_of_nonneg hx]
  have b := own_b32 x
  have h1 : 0 ≤ x.toInt / y.toInt := Int.ediv_nonneg hx (Int.le_of_lt hy)
  have h2 : x.toInt / y.toInt ≤ x.toInt := Int.ediv_le_self _ hx
  exact Int.bmod_eq_of_le (by omega) (by omega)
theorem own_rem32 {x y : Int32} (hx : 0 ≤ x.toInt) : (x % y).toInt = x.toInt % y.toInt := by
  rw [Int32.toInt_mod, Int.tmod_eq_emod_of_nonneg hx]
theorem own_pos32 (x : Int32) : 0 ≤ (x &&& 2147483647).toInt := by
  have q := (XT.and_neg32 x 2147483647)
  rw [XT.negI32] at q
  have r : ¬ (x &&& 2147483647).toInt < 0 := fun h => absurd (q.mp h).2 (by decide)
  omega
theorem own_pos64 (x : Int64) : 0 ≤ (x &&& 9223372036854775807).toInt := by
  have q := (XT.and_neg64 x 9223372036854775807)
  rw [XT.negI64] at q
  have r : ¬ (x &&& 9223372036854775807).toInt < 0 := fun h => absurd (q.mp h).2 (by decide)
  omega
theorem own_lt32 {x y : Int32} : x < y ↔ x.toInt < y.toInt := Int32.lt_iff_toInt_lt
theorem own_lt64 {x y : Int64} : x < y ↔ x.toInt < y.toInt := Int64.lt_iff_toInt_lt
theorem own_eq32 {x y : Int32} : x = y ↔ x.toInt = y.toInt := ⟨fun h => h ▸ rfl, Int32.toInt_inj.mp⟩
theorem own_eq64 {x y : Int64} : x = y ↔ x.toInt = y.toInt := ⟨fun h => h ▸ rfl, Int64.toInt_inj.mp⟩
theorem own_and1 (x : BitVec 32) : (x &&& 1#32 = 0#32) ↔ x.getLsbD 0 = false := by
  have e : (1#32) = BitVec.twoPow 32 0 := by decide
  rw [e, BitVec.and_twoPow]
  cases x.getLsbD 0
  · simp
  · simp; decide
theorem own_andp (x : BitVec 32) (j : Nat) (hj : j < 32) : (x &&& BitVec.twoPow 32 j = 0#32) ↔ x.getLsbD j = false := by
  rw [BitVec.and_twoPow]
  cases x.getLsbD j
  · simp
  · have : BitVec.twoPow 32 j ≠ 0#32 := by
      have : ∀ k : Fin 32, BitVec.twoPow 32 k.val ≠ 0#32 := by decide +kernel
      exact this ⟨j, hj⟩
    simp [this]
theorem own_sar (z k : Int32) (n : Nat) (hk : (k &&& 31).toBitVec.toNat = n) (hn : n < 32) : (z >>> (k &&& 31)).toBitVec = z.toBitVec.sshiftRight n := by
  rw [Int32.toBitVec_shiftRight]
  have e : (k &&& 31).toBitVec.smod 32#32 = (k &&& 31).toBitVec := by
    rw [show (k &&& 31).toBitVec = BitVec.ofNat 32 n from BitVec.eq_of_toNat_eq (by rw [hk, BitVec.toNat_ofNat, Nat.mod_eq_of_lt (by omega)])]
    have : ∀ m : Fin 32, (BitVec.ofNat 32 m.val).smod 32#32 = BitVec.ofNat 32 m.val := by decide +kernel
    exact this ⟨n, hn⟩
  show z.toBitVec.sshiftRight' ((k &&& 31).toBitVec.smod 32#32) = _
  rw [e]
  show z.toBitVec.sshiftRight (k &&& 31).toBitVec.toNat = _
  rw [hk]
theorem own_bit (b k p : Int32) (n : Nat) (hk : (k &&& 31).toBitVec.toNat = n) (hp : p.toBitVec = BitVec.twoPow 32 n) (hn : n < 32) : ((b >>> (k &&& 31)) &&& 1 = 0) ↔ (b &&& p = 0) := by
  rw [← Int32.toBitVec_inj, ← Int32.toBitVec_inj, Int32.toBitVec_and, Int32.toBitVec_and, own_sar b k n hk hn, hp]
  show (b.toBitVec.sshiftRight n &&& 1#32 = 0#32) ↔ (b.toBitVec &&& BitVec.twoPow 32 n = 0#32)
  rw [own_and1, own_andp _ _ hn, BitVec.getLsbD_sshiftRight]
  simp [hn]
def own_b (x : Int32) : Int32 := nar .boolean (if x = 0 then 0 else 1)
def own_s (x : Int32) : Int32 := nar .byte (if x = 0 then 0 else 1)
def own_at (y x b j : Int32) : Int32 := if (b >>> (j &&& 31)) &&& 1 = 0 then (if y = 0 then (if x = 0 then 1 else 0) else 0) else (if y = 1 then (if x = 1 then 1 else 0) else 0)
theorem own_b0 {x : Int32} (h : x = 0) : own_b x = 0 := by unfold own_b; rw [if_pos h]; decide
theorem own_b1 {x : Int32} (h : ¬ x = 0) : own_b x = 1 := by unfold own_b; rw [if_neg h]; decide
theorem own_s0 : own_s 0 = 0 := by decide
theorem own_s1 : own_s 1 = 1 := by decide
theorem own_good (b k p : Int32) (n : Nat) (hk : (k &&& 31).toBitVec.toNat = n) (hp : p.toBitVec = BitVec.twoPow 32 n) (hn : n < 32) : own_at (own_s (own_b (b &&& p))) (own_b (b &&& p)) b k = 1 := by
  unfold own_at
  by_cases q : b &&& p = 0
  · rw [if_pos ((own_bit b k p n hk hp hn).mpr q), own_b0 q, own_s0]; rfl
  · rw [if_neg (fun h => q ((own_bit b k p n hk hp hn).mp h)), own_b1 q, own_s1]; rfl
theorem own_six (x v : Int32) (h : v = (x &&& 2147483647) % 6) : v = 0 ∨ v = 1 ∨ v = 2 ∨ v = 3 ∨ v = 4 ∨ v = 5 := by
  have p := own_pos32 x
  have e := own_rem32 (x := x &&& 2147483647) (y := 6) p
  have c9 : (6 : Int32).toInt = 6 := by decide
  rw [c9, ← h] at e
  have h1 : 0 ≤ v.toInt := by omega
  have e2 := own_nn h1
  have q := own_ofnat h1
  have : v.toBitVec.toNat = 0 ∨ v.toBitVec.toNat = 1 ∨ v.toBitVec.toNat = 2 ∨ v.toBitVec.toNat = 3 ∨ v.toBitVec.toNat = 4 ∨ v.toBitVec.toNat = 5 := by omega
  rcases this with h | h | h | h | h | h <;> rw [h] at q <;> rw [q] <;> decide

theorem d1_0 : decode prog_36_method_2_code 0 = .ok (.aload_n 0, 1) := by decide +kernel
theorem d1_1 : decode prog_36_method_2_code 1 = .ok (.arraylength, 1) := by decide +kernel
theorem d1_2 : decode prog_36_method_2_code 2 = .ok (.newarray .byte, 2) := by decide +kernel
theorem d1_4 : decode prog_36_method_2_code 4 = .ok (.astore_n 1, 1) := by decide +kernel
theorem d1_5 : decode prog_36_method_2_code 5 = .ok (.iconst 0, 1) := by decide +kernel
theorem d1_6 : decode prog_36_method_2_code 6 = .ok (.istore_n 2, 1) := by decide +kernel
theorem d1_7 : decode prog_36_method_2_code 7 = .ok (.iload_n 2, 1) := by decide +kernel
theorem d1_8 : decode prog_36_method_2_code 8 = .ok (.aload_n 1, 1) := by decide +kernel
theorem d1_9 : decode prog_36_method_2_code 9 = .ok (.arraylength, 1) := by decide +kernel
theorem d1_10 : decode prog_36_method_2_code 10 = .ok (.if_icmp .ge 23, 3) := by decide +kernel
theorem d1_13 : decode prog_36_method_2_code 13 = .ok (.aload_n 1, 1) := by decide +kernel
theorem d1_14 : decode prog_36_method_2_code 14 = .ok (.iload_n 2, 1) := by decide +kernel
theorem d1_15 : decode prog_36_method_2_code 15 = .ok (.aload_n 0, 1) := by decide +kernel
theorem d1_16 : decode prog_36_method_2_code 16 = .ok (.iload_n 2, 1) := by decide +kernel
theorem d1_17 : decode prog_36_method_2_code 17 = .ok (.baload, 1) := by decide +kernel
theorem d1_18 : decode prog_36_method_2_code 18 = .ok (.ifCond .eq 7, 3) := by decide +kernel
theorem d1_21 : decode prog_36_method_2_code 21 = .ok (.iconst 1, 1) := by decide +kernel
theorem d1_22 : decode prog_36_method_2_code 22 = .ok (.goto 4, 3) := by decide +kernel
theorem d1_25 : decode prog_36_method_2_code 25 = .ok (.iconst 0, 1) := by decide +kernel
theorem d1_26 : decode prog_36_method_2_code 26 = .ok (.bastore, 1) := by decide +kernel
theorem d1_27 : decode prog_36_method_2_code 27 = .ok (.iinc 2 1, 3) := by decide +kernel
theorem d1_30 : decode prog_36_method_2_code 30 = .ok (.goto (-23), 3) := by decide +kernel
theorem d1_33 : decode prog_36_method_2_code 33 = .ok (.aload_n 1, 1) := by decide +kernel
theorem d1_34 : decode prog_36_method_2_code 34 = .ok (.areturn, 1) := by decide +kernel

theorem pd1 : parseMethodDescriptor "([Z)[B" = some ⟨[(.array .boolean)], some (.array .byte)⟩ := by decide +kernel
theorem pl1 : plainFor (⟨"com/example/medianpoint/medianpoint/Relaxation", "openStatus", "([Z)[B"⟩ : MethodName) = true := by first | exact plainFor_of_name (by first | (simp [plainName, overriddenIn]; done) | decide +kernel) | decide +kernel

theorem ef_k_open0 (m : MethodId) (x0 : Addr) : entryFrame m #[(.ref x0)] 3 = mkF m 0 #[.val (.ref x0), .unset, .unset] [] := by first | (simp [entryFrame, mkF, argsToLocals, Value.category]; done) | rfl

set_option maxRecDepth 65536 in
set_option maxHeartbeats 40000000 in
theorem k_open0 {l : Launch} {Z : State} {a0 : Array Value} (hw : ∀ d ∈ tables_1, d.before a0 Z = true)  (h : Heap) (hz : Z.heap.size ≤ h.size) (a : Addr) (fa0 : Ari Z h a .boolean [])    : Go l Z (⟨"com/example/medianpoint/medianpoint/Relaxation", "openStatus", "([Z)[B"⟩ : MethodName) prog_36_method_2_code 3 (Option.some (Jvm.ClassFile.FieldType.array Jvm.ClassFile.FieldType.byte)) ({ frames := 0, cells := 1, slots := 5, locals := 0 } : Room) (QR fun rz h' => ∃ r : Addr, rz = .ref r ∧ h.size ≤ r ∧ Keep h h' [] ∧ Ari Z h' r .byte []) 0 0 h 0 #[.val (.ref a), .unset, .unset] [] := by
  have kp0 : Keep h h [] := Keep.refl _ _
  refine Go.aload_n 1 d1_0 rfl rfl rfl ?_
  refine Go.arraylength (z := (0 : Int32)) 2 d1_1 fa0 (by decide : Nat.toInt32 0 = (0 : Int32)) rfl ?_
  refine Go.newI (cap := 0) (xs := []) 4 d1_2 (tw6 hw) rfl (by decide) (by decide) (by decide) rfl (by decide) (by decide) rfl (fun a1 h2 q3 E4 A5 => ?_)
  have ne6 : a ≠ a1 := fun e => absurd fa0.lt (by rw [e, q3]; exact Nat.lt_irrefl _)
  have ge7 : Z.heap.size ≤ a1 := (Eq.symm q3) ▸ hz
  have fr8 : h.size ≤ a1 := by rw [q3]; exact kp0.1
  have f9 : Ari Z h2 a .boolean [] := fa0.ext E4
  have zs10 : Z.heap.size ≤ h2.size := Nat.le_trans hz E4.1
  have kp11 : Keep h h2 [] := kp0.ext E4
  refine Go.astore_n 5 #[.val (.ref a), .val (.ref a1), .unset] d1_4 rfl rfl rfl ?_
  refine Go.iconst 6 (0) d1_5 (by decide) rfl ?_
  refine Go.istore_n 7 #[.val (.ref a), .val (.ref a1), .val (.int (0 : Int32))] d1_6 rfl rfl ?_
  refine Go.iload_n 8 d1_7 rfl rfl ?_
  refine Go.aload_n 9 d1_8 rfl rfl rfl ?_
  refine Go.arraylength (z := (0 : Int32)) 10 d1_9 A5 (by decide : Nat.toInt32 0 = (0 : Int32)) rfl ?_
  refine Go.icmp_ge 33 13 d1_10 (by decide) (by decide) rfl (fun _ => ?_) (fun c => absurd c (by decide))
  refine Go.aload_n 34 d1_33 rfl rfl rfl ?_
  refine Go.areturn d1_34 rfl rfl rfl (by decide) (by decide) ?_
  have e9 : ([] : List Int32) = [] := by rfl
  exact ⟨a1, rfl, fr8, kp11, e9 ▸ A5⟩

theorem ef_k_open1 (m : MethodId) (x0 : Addr) : entryFrame m #[(.ref x0)] 3 = mkF m 0 #[.val (.ref x0), .unset, .unset] [] := by first | (simp [entryFrame, mkF, argsToLocals, Value.category]; done) | rfl

set_option maxRecDepth 65536 in
set_option maxHeartbeats 40000000 in
theorem k_open1 {l : Launch} {Z : State} {a0 : Array Value} (hw : ∀ d ∈ tables_1, d.before a0 Z = true) {x0 : Int32} (h : Heap) (hz : Z.heap.size ≤ h.size) (a : Addr) (fa0 : Ari Z h a .boolean [x0])    : Go l Z (⟨"com/example/medianpoint/medianpoint/Relaxation", "openStatus", "([Z)[B"⟩ : MethodName) prog_36_method_2_code 3 (Option.some (Jvm.ClassFile.FieldType.array Jvm.ClassFile.FieldType.byte)) ({ frames := 0, cells := 1, slots := 5, locals := 0 } : Room) (QR fun rz h' => ∃ r : Addr, rz = .ref r ∧ h.size ≤ r ∧ Keep h h' [] ∧ Ari Z h' r .byte [own_s x0]) 0 0 h 0 #[.val (.ref a), .unset, .unset] [] := by
  have kp0 : Keep h h [] := Keep.refl _ _
  refine Go.aload_n 1 d1_0 rfl rfl rfl ?_
  refine Go.arraylength (z := (1 : Int32)) 2 d1_1 fa0 (by decide : Nat.toInt32 1 = (1 : Int32)) rfl ?_
  refine Go.newI (cap := 1) (xs := [0]) 4 d1_2 (tw6 hw) rfl (by decide) (by decide) (by decide) rfl (by decide) (by decide) rfl (fun a1 h2 q3 E4 A5 => ?_)
  have ne6 : a ≠ a1 := fun e => absurd fa0.lt (by rw [e, q3]; exact Nat.lt_irrefl _)
  have ge7 : Z.heap.size ≤ a1 := (Eq.symm q3) ▸ hz
  have fr8 : h.size ≤ a1 := by rw [q3]; exact kp0.1
  have f9 : Ari Z h2 a .boolean [x0] := fa0.ext E4
  have zs10 : Z.heap.size ≤ h2.size := Nat.le_trans hz E4.1
  have kp11 : Keep h h2 [] := kp0.ext E4
  refine Go.astore_n 5 #[.val (.ref a), .val (.ref a1), .unset] d1_4 rfl rfl rfl ?_
  refine Go.iconst 6 (0) d1_5 (by decide) rfl ?_
  refine Go.istore_n 7 #[.val (.ref a), .val (.ref a1), .val (.int (0 : Int32))] d1_6 rfl rfl ?_
  refine Go.iload_n 8 d1_7 rfl rfl ?_
  refine Go.aload_n 9 d1_8 rfl rfl rfl ?_
  refine Go.arraylength (z := (1 : Int32)) 10 d1_9 A5 (by decide : Nat.toInt32 1 = (1 : Int32)) rfl ?_
  refine Go.icmp_ge 33 13 d1_10 (by decide) (by decide) rfl (fun c => absurd c (by decide)) (fun _ => ?_)
  refine Go.aload_n 14 d1_13 rfl rfl rfl ?_
  refine Go.iload_n 15 d1_14 rfl rfl ?_
  refine Go.aload_n 16 d1_15 rfl rfl rfl ?_
  refine Go.iload_n 17 d1_16 rfl rfl ?_
  refine Go.zaload (x := x0) (0) 18 d1_17 f9 (by decide) (by decide) rfl rfl ?_
  have J14 : ∀ (v15 : Int32), v15 = (if x0 = (0 : Int32) then (0 : Int32) else (1 : Int32)) → Go l Z (⟨"com/example/medianpoint/medianpoint/Relaxation", "openStatus", "([Z)[B"⟩ : MethodName) prog_36_method_2_code 3 (Option.some (Jvm.ClassFile.FieldType.array Jvm.ClassFile.FieldType.byte)) ({ frames := 0, cells := 1, slots := 5, locals := 0 } : Room) (QR fun rz h' => ∃ r : Addr, rz = .ref r ∧ h.size ≤ r ∧ Keep h h' [] ∧ Ari Z h' r .byte [own_s x0]) 1 1 h2 26 #[.val (.ref a), .val (.ref a1), .val (.int (0 : Int32))] [.int v15, .int (0 : Int32), .ref a1] := by
    intro v15 e16
    refine Go.bastore (0) ([(nar .byte v15)]) 27 d1_26 A5 (by decide) (by decide) (by decide : (0 : Nat) < 1) rfl ge7 rfl (fun h17 W18 A19 => ?_)
    have f20 : Ari Z h17 a .boolean [x0] := f9.other W18 ne6
    have zs21 : Z.heap.size ≤ h17.size := W18.size ▸ zs10
    have kp22 : Keep h h17 [] := kp11.wr W18 (Or.inr fr8)
    refine Go.iinc 30 (1) #[.val (.ref a), .val (.ref a1), .val (.int ((0 : Int32) + (1 : Int32)))] d1_27 (by decide) rfl rfl rfl ?_
    refine Go.goto 7 d1_30 (by decide) (by decide) ?_
    refine Go.iload_n 8 d1_7 rfl rfl ?_
    refine Go.aload_n 9 d1_8 rfl rfl rfl ?_
    refine Go.arraylength (z := (1 : Int32)) 10 d1_9 A19 (by decide : Nat.toInt32 1 = (1 : Int32)) rfl ?_
    refine Go.icmp_ge 33 13 d1_10 (by decide) (by decide) rfl (fun _ => ?_) (fun c => absurd c (by decide))
    refine Go.aload_n 34 d1_33 rfl rfl rfl ?_
    refine Go.areturn d1_34 rfl rfl rfl (by decide) (by decide) ?_
    have e9 : ([own_s x0] : List Int32) = [(nar .byte v15)] := by subst_vars; rfl
    exact ⟨a1, rfl, fr8, kp22, e9 ▸ A19⟩
  refine Go.if_eq 25 21 d1_18 (by decide) (by decide) rfl (fun c24 => ?_) (fun c24 => ?_)
  ·
    refine Go.iconst 26 (0) d1_25 (by decide) rfl ?_
    exact (J14 _ (by first | rfl | (simp only [if_pos c24]; done) | simp [c24])).le (by decide) (by decide)
  ·
    refine Go.iconst 22 (1) d1_21 (by decide) rfl ?_
    refine Go.goto 26 d1_22 (by decide) (by decide) ?_
    exact (J14 _ (by first | rfl | (simp only [if_neg c24]; done) | simp [c24])).le (by decide) (by decide)

theorem ef_k_open2 (m : MethodId) (x0 : Addr) : entryFrame m #[(.ref x0)] 3 = mkF m 0 #[.val (.ref x0), .unset, .unset] [] := by first | (simp [entryFrame, mkF, argsToLocals, Value.category]; done) | rfl

set_option maxRecDepth 65536 in
set_option maxHeartbeats 40000000 in
theorem k_open2 {l : Launch} {Z : State} {a0 : Array Value} (hw : ∀ d ∈ tables_1, d.before a0 Z = true) {x0 : Int32} {x1 : Int32} (h : Heap) (hz : Z.heap.size ≤ h.size) (a : Addr) (fa0 : Ari Z h a .boolean [x0, x1])    : Go l Z (⟨"com/example/medianpoint/medianpoint/Relaxation", "openStatus", "([Z)[B"⟩ : MethodName) prog_36_method_2_code 3 (Option.some (Jvm.ClassFile.FieldType.array Jvm.ClassFile.FieldType.byte)) ({ frames := 0, cells := 1, slots := 5, locals := 0 } : Room) (QR fun rz h' => ∃ r : Addr, rz = .ref r ∧ h.size ≤ r ∧ Keep h h' [] ∧ Ari Z h' r .byte [own_s x0, own_s x1]) 0 0 h 0 #[.val (.ref a), .unset, .unset] [] := by
  have kp0 : Keep h h [] := Keep.refl _ _
  refine Go.aload_n 1 d1_0 rfl rfl rfl ?_
  refine Go.arraylength (z := (2 : Int32)) 2 d1_1 fa0 (by decide : Nat.toInt32 2 = (2 : Int32)) rfl ?_
  refine Go.newI (cap := 2) (xs := [0, 0]) 4 d1_2 (tw6 hw) rfl (by decide) (by decide) (by decide) rfl (by decide) (by decide) rfl (fun a1 h2 q3 E4 A5 => ?_)
  have ne6 : a ≠ a1 := fun e => absurd fa0.lt (by rw [e, q3]; exact Nat.lt_irrefl _)
  have ge7 : Z.heap.size ≤ a1 := (Eq.symm q3) ▸ hz
  have fr8 : h.size ≤ a1 := by rw [q3]; exact kp0.1
  have f9 : Ari Z h2 a .boolean [x0, x1] := fa0.ext E4
  have zs10 : Z.heap.size ≤ h2.size := Nat.le_trans hz E4.1
  have kp11 : Keep h h2 [] := kp0.ext E4
  refine Go.astore_n 5 #[.val (.ref a), .val (.ref a1), .unset] d1_4 rfl rfl rfl ?_
  refine Go.iconst 6 (0) d1_5 (by decide) rfl ?_
  refine Go.istore_n 7 #[.val (.ref a), .val (.ref a1), .val (.int (0 : Int32))] d1_6 rfl rfl ?_
  refine Go.iload_n 8 d1_7 rfl rfl ?_
  refine Go.aload_n 9 d1_8 rfl rfl rfl ?_
  refine Go.arraylength (z := (2 : Int32)) 10 d1_9 A5 (by decide : Nat.toInt32 2 = (2 : Int32)) rfl ?_
  refine Go.icmp_ge 33 13 d1_10 (by decide) (by decide) rfl (fun c => absurd c (by decide)) (fun _ => ?_)
  refine Go.aload_n 14 d1_13 rfl rfl rfl ?_
  refine Go.iload_n 15 d1_14 rfl rfl ?_
  refine Go.aload_n 16 d1_15 rfl rfl rfl ?_
  refine Go.iload_n 17 d1_16 rfl rfl ?_
  refine Go.zaload (x := x0) (0) 18 d1_17 f9 (by decide) (by decide) rfl rfl ?_
  have J14 : ∀ (v15 : Int32), v15 = (if x0 = (0 : Int32) then (0 : Int32) else (1 : Int32)) → Go l Z (⟨"com/example/medianpoint/medianpoint/Relaxation", "openStatus", "([Z)[B"⟩ : MethodName) prog_36_method_2_code 3 (Option.some (Jvm.ClassFile.FieldType.array Jvm.ClassFile.FieldType.byte)) ({ frames := 0, cells := 1, slots := 5, locals := 0 } : Room) (QR fun rz h' => ∃ r : Addr, rz = .ref r ∧ h.size ≤ r ∧ Keep h h' [] ∧ Ari Z h' r .byte [own_s x0, own_s x1]) 1 2 h2 26 #[.val (.ref a), .val (.ref a1), .val (.int (0 : Int32))] [.int v15, .int (0 : Int32), .ref a1] := by
    intro v15 e16
    refine Go.bastore (0) ([(nar .byte v15), 0]) 27 d1_26 A5 (by decide) (by decide) (by decide : (0 : Nat) < 2) rfl ge7 rfl (fun h17 W18 A19 => ?_)
    have f20 : Ari Z h17 a .boolean [x0, x1] := f9.other W18 ne6
    have zs21 : Z.heap.size ≤ h17.size := W18.size ▸ zs10
    have kp22 : Keep h h17 [] := kp11.wr W18 (Or.inr fr8)
    refine Go.iinc 30 (1) #[.val (.ref a), .val (.ref a1), .val (.int ((0 : Int32) + (1 : Int32)))] d1_27 (by decide) rfl rfl rfl ?_
    refine Go.goto 7 d1_30 (by decide) (by decide) ?_
    refine Go.iload_n 8 d1_7 rfl rfl ?_
    refine Go.aload_n 9 d1_8 rfl rfl rfl ?_
    refine Go.arraylength (z := (2 : Int32)) 10 d1_9 A19 (by decide : Nat.toInt32 2 = (2 : Int32)) rfl ?_
    refine Go.icmp_ge 33 13 d1_10 (by decide) (by decide) rfl (fun c => absurd c (by decide)) (fun _ => ?_)
    refine Go.aload_n 14 d1_13 rfl rfl rfl ?_
    refine Go.iload_n 15 d1_14 rfl rfl ?_
    refine Go.aload_n 16 d1_15 rfl rfl rfl ?_
    refine Go.iload_n 17 d1_16 rfl rfl ?_
    refine Go.zaload (x := x1) (1) 18 d1_17 f20 (by decide) (by decide) rfl rfl ?_
    have J25 : ∀ (v26 : Int32), v26 = (if x1 = (0 : Int32) then (0 : Int32) else (1 : Int32)) → Go l Z (⟨"com/example/medianpoint/medianpoint/Relaxation", "openStatus", "([Z)[B"⟩ : MethodName) prog_36_method_2_code 3 (Option.some (Jvm.ClassFile.FieldType.array Jvm.ClassFile.FieldType.byte)) ({ frames := 0, cells := 1, slots := 5, locals := 0 } : Room) (QR fun rz h' => ∃ r : Addr, rz = .ref r ∧ h.size ≤ r ∧ Keep h h' [] ∧ Ari Z h' r .byte [own_s x0, own_s x1]) 1 2 h17 26 #[.val (.ref a), .val (.ref a1), .val (.int ((0 : Int32) + (1 : Int32)))] [.int v26, .int ((0 : Int32) + (1 : Int32)), .ref a1] := by
      intro v26 e27
      refine Go.bastore (1) ([(nar .byte v15), (nar .byte v26)]) 27 d1_26 A19 (by decide) (by decide) (by decide : (1 : Nat) < 2) rfl ge7 rfl (fun h28 W29 A30 => ?_)
      have f31 : Ari Z h28 a .boolean [x0, x1] := f20.other W29 ne6
      have zs32 : Z.heap.size ≤ h28.size := W29.size ▸ zs21
      have kp33 : Keep h h28 [] := kp22.wr W29 (Or.inr fr8)
      refine Go.iinc 30 (1) #[.val (.ref a), .val (.ref a1), .val (.int (((0 : Int32) + (1 : Int32)) + (1 : Int32)))] d1_27 (by decide) rfl rfl rfl ?_
      refine Go.goto 7 d1_30 (by decide) (by decide) ?_
      refine Go.iload_n 8 d1_7 rfl rfl ?_
      refine Go.aload_n 9 d1_8 rfl rfl rfl ?_
      refine Go.arraylength (z := (2 : Int32)) 10 d1_9 A30 (by decide : Nat.toInt32 2 = (2 : Int32)) rfl ?_
      refine Go.icmp_ge 33 13 d1_10 (by decide) (by decide) rfl (fun _ => ?_) (fun c => absurd c (by decide))
      refine Go.aload_n 34 d1_33 rfl rfl rfl ?_
      refine Go.areturn d1_34 rfl rfl rfl (by decide) (by decide) ?_
      have e9 : ([own_s x0, own_s x1] : List Int32) = [(nar .byte v15), (nar .byte v26)] := by subst_vars; rfl
      exact ⟨a1, rfl, fr8, kp33, e9 ▸ A30⟩
    refine Go.if_eq 25 21 d1_18 (by decide) (by decide) rfl (fun c35 => ?_) (fun c35 => ?_)
    ·
      refine Go.iconst 26 (0) d1_25 (by decide) rfl ?_
      exact (J25 _ (by first | rfl | (simp only [if_pos c35]; done) | simp [c35])).le (by decide) (by decide)
    ·
      refine Go.iconst 22 (1) d1_21 (by decide) rfl ?_
      refine Go.goto 26 d1_22 (by decide) (by decide) ?_
      exact (J25 _ (by first | rfl | (simp only [if_neg c35]; done) | simp [c35])).le (by decide) (by decide)
  refine Go.if_eq 25 21 d1_18 (by decide) (by decide) rfl (fun c36 => ?_) (fun c36 => ?_)
  ·
    refine Go.iconst 26 (0) d1_25 (by decide) rfl ?_
    exact (J14 _ (by first | rfl | (simp only [if_pos c36]; done) | simp [c36])).le (by decide) (by decide)
  ·
    refine Go.iconst 22 (1) d1_21 (by decide) rfl ?_
    refine Go.goto 26 d1_22 (by decide) (by decide) ?_
    exact (J14 _ (by first | rfl | (simp only [if_neg c36]; done) | simp [c36])).le (by decide) (by decide)

theorem ef_k_open3 (m : MethodId) (x0 : Addr) : entryFrame m #[(.ref x0)] 3 = mkF m 0 #[.val (.ref x0), .unset, .unset] [] := by first | (simp [entryFrame, mkF, argsToLocals, Value.category]; done) | rfl

set_option maxRecDepth 65536 in
set_option maxHeartbeats 40000000 in
theorem k_open3 {l : Launch} {Z : State} {a0 : Array Value} (hw : ∀ d ∈ tables_1, d.before a0 Z = true) {x0 : Int32} {x1 : Int32} {x2 : Int32} (h : Heap) (hz : Z.heap.size ≤ h.size) (a : Addr) (fa0 : Ari Z h a .boolean [x0, x1, x2])    : Go l Z (⟨"com/example/medianpoint/medianpoint/Relaxation", "openStatus", "([Z)[B"⟩ : MethodName) prog_36_method_2_code 3 (Option.some (Jvm.ClassFile.FieldType.array Jvm.ClassFile.FieldType.byte)) ({ frames := 0, cells := 1, slots := 5, locals := 0 } : Room) (QR fun rz h' => ∃ r : Addr, rz = .ref r ∧ h.size ≤ r ∧ Keep h h' [] ∧ Ari Z h' r .byte [own_s x0, own_s x1, own_s x2]) 0 0 h 0 #[.val (.ref a), .unset, .unset] [] := by
  have kp0 : Keep h h [] := Keep.refl _ _
  refine Go.aload_n 1 d1_0 rfl rfl rfl ?_
  refine Go.arraylength (z := (3 : Int32)) 2 d1_1 fa0 (by decide : Nat.toInt32 3 = (3 : Int32)) rfl ?_
  refine Go.newI (cap := 3) (xs := [0, 0, 0]) 4 d1_2 (tw6 hw) rfl (by decide) (by decide) (by decide) rfl (by decide) (by decide) rfl (fun a1 h2 q3 E4 A5 => ?_)
  have ne6 : a ≠ a1 := fun e => absurd fa0.lt (by rw [e, q3]; exact Nat.lt_irrefl _)
  have ge7 : Z.heap.size ≤ a1 := (Eq.symm q3) ▸ hz
  have fr8 : h.size ≤ a1 := by rw [q3]; exact kp0.1
  have f9 : Ari Z h2 a .boolean [x0, x1, x2] := fa0.ext E4
  have zs10 : Z.heap.size ≤ h2.size := Nat.le_trans hz E4.1
  have kp11 : Keep h h2 [] := kp0.ext E4
  refine Go.astore_n 5 #[.val (.ref a), .val (.ref a1), .unset] d1_4 rfl rfl rfl ?_
  refine Go.iconst 6 (0) d1_5 (by decide) rfl ?_
  refine Go.istore_n 7 #[.val (.ref a), .val (.ref a1), .val (.int (0 : Int32))] d1_6 rfl rfl ?_
  refine Go.iload_n 8 d1_7 rfl rfl ?_
  refine Go.aload_n 9 d1_8 rfl rfl rfl ?_
  refine Go.arraylength (z := (3 : Int32)) 10 d1_9 A5 (by decide : Nat.toInt32 3 = (3 : Int32)) rfl ?_
  refine Go.icmp_ge 33 13 d1_10 (by decide) (by decide) rfl (fun c => absurd c (by decide)) (fun _ => ?_)
  refine Go.aload_n 14 d1_13 rfl rfl rfl ?_
  refine Go.iload_n 15 d1_14 rfl rfl ?_
  refine Go.aload_n 16 d1_15 rfl rfl rfl ?_
  refine Go.iload_n 17 d1_16 rfl rfl ?_
  refine Go.zaload (x := x0) (0) 18 d1_17 f9 (by decide) (by decide) rfl rfl ?_
  have J14 : ∀ (v15 : Int32), v15 = (if x0 = (0 : Int32) then (0 : Int32) else (1 : Int32)) → Go l Z (⟨"com/example/medianpoint/medianpoint/Relaxation", "openStatus", "([Z)[B"⟩ : MethodName) prog_36_method_2_code 3 (Option.some (Jvm.ClassFile.FieldType.array Jvm.ClassFile.FieldType.byte)) ({ frames := 0, cells := 1, slots := 5, locals := 0 } : Room) (QR fun rz h' => ∃ r : Addr, rz = .ref r ∧ h.size ≤ r ∧ Keep h h' [] ∧ Ari Z h' r .byte [own_s x0, own_s x1, own_s x2]) 1 3 h2 26 #[.val (.ref a), .val (.ref a1), .val (.int (0 : Int32))] [.int v15, .int (0 : Int32), .ref a1] := by
    intro v15 e16
    refine Go.bastore (0) ([(nar .byte v15), 0, 0]) 27 d1_26 A5 (by decide) (by decide) (by decide : (0 : Nat) < 3) rfl ge7 rfl (fun h17 W18 A19 => ?_)
    have f20 : Ari Z h17 a .boolean [x0, x1, x2] := f9.other W18 ne6
    have zs21 : Z.heap.size ≤ h17.size := W18.size ▸ zs10
    have kp22 : Keep h h17 [] := kp11.wr W18 (Or.inr fr8)
    refine Go.iinc 30 (1) #[.val (.ref a), .val (.ref a1), .val (.int ((0 : Int32) + (1 : Int32)))] d1_27 (by decide) rfl rfl rfl ?_
    refine Go.goto 7 d1_30 (by decide) (by decide) ?_
    refine Go.iload_n 8 d1_7 rfl rfl ?_
    refine Go.aload_n 9 d1_8 rfl rfl rfl ?_
    refine Go.arraylength (z := (3 : Int32)) 10 d1_9 A19 (by decide : Nat.toInt32 3 = (3 : Int32)) rfl ?_
    refine Go.icmp_ge 33 13 d1_10 (by decide) (by decide) rfl (fun c => absurd c (by decide)) (fun _ => ?_)
    refine Go.aload_n 14 d1_13 rfl rfl rfl ?_
    refine Go.iload_n 15 d1_14 rfl rfl ?_
    refine Go.aload_n 16 d1_15 rfl rfl rfl ?_
    refine Go.iload_n 17 d1_16 rfl rfl ?_
    refine Go.zaload (x := x1) (1) 18 d1_17 f20 (by decide) (by decide) rfl rfl ?_
    have J25 : ∀ (v26 : Int32), v26 = (if x1 = (0 : Int32) then (0 : Int32) else (1 : Int32)) → Go l Z (⟨"com/example/medianpoint/medianpoint/Relaxation", "openStatus", "([Z)[B"⟩ : MethodName) prog_36_method_2_code 3 (Option.some (Jvm.ClassFile.FieldType.array Jvm.ClassFile.FieldType.byte)) ({ frames := 0, cells := 1, slots := 5, locals := 0 } : Room) (QR fun rz h' => ∃ r : Addr, rz = .ref r ∧ h.size ≤ r ∧ Keep h h' [] ∧ Ari Z h' r .byte [own_s x0, own_s x1, own_s x2]) 1 3 h17 26 #[.val (.ref a), .val (.ref a1), .val (.int ((0 : Int32) + (1 : Int32)))] [.int v26, .int ((0 : Int32) + (1 : Int32)), .ref a1] := by
      intro v26 e27
      refine Go.bastore (1) ([(nar .byte v15), (nar .byte v26), 0]) 27 d1_26 A19 (by decide) (by decide) (by decide : (1 : Nat) < 3) rfl ge7 rfl (fun h28 W29 A30 => ?_)
      have f31 : Ari Z h28 a .boolean [x0, x1, x2] := f20.other W29 ne6
      have zs32 : Z.heap.size ≤ h28.size := W29.size ▸ zs21
      have kp33 : Keep h h28 [] := kp22.wr W29 (Or.inr fr8)
      refine Go.iinc 30 (1) #[.val (.ref a), .val (.ref a1), .val (.int (((0 : Int32) + (1 : Int32)) + (1 : Int32)))] d1_27 (by decide) rfl rfl rfl ?_
      refine Go.goto 7 d1_30 (by decide) (by decide) ?_
      refine Go.iload_n 8 d1_7 rfl rfl ?_
      refine Go.aload_n 9 d1_8 rfl rfl rfl ?_
      refine Go.arraylength (z := (3 : Int32)) 10 d1_9 A30 (by decide : Nat.toInt32 3 = (3 : Int32)) rfl ?_
      refine Go.icmp_ge 33 13 d1_10 (by decide) (by decide) rfl (fun c => absurd c (by decide)) (fun _ => ?_)
      refine Go.aload_n 14 d1_13 rfl rfl rfl ?_
      refine Go.iload_n 15 d1_14 rfl rfl ?_
      refine Go.aload_n 16 d1_15 rfl rfl rfl ?_
      refine Go.iload_n 17 d1_16 rfl rfl ?_
      refine Go.zaload (x := x2) (2) 18 d1_17 f31 (by decide) (by decide) rfl rfl ?_
      have J36 : ∀ (v37 : Int32), v37 = (if x2 = (0 : Int32) then (0 : Int32) else (1 : Int32)) → Go l Z (⟨"com/example/medianpoint/medianpoint/Relaxation", "openStatus", "([Z)[B"⟩ : MethodName) prog_36_method_2_code 3 (Option.some (Jvm.ClassFile.FieldType.array Jvm.ClassFile.FieldType.byte)) ({ frames := 0, cells := 1, slots := 5, locals := 0 } : Room) (QR fun rz h' => ∃ r : Addr, rz = .ref r ∧ h.size ≤ r ∧ Keep h h' [] ∧ Ari Z h' r .byte [own_s x0, own_s x1, own_s x2]) 1 3 h28 26 #[.val (.ref a), .val (.ref a1), .val (.int (((0 : Int32) + (1 : Int32)) + (1 : Int32)))] [.int v37, .int (((0 : Int32) + (1 : Int32)) + (1 : Int32)), .ref a1] := by
        intro v37 e38
        refine Go.bastore (2) ([(nar .byte v15), (nar .byte v26), (nar .byte v37)]) 27 d1_26 A30 (by decide) (by decide) (by decide : (2 : Nat) < 3) rfl ge7 rfl (fun h39 W40 A41 => ?_)
        have f42 : Ari Z h39 a .boolean [x0, x1, x2] := f31.other W40 ne6
        have zs43 : Z.heap.size ≤ h39.size := W40.size ▸ zs32
        have kp44 : Keep h h39 [] := kp33.wr W40 (Or.inr fr8)
        refine Go.iinc 30 (1) #[.val (.ref a), .val (.ref a1), .val (.int ((((0 : Int32) + (1 : Int32)) + (1 : Int32)) + (1 : Int32)))] d1_27 (by decide) rfl rfl rfl ?_
        refine Go.goto 7 d1_30 (by decide) (by decide) ?_
        refine Go.iload_n 8 d1_7 rfl rfl ?_
        refine Go.aload_n 9 d1_8 rfl rfl rfl ?_
        refine Go.arraylength (z := (3 : Int32)) 10 d1_9 A41 (by decide : Nat.toInt32 3 = (3 : Int32)) rfl ?_
        refine Go.icmp_ge 33 13 d1_10 (by decide) (by decide) rfl (fun _ => ?_) (fun c => absurd c (by decide))
        refine Go.aload_n 34 d1_33 rfl rfl rfl ?_
        refine Go.areturn d1_34 rfl rfl rfl (by decide) (by decide) ?_
        have e9 : ([own_s x0, own_s x1, own_s x2] : List Int32) = [(nar .byte v15), (nar .byte v26), (nar .byte v37)] := by subst_vars; rfl
        exact ⟨a1, rfl, fr8, kp44, e9 ▸ A41⟩
      refine Go.if_eq 25 21 d1_18 (by decide) (by decide) rfl (fun c46 => ?_) (fun c46 => ?_)
      ·
        refine Go.iconst 26 (0) d1_25 (by decide) rfl ?_
        exact (J36 _ (by first | rfl | (simp only [if_pos c46]; done) | simp [c46])).le (by decide) (by decide)
      ·
        refine Go.iconst 22 (1) d1_21 (by decide) rfl ?_
        refine Go.goto 26 d1_22 (by decide) (by decide) ?_
        exact (J36 _ (by first | rfl | (simp only [if_neg c46]; done) | simp [c46])).le (by decide) (by decide)
    refine Go.if_eq 25 21 d1_18 (by decide) (by decide) rfl (fun c47 => ?_) (fun c47 => ?_)
    ·
      refine Go.iconst 26 (0) d1_25 (by decide) rfl ?_
      exact (J25 _ (by first | rfl | (simp only [if_pos c47]; done) | simp [c47])).le (by decide) (by decide)
    ·
      refine Go.iconst 22 (1) d1_21 (by decide) rfl ?_
      refine Go.goto 26 d1_22 (by decide) (by decide) ?_
      exact (J25 _ (by first | rfl | (simp only [if_neg c47]; done) | simp [c47])).le (by decide) (by decide)
  refine Go.if_eq 25 21 d1_18 (by decide) (by decide) rfl (fun c48 => ?_) (fun c48 => ?_)
  ·
    refine Go.iconst 26 (0) d1_25 (by decide) rfl ?_
    exact (J14 _ (by first | rfl | (simp only [if_pos c48]; done) | simp [c48])).le (by decide) (by decide)
  ·
    refine Go.iconst 22 (1) d1_21 (by decide) rfl ?_
    refine Go.goto 26 d1_22 (by decide) (by decide) ?_
    exact (J14 _ (by first | rfl | (simp only [if_neg c48]; done) | simp [c48])).le (by decide) (by decide)

theorem ef_k_open4 (m : MethodId) (x0 : Addr) : entryFrame m #[(.ref x0)] 3 = mkF m 0 #[.val (.ref x0), .unset, .unset] [] := by first | (simp [entryFrame, mkF, argsToLocals, Value.category]; done) | rfl

set_option maxRecDepth 65536 in
set_option maxHeartbeats 40000000 in
theorem k_open4 {l : Launch} {Z : State} {a0 : Array Value} (hw : ∀ d ∈ tables_1, d.before a0 Z = true) {x0 : Int32} {x1 : Int32} {x2 : Int32} {x3 : Int32} (h : Heap) (hz : Z.heap.size ≤ h.size) (a : Addr) (fa0 : Ari Z h a .boolean [x0, x1, x2, x3])    : Go l Z (⟨"com/example/medianpoint/medianpoint/Relaxation", "openStatus", "([Z)[B"⟩ : MethodName) prog_36_method_2_code 3 (Option.some (Jvm.ClassFile.FieldType.array Jvm.ClassFile.FieldType.byte)) ({ frames := 0, cells := 1, slots := 5, locals := 0 } : Room) (QR fun rz h' => ∃ r : Addr, rz = .ref r ∧ h.size ≤ r ∧ Keep h h' [] ∧ Ari Z h' r .byte [own_s x0, own_s x1, own_s x2, own_s x3]) 0 0 h 0 #[.val (.ref a), .unset, .unset] [] := by
  have kp0 : Keep h h [] := Keep.refl _ _
  refine Go.aload_n 1 d1_0 rfl rfl rfl ?_
  refine Go.arraylength (z := (4 : Int32)) 2 d1_1 fa0 (by decide : Nat.toInt32 4 = (4 : Int32)) rfl ?_
  refine Go.newI (cap := 4) (xs := [0, 0, 0, 0]) 4 d1_2 (tw6 hw) rfl (by decide) (by decide) (by decide) rfl (by decide) (by decide) rfl (fun a1 h2 q3 E4 A5 => ?_)
  have ne6 : a ≠ a1 := fun e => absurd fa0.lt (by rw [e, q3]; exact Nat.lt_irrefl _)
  have ge7 : Z.heap.size ≤ a1 := (Eq.symm q3) ▸ hz
  have fr8 : h.size ≤ a1 := by rw [q3]; exact kp0.1
  have f9 : Ari Z h2 a .boolean [x0, x1, x2, x3] := fa0.ext E4
  have zs10 : Z.heap.size ≤ h2.size := Nat.le_trans hz E4.1
  have kp11 : Keep h h2 [] := kp0.ext E4
  refine Go.astore_n 5 #[.val (.ref a), .val (.ref a1), .unset] d1_4 rfl rfl rfl ?_
  refine Go.iconst 6 (0) d1_5 (by decide) rfl ?_
  refine Go.istore_n 7 #[.val (.ref a), .val (.ref a1), .val (.int (0 : Int32))] d1_6 rfl rfl ?_
  refine Go.iload_n 8 d1_7 rfl rfl ?_
  refine Go.aload_n 9 d1_8 rfl rfl rfl ?_
  refine Go.arraylength (z := (4 : Int32)) 10 d1_9 A5 (by decide : Nat.toInt32 4 = (4 : Int32)) rfl ?_
  refine Go.icmp_ge 33 13 d1_10 (by decide) (by decide) rfl (fun c => absurd c (by decide)) (fun _ => ?_)
  refine Go.aload_n 14 d1_13 rfl rfl rfl ?_
  refine Go.iload_n 15 d1_14 rfl rfl ?_
  refine Go.aload_n 16 d1_15 rfl rfl rfl ?_
  refine Go.iload_n 17 d1_16 rfl rfl ?_
  refine Go.zaload (x := x0) (0) 18 d1_17 f9 (by decide) (by decide) rfl rfl ?_
  have J14 : ∀ (v15 : Int32), v15 = (if x0 = (0 : Int32) then (0 : Int32) else (1 : Int32)) → Go l Z (⟨"com/example/medianpoint/medianpoint/Relaxation", "openStatus", "([Z)[B"⟩ : MethodName) prog_36_method_2_code 3 (Option.some (Jvm.ClassFile.FieldType.array Jvm.ClassFile.FieldType.byte)) ({ frames := 0, cells := 1, slots := 5, locals := 0 } : Room) (QR fun rz h' => ∃ r : Addr, rz = .ref r ∧ h.size ≤ r ∧ Keep h h' [] ∧ Ari Z h' r .byte [own_s x0, own_s x1, own_s x2, own_s x3]) 1 4 h2 26 #[.val (.ref a), .val (.ref a1), .val (.int (0 : Int32))] [.int v15, .int (0 : Int32), .ref a1] := by
    intro v15 e16
    refine Go.bastore (0) ([(nar .byte v15), 0, 0, 0]) 27 d1_26 A5 (by decide) (by decide) (by decide : (0 : Nat) < 4) rfl ge7 rfl (fun h17 W18 A19 => ?_)
    have f20 : Ari Z h17 a .boolean [x0, x1, x2, x3] := f9.other W18 ne6
    have zs21 : Z.heap.size ≤ h17.size := W18.size ▸ zs10
    have kp22 : Keep h h17 [] := kp11.wr W18 (Or.inr fr8)
    refine Go.iinc 30 (1) #[.val (.ref a), .val (.ref a1), .val (.int ((0 : Int32) + (1 : Int32)))] d1_27 (by decide) rfl rfl rfl ?_
    refine Go.goto 7 d1_30 (by decide) (by decide) ?_
    refine Go.iload_n 8 d1_7 rfl rfl ?_
    refine Go.aload_n 9 d1_8 rfl rfl rfl ?_
    refine Go.arraylength (z := (4 : Int32)) 10 d1_9 A19 (by decide : Nat.toInt32 4 = (4 : Int32)) rfl ?_
    refine Go.icmp_ge 33 13 d1_10 (by decide) (by decide) rfl (fun c => absurd c (by decide)) (fun _ => ?_)
    refine Go.aload_n 14 d1_13 rfl rfl rfl ?_
    refine Go.iload_n 15 d1_14 rfl rfl ?_
    refine Go.aload_n 16 d1_15 rfl rfl rfl ?_
    refine Go.iload_n 17 d1_16 rfl rfl ?_
    refine Go.zaload (x := x1) (1) 18 d1_17 f20 (by decide) (by decide) rfl rfl ?_
    have J25 : ∀ (v26 : Int32), v26 = (if x1 = (0 : Int32) then (0 : Int32) else (1 : Int32)) → Go l Z (⟨"com/example/medianpoint/medianpoint/Relaxation", "openStatus", "([Z)[B"⟩ : MethodName) prog_36_method_2_code 3 (Option.some (Jvm.ClassFile.FieldType.array Jvm.ClassFile.FieldType.byte)) ({ frames := 0, cells := 1, slots := 5, locals := 0 } : Room) (QR fun rz h' => ∃ r : Addr, rz = .ref r ∧ h.size ≤ r ∧ Keep h h' [] ∧ Ari Z h' r .byte [own_s x0, own_s x1, own_s x2, own_s x3]) 1 4 h17 26 #[.val (.ref a), .val (.ref a1), .val (.int ((0 : Int32) + (1 : Int32)))] [.int v26, .int ((0 : Int32) + (1 : Int32)), .ref a1] := by
      intro v26 e27
      refine Go.bastore (1) ([(nar .byte v15), (nar .byte v26), 0, 0]) 27 d1_26 A19 (by decide) (by decide) (by decide : (1 : Nat) < 4) rfl ge7 rfl (fun h28 W29 A30 => ?_)
      have f31 : Ari Z h28 a .boolean [x0, x1, x2, x3] := f20.other W29 ne6
      have zs32 : Z.heap.size ≤ h28.size := W29.size ▸ zs21
      have kp33 : Keep h h28 [] := kp22.wr W29 (Or.inr fr8)
      refine Go.iinc 30 (1) #[.val (.ref a), .val (.ref a1), .val (.int (((0 : Int32) + (1 : Int32)) + (1 : Int32)))] d1_27 (by decide) rfl rfl rfl ?_
      refine Go.goto 7 d1_30 (by decide) (by decide) ?_
      refine Go.iload_n 8 d1_7 rfl rfl ?_
      refine Go.aload_n 9 d1_8 rfl rfl rfl ?_
      refine Go.arraylength (z := (4 : Int32)) 10 d1_9 A30 (by decide : Nat.toInt32 4 = (4 : Int32)) rfl ?_
      refine Go.icmp_ge 33 13 d1_10 (by decide) (by decide) rfl (fun c => absurd c (by decide)) (fun _ => ?_)
      refine Go.aload_n 14 d1_13 rfl rfl rfl ?_
      refine Go.iload_n 15 d1_14 rfl rfl ?_
      refine Go.aload_n 16 d1_15 rfl rfl rfl ?_
      refine Go.iload_n 17 d1_16 rfl rfl ?_
      refine Go.zaload (x := x2) (2) 18 d1_17 f31 (by decide) (by decide) rfl rfl ?_
      have J36 : ∀ (v37 : Int32), v37 = (if x2 = (0 : Int32) then (0 : Int32) else (1 : Int32)) → Go l Z (⟨"com/example/medianpoint/medianpoint/Relaxation", "openStatus", "([Z)[B"⟩ : MethodName) prog_36_method_2_code 3 (Option.some (Jvm.ClassFile.FieldType.array Jvm.ClassFile.FieldType.byte)) ({ frames := 0, cells := 1, slots := 5, locals := 0 } : Room) (QR fun rz h' => ∃ r : Addr, rz = .ref r ∧ h.size ≤ r ∧ Keep h h' [] ∧ Ari Z h' r .byte [own_s x0, own_s x1, own_s x2, own_s x3]) 1 4 h28 26 #[.val (.ref a), .val (.ref a1), .val (.int (((0 : Int32) + (1 : Int32)) + (1 : Int32)))] [.int v37, .int (((0 : Int32) + (1 : Int32)) + (1 : Int32)), .ref a1] := by
        intro v37 e38
        refine Go.bastore (2) ([(nar .byte v15), (nar .byte v26), (nar .byte v37), 0]) 27 d1_26 A30 (by decide) (by decide) (by decide : (2 : Nat) < 4) rfl ge7 rfl (fun h39 W40 A41 => ?_)
        have f42 : Ari Z h39 a .boolean [x0, x1, x2, x3] := f31.other W40 ne6
        have zs43 : Z.heap.size ≤ h39.size := W40.size ▸ zs32
        have kp44 : Keep h h39 [] := kp33.wr W40 (Or.inr fr8)
        refine Go.iinc 30 (1) #[.val (.ref a), .val (.ref a1), .val (.int ((((0 : Int32) + (1 : Int32)) + (1 : Int32)) + (1 : Int32)))] d1_27 (by decide) rfl rfl rfl ?_
        refine Go.goto 7 d1_30 (by decide) (by decide) ?_
        refine Go.iload_n 8 d1_7 rfl rfl ?_
        refine Go.aload_n 9 d1_8 rfl rfl rfl ?_
        refine Go.arraylength (z := (4 : Int32)) 10 d1_9 A41 (by decide : Nat.toInt32 4 = (4 : Int32)) rfl ?_
        refine Go.icmp_ge 33 13 d1_10 (by decide) (by decide) rfl (fun c => absurd c (by decide)) (fun _ => ?_)
        refine Go.aload_n 14 d1_13 rfl rfl rfl ?_
        refine Go.iload_n 15 d1_14 rfl rfl ?_
        refine Go.aload_n 16 d1_15 rfl rfl rfl ?_
        refine Go.iload_n 17 d1_16 rfl rfl ?_
        refine Go.zaload (x := x3) (3) 18 d1_17 f42 (by decide) (by decide) rfl rfl ?_
        have J47 : ∀ (v48 : Int32), v48 = (if x3 = (0 : Int32) then (0 : Int32) else (1 : Int32)) → Go l Z (⟨"com/example/medianpoint/medianpoint/Relaxation", "openStatus", "([Z)[B"⟩ : MethodName) prog_36_method_2_code 3 (Option.some (Jvm.ClassFile.FieldType.array Jvm.ClassFile.FieldType.byte)) ({ frames := 0, cells := 1, slots := 5, locals := 0 } : Room) (QR fun rz h' => ∃ r : Addr, rz = .ref r ∧ h.size ≤ r ∧ Keep h h' [] ∧ Ari Z h' r .byte [own_s x0, own_s x1, own_s x2, own_s x3]) 1 4 h39 26 #[.val (.ref a), .val (.ref a1), .val (.int ((((0 : Int32) + (1 : Int32)) + (1 : Int32)) + (1 : Int32)))] [.int v48, .int ((((0 : Int32) + (1 : Int32)) + (1 : Int32)) + (1 : Int32)), .ref a1] := by
          intro v48 e49
          refine Go.bastore (3) ([(nar .byte v15), (nar .byte v26), (nar .byte v37), (nar .byte v48)]) 27 d1_26 A41 (by decide) (by decide) (by decide : (3 : Nat) < 4) rfl ge7 rfl (fun h50 W51 A52 => ?_)
          have f53 : Ari Z h50 a .boolean [x0, x1, x2, x3] := f42.other W51 ne6
          have zs54 : Z.heap.size ≤ h50.size := W51.size ▸ zs43
          have kp55 : Keep h h50 [] := kp44.wr W51 (Or.inr fr8)
          refine Go.iinc 30 (1) #[.val (.ref a), .val (.ref a1), .val (.int (((((0 : Int32) + (1 : Int32)) + (1 : Int32)) + (1 : Int32)) + (1 : Int32)))] d1_27 (by decide) rfl rfl rfl ?_
          refine Go.goto 7 d1_30 (by decide) (by decide) ?_
          refine Go.iload_n 8 d1_7 rfl rfl ?_
          refine Go.aload_n 9 d1_8 rfl rfl rfl ?_
          refine Go.arraylength (z := (4 : Int32)) 10 d1_9 A52 (by decide : Nat.toInt32 4 = (4 : Int32)) rfl ?_
          refine Go.icmp_ge 33 13 d1_10 (by decide) (by decide) rfl (fun _ => ?_) (fun c => absurd c (by decide))
          refine Go.aload_n 34 d1_33 rfl rfl rfl ?_
          refine Go.areturn d1_34 rfl rfl rfl (by decide) (by decide) ?_
          have e9 : ([own_s x0, own_s x1, own_s x2, own_s x3] : List Int32) = [(nar .byte v15), (nar .byte v26), (nar .byte v37), (nar .byte v48)] := by subst_vars; rfl
          exact ⟨a1, rfl, fr8, kp55, e9 ▸ A52⟩
        refine Go.if_eq 25 21 d1_18 (by decide) (by decide) rfl (fun c57 => ?_) (fun c57 => ?_)
        ·
          refine Go.iconst 26 (0) d1_25 (by decide) rfl ?_
          exact (J47 _ (by first | rfl | (simp only [if_pos c57]; done) | simp [c57])).le (by decide) (by decide)
        ·
          refine Go.iconst 22 (1) d1_21 (by decide) rfl ?_
          refine Go.goto 26 d1_22 (by decide) (by decide) ?_
          exact (J47 _ (by first | rfl | (simp only [if_neg c57]; done) | simp [c57])).le (by decide) (by decide)
      refine Go.if_eq 25 21 d1_18 (by decide) (by decide) rfl (fun c58 => ?_) (fun c58 => ?_)
      ·
        refine Go.iconst 26 (0) d1_25 (by decide) rfl ?_
        exact (J36 _ (by first | rfl | (simp only [if_pos c58]; done) | simp [c58])).le (by decide) (by decide)
      ·
        refine Go.iconst 22 (1) d1_21 (by decide) rfl ?_
        refine Go.goto 26 d1_22 (by decide) (by decide) ?_
        exact (J36 _ (by first | rfl | (simp only [if_neg c58]; done) | simp [c58])).le (by decide) (by decide)
    refine Go.if_eq 25 21 d1_18 (by decide) (by decide) rfl (fun c59 => ?_) (fun c59 => ?_)
    ·
      refine Go.iconst 26 (0) d1_25 (by decide) rfl ?_
      exact (J25 _ (by first | rfl | (simp only [if_pos c59]; done) | simp [c59])).le (by decide) (by decide)
    ·
      refine Go.iconst 22 (1) d1_21 (by decide) rfl ?_
      refine Go.goto 26 d1_22 (by decide) (by decide) ?_
      exact (J25 _ (by first | rfl | (simp only [if_neg c59]; done) | simp [c59])).le (by decide) (by decide)
  refine Go.if_eq 25 21 d1_18 (by decide) (by decide) rfl (fun c60 => ?_) (fun c60 => ?_)
  ·
    refine Go.iconst 26 (0) d1_25 (by decide) rfl ?_
    exact (J14 _ (by first | rfl | (simp only [if_pos c60]; done) | simp [c60])).le (by decide) (by decide)
  ·
    refine Go.iconst 22 (1) d1_21 (by decide) rfl ?_
    refine Go.goto 26 d1_22 (by decide) (by decide) ?_
    exact (J14 _ (by first | rfl | (simp only [if_neg c60]; done) | simp [c60])).le (by decide) (by decide)

theorem ef_k_open5 (m : MethodId) (x0 : Addr) : entryFrame m #[(.ref x0)] 3 = mkF m 0 #[.val (.ref x0), .unset, .unset] [] := by first | (simp [entryFrame, mkF, argsToLocals, Value.category]; done) | rfl

set_option maxRecDepth 65536 in
set_option maxHeartbeats 40000000 in
theorem k_open5 {l : Launch} {Z : State} {a0 : Array Value} (hw : ∀ d ∈ tables_1, d.before a0 Z = true) {x0 : Int32} {x1 : Int32} {x2 : Int32} {x3 : Int32} {x4 : Int32} (h : Heap) (hz : Z.heap.size ≤ h.size) (a : Addr) (fa0 : Ari Z h a .boolean [x0, x1, x2, x3, x4])    : Go l Z (⟨"com/example/medianpoint/medianpoint/Relaxation", "openStatus", "([Z)[B"⟩ : MethodName) prog_36_method_2_code 3 (Option.some (Jvm.ClassFile.FieldType.array Jvm.ClassFile.FieldType.byte)) ({ frames := 0, cells := 1, slots := 5, locals := 0 } : Room) (QR fun rz h' => ∃ r : Addr, rz = .ref r ∧ h.size ≤ r ∧ Keep h h' [] ∧ Ari Z h' r .byte [own_s x0, own_s x1, own_s x2, own_s x3, own_s x4]) 0 0 h 0 #[.val (.ref a), .unset, .unset] [] := by
  have kp0 : Keep h h [] := Keep.refl _ _
  refine Go.aload_n 1 d1_0 rfl rfl rfl ?_
  refine Go.arraylength (z := (5 : Int32)) 2 d1_1 fa0 (by decide : Nat.toInt32 5 = (5 : Int32)) rfl ?_
  refine Go.newI (cap := 5) (xs := [0, 0, 0, 0, 0]) 4 d1_2 (tw6 hw) rfl (by decide) (by decide) (by decide) rfl (by decide) (by decide) rfl (fun a1 h2 q3 E4 A5 => ?_)
  have ne6 : a ≠ a1 := fun e => absurd fa0.lt (by rw [e, q3]; exact Nat.lt_irrefl _)
  have ge7 : Z.heap.size ≤ a1 := (Eq.symm q3) ▸ hz
  have fr8 : h.size ≤ a1 := by rw [q3]; exact kp0.1
  have f9 : Ari Z h2 a .boolean [x0, x1, x2, x3, x4] := fa0.ext E4
  have zs10 : Z.heap.size ≤ h2.size := Nat.le_trans hz E4.1
  have kp11 : Keep h h2 [] := kp0.ext E4
  refine Go.astore_n 5 #[.val (.ref a), .val (.ref a1), .unset] d1_4 rfl rfl rfl ?_
  refine Go.iconst 6 (0) d1_5 (by decide) rfl ?_
  refine Go.istore_n 7 #[.val (.ref a), .val (.ref a1), .val (.int (0 : Int32))] d1_6 rfl rfl ?_
  refine Go.iload_n 8 d1_7 rfl rfl ?_
  refine Go.aload_n 9 d1_8 rfl rfl rfl ?_
  refine Go.arraylength (z := (5 : Int32)) 10 d1_9 A5 (by decide : Nat.toInt32 5 = (5 : Int32)) rfl ?_
  refine Go.icmp_ge 33 13 d1_10 (by decide) (by decide) rfl (fun c => absurd c (by decide)) (fun _ => ?_)
  refine Go.aload_n 14 d1_13 rfl rfl rfl ?_
  refine Go.iload_n 15 d1_14 rfl rfl ?_
  refine Go.aload_n 16 d1_15 rfl rfl rfl ?_
  refine Go.iload_n 17 d1_16 rfl rfl ?_
  refine Go.zaload (x := x0) (0) 18 d1_17 f9 (by decide) (by decide) rfl rfl ?_
  have J14 : ∀ (v15 : Int32), v15 = (if x0 = (0 : Int32) then (0 : Int32) else (1 : Int32)) → Go l Z (⟨"com/example/medianpoint/medianpoint/Relaxation", "openStatus", "([Z)[B"⟩ : MethodName) prog_36_method_2_code 3 (Option.some (Jvm.ClassFile.FieldType.array Jvm.ClassFile.FieldType.byte)) ({ frames := 0, cells := 1, slots := 5, locals := 0 } : Room) (QR fun rz h' => ∃ r : Addr, rz = .ref r ∧ h.size ≤ r ∧ Keep h h' [] ∧ Ari Z h' r .byte [own_s x0, own_s x1, own_s x2, own_s x3, own_s x4]) 1 5 h2 26 #[.val (.ref a), .val (.ref a1), .val (.int (0 : Int32))] [.int v15, .int (0 : Int32), .ref a1] := by
    intro v15 e16
    refine Go.bastore (0) ([(nar .byte v15), 0, 0, 0, 0]) 27 d1_26 A5 (by decide) (by decide) (by decide : (0 : Nat) < 5) rfl ge7 rfl (fun h17 W18 A19 => ?_)
    have f20 : Ari Z h17 a .boolean [x0, x1, x2, x3, x4] := f9.other W18 ne6
    have zs21 : Z.heap.size ≤ h17.size := W18.size ▸ zs10
    have kp22 : Keep h h17 [] := kp11.wr W18 (Or.inr fr8)
    refine Go.iinc 30 (1) #[.val (.ref a), .val (.ref a1), .val (.int ((0 : Int32) + (1 : Int32)))] d1_27 (by decide) rfl rfl rfl ?_
    refine Go.goto 7 d1_30 (by decide) (by decide) ?_
    refine Go.iload_n 8 d1_7 rfl rfl ?_
    refine Go.aload_n 9 d1_8 rfl rfl rfl ?_
    refine Go.arraylength (z := (5 : Int32)) 10 d1_9 A19 (by decide : Nat.toInt32 5 = (5 : Int32)) rfl ?_
    refine Go.icmp_ge 33 13 d1_10 (by decide) (by decide) rfl (fun c => absurd c (by decide)) (fun _ => ?_)
    refine Go.aload_n 14 d1_13 rfl rfl rfl ?_
    refine Go.iload_n 15 d1_14 rfl rfl ?_
    refine Go.aload_n 16 d1_15 rfl rfl rfl ?_
    refine Go.iload_n 17 d1_16 rfl rfl ?_
    refine Go.zaload (x := x1) (1) 18 d1_17 f20 (by decide) (by decide) rfl rfl ?_
    have J25 : ∀ (v26 : Int32), v26 = (if x1 = (0 : Int32) then (0 : Int32) else (1 : Int32)) → Go l Z (⟨"com/example/medianpoint/medianpoint/Relaxation", "openStatus", "([Z)[B"⟩ : MethodName) prog_36_method_2_code 3 (Option.some (Jvm.ClassFile.FieldType.array Jvm.ClassFile.FieldType.byte)) ({ frames := 0, cells := 1, slots := 5, locals := 0 } : Room) (QR fun rz h' => ∃ r : Addr, rz = .ref r ∧ h.size ≤ r ∧ Keep h h' [] ∧ Ari Z h' r .byte [own_s x0, own_s x1, own_s x2, own_s x3, own_s x4]) 1 5 h17 26 #[.val (.ref a), .val (.ref a1), .val (.int ((0 : Int32) + (1 : Int32)))] [.int v26, .int ((0 : Int32) + (1 : Int32)), .ref a1] := by
      intro v26 e27
      refine Go.bastore (1) ([(nar .byte v15), (nar .byte v26), 0, 0, 0]) 27 d1_26 A19 (by decide) (by decide) (by decide : (1 : Nat) < 5) rfl ge7 rfl (fun h28 W29 A30 => ?_)
      have f31 : Ari Z h28 a .boolean [x0, x1, x2, x3, x4] := f20.other W29 ne6
      have zs32 : Z.heap.size ≤ h28.size := W29.size ▸ zs21
      have kp33 : Keep h h28 [] := kp22.wr W29 (Or.inr fr8)
      refine Go.iinc 30 (1) #[.val (.ref a), .val (.ref a1), .val (.int (((0 : Int32) + (1 : Int32)) + (1 : Int32)))] d1_27 (by decide) rfl rfl rfl ?_
      refine Go.goto 7 d1_30 (by decide) (by decide) ?_
      refine Go.iload_n 8 d1_7 rfl rfl ?_
      refine Go.aload_n 9 d1_8 rfl rfl rfl ?_
      refine Go.arraylength (z := (5 : Int32)) 10 d1_9 A30 (by decide : Nat.toInt32 5 = (5 : Int32)) rfl ?_
      refine Go.icmp_ge 33 13 d1_10 (by decide) (by decide) rfl (fun c => absurd c (by decide)) (fun _ => ?_)
      refine Go.aload_n 14 d1_13 rfl rfl rfl ?_
      refine Go.iload_n 15 d1_14 rfl rfl ?_
      refine Go.aload_n 16 d1_15 rfl rfl rfl ?_
      refine Go.iload_n 17 d1_16 rfl rfl ?_
      refine Go.zaload (x := x2) (2) 18 d1_17 f31 (by decide) (by decide) rfl rfl ?_
      have J36 : ∀ (v37 : Int32), v37 = (if x2 = (0 : Int32) then (0 : Int32) else (1 : Int32)) → Go l Z (⟨"com/example/medianpoint/medianpoint/Relaxation", "openStatus", "([Z)[B"⟩ : MethodName) prog_36_method_2_code 3 (Option.some (Jvm.ClassFile.FieldType.array Jvm.ClassFile.FieldType.byte)) ({ frames := 0, cells := 1, slots := 5, locals := 0 } : Room) (QR fun rz h' => ∃ r : Addr, rz = .ref r ∧ h.size ≤ r ∧ Keep h h' [] ∧ Ari Z h' r .byte [own_s x0, own_s x1, own_s x2, own_s x3, own_s x4]) 1 5 h28 26 #[.val (.ref a), .val (.ref a1), .val (.int (((0 : Int32) + (1 : Int32)) + (1 : Int32)))] [.int v37, .int (((0 : Int32) + (1 : Int32)) + (1 : Int32)), .ref a1] := by
        intro v37 e38
        refine Go.bastore (2) ([(nar .byte v15), (nar .byte v26), (nar .byte v37), 0, 0]) 27 d1_26 A30 (by decide) (by decide) (by decide : (2 : Nat) < 5) rfl ge7 rfl (fun h39 W40 A41 => ?_)
        have f42 : Ari Z h39 a .boolean [x0, x1, x2, x3, x4] := f31.other W40 ne6
        have zs43 : Z.heap.size ≤ h39.size := W40.size ▸ zs32
        have kp44 : Keep h h39 [] := kp33.wr W40 (Or.inr fr8)
        refine Go.iinc 30 (1) #[.val (.ref a), .val (.ref a1), .val (.int ((((0 : Int32) + (1 : Int32)) + (1 : Int32)) + (1 : Int32)))] d1_27 (by decide) rfl rfl rfl ?_
        refine Go.goto 7 d1_30 (by decide) (by decide) ?_
        refine Go.iload_n 8 d1_7 rfl rfl ?_
        refine Go.aload_n 9 d1_8 rfl rfl rfl ?_
        refine Go.arraylength (z := (5 : Int32)) 10 d1_9 A41 (by decide : Nat.toInt32 5 = (5 : Int32)) rfl ?_
        refine Go.icmp_ge 33 13 d1_10 (by decide) (by decide) rfl (fun c => absurd c (by decide)) (fun _ => ?_)
        refine Go.aload_n 14 d1_13 rfl rfl rfl ?_
        refine Go.iload_n 15 d1_14 rfl rfl ?_
        refine Go.aload_n 16 d1_15 rfl rfl rfl ?_
        refine Go.iload_n 17 d1_16 rfl rfl ?_
        refine Go.zaload (x := x3) (3) 18 d1_17 f42 (by decide) (by decide) rfl rfl ?_
        have J47 : ∀ (v48 : Int32), v48 = (if x3 = (0 : Int32) then (0 : Int32) else (1 : Int32)) → Go l Z (⟨"com/example/medianpoint/medianpoint/Relaxation", "openStatus", "([Z)[B"⟩ : MethodName) prog_36_method_2_code 3 (Option.some (Jvm.ClassFile.FieldType.array Jvm.ClassFile.FieldType.byte)) ({ frames := 0, cells := 1, slots := 5, locals := 0 } : Room) (QR fun rz h' => ∃ r : Addr, rz = .ref r ∧ h.size ≤ r ∧ Keep h h' [] ∧ Ari Z h' r .byte [own_s x0, own_s x1, own_s x2, own_s x3, own_s x4]) 1 5 h39 26 #[.val (.ref a), .val (.ref a1), .val (.int ((((0 : Int32) + (1 : Int32)) + (1 : Int32)) + (1 : Int32)))] [.int v48, .int ((((0 : Int32) + (1 : Int32)) + (1 : Int32)) + (1 : Int32)), .ref a1] := by
          intro v48 e49
          refine Go.bastore (3) ([(nar .byte v15), (nar .byte v26), (nar .byte v37), (nar .byte v48), 0]) 27 d1_26 A41 (by decide) (by decide) (by decide : (3 : Nat) < 5) rfl ge7 rfl (fun h50 W51 A52 => ?_)
          have f53 : Ari Z h50 a .boolean [x0, x1, x2, x3, x4] := f42.other W51 ne6
          have zs54 : Z.heap.size ≤ h50.size := W51.size ▸ zs43
          have kp55 : Keep h h50 [] := kp44.wr W51 (Or.inr fr8)
          refine Go.iinc 30 (1) #[.val (.ref a), .val (.ref a1), .val (.int (((((0 : Int32) + (1 : Int32)) + (1 : Int32)) + (1 : Int32)) + (1 : Int32)))] d1_27 (by decide) rfl rfl rfl ?_
          refine Go.goto 7 d1_30 (by decide) (by decide) ?_
          refine Go.iload_n 8 d1_7 rfl rfl ?_
          refine Go.aload_n 9 d1_8 rfl rfl rfl ?_
          refine Go.arraylength (z := (5 : Int32)) 10 d1_9 A52 (by decide : Nat.toInt32 5 = (5 : Int32)) rfl ?_
          refine Go.icmp_ge 33 13 d1_10 (by decide) (by decide) rfl (fun c => absurd c (by decide)) (fun _ => ?_)
          refine Go.aload_n 14 d1_13 rfl rfl rfl ?_
          refine Go.iload_n 15 d1_14 rfl rfl ?_
          refine Go.aload_n 16 d1_15 rfl rfl rfl ?_
          refine Go.iload_n 17 d1_16 rfl rfl ?_
          refine Go.zaload (x := x4) (4) 18 d1_17 f53 (by decide) (by decide) rfl rfl ?_
          have J58 : ∀ (v59 : Int32), v59 = (if x4 = (0 : Int32) then (0 : Int32) else (1 : Int32)) → Go l Z (⟨"com/example/medianpoint/medianpoint/Relaxation", "openStatus", "([Z)[B"⟩ : MethodName) prog_36_method_2_code 3 (Option.some (Jvm.ClassFile.FieldType.array Jvm.ClassFile.FieldType.byte)) ({ frames := 0, cells := 1, slots := 5, locals := 0 } : Room) (QR fun rz h' => ∃ r : Addr, rz = .ref r ∧ h.size ≤ r ∧ Keep h h' [] ∧ Ari Z h' r .byte [own_s x0, own_s x1, own_s x2, own_s x3, own_s x4]) 1 5 h50 26 #[.val (.ref a), .val (.ref a1), .val (.int (((((0 : Int32) + (1 : Int32)) + (1 : Int32)) + (1 : Int32)) + (1 : Int32)))] [.int v59, .int (((((0 : Int32) + (1 : Int32)) + (1 : Int32)) + (1 : Int32)) + (1 : Int32)), .ref a1] := by
            intro v59 e60
            refine Go.bastore (4) ([(nar .byte v15), (nar .byte v26), (nar .byte v37), (nar .byte v48), (nar .byte v59)]) 27 d1_26 A52 (by decide) (by decide) (by decide : (4 : Nat) < 5) rfl ge7 rfl (fun h61 W62 A63 => ?_)
            have f64 : Ari Z h61 a .boolean [x0, x1, x2, x3, x4] := f53.other W62 ne6
            have zs65 : Z.heap.size ≤ h61.size := W62.size ▸ zs54
            have kp66 : Keep h h61 [] := kp55.wr W62 (Or.inr fr8)
            refine Go.iinc 30 (1) #[.val (.ref a), .val (.ref a1), .val (.int ((((((0 : Int32) + (1 : Int32)) + (1 : Int32)) + (1 : Int32)) + (1 : Int32)) + (1 : Int32)))] d1_27 (by decide) rfl rfl rfl ?_
            refine Go.goto 7 d1_30 (by decide) (by decide) ?_
            refine Go.iload_n 8 d1_7 rfl rfl ?_
            refine Go.aload_n 9 d1_8 rfl rfl rfl ?_
            refine Go.arraylength (z := (5 : Int32)) 10 d1_9 A63 (by decide : Nat.toInt32 5 = (5 : Int32)) rfl ?_
            refine Go.icmp_ge 33 13 d1_10 (by decide) (by decide) rfl (fun _ => ?_) (fun c => absurd c (by decide))
            refine Go.aload_n 34 d1_33 rfl rfl rfl ?_
            refine Go.areturn d1_34 rfl rfl rfl (by decide) (by decide) ?_
            have e9 : ([own_s x0, own_s x1, own_s x2, own_s x3, own_s x4] : List Int32) = [(nar .byte v15), (nar .byte v26), (nar .byte v37), (nar .byte v48), (nar .byte v59)] := by subst_vars; rfl
            exact ⟨a1, rfl, fr8, kp66, e9 ▸ A63⟩
          refine Go.if_eq 25 21 d1_18 (by decide) (by decide) rfl (fun c68 => ?_) (fun c68 => ?_)
          ·
            refine Go.iconst 26 (0) d1_25 (by decide) rfl ?_
            exact (J58 _ (by first | rfl | (simp only [if_pos c68]; done) | simp [c68])).le (by decide) (by decide)
          ·
            refine Go.iconst 22 (1) d1_21 (by decide) rfl ?_
            refine Go.goto 26 d1_22 (by decide) (by decide) ?_
            exact (J58 _ (by first | rfl | (simp only [if_neg c68]; done) | simp [c68])).le (by decide) (by decide)
        refine Go.if_eq 25 21 d1_18 (by decide) (by decide) rfl (fun c69 => ?_) (fun c69 => ?_)
        ·
          refine Go.iconst 26 (0) d1_25 (by decide) rfl ?_
          exact (J47 _ (by first | rfl | (simp only [if_pos c69]; done) | simp [c69])).le (by decide) (by decide)
        ·
          refine Go.iconst 22 (1) d1_21 (by decide) rfl ?_
          refine Go.goto 26 d1_22 (by decide) (by decide) ?_
          exact (J47 _ (by first | rfl | (simp only [if_neg c69]; done) | simp [c69])).le (by decide) (by decide)
      refine Go.if_eq 25 21 d1_18 (by decide) (by decide) rfl (fun c70 => ?_) (fun c70 => ?_)
      ·
        refine Go.iconst 26 (0) d1_25 (by decide) rfl ?_
        exact (J36 _ (by first | rfl | (simp only [if_pos c70]; done) | simp [c70])).le (by decide) (by decide)
      ·
        refine Go.iconst 22 (1) d1_21 (by decide) rfl ?_
        refine Go.goto 26 d1_22 (by decide) (by decide) ?_
        exact (J36 _ (by first | rfl | (simp only [if_neg c70]; done) | simp [c70])).le (by decide) (by decide)
    refine Go.if_eq 25 21 d1_18 (by decide) (by decide) rfl (fun c71 => ?_) (fun c71 => ?_)
    ·
      refine Go.iconst 26 (0) d1_25 (by decide) rfl ?_
      exact (J25 _ (by first | rfl | (simp only [if_pos c71]; done) | simp [c71])).le (by decide) (by decide)
    ·
      refine Go.iconst 22 (1) d1_21 (by decide) rfl ?_
      refine Go.goto 26 d1_22 (by decide) (by decide) ?_
      exact (J25 _ (by first | rfl | (simp only [if_neg c71]; done) | simp [c71])).le (by decide) (by decide)
  refine Go.if_eq 25 21 d1_18 (by decide) (by decide) rfl (fun c72 => ?_) (fun c72 => ?_)
  ·
    refine Go.iconst 26 (0) d1_25 (by decide) rfl ?_
    exact (J14 _ (by first | rfl | (simp only [if_pos c72]; done) | simp [c72])).le (by decide) (by decide)
  ·
    refine Go.iconst 22 (1) d1_21 (by decide) rfl ?_
    refine Go.goto 26 d1_22 (by decide) (by decide) ?_
    exact (J14 _ (by first | rfl | (simp only [if_neg c72]; done) | simp [c72])).le (by decide) (by decide)

theorem d2_0 : decode method_3_code 0 = .ok (.iload_n 2, 1) := by decide +kernel
theorem d2_1 : decode method_3_code 1 = .ok (.iload_n 3, 1) := by decide +kernel
theorem d2_2 : decode method_3_code 2 = .ok (.if_icmp .lt 5, 3) := by decide +kernel
theorem d2_5 : decode method_3_code 5 = .ok (.iconst 1, 1) := by decide +kernel
theorem d2_6 : decode method_3_code 6 = .ok (.ireturn, 1) := by decide +kernel
theorem d2_7 : decode method_3_code 7 = .ok (.iload 4, 2) := by decide +kernel
theorem d2_9 : decode method_3_code 9 = .ok (.iload_n 2, 1) := by decide +kernel
theorem d2_10 : decode method_3_code 10 = .ok (.ishr, 1) := by decide +kernel
theorem d2_11 : decode method_3_code 11 = .ok (.iconst 1, 1) := by decide +kernel
theorem d2_12 : decode method_3_code 12 = .ok (.iand, 1) := by decide +kernel
theorem d2_13 : decode method_3_code 13 = .ok (.ifCond .eq 7, 3) := by decide +kernel
theorem d2_16 : decode method_3_code 16 = .ok (.iconst 1, 1) := by decide +kernel
theorem d2_17 : decode method_3_code 17 = .ok (.goto 4, 3) := by decide +kernel
theorem d2_20 : decode method_3_code 20 = .ok (.iconst 0, 1) := by decide +kernel
theorem d2_21 : decode method_3_code 21 = .ok (.istore 5, 2) := by decide +kernel
theorem d2_23 : decode method_3_code 23 = .ok (.iload 5, 2) := by decide +kernel
theorem d2_25 : decode method_3_code 25 = .ok (.ifCond .eq 7, 3) := by decide +kernel
theorem d2_28 : decode method_3_code 28 = .ok (.iconst 1, 1) := by decide +kernel
theorem d2_29 : decode method_3_code 29 = .ok (.goto 4, 3) := by decide +kernel
theorem d2_32 : decode method_3_code 32 = .ok (.iconst 0, 1) := by decide +kernel
theorem d2_33 : decode method_3_code 33 = .ok (.istore 6, 2) := by decide +kernel
theorem d2_35 : decode method_3_code 35 = .ok (.aload_n 0, 1) := by decide +kernel
theorem d2_36 : decode method_3_code 36 = .ok (.iload_n 2, 1) := by decide +kernel
theorem d2_37 : decode method_3_code 37 = .ok (.baload, 1) := by decide +kernel
theorem d2_38 : decode method_3_code 38 = .ok (.iload 6, 2) := by decide +kernel
theorem d2_40 : decode method_3_code 40 = .ok (.if_icmp .ne 15, 3) := by decide +kernel
theorem d2_43 : decode method_3_code 43 = .ok (.aload_n 1, 1) := by decide +kernel
theorem d2_44 : decode method_3_code 44 = .ok (.iload_n 2, 1) := by decide +kernel
theorem d2_45 : decode method_3_code 45 = .ok (.baload, 1) := by decide +kernel
theorem d2_46 : decode method_3_code 46 = .ok (.iload 5, 2) := by decide +kernel
theorem d2_48 : decode method_3_code 48 = .ok (.if_icmp .ne 7, 3) := by decide +kernel
theorem d2_51 : decode method_3_code 51 = .ok (.iconst 1, 1) := by decide +kernel
theorem d2_52 : decode method_3_code 52 = .ok (.goto 4, 3) := by decide +kernel
theorem d2_55 : decode method_3_code 55 = .ok (.iconst 0, 1) := by decide +kernel
theorem d2_56 : decode method_3_code 56 = .ok (.ireturn, 1) := by decide +kernel

theorem pd2 : parseMethodDescriptor "([B[ZIII)Z" = some ⟨[(.array .byte), (.array .boolean), .int, .int, .int], some .boolean⟩ := by decide +kernel
theorem pl2 : plainFor (⟨"com/example/medianpoint/medianpoint/RelaxationOpenStatusPinLaw", "at", "([B[ZIII)Z"⟩ : MethodName) = true := by first | exact plainFor_of_name (by first | (simp [plainName, overriddenIn]; done) | decide +kernel) | decide +kernel

theorem ef_k_at (m : MethodId) (x0 : Addr) (x1 : Addr) (x2 : Int32) (x3 : Int32) (x4 : Int32) : entryFrame m #[(.ref x0), (.ref x1), (.int x2), (.int x3), (.int x4)] 7 = mkF m 0 #[.val (.ref x0), .val (.ref x1), .val (.int x2), .val (.int x3), .val (.int x4), .unset, .unset] [] := by first | (simp [entryFrame, mkF, argsToLocals, Value.category]; done) | rfl

set_option maxRecDepth 65536 in
set_option maxHeartbeats 40000000 in
theorem k_at {l : Launch} {Z : State} {a0 : Array Value} (hw : ∀ d ∈ tables_1, d.before a0 Z = true) {xs : List Int32} {ys : List Int32} {i : Nat} {x : Int32} {y : Int32} (h : Heap) (hz : Z.heap.size ≤ h.size) (a : Addr) (d : Addr) (j : Int32) (n : Int32) (b : Int32) (fa0 : Ari Z h a .byte ys) (fa1 : Ari Z h d .boolean xs) (hl : j < n) (p : ¬ j < 0) (q : Int32.toNatClampNeg j = i) (r1 : ys[i]? = some y) (r2 : xs[i]? = some x)   : Go l Z (⟨"com/example/medianpoint/medianpoint/RelaxationOpenStatusPinLaw", "at", "([B[ZIII)Z"⟩ : MethodName) method_3_code 7 (Option.some Jvm.ClassFile.FieldType.boolean) ({ frames := 0, cells := 0, slots := 0, locals := 0 } : Room) (QI fun rz h' => rz = (own_at y x b j) ∧ h' = h) 0 0 h 0 #[.val (.ref a), .val (.ref d), .val (.int j), .val (.int n), .val (.int b), .unset, .unset] [] := by
  refine Go.iload_n 1 d2_0 rfl rfl ?_
  refine Go.iload_n 2 d2_1 rfl rfl ?_
  refine Go.icmp_lt 7 5 d2_2 (by decide) (by decide) rfl (fun c1 => ?_) (fun c1 => ?_)
  ·
    refine Go.iload 9 d2_7 rfl rfl ?_
    refine Go.iload_n 10 d2_9 rfl rfl ?_
    refine Go.ishr 11 d2_10 rfl ?_
    refine Go.iconst 12 (1) d2_11 (by decide) rfl ?_
    refine Go.iand 13 d2_12 rfl ?_
    refine Go.if_eq 20 16 d2_13 (by decide) (by decide) rfl (fun c2 => ?_) (fun c2 => ?_)
    ·
      refine Go.iconst 21 (0) d2_20 (by decide) rfl ?_
      refine Go.istore 23 #[.val (.ref a), .val (.ref d), .val (.int j), .val (.int n), .val (.int b), .val (.int (0 : Int32)), .unset] d2_21 rfl rfl ?_
      refine Go.iload 25 d2_23 rfl rfl ?_
      refine Go.if_eq 32 28 d2_25 (by decide) (by decide) rfl (fun _ => ?_) (fun c => absurd c (by decide))
      refine Go.iconst 33 (0) d2_32 (by decide) rfl ?_
      refine Go.istore 35 #[.val (.ref a), .val (.ref d), .val (.int j), .val (.int n), .val (.int b), .val (.int (0 : Int32)), .val (.int (0 : Int32))] d2_33 rfl rfl ?_
      refine Go.aload_n 36 d2_35 rfl rfl rfl ?_
      refine Go.iload_n 37 d2_36 rfl rfl ?_
      refine Go.baload (x := y) (i) 38 d2_37 fa0 p q r1 rfl ?_
      refine Go.iload 40 d2_38 rfl rfl ?_
      refine Go.icmp_ne 55 43 d2_40 (by decide) (by decide) rfl (fun c4 => ?_) (fun c4 => ?_)
      ·
        refine Go.iconst 56 (0) d2_55 (by decide) rfl ?_
        refine Go.nreturn (t := .boolean) (z' := (0 : Int32)) d2_56 rfl (by simp) (by decide) (by decide) (by decide) ?_
        exact ⟨by simp [own_at, *], rfl⟩
      ·
        refine Go.aload_n 44 d2_43 rfl rfl rfl ?_
        refine Go.iload_n 45 d2_44 rfl rfl ?_
        refine Go.zaload (x := x) (i) 46 d2_45 fa1 p q r2 rfl ?_
        refine Go.iload 48 d2_46 rfl rfl ?_
        refine Go.icmp_ne 55 51 d2_48 (by decide) (by decide) rfl (fun c5 => ?_) (fun c5 => ?_)
        ·
          refine Go.iconst 56 (0) d2_55 (by decide) rfl ?_
          refine Go.nreturn (t := .boolean) (z' := (0 : Int32)) d2_56 rfl (by simp) (by decide) (by decide) (by decide) ?_
          exact ⟨by simp [own_at, *], rfl⟩
        ·
          refine Go.iconst 52 (1) d2_51 (by decide) rfl ?_
          refine Go.goto 56 d2_52 (by decide) (by decide) ?_
          refine Go.nreturn (t := .boolean) (z' := (1 : Int32)) d2_56 rfl (by simp) (by decide) (by decide) (by decide) ?_
          exact ⟨by simp [own_at, *], rfl⟩
    ·
      refine Go.iconst 17 (1) d2_16 (by decide) rfl ?_
      refine Go.goto 21 d2_17 (by decide) (by decide) ?_
      refine Go.istore 23 #[.val (.ref a), .val (.ref d), .val (.int j), .val (.int n), .val (.int b), .val (.int (1 : Int32)), .unset] d2_21 rfl rfl ?_
      refine Go.iload 25 d2_23 rfl rfl ?_
      refine Go.if_eq 32 28 d2_25 (by decide) (by decide) rfl (fun c => absurd c (by decide)) (fun _ => ?_)
      refine Go.iconst 29 (1) d2_28 (by decide) rfl ?_
      refine Go.goto 33 d2_29 (by decide) (by decide) ?_
      refine Go.istore 35 #[.val (.ref a), .val (.ref d), .val (.int j), .val (.int n), .val (.int b), .val (.int (1 : Int32)), .val (.int (1 : Int32))] d2_33 rfl rfl ?_
      refine Go.aload_n 36 d2_35 rfl rfl rfl ?_
      refine Go.iload_n 37 d2_36 rfl rfl ?_
      refine Go.baload (x := y) (i) 38 d2_37 fa0 p q r1 rfl ?_
      refine Go.iload 40 d2_38 rfl rfl ?_
      refine Go.icmp_ne 55 43 d2_40 (by decide) (by decide) rfl (fun c7 => ?_) (fun c7 => ?_)
      ·
        refine Go.iconst 56 (0) d2_55 (by decide) rfl ?_
        refine Go.nreturn (t := .boolean) (z' := (0 : Int32)) d2_56 rfl (by simp) (by decide) (by decide) (by decide) ?_
        exact ⟨by simp [own_at, *], rfl⟩
      ·
        refine Go.aload_n 44 d2_43 rfl rfl rfl ?_
        refine Go.iload_n 45 d2_44 rfl rfl ?_
        refine Go.zaload (x := x) (i) 46 d2_45 fa1 p q r2 rfl ?_
        refine Go.iload 48 d2_46 rfl rfl ?_
        refine Go.icmp_ne 55 51 d2_48 (by decide) (by decide) rfl (fun c8 => ?_) (fun c8 => ?_)
        ·
          refine Go.iconst 56 (0) d2_55 (by decide) rfl ?_
          refine Go.nreturn (t := .boolean) (z' := (0 : Int32)) d2_56 rfl (by simp) (by decide) (by decide) (by decide) ?_
          exact ⟨by simp [own_at, *], rfl⟩
        ·
          refine Go.iconst 52 (1) d2_51 (by decide) rfl ?_
          refine Go.goto 56 d2_52 (by decide) (by decide) ?_
          refine Go.nreturn (t := .boolean) (z' := (1 : Int32)) d2_56 rfl (by simp) (by decide) (by decide) (by decide) ?_
          exact ⟨by simp [own_at, *], rfl⟩
  ·
    exact absurd hl c1

theorem ef_k_at2 (m : MethodId) (x0 : Addr) (x1 : Addr) (x2 : Int32) (x3 : Int32) (x4 : Int32) : entryFrame m #[(.ref x0), (.ref x1), (.int x2), (.int x3), (.int x4)] 7 = mkF m 0 #[.val (.ref x0), .val (.ref x1), .val (.int x2), .val (.int x3), .val (.int x4), .unset, .unset] [] := by first | (simp [entryFrame, mkF, argsToLocals, Value.category]; done) | rfl

set_option maxRecDepth 65536 in
set_option maxHeartbeats 40000000 in
theorem k_at2 {l : Launch} {Z : State} {a0 : Array Value} (hw : ∀ d ∈ tables_1, d.before a0 Z = true)  (h : Heap) (hz : Z.heap.size ≤ h.size) (a : Addr) (d : Addr) (j : Int32) (n : Int32) (b : Int32)  (hl : ¬ j < n)   : Go l Z (⟨"com/example/medianpoint/medianpoint/RelaxationOpenStatusPinLaw", "at", "([B[ZIII)Z"⟩ : MethodName) method_3_code 7 (Option.some Jvm.ClassFile.FieldType.boolean) ({ frames := 0, cells := 0, slots := 0, locals := 0 } : Room) (QI fun rz h' => rz = (1 : Int32) ∧ h' = h) 0 0 h 0 #[.val (.ref a), .val (.ref d), .val (.int j), .val (.int n), .val (.int b), .unset, .unset] [] := by
  refine Go.iload_n 1 d2_0 rfl rfl ?_
  refine Go.iload_n 2 d2_1 rfl rfl ?_
  refine Go.icmp_lt 7 5 d2_2 (by decide) (by decide) rfl (fun c1 => ?_) (fun c1 => ?_)
  ·
    exact absurd c1 hl
  ·
    refine Go.iconst 6 (1) d2_5 (by decide) rfl ?_
    refine Go.nreturn (t := .boolean) (z' := (1 : Int32)) d2_6 rfl (by simp) (by decide) (by decide) (by decide) ?_
    exact ⟨by rfl, rfl⟩

theorem ef_law0 (m : MethodId) (x0 : Int32) (x1 : Int32) : entryFrame m #[(.int x0), (.int x1)] maxLocals = mkF m 0 #[.val (.int x0), .val (.int x1), .unset, .unset, .unset] [] := by first | (simp [entryFrame, mkF, argsToLocals, Value.category, maxLocals]; done) | rfl

set_option maxRecDepth 65536 in
set_option maxHeartbeats 40000000 in
theorem law0 {l : Launch} {Z : State} {a0 : Array Value} (hw : ∀ d ∈ tables_1, d.before a0 Z = true)  (h : Heap) (hz : Z.heap.size ≤ h.size) (i0 : Int32) (i1 : Int32)     : Go l Z x code maxLocals ret room_1 (QI fun z h' => z = 1) 0 0 h 0 #[.val (.int i0), .val (.int i1), .unset, .unset, .unset] [] := by
  refine Go.iload_n 1 at_0 rfl rfl ?_
  refine Go.ldc 3 at_1 (tw0 hw) rfl ?_
  refine Go.iand 4 at_3 rfl ?_
  refine Go.bipush 6 (6) at_4 (by decide) rfl ?_
  refine Go.irem 7 at_6 (by decide) rfl ?_
  refine Go.nameI (fun v1 e2 => ?_)
  refine Go.istore_n 8 #[.val (.int i0), .val (.int i1), .val (.int v1), .unset, .unset] at_7 rfl rfl ?_
  rcases own_six i0 v1 e2 with hs2 | hs2 | hs2 | hs2 | hs2 | hs2
  ·
    subst hs2
    refine Go.iload_n 9 at_8 rfl rfl ?_
    refine Go.newI (cap := 0) (xs := []) 11 at_9 (tw1 hw) rfl (by decide) (by decide) (by decide) rfl (by decide) (by decide) rfl (fun a4 h5 q6 E7 A8 => ?_)
    have ge9 : Z.heap.size ≤ a4 := (Eq.symm q6) ▸ hz
    have zs10 : Z.heap.size ≤ h5.size := Nat.le_trans hz E7.1
    refine Go.astore_n 12 #[.val (.int i0), .val (.int i1), .val (.int (0 : Int32)), .val (.ref a4), .unset] at_11 rfl rfl rfl ?_
    refine Go.iload_n 13 at_12 rfl rfl ?_
    refine Go.if_le 30 16 at_13 (by decide) (by decide) rfl (fun _ => ?_) (fun c => absurd c (by decide))
    refine Go.iload_n 31 at_30 rfl rfl ?_
    refine Go.iconst 32 (1) at_31 (by decide) rfl ?_
    refine Go.icmp_le 49 35 at_32 (by decide) (by decide) rfl (fun _ => ?_) (fun c => absurd c (by decide))
    refine Go.iload_n 50 at_49 rfl rfl ?_
    refine Go.iconst 51 (2) at_50 (by decide) rfl ?_
    refine Go.icmp_le 68 54 at_51 (by decide) (by decide) rfl (fun _ => ?_) (fun c => absurd c (by decide))
    refine Go.iload_n 69 at_68 rfl rfl ?_
    refine Go.iconst 70 (3) at_69 (by decide) rfl ?_
    refine Go.icmp_le 88 73 at_70 (by decide) (by decide) rfl (fun _ => ?_) (fun c => absurd c (by decide))
    refine Go.iload_n 89 at_88 rfl rfl ?_
    refine Go.iconst 90 (4) at_89 (by decide) rfl ?_
    refine Go.icmp_le 108 93 at_90 (by decide) (by decide) rfl (fun _ => ?_) (fun c => absurd c (by decide))
    refine Go.aload_n 109 at_108 rfl rfl rfl ?_
    refine Go.callSR [.ref a4] [] 112 at_109 (tw2 hw) (tw3 hw) (tw4 hw) (tw5 hw) pl1 (by decide) (lenOf pd1 rfl) rfl (fun m => ef_k_open0 m a4) _ (k_open0 hw h5 zs10 a4 A8) 0 rfl (Nat.le_of_eq rfl) (by decide) (by decide) (by decide) (by decide) rfl ?_
    rintro z16 h17 ⟨a19, rfl, g20, K18, f21⟩
    have ne22 : a4 ≠ a19 := Nat.ne_of_lt (Nat.lt_of_lt_of_le A8.lt g20)
    have ge23 : Z.heap.size ≤ a19 := Nat.le_trans zs10 g20
    have f24 : Ari Z h17 a4 .boolean [] := A8.keep K18 nin0
    have zs25 : Z.heap.size ≤ h17.size := Nat.le_trans zs10 K18.1
    refine Go.astore 114 #[.val (.int i0), .val (.int i1), .val (.int (0 : Int32)), .val (.ref a4), .val (.ref a19)] at_112 rfl rfl rfl ?_
    refine Go.aload 116 at_114 rfl rfl rfl ?_
    refine Go.ifnull_no 119 at_116 rfl ?_
    refine Go.aload 121 at_119 rfl rfl rfl ?_
    refine Go.arraylength (z := (0 : Int32)) 122 at_121 f21 (by decide : Nat.toInt32 0 = (0 : Int32)) rfl ?_
    refine Go.iload_n 123 at_122 rfl rfl ?_
    refine Go.icmp_eq 128 126 at_123 (by decide) (by decide) rfl (fun _ => ?_) (fun c => absurd c (by decide))
    refine Go.aload 130 at_128 rfl rfl rfl ?_
    refine Go.aload_n 131 at_130 rfl rfl rfl ?_
    refine Go.iconst 132 (0) at_131 (by decide) rfl ?_
    refine Go.iload_n 133 at_132 rfl rfl ?_
    refine Go.iload_n 134 at_133 rfl rfl ?_
    refine Go.callSIp [.ref a19, .ref a4, .int (0 : Int32), .int (0 : Int32), .int i1] [] 137 at_134 (tw7 hw) (tw8 hw) (tw9 hw) (tw10 hw) pl2 (by decide) (lenOf pd2 rfl) rfl (fun m => ef_k_at2 m a19 a4 (0 : Int32) (0 : Int32) i1) _ (k_at2 hw h17 zs25 a19 a4 (0 : Int32) (0 : Int32) i1 (by decide)) 0 rfl (Nat.le_of_eq rfl) (by decide) (by decide) (by decide) (by decide) rfl ?_
    refine Go.if_eq 192 140 at_137 (by decide) (by decide) rfl (fun c => absurd c (by decide)) (fun _ => ?_)
    refine Go.aload 142 at_140 rfl rfl rfl ?_
    refine Go.aload_n 143 at_142 rfl rfl rfl ?_
    refine Go.iconst 144 (1) at_143 (by decide) rfl ?_
    refine Go.iload_n 145 at_144 rfl rfl ?_
    refine Go.iload_n 146 at_145 rfl rfl ?_
    refine Go.callSIp [.ref a19, .ref a4, .int (1 : Int32), .int (0 : Int32), .int i1] [] 149 at_146 (tw7 hw) (tw8 hw) (tw9 hw) (tw10 hw) pl2 (by decide) (lenOf pd2 rfl) rfl (fun m => ef_k_at2 m a19 a4 (1 : Int32) (0 : Int32) i1) _ (k_at2 hw h17 zs25 a19 a4 (1 : Int32) (0 : Int32) i1 (by decide)) 0 rfl (Nat.le_of_eq rfl) (by decide) (by decide) (by decide) (by decide) rfl ?_
    refine Go.if_eq 192 152 at_149 (by decide) (by decide) rfl (fun c => absurd c (by decide)) (fun _ => ?_)
    refine Go.aload 154 at_152 rfl rfl rfl ?_
    refine Go.aload_n 155 at_154 rfl rfl rfl ?_
    refine Go.iconst 156 (2) at_155 (by decide) rfl ?_
    refine Go.iload_n 157 at_156 rfl rfl ?_
    refine Go.iload_n 158 at_157 rfl rfl ?_
    refine Go.callSIp [.ref a19, .ref a4, .int (2 : Int32), .int (0 : Int32), .int i1] [] 161 at_158 (tw7 hw) (tw8 hw) (tw9 hw) (tw10 hw) pl2 (by decide) (lenOf pd2 rfl) rfl (fun m => ef_k_at2 m a19 a4 (2 : Int32) (0 : Int32) i1) _ (k_at2 hw h17 zs25 a19 a4 (2 : Int32) (0 : Int32) i1 (by decide)) 0 rfl (Nat.le_of_eq rfl) (by decide) (by decide) (by decide) (by decide) rfl ?_
    refine Go.if_eq 192 164 at_161 (by decide) (by decide) rfl (fun c => absurd c (by decide)) (fun _ => ?_)
    refine Go.aload 166 at_164 rfl rfl rfl ?_
    refine Go.aload_n 167 at_166 rfl rfl rfl ?_
    refine Go.iconst 168 (3) at_167 (by decide) rfl ?_
    refine Go.iload_n 169 at_168 rfl rfl ?_
    refine Go.iload_n 170 at_169 rfl rfl ?_
    refine Go.callSIp [.ref a19, .ref a4, .int (3 : Int32), .int (0 : Int32), .int i1] [] 173 at_170 (tw7 hw) (tw8 hw) (tw9 hw) (tw10 hw) pl2 (by decide) (lenOf pd2 rfl) rfl (fun m => ef_k_at2 m a19 a4 (3 : Int32) (0 : Int32) i1) _ (k_at2 hw h17 zs25 a19 a4 (3 : Int32) (0 : Int32) i1 (by decide)) 0 rfl (Nat.le_of_eq rfl) (by decide) (by decide) (by decide) (by decide) rfl ?_
    refine Go.if_eq 192 176 at_173 (by decide) (by decide) rfl (fun c => absurd c (by decide)) (fun _ => ?_)
    refine Go.aload 178 at_176 rfl rfl rfl ?_
    refine Go.aload_n 179 at_178 rfl rfl rfl ?_
    refine Go.iconst 180 (4) at_179 (by decide) rfl ?_
    refine Go.iload_n 181 at_180 rfl rfl ?_
    refine Go.iload_n 182 at_181 rfl rfl ?_
    refine Go.callSIp [.ref a19, .ref a4, .int (4 : Int32), .int (0 : Int32), .int i1] [] 185 at_182 (tw7 hw) (tw8 hw) (tw9 hw) (tw10 hw) pl2 (by decide) (lenOf pd2 rfl) rfl (fun m => ef_k_at2 m a19 a4 (4 : Int32) (0 : Int32) i1) _ (k_at2 hw h17 zs25 a19 a4 (4 : Int32) (0 : Int32) i1 (by decide)) 0 rfl (Nat.le_of_eq rfl) (by decide) (by decide) (by decide) (by decide) rfl ?_
    refine Go.if_eq 192 188 at_185 (by decide) (by decide) rfl (fun c => absurd c (by decide)) (fun _ => ?_)
    refine Go.iconst 189 (1) at_188 (by decide) rfl ?_
    refine Go.goto 193 at_189 (by decide) (by decide) ?_
    refine Go.nreturn (t := .boolean) (z' := (1 : Int32)) at_193 rfl (by simp) (by decide) (by decide) (by decide) ?_
    rfl
  ·
    subst hs2
    refine Go.iload_n 9 at_8 rfl rfl ?_
    refine Go.newI (cap := 1) (xs := [0]) 11 at_9 (tw1 hw) rfl (by decide) (by decide) (by decide) rfl (by decide) (by decide) rfl (fun a47 h48 q49 E50 A51 => ?_)
    have ge52 : Z.heap.size ≤ a47 := (Eq.symm q49) ▸ hz
    have zs53 : Z.heap.size ≤ h48.size := Nat.le_trans hz E50.1
    refine Go.astore_n 12 #[.val (.int i0), .val (.int i1), .val (.int (1 : Int32)), .val (.ref a47), .unset] at_11 rfl rfl rfl ?_
    refine Go.iload_n 13 at_12 rfl rfl ?_
    refine Go.if_le 30 16 at_13 (by decide) (by decide) rfl (fun c => absurd c (by decide)) (fun _ => ?_)
    refine Go.aload_n 17 at_16 rfl rfl rfl ?_
    refine Go.iconst 18 (0) at_17 (by decide) rfl ?_
    refine Go.iload_n 19 at_18 rfl rfl ?_
    refine Go.iconst 20 (1) at_19 (by decide) rfl ?_
    refine Go.iand 21 at_20 rfl ?_
    have J56 : ∀ (v57 : Int32), v57 = (if (i1 &&& (1 : Int32)) = (0 : Int32) then (0 : Int32) else (1 : Int32)) → Go l Z x code maxLocals ret room_1 (QI fun z h' => z = 1) 1 1 h48 29 #[.val (.int i0), .val (.int i1), .val (.int (1 : Int32)), .val (.ref a47), .unset] [.int v57, .int (0 : Int32), .ref a47] := by
      intro v57 e58
      refine Go.zastore (0) ([own_b (i1 &&& (1 : Int32))]) 30 at_29 A51 (by decide) (by decide) (by decide : (0 : Nat) < 1) (by rw [e58]; rfl) ge52 rfl (fun h59 W60 A61 => ?_)
      have zs62 : Z.heap.size ≤ h59.size := W60.size ▸ zs53
      refine Go.iload_n 31 at_30 rfl rfl ?_
      refine Go.iconst 32 (1) at_31 (by decide) rfl ?_
      refine Go.icmp_le 49 35 at_32 (by decide) (by decide) rfl (fun _ => ?_) (fun c => absurd c (by decide))
      refine Go.iload_n 50 at_49 rfl rfl ?_
      refine Go.iconst 51 (2) at_50 (by decide) rfl ?_
      refine Go.icmp_le 68 54 at_51 (by decide) (by decide) rfl (fun _ => ?_) (fun c => absurd c (by decide))
      refine Go.iload_n 69 at_68 rfl rfl ?_
      refine Go.iconst 70 (3) at_69 (by decide) rfl ?_
      refine Go.icmp_le 88 73 at_70 (by decide) (by decide) rfl (fun _ => ?_) (fun c => absurd c (by decide))
      refine Go.iload_n 89 at_88 rfl rfl ?_
      refine Go.iconst 90 (4) at_89 (by decide) rfl ?_
      refine Go.icmp_le 108 93 at_90 (by decide) (by decide) rfl (fun _ => ?_) (fun c => absurd c (by decide))
      refine Go.aload_n 109 at_108 rfl rfl rfl ?_
      refine Go.callSR [.ref a47] [] 112 at_109 (tw2 hw) (tw3 hw) (tw4 hw) (tw5 hw) pl1 (by decide) (lenOf pd1 rfl) rfl (fun m => ef_k_open1 m a47) _ (k_open1 hw h59 zs62 a47 A61) 0 rfl (Nat.le_of_eq rfl) (by decide) (by decide) (by decide) (by decide) rfl ?_
      rintro z67 h68 ⟨a70, rfl, g71, K69, f72⟩
      have ne73 : a47 ≠ a70 := Nat.ne_of_lt (Nat.lt_of_lt_of_le A61.lt g71)
      have ge74 : Z.heap.size ≤ a70 := Nat.le_trans zs62 g71
      have f75 : Ari Z h68 a47 .boolean [own_b (i1 &&& (1 : Int32))] := A61.keep K69 nin0
      have zs76 : Z.heap.size ≤ h68.size := Nat.le_trans zs62 K69.1
      refine Go.astore 114 #[.val (.int i0), .val (.int i1), .val (.int (1 : Int32)), .val (.ref a47), .val (.ref a70)] at_112 rfl rfl rfl ?_
      refine Go.aload 116 at_114 rfl rfl rfl ?_
      refine Go.ifnull_no 119 at_116 rfl ?_
      refine Go.aload 121 at_119 rfl rfl rfl ?_
      refine Go.arraylength (z := (1 : Int32)) 122 at_121 f72 (by decide : Nat.toInt32 1 = (1 : Int32)) rfl ?_
      refine Go.iload_n 123 at_122 rfl rfl ?_
      refine Go.icmp_eq 128 126 at_123 (by decide) (by decide) rfl (fun _ => ?_) (fun c => absurd c (by decide))
      refine Go.aload 130 at_128 rfl rfl rfl ?_
      refine Go.aload_n 131 at_130 rfl rfl rfl ?_
      refine Go.iconst 132 (0) at_131 (by decide) rfl ?_
      refine Go.iload_n 133 at_132 rfl rfl ?_
      refine Go.iload_n 134 at_133 rfl rfl ?_
      refine Go.callSIp [.ref a70, .ref a47, .int (0 : Int32), .int (1 : Int32), .int i1] [] 137 at_134 (tw7 hw) (tw8 hw) (tw9 hw) (tw10 hw) pl2 (by decide) (lenOf pd2 rfl) rfl (fun m => ef_k_at m a70 a47 (0 : Int32) (1 : Int32) i1) _ (k_at (i := 0) (x := (own_b (i1 &&& (1 : Int32)))) (y := (own_s (own_b (i1 &&& (1 : Int32))))) hw h68 zs76 a70 a47 (0 : Int32) (1 : Int32) i1 f72 f75 (by decide) (by decide) (by decide) rfl rfl) 0 rfl (Nat.le_of_eq rfl) (by decide) (by decide) (by decide) (by decide) rfl ?_
      refine Go.if_eq 192 140 at_137 (by decide) (by decide) rfl (fun c81 => ?_) (fun c81 => ?_)
      ·
        refine Go.iconst 193 (0) at_192 (by decide) rfl ?_
        refine Go.nreturn (t := .boolean) (z' := (0 : Int32)) at_193 rfl (by simp) (by decide) (by decide) (by decide) ?_
        exact absurd ((own_good i1 0 1 0 (by decide) (by decide) (by decide)).symm.trans c81) (by decide)
      ·
        refine Go.aload 142 at_140 rfl rfl rfl ?_
        refine Go.aload_n 143 at_142 rfl rfl rfl ?_
        refine Go.iconst 144 (1) at_143 (by decide) rfl ?_
        refine Go.iload_n 145 at_144 rfl rfl ?_
        refine Go.iload_n 146 at_145 rfl rfl ?_
        refine Go.callSIp [.ref a70, .ref a47, .int (1 : Int32), .int (1 : Int32), .int i1] [] 149 at_146 (tw7 hw) (tw8 hw) (tw9 hw) (tw10 hw) pl2 (by decide) (lenOf pd2 rfl) rfl (fun m => ef_k_at2 m a70 a47 (1 : Int32) (1 : Int32) i1) _ (k_at2 hw h68 zs76 a70 a47 (1 : Int32) (1 : Int32) i1 (by decide)) 0 rfl (Nat.le_of_eq rfl) (by decide) (by decide) (by decide) (by decide) rfl ?_
        refine Go.if_eq 192 152 at_149 (by decide) (by decide) rfl (fun c => absurd c (by decide)) (fun _ => ?_)
        refine Go.aload 154 at_152 rfl rfl rfl ?_
        refine Go.aload_n 155 at_154 rfl rfl rfl ?_
        refine Go.iconst 156 (2) at_155 (by decide) rfl ?_
        refine Go.iload_n 157 at_156 rfl rfl ?_
        refine Go.iload_n 158 at_157 rfl rfl ?_
        refine Go.callSIp [.ref a70, .ref a47, .int (2 : Int32), .int (1 : Int32), .int i1] [] 161 at_158 (tw7 hw) (tw8 hw) (tw9 hw) (tw10 hw) pl2 (by decide) (lenOf pd2 rfl) rfl (fun m => ef_k_at2 m a70 a47 (2 : Int32) (1 : Int32) i1) _ (k_at2 hw h68 zs76 a70 a47 (2 : Int32) (1 : Int32) i1 (by decide)) 0 rfl (Nat.le_of_eq rfl) (by decide) (by decide) (by decide) (by decide) rfl ?_
        refine Go.if_eq 192 164 at_161 (by decide) (by decide) rfl (fun c => absurd c (by decide)) (fun _ => ?_)
        refine Go.aload 166 at_164 rfl rfl rfl ?_
        refine Go.aload_n 167 at_166 rfl rfl rfl ?_
        refine Go.iconst 168 (3) at_167 (by decide) rfl ?_
        refine Go.iload_n 169 at_168 rfl rfl ?_
        refine Go.iload_n 170 at_169 rfl rfl ?_
        refine Go.callSIp [.ref a70, .ref a47, .int (3 : Int32), .int (1 : Int32), .int i1] [] 173 at_170 (tw7 hw) (tw8 hw) (tw9 hw) (tw10 hw) pl2 (by decide) (lenOf pd2 rfl) rfl (fun m => ef_k_at2 m a70 a47 (3 : Int32) (1 : Int32) i1) _ (k_at2 hw h68 zs76 a70 a47 (3 : Int32) (1 : Int32) i1 (by decide)) 0 rfl (Nat.le_of_eq rfl) (by decide) (by decide) (by decide) (by decide) rfl ?_
        refine Go.if_eq 192 176 at_173 (by decide) (by decide) rfl (fun c => absurd c (by decide)) (fun _ => ?_)
        refine Go.aload 178 at_176 rfl rfl rfl ?_
        refine Go.aload_n 179 at_178 rfl rfl rfl ?_
        refine Go.iconst 180 (4) at_179 (by decide) rfl ?_
        refine Go.iload_n 181 at_180 rfl rfl ?_
        refine Go.iload_n 182 at_181 rfl rfl ?_
        refine Go.callSIp [.ref a70, .ref a47, .int (4 : Int32), .int (1 : Int32), .int i1] [] 185 at_182 (tw7 hw) (tw8 hw) (tw9 hw) (tw10 hw) pl2 (by decide) (lenOf pd2 rfl) rfl (fun m => ef_k_at2 m a70 a47 (4 : Int32) (1 : Int32) i1) _ (k_at2 hw h68 zs76 a70 a47 (4 : Int32) (1 : Int32) i1 (by decide)) 0 rfl (Nat.le_of_eq rfl) (by decide) (by decide) (by decide) (by decide) rfl ?_
        refine Go.if_eq 192 188 at_185 (by decide) (by decide) rfl (fun c => absurd c (by decide)) (fun _ => ?_)
        refine Go.iconst 189 (1) at_188 (by decide) rfl ?_
        refine Go.goto 193 at_189 (by decide) (by decide) ?_
        refine Go.nreturn (t := .boolean) (z' := (1 : Int32)) at_193 rfl (by simp) (by decide) (by decide) (by decide) ?_
        rfl
    refine Go.if_eq 28 24 at_21 (by decide) (by decide) rfl (fun c98 => ?_) (fun c98 => ?_)
    ·
      refine Go.iconst 29 (0) at_28 (by decide) rfl ?_
      exact (J56 _ (by first | rfl | (simp only [if_pos c98]; done) | simp [c98])).le (by decide) (by decide)
    ·
      refine Go.iconst 25 (1) at_24 (by decide) rfl ?_
      refine Go.goto 29 at_25 (by decide) (by decide) ?_
      exact (J56 _ (by first | rfl | (simp only [if_neg c98]; done) | simp [c98])).le (by decide) (by decide)
  ·
    subst hs2
    refine Go.iload_n 9 at_8 rfl rfl ?_
    refine Go.newI (cap := 2) (xs := [0, 0]) 11 at_9 (tw1 hw) rfl (by decide) (by decide) (by decide) rfl (by decide) (by decide) rfl (fun a99 h100 q101 E102 A103 => ?_)
    have ge104 : Z.heap.size ≤ a99 := (Eq.symm q101) ▸ hz
    have zs105 : Z.heap.size ≤ h100.size := Nat.le_trans hz E102.1
    refine Go.astore_n 12 #[.val (.int i0), .val (.int i1), .val (.int (2 : Int32)), .val (.ref a99), .unset] at_11 rfl rfl rfl ?_
    refine Go.iload_n 13 at_12 rfl rfl ?_
    refine Go.if_le 30 16 at_13 (by decide) (by decide) rfl (fun c => absurd c (by decide)) (fun _ => ?_)
    refine Go.aload_n 17 at_16 rfl rfl rfl ?_
    refine Go.iconst 18 (0) at_17 (by decide) rfl ?_
    refine Go.iload_n 19 at_18 rfl rfl ?_
    refine Go.iconst 20 (1) at_19 (by decide) rfl ?_
    refine Go.iand 21 at_20 rfl ?_
    have J108 : ∀ (v109 : Int32), v109 = (if (i1 &&& (1 : Int32)) = (0 : Int32) then (0 : Int32) else (1 : Int32)) → Go l Z x code maxLocals ret room_1 (QI fun z h' => z = 1) 1 2 h100 29 #[.val (.int i0), .val (.int i1), .val (.int (2 : Int32)), .val (.ref a99), .unset] [.int v109, .int (0 : Int32), .ref a99] := by
      intro v109 e110
      refine Go.zastore (0) ([own_b (i1 &&& (1 : Int32)), 0]) 30 at_29 A103 (by decide) (by decide) (by decide : (0 : Nat) < 2) (by rw [e110]; rfl) ge104 rfl (fun h111 W112 A113 => ?_)
      have zs114 : Z.heap.size ≤ h111.size := W112.size ▸ zs105
      refine Go.iload_n 31 at_30 rfl rfl ?_
      refine Go.iconst 32 (1) at_31 (by decide) rfl ?_
      refine Go.icmp_le 49 35 at_32 (by decide) (by decide) rfl (fun c => absurd c (by decide)) (fun _ => ?_)
      refine Go.aload_n 36 at_35 rfl rfl rfl ?_
      refine Go.iconst 37 (1) at_36 (by decide) rfl ?_
      refine Go.iload_n 38 at_37 rfl rfl ?_
      refine Go.iconst 39 (2) at_38 (by decide) rfl ?_
      refine Go.iand 40 at_39 rfl ?_
      have J117 : ∀ (v118 : Int32), v118 = (if (i1 &&& (2 : Int32)) = (0 : Int32) then (0 : Int32) else (1 : Int32)) → Go l Z x code maxLocals ret room_1 (QI fun z h' => z = 1) 1 2 h111 48 #[.val (.int i0), .val (.int i1), .val (.int (2 : Int32)), .val (.ref a99), .unset] [.int v118, .int (1 : Int32), .ref a99] := by
        intro v118 e119
        refine Go.zastore (1) ([own_b (i1 &&& (1 : Int32)), own_b (i1 &&& (2 : Int32))]) 49 at_48 A113 (by decide) (by decide) (by decide : (1 : Nat) < 2) (by rw [e119]; rfl) ge104 rfl (fun h120 W121 A122 => ?_)
        have zs123 : Z.heap.size ≤ h120.size := W121.size ▸ zs114
        refine Go.iload_n 50 at_49 rfl rfl ?_
        refine Go.iconst 51 (2) at_50 (by decide) rfl ?_
        refine Go.icmp_le 68 54 at_51 (by decide) (by decide) rfl (fun _ => ?_) (fun c => absurd c (by decide))
        refine Go.iload_n 69 at_68 rfl rfl ?_
        refine Go.iconst 70 (3) at_69 (by decide) rfl ?_
        refine Go.icmp_le 88 73 at_70 (by decide) (by decide) rfl (fun _ => ?_) (fun c => absurd c (by decide))
        refine Go.iload_n 89 at_88 rfl rfl ?_
        refine Go.iconst 90 (4) at_89 (by decide) rfl ?_
        refine Go.icmp_le 108 93 at_90 (by decide) (by decide) rfl (fun _ => ?_) (fun c => absurd c (by decide))
        refine Go.aload_n 109 at_108 rfl rfl rfl ?_
        refine Go.callSR [.ref a99] [] 112 at_109 (tw2 hw) (tw3 hw) (tw4 hw) (tw5 hw) pl1 (by decide) (lenOf pd1 rfl) rfl (fun m => ef_k_open2 m a99) _ (k_open2 hw h120 zs123 a99 A122) 0 rfl (Nat.le_of_eq rfl) (by decide) (by decide) (by decide) (by decide) rfl ?_
        rintro z127 h128 ⟨a130, rfl, g131, K129, f132⟩
        have ne133 : a99 ≠ a130 := Nat.ne_of_lt (Nat.lt_of_lt_of_le A122.lt g131)
        have ge134 : Z.heap.size ≤ a130 := Nat.le_trans zs123 g131
        have f135 : Ari Z h128 a99 .boolean [own_b (i1 &&& (1 : Int32)), own_b (i1 &&& (2 : Int32))] := A122.keep K129 nin0
        have zs136 : Z.heap.size ≤ h128.size := Nat.le_trans zs123 K129.1
        refine Go.astore 114 #[.val (.int i0), .val (.int i1), .val (.int (2 : Int32)), .val (.ref a99), .val (.ref a130)] at_112 rfl rfl rfl ?_
        refine Go.aload 116 at_114 rfl rfl rfl ?_
        refine Go.ifnull_no 119 at_116 rfl ?_
        refine Go.aload 121 at_119 rfl rfl rfl ?_
        refine Go.arraylength (z := (2 : Int32)) 122 at_121 f132 (by decide : Nat.toInt32 2 = (2 : Int32)) rfl ?_
        refine Go.iload_n 123 at_122 rfl rfl ?_
        refine Go.icmp_eq 128 126 at_123 (by decide) (by decide) rfl (fun _ => ?_) (fun c => absurd c (by decide))
        refine Go.aload 130 at_128 rfl rfl rfl ?_
        refine Go.aload_n 131 at_130 rfl rfl rfl ?_
        refine Go.iconst 132 (0) at_131 (by decide) rfl ?_
        refine Go.iload_n 133 at_132 rfl rfl ?_
        refine Go.iload_n 134 at_133 rfl rfl ?_
        refine Go.callSIp [.ref a130, .ref a99, .int (0 : Int32), .int (2 : Int32), .int i1] [] 137 at_134 (tw7 hw) (tw8 hw) (tw9 hw) (tw10 hw) pl2 (by decide) (lenOf pd2 rfl) rfl (fun m => ef_k_at m a130 a99 (0 : Int32) (2 : Int32) i1) _ (k_at (i := 0) (x := (own_b (i1 &&& (1 : Int32)))) (y := (own_s (own_b (i1 &&& (1 : Int32))))) hw h128 zs136 a130 a99 (0 : Int32) (2 : Int32) i1 f132 f135 (by decide) (by decide) (by decide) rfl rfl) 0 rfl (Nat.le_of_eq rfl) (by decide) (by decide) (by decide) (by decide) rfl ?_
        refine Go.if_eq 192 140 at_137 (by decide) (by decide) rfl (fun c141 => ?_) (fun c141 => ?_)
        ·
          refine Go.iconst 193 (0) at_192 (by decide) rfl ?_
          refine Go.nreturn (t := .boolean) (z' := (0 : Int32)) at_193 rfl (by simp) (by decide) (by decide) (by decide) ?_
          exact absurd ((own_good i1 0 1 0 (by decide) (by decide) (by decide)).symm.trans c141) (by decide)
        ·
          refine Go.aload 142 at_140 rfl rfl rfl ?_
          refine Go.aload_n 143 at_142 rfl rfl rfl ?_
          refine Go.iconst 144 (1) at_143 (by decide) rfl ?_
          refine Go.iload_n 145 at_144 rfl rfl ?_
          refine Go.iload_n 146 at_145 rfl rfl ?_
          refine Go.callSIp [.ref a130, .ref a99, .int (1 : Int32), .int (2 : Int32), .int i1] [] 149 at_146 (tw7 hw) (tw8 hw) (tw9 hw) (tw10 hw) pl2 (by decide) (lenOf pd2 rfl) rfl (fun m => ef_k_at m a130 a99 (1 : Int32) (2 : Int32) i1) _ (k_at (i := 1) (x := (own_b (i1 &&& (2 : Int32)))) (y := (own_s (own_b (i1 &&& (2 : Int32))))) hw h128 zs136 a130 a99 (1 : Int32) (2 : Int32) i1 f132 f135 (by decide) (by decide) (by decide) rfl rfl) 0 rfl (Nat.le_of_eq rfl) (by decide) (by decide) (by decide) (by decide) rfl ?_
          refine Go.if_eq 192 152 at_149 (by decide) (by decide) rfl (fun c145 => ?_) (fun c145 => ?_)
          ·
            refine Go.iconst 193 (0) at_192 (by decide) rfl ?_
            refine Go.nreturn (t := .boolean) (z' := (0 : Int32)) at_193 rfl (by simp) (by decide) (by decide) (by decide) ?_
            exact absurd ((own_good i1 1 2 1 (by decide) (by decide) (by decide)).symm.trans c145) (by decide)
          ·
            refine Go.aload 154 at_152 rfl rfl rfl ?_
            refine Go.aload_n 155 at_154 rfl rfl rfl ?_
            refine Go.iconst 156 (2) at_155 (by decide) rfl ?_
            refine Go.iload_n 157 at_156 rfl rfl ?_
            refine Go.iload_n 158 at_157 rfl rfl ?_
            refine Go.callSIp [.ref a130, .ref a99, .int (2 : Int32), .int (2 : Int32), .int i1] [] 161 at_158 (tw7 hw) (tw8 hw) (tw9 hw) (tw10 hw) pl2 (by decide) (lenOf pd2 rfl) rfl (fun m => ef_k_at2 m a130 a99 (2 : Int32) (2 : Int32) i1) _ (k_at2 hw h128 zs136 a130 a99 (2 : Int32) (2 : Int32) i1 (by decide)) 0 rfl (Nat.le_of_eq rfl) (by decide) (by decide) (by decide) (by decide) rfl ?_
            refine Go.if_eq 192 164 at_161 (by decide) (by decide) rfl (fun c => absurd c (by decide)) (fun _ => ?_)
            refine Go.aload 166 at_164 rfl rfl rfl ?_
            refine Go.aload_n 167 at_166 rfl rfl rfl ?_
            refine Go.iconst 168 (3) at_167 (by decide) rfl ?_
            refine Go.iload_n 169 at_168 rfl rfl ?_
            refine Go.iload_n 170 at_169 rfl rfl ?_
            refine Go.callSIp [.ref a130, .ref a99, .int (3 : Int32), .int (2 : Int32), .int i1] [] 173 at_170 (tw7 hw) (tw8 hw) (tw9 hw) (tw10 hw) pl2 (by decide) (lenOf pd2 rfl) rfl (fun m => ef_k_at2 m a130 a99 (3 : Int32) (2 : Int32) i1) _ (k_at2 hw h128 zs136 a130 a99 (3 : Int32) (2 : Int32) i1 (by decide)) 0 rfl (Nat.le_of_eq rfl) (by decide) (by decide) (by decide) (by decide) rfl ?_
            refine Go.if_eq 192 176 at_173 (by decide) (by decide) rfl (fun c => absurd c (by decide)) (fun _ => ?_)
            refine Go.aload 178 at_176 rfl rfl rfl ?_
            refine Go.aload_n 179 at_178 rfl rfl rfl ?_
            refine Go.iconst 180 (4) at_179 (by decide) rfl ?_
            refine Go.iload_n 181 at_180 rfl rfl ?_
            refine Go.iload_n 182 at_181 rfl rfl ?_
            refine Go.callSIp [.ref a130, .ref a99, .int (4 : Int32), .int (2 : Int32), .int i1] [] 185 at_182 (tw7 hw) (tw8 hw) (tw9 hw) (tw10 hw) pl2 (by decide) (lenOf pd2 rfl) rfl (fun m => ef_k_at2 m a130 a99 (4 : Int32) (2 : Int32) i1) _ (k_at2 hw h128 zs136 a130 a99 (4 : Int32) (2 : Int32) i1 (by decide)) 0 rfl (Nat.le_of_eq rfl) (by decide) (by decide) (by decide) (by decide) rfl ?_
            refine Go.if_eq 192 188 at_185 (by decide) (by decide) rfl (fun c => absurd c (by decide)) (fun _ => ?_)
            refine Go.iconst 189 (1) at_188 (by decide) rfl ?_
            refine Go.goto 193 at_189 (by decide) (by decide) ?_
            refine Go.nreturn (t := .boolean) (z' := (1 : Int32)) at_193 rfl (by simp) (by decide) (by decide) (by decide) ?_
            rfl
      refine Go.if_eq 47 43 at_40 (by decide) (by decide) rfl (fun c158 => ?_) (fun c158 => ?_)
      ·
        refine Go.iconst 48 (0) at_47 (by decide) rfl ?_
        exact (J117 _ (by first | rfl | (simp only [if_pos c158]; done) | simp [c158])).le (by decide) (by decide)
      ·
        refine Go.iconst 44 (1) at_43 (by decide) rfl ?_
        refine Go.goto 48 at_44 (by decide) (by decide) ?_
        exact (J117 _ (by first | rfl | (simp only [if_neg c158]; done) | simp [c158])).le (by decide) (by decide)
    refine Go.if_eq 28 24 at_21 (by decide) (by decide) rfl (fun c159 => ?_) (fun c159 => ?_)
    ·
      refine Go.iconst 29 (0) at_28 (by decide) rfl ?_
      exact (J108 _ (by first | rfl | (simp only [if_pos c159]; done) | simp [c159])).le (by decide) (by decide)
    ·
      refine Go.iconst 25 (1) at_24 (by decide) rfl ?_
      refine Go.goto 29 at_25 (by decide) (by decide) ?_
      exact (J108 _ (by first | rfl | (simp only [if_neg c159]; done) | simp [c159])).le (by decide) (by decide)
  ·
    subst hs2
    refine Go.iload_n 9 at_8 rfl rfl ?_
    refine Go.newI (cap := 3) (xs := [0, 0, 0]) 11 at_9 (tw1 hw) rfl (by decide) (by decide) (by decide) rfl (by decide) (by decide) rfl (fun a160 h161 q162 E163 A164 => ?_)
    have ge165 : Z.heap.size ≤ a160 := (Eq.symm q162) ▸ hz
    have zs166 : Z.heap.size ≤ h161.size := Nat.le_trans hz E163.1
    refine Go.astore_n 12 #[.val (.int i0), .val (.int i1), .val (.int (3 : Int32)), .val (.ref a160), .unset] at_11 rfl rfl rfl ?_
    refine Go.iload_n 13 at_12 rfl rfl ?_
    refine Go.if_le 30 16 at_13 (by decide) (by decide) rfl (fun c => absurd c (by decide)) (fun _ => ?_)
    refine Go.aload_n 17 at_16 rfl rfl rfl ?_
    refine Go.iconst 18 (0) at_17 (by decide) rfl ?_
    refine Go.iload_n 19 at_18 rfl rfl ?_
    refine Go.iconst 20 (1) at_19 (by decide) rfl ?_
    refine Go.iand 21 at_20 rfl ?_
    have J169 : ∀ (v170 : Int32), v170 = (if (i1 &&& (1 : Int32)) = (0 : Int32) then (0 : Int32) else (1 : Int32)) → Go l Z x code maxLocals ret room_1 (QI fun z h' => z = 1) 1 3 h161 29 #[.val (.int i0), .val (.int i1), .val (.int (3 : Int32)), .val (.ref a160), .unset] [.int v170, .int (0 : Int32), .ref a160] := by
      intro v170 e171
      refine Go.zastore (0) ([own_b (i1 &&& (1 : Int32)), 0, 0]) 30 at_29 A164 (by decide) (by decide) (by decide : (0 : Nat) < 3) (by rw [e171]; rfl) ge165 rfl (fun h172 W173 A174 => ?_)
      have zs175 : Z.heap.size ≤ h172.size := W173.size ▸ zs166
      refine Go.iload_n 31 at_30 rfl rfl ?_
      refine Go.iconst 32 (1) at_31 (by decide) rfl ?_
      refine Go.icmp_le 49 35 at_32 (by decide) (by decide) rfl (fun c => absurd c (by decide)) (fun _ => ?_)
      refine Go.aload_n 36 at_35 rfl rfl rfl ?_
      refine Go.iconst 37 (1) at_36 (by decide) rfl ?_
      refine Go.iload_n 38 at_37 rfl rfl ?_
      refine Go.iconst 39 (2) at_38 (by decide) rfl ?_
      refine Go.iand 40 at_39 rfl ?_
      have J178 : ∀ (v179 : Int32), v179 = (if (i1 &&& (2 : Int32)) = (0 : Int32) then (0 : Int32) else (1 : Int32)) → Go l Z x code maxLocals ret room_1 (QI fun z h' => z = 1) 1 3 h172 48 #[.val (.int i0), .val (.int i1), .val (.int (3 : Int32)), .val (.ref a160), .unset] [.int v179, .int (1 : Int32), .ref a160] := by
        intro v179 e180
        refine Go.zastore (1) ([own_b (i1 &&& (1 : Int32)), own_b (i1 &&& (2 : Int32)), 0]) 49 at_48 A174 (by decide) (by decide) (by decide : (1 : Nat) < 3) (by rw [e180]; rfl) ge165 rfl (fun h181 W182 A183 => ?_)
        have zs184 : Z.heap.size ≤ h181.size := W182.size ▸ zs175
        refine Go.iload_n 50 at_49 rfl rfl ?_
        refine Go.iconst 51 (2) at_50 (by decide) rfl ?_
        refine Go.icmp_le 68 54 at_51 (by decide) (by decide) rfl (fun c => absurd c (by decide)) (fun _ => ?_)
        refine Go.aload_n 55 at_54 rfl rfl rfl ?_
        refine Go.iconst 56 (2) at_55 (by decide) rfl ?_
        refine Go.iload_n 57 at_56 rfl rfl ?_
        refine Go.iconst 58 (4) at_57 (by decide) rfl ?_
        refine Go.iand 59 at_58 rfl ?_
        have J187 : ∀ (v188 : Int32), v188 = (if (i1 &&& (4 : Int32)) = (0 : Int32) then (0 : Int32) else (1 : Int32)) → Go l Z x code maxLocals ret room_1 (QI fun z h' => z = 1) 1 3 h181 67 #[.val (.int i0), .val (.int i1), .val (.int (3 : Int32)), .val (.ref a160), .unset] [.int v188, .int (2 : Int32), .ref a160] := by
          intro v188 e189
          refine Go.zastore (2) ([own_b (i1 &&& (1 : Int32)), own_b (i1 &&& (2 : Int32)), own_b (i1 &&& (4 : Int32))]) 68 at_67 A183 (by decide) (by decide) (by decide : (2 : Nat) < 3) (by rw [e189]; rfl) ge165 rfl (fun h190 W191 A192 => ?_)
          have zs193 : Z.heap.size ≤ h190.size := W191.size ▸ zs184
          refine Go.iload_n 69 at_68 rfl rfl ?_
          refine Go.iconst 70 (3) at_69 (by decide) rfl ?_
          refine Go.icmp_le 88 73 at_70 (by decide) (by decide) rfl (fun _ => ?_) (fun c => absurd c (by decide))
          refine Go.iload_n 89 at_88 rfl rfl ?_
          refine Go.iconst 90 (4) at_89 (by decide) rfl ?_
          refine Go.icmp_le 108 93 at_90 (by decide) (by decide) rfl (fun _ => ?_) (fun c => absurd c (by decide))
          refine Go.aload_n 109 at_108 rfl rfl rfl ?_
          refine Go.callSR [.ref a160] [] 112 at_109 (tw2 hw) (tw3 hw) (tw4 hw) (tw5 hw) pl1 (by decide) (lenOf pd1 rfl) rfl (fun m => ef_k_open3 m a160) _ (k_open3 hw h190 zs193 a160 A192) 0 rfl (Nat.le_of_eq rfl) (by decide) (by decide) (by decide) (by decide) rfl ?_
          rintro z196 h197 ⟨a199, rfl, g200, K198, f201⟩
          have ne202 : a160 ≠ a199 := Nat.ne_of_lt (Nat.lt_of_lt_of_le A192.lt g200)
          have ge203 : Z.heap.size ≤ a199 := Nat.le_trans zs193 g200
          have f204 : Ari Z h197 a160 .boolean [own_b (i1 &&& (1 : Int32)), own_b (i1 &&& (2 : Int32)), own_b (i1 &&& (4 : Int32))] := A192.keep K198 nin0
          have zs205 : Z.heap.size ≤ h197.size := Nat.le_trans zs193 K198.1
          refine Go.astore 114 #[.val (.int i0), .val (.int i1), .val (.int (3 : Int32)), .val (.ref a160), .val (.ref a199)] at_112 rfl rfl rfl ?_
          refine Go.aload 116 at_114 rfl rfl rfl ?_
          refine Go.ifnull_no 119 at_116 rfl ?_
          refine Go.aload 121 at_119 rfl rfl rfl ?_
          refine Go.arraylength (z := (3 : Int32)) 122 at_121 f201 (by decide : Nat.toInt32 3 = (3 : Int32)) rfl ?_
          refine Go.iload_n 123 at_122 rfl rfl ?_
          refine Go.icmp_eq 128 126 at_123 (by decide) (by decide) rfl (fun _ => ?_) (fun c => absurd c (by decide))
          refine Go.aload 130 at_128 rfl rfl rfl ?_
          refine Go.aload_n 131 at_130 rfl rfl rfl ?_
          refine Go.iconst 132 (0) at_131 (by decide) rfl ?_
          refine Go.iload_n 133 at_132 rfl rfl ?_
          refine Go.iload_n 134 at_133 rfl rfl ?_
          refine Go.callSIp [.ref a199, .ref a160, .int (0 : Int32), .int (3 : Int32), .int i1] [] 137 at_134 (tw7 hw) (tw8 hw) (tw9 hw) (tw10 hw) pl2 (by decide) (lenOf pd2 rfl) rfl (fun m => ef_k_at m a199 a160 (0 : Int32) (3 : Int32) i1) _ (k_at (i := 0) (x := (own_b (i1 &&& (1 : Int32)))) (y := (own_s (own_b (i1 &&& (1 : Int32))))) hw h197 zs205 a199 a160 (0 : Int32) (3 : Int32) i1 f201 f204 (by decide) (by decide) (by decide) rfl rfl) 0 rfl (Nat.le_of_eq rfl) (by decide) (by decide) (by decide) (by decide) rfl ?_
          refine Go.if_eq 192 140 at_137 (by decide) (by decide) rfl (fun c210 => ?_) (fun c210 => ?_)
          ·
            refine Go.iconst 193 (0) at_192 (by decide) rfl ?_
            refine Go.nreturn (t := .boolean) (z' := (0 : Int32)) at_193 rfl (by simp) (by decide) (by decide) (by decide) ?_
            exact absurd ((own_good i1 0 1 0 (by decide) (by decide) (by decide)).symm.trans c210) (by decide)
          ·
            refine Go.aload 142 at_140 rfl rfl rfl ?_
            refine Go.aload_n 143 at_142 rfl rfl rfl ?_
            refine Go.iconst 144 (1) at_143 (by decide) rfl ?_
            refine Go.iload_n 145 at_144 rfl rfl ?_
            refine Go.iload_n 146 at_145 rfl rfl ?_
            refine Go.callSIp [.ref a199, .ref a160, .int (1 : Int32), .int (3 : Int32), .int i1] [] 149 at_146 (tw7 hw) (tw8 hw) (tw9 hw) (tw10 hw) pl2 (by decide) (lenOf pd2 rfl) rfl (fun m => ef_k_at m a199 a160 (1 : Int32) (3 : Int32) i1) _ (k_at (i := 1) (x := (own_b (i1 &&& (2 : Int32)))) (y := (own_s (own_b (i1 &&& (2 : Int32))))) hw h197 zs205 a199 a160 (1 : Int32) (3 : Int32) i1 f201 f204 (by decide) (by decide) (by decide) rfl rfl) 0 rfl (Nat.le_of_eq rfl) (by decide) (by decide) (by decide) (by decide) rfl ?_
            refine Go.if_eq 192 152 at_149 (by decide) (by decide) rfl (fun c214 => ?_) (fun c214 => ?_)
            ·
              refine Go.iconst 193 (0) at_192 (by decide) rfl ?_
              refine Go.nreturn (t := .boolean) (z' := (0 : Int32)) at_193 rfl (by simp) (by decide) (by decide) (by decide) ?_
              exact absurd ((own_good i1 1 2 1 (by decide) (by decide) (by decide)).symm.trans c214) (by decide)
            ·
              refine Go.aload 154 at_152 rfl rfl rfl ?_
              refine Go.aload_n 155 at_154 rfl rfl rfl ?_
              refine Go.iconst 156 (2) at_155 (by decide) rfl ?_
              refine Go.iload_n 157 at_156 rfl rfl ?_
              refine Go.iload_n 158 at_157 rfl rfl ?_
              refine Go.callSIp [.ref a199, .ref a160, .int (2 : Int32), .int (3 : Int32), .int i1] [] 161 at_158 (tw7 hw) (tw8 hw) (tw9 hw) (tw10 hw) pl2 (by decide) (lenOf pd2 rfl) rfl (fun m => ef_k_at m a199 a160 (2 : Int32) (3 : Int32) i1) _ (k_at (i := 2) (x := (own_b (i1 &&& (4 : Int32)))) (y := (own_s (own_b (i1 &&& (4 : Int32))))) hw h197 zs205 a199 a160 (2 : Int32) (3 : Int32) i1 f201 f204 (by decide) (by decide) (by decide) rfl rfl) 0 rfl (Nat.le_of_eq rfl) (by decide) (by decide) (by decide) (by decide) rfl ?_
              refine Go.if_eq 192 164 at_161 (by decide) (by decide) rfl (fun c218 => ?_) (fun c218 => ?_)
              ·
                refine Go.iconst 193 (0) at_192 (by decide) rfl ?_
                refine Go.nreturn (t := .boolean) (z' := (0 : Int32)) at_193 rfl (by simp) (by decide) (by decide) (by decide) ?_
                exact absurd ((own_good i1 2 4 2 (by decide) (by decide) (by decide)).symm.trans c218) (by decide)
              ·
                refine Go.aload 166 at_164 rfl rfl rfl ?_
                refine Go.aload_n 167 at_166 rfl rfl rfl ?_
                refine Go.iconst 168 (3) at_167 (by decide) rfl ?_
                refine Go.iload_n 169 at_168 rfl rfl ?_
                refine Go.iload_n 170 at_169 rfl rfl ?_
                refine Go.callSIp [.ref a199, .ref a160, .int (3 : Int32), .int (3 : Int32), .int i1] [] 173 at_170 (tw7 hw) (tw8 hw) (tw9 hw) (tw10 hw) pl2 (by decide) (lenOf pd2 rfl) rfl (fun m => ef_k_at2 m a199 a160 (3 : Int32) (3 : Int32) i1) _ (k_at2 hw h197 zs205 a199 a160 (3 : Int32) (3 : Int32) i1 (by decide)) 0 rfl (Nat.le_of_eq rfl) (by decide) (by decide) (by decide) (by decide) rfl ?_
                refine Go.if_eq 192 176 at_173 (by decide) (by decide) rfl (fun c => absurd c (by decide)) (fun _ => ?_)
                refine Go.aload 178 at_176 rfl rfl rfl ?_
                refine Go.aload_n 179 at_178 rfl rfl rfl ?_
                refine Go.iconst 180 (4) at_179 (by decide) rfl ?_
                refine Go.iload_n 181 at_180 rfl rfl ?_
                refine Go.iload_n 182 at_181 rfl rfl ?_
                refine Go.callSIp [.ref a199, .ref a160, .int (4 : Int32), .int (3 : Int32), .int i1] [] 185 at_182 (tw7 hw) (tw8 hw) (tw9 hw) (tw10 hw) pl2 (by decide) (lenOf pd2 rfl) rfl (fun m => ef_k_at2 m a199 a160 (4 : Int32) (3 : Int32) i1) _ (k_at2 hw h197 zs205 a199 a160 (4 : Int32) (3 : Int32) i1 (by decide)) 0 rfl (Nat.le_of_eq rfl) (by decide) (by decide) (by decide) (by decide) rfl ?_
                refine Go.if_eq 192 188 at_185 (by decide) (by decide) rfl (fun c => absurd c (by decide)) (fun _ => ?_)
                refine Go.iconst 189 (1) at_188 (by decide) rfl ?_
                refine Go.goto 193 at_189 (by decide) (by decide) ?_
                refine Go.nreturn (t := .boolean) (z' := (1 : Int32)) at_193 rfl (by simp) (by decide) (by decide) (by decide) ?_
                rfl
        refine Go.if_eq 66 62 at_59 (by decide) (by decide) rfl (fun c227 => ?_) (fun c227 => ?_)
        ·
          refine Go.iconst 67 (0) at_66 (by decide) rfl ?_
          exact (J187 _ (by first | rfl | (simp only [if_pos c227]; done) | simp [c227])).le (by decide) (by decide)
        ·
          refine Go.iconst 63 (1) at_62 (by decide) rfl ?_
          refine Go.goto 67 at_63 (by decide) (by decide) ?_
          exact (J187 _ (by first | rfl | (simp only [if_neg c227]; done) | simp [c227])).le (by decide) (by decide)
      refine Go.if_eq 47 43 at_40 (by decide) (by decide) rfl (fun c228 => ?_) (fun c228 => ?_)
      ·
        refine Go.iconst 48 (0) at_47 (by decide) rfl ?_
        exact (J178 _ (by first | rfl | (simp only [if_pos c228]; done) | simp [c228])).le (by decide) (by decide)
      ·
        refine Go.iconst 44 (1) at_43 (by decide) rfl ?_
        refine Go.goto 48 at_44 (by decide) (by decide) ?_
        exact (J178 _ (by first | rfl | (simp only [if_neg c228]; done) | simp [c228])).le (by decide) (by decide)
    refine Go.if_eq 28 24 at_21 (by decide) (by decide) rfl (fun c229 => ?_) (fun c229 => ?_)
    ·
      refine Go.iconst 29 (0) at_28 (by decide) rfl ?_
      exact (J169 _ (by first | rfl | (simp only [if_pos c229]; done) | simp [c229])).le (by decide) (by decide)
    ·
      refine Go.iconst 25 (1) at_24 (by decide) rfl ?_
      refine Go.goto 29 at_25 (by decide) (by decide) ?_
      exact (J169 _ (by first | rfl | (simp only [if_neg c229]; done) | simp [c229])).le (by decide) (by decide)
  ·
    subst hs2
    refine Go.iload_n 9 at_8 rfl rfl ?_
    refine Go.newI (cap := 4) (xs := [0, 0, 0, 0]) 11 at_9 (tw1 hw) rfl (by decide) (by decide) (by decide) rfl (by decide) (by decide) rfl (fun a230 h231 q232 E233 A234 => ?_)
    have ge235 : Z.heap.size ≤ a230 := (Eq.symm q232) ▸ hz
    have zs236 : Z.heap.size ≤ h231.size := Nat.le_trans hz E233.1
    refine Go.astore_n 12 #[.val (.int i0), .val (.int i1), .val (.int (4 : Int32)), .val (.ref a230), .unset] at_11 rfl rfl rfl ?_
    refine Go.iload_n 13 at_12 rfl rfl ?_
    refine Go.if_le 30 16 at_13 (by decide) (by decide) rfl (fun c => absurd c (by decide)) (fun _ => ?_)
    refine Go.aload_n 17 at_16 rfl rfl rfl ?_
    refine Go.iconst 18 (0) at_17 (by decide) rfl ?_
    refine Go.iload_n 19 at_18 rfl rfl ?_
    refine Go.iconst 20 (1) at_19 (by decide) rfl ?_
    refine Go.iand 21 at_20 rfl ?_
    have J239 : ∀ (v240 : Int32), v240 = (if (i1 &&& (1 : Int32)) = (0 : Int32) then (0 : Int32) else (1 : Int32)) → Go l Z x code maxLocals ret room_1 (QI fun z h' => z = 1) 1 4 h231 29 #[.val (.int i0), .val (.int i1), .val (.int (4 : Int32)), .val (.ref a230), .unset] [.int v240, .int (0 : Int32), .ref a230] := by
      intro v240 e241
      refine Go.zastore (0) ([own_b (i1 &&& (1 : Int32)), 0, 0, 0]) 30 at_29 A234 (by decide) (by decide) (by decide : (0 : Nat) < 4) (by rw [e241]; rfl) ge235 rfl (fun h242 W243 A244 => ?_)
      have zs245 : Z.heap.size ≤ h242.size := W243.size ▸ zs236
      refine Go.iload_n 31 at_30 rfl rfl ?_
      refine Go.iconst 32 (1) at_31 (by decide) rfl ?_
      refine Go.icmp_le 49 35 at_32 (by decide) (by decide) rfl (fun c => absurd c (by decide)) (fun _ => ?_)
      refine Go.aload_n 36 at_35 rfl rfl rfl ?_
      refine Go.iconst 37 (1) at_36 (by decide) rfl ?_
      refine Go.iload_n 38 at_37 rfl rfl ?_
      refine Go.iconst 39 (2) at_38 (by decide) rfl ?_
      refine Go.iand 40 at_39 rfl ?_
      have J248 : ∀ (v249 : Int32), v249 = (if (i1 &&& (2 : Int32)) = (0 : Int32) then (0 : Int32) else (1 : Int32)) → Go l Z x code maxLocals ret room_1 (QI fun z h' => z = 1) 1 4 h242 48 #[.val (.int i0), .val (.int i1), .val (.int (4 : Int32)), .val (.ref a230), .unset] [.int v249, .int (1 : Int32), .ref a230] := by
        intro v249 e250
        refine Go.zastore (1) ([own_b (i1 &&& (1 : Int32)), own_b (i1 &&& (2 : Int32)), 0, 0]) 49 at_48 A244 (by decide) (by decide) (by decide : (1 : Nat) < 4) (by rw [e250]; rfl) ge235 rfl (fun h251 W252 A253 => ?_)
        have zs254 : Z.heap.size ≤ h251.size := W252.size ▸ zs245
        refine Go.iload_n 50 at_49 rfl rfl ?_
        refine Go.iconst 51 (2) at_50 (by decide) rfl ?_
        refine Go.icmp_le 68 54 at_51 (by decide) (by decide) rfl (fun c => absurd c (by decide)) (fun _ => ?_)
        refine Go.aload_n 55 at_54 rfl rfl rfl ?_
        refine Go.iconst 56 (2) at_55 (by decide) rfl ?_
        refine Go.iload_n 57 at_56 rfl rfl ?_
        refine Go.iconst 58 (4) at_57 (by decide) rfl ?_
        refine Go.iand 59 at_58 rfl ?_
        have J257 : ∀ (v258 : Int32), v258 = (if (i1 &&& (4 : Int32)) = (0 : Int32) then (0 : Int32) else (1 : Int32)) → Go l Z x code maxLocals ret room_1 (QI fun z h' => z = 1) 1 4 h251 67 #[.val (.int i0), .val (.int i1), .val (.int (4 : Int32)), .val (.ref a230), .unset] [.int v258, .int (2 : Int32), .ref a230] := by
          intro v258 e259
          refine Go.zastore (2) ([own_b (i1 &&& (1 : Int32)), own_b (i1 &&& (2 : Int32)), own_b (i1 &&& (4 : Int32)), 0]) 68 at_67 A253 (by decide) (by decide) (by decide : (2 : Nat) < 4) (by rw [e259]; rfl) ge235 rfl (fun h260 W261 A262 => ?_)
          have zs263 : Z.heap.size ≤ h260.size := W261.size ▸ zs254
          refine Go.iload_n 69 at_68 rfl rfl ?_
          refine Go.iconst 70 (3) at_69 (by decide) rfl ?_
          refine Go.icmp_le 88 73 at_70 (by decide) (by decide) rfl (fun c => absurd c (by decide)) (fun _ => ?_)
          refine Go.aload_n 74 at_73 rfl rfl rfl ?_
          refine Go.iconst 75 (3) at_74 (by decide) rfl ?_
          refine Go.iload_n 76 at_75 rfl rfl ?_
          refine Go.bipush 78 (8) at_76 (by decide) rfl ?_
          refine Go.iand 79 at_78 rfl ?_
          have J266 : ∀ (v267 : Int32), v267 = (if (i1 &&& (8 : Int32)) = (0 : Int32) then (0 : Int32) else (1 : Int32)) → Go l Z x code maxLocals ret room_1 (QI fun z h' => z = 1) 1 4 h260 87 #[.val (.int i0), .val (.int i1), .val (.int (4 : Int32)), .val (.ref a230), .unset] [.int v267, .int (3 : Int32), .ref a230] := by
            intro v267 e268
            refine Go.zastore (3) ([own_b (i1 &&& (1 : Int32)), own_b (i1 &&& (2 : Int32)), own_b (i1 &&& (4 : Int32)), own_b (i1 &&& (8 : Int32))]) 88 at_87 A262 (by decide) (by decide) (by decide : (3 : Nat) < 4) (by rw [e268]; rfl) ge235 rfl (fun h269 W270 A271 => ?_)
            have zs272 : Z.heap.size ≤ h269.size := W270.size ▸ zs263
            refine Go.iload_n 89 at_88 rfl rfl ?_
            refine Go.iconst 90 (4) at_89 (by decide) rfl ?_
            refine Go.icmp_le 108 93 at_90 (by decide) (by decide) rfl (fun _ => ?_) (fun c => absurd c (by decide))
            refine Go.aload_n 109 at_108 rfl rfl rfl ?_
            refine Go.callSR [.ref a230] [] 112 at_109 (tw2 hw) (tw3 hw) (tw4 hw) (tw5 hw) pl1 (by decide) (lenOf pd1 rfl) rfl (fun m => ef_k_open4 m a230) _ (k_open4 hw h269 zs272 a230 A271) 0 rfl (Nat.le_of_eq rfl) (by decide) (by decide) (by decide) (by decide) rfl ?_
            rintro z274 h275 ⟨a277, rfl, g278, K276, f279⟩
            have ne280 : a230 ≠ a277 := Nat.ne_of_lt (Nat.lt_of_lt_of_le A271.lt g278)
            have ge281 : Z.heap.size ≤ a277 := Nat.le_trans zs272 g278
            have f282 : Ari Z h275 a230 .boolean [own_b (i1 &&& (1 : Int32)), own_b (i1 &&& (2 : Int32)), own_b (i1 &&& (4 : Int32)), own_b (i1 &&& (8 : Int32))] := A271.keep K276 nin0
            have zs283 : Z.heap.size ≤ h275.size := Nat.le_trans zs272 K276.1
            refine Go.astore 114 #[.val (.int i0), .val (.int i1), .val (.int (4 : Int32)), .val (.ref a230), .val (.ref a277)] at_112 rfl rfl rfl ?_
            refine Go.aload 116 at_114 rfl rfl rfl ?_
            refine Go.ifnull_no 119 at_116 rfl ?_
            refine Go.aload 121 at_119 rfl rfl rfl ?_
            refine Go.arraylength (z := (4 : Int32)) 122 at_121 f279 (by decide : Nat.toInt32 4 = (4 : Int32)) rfl ?_
            refine Go.iload_n 123 at_122 rfl rfl ?_
            refine Go.icmp_eq 128 126 at_123 (by decide) (by decide) rfl (fun _ => ?_) (fun c => absurd c (by decide))
            refine Go.aload 130 at_128 rfl rfl rfl ?_
            refine Go.aload_n 131 at_130 rfl rfl rfl ?_
            refine Go.iconst 132 (0) at_131 (by decide) rfl ?_
            refine Go.iload_n 133 at_132 rfl rfl ?_
            refine Go.iload_n 134 at_133 rfl rfl ?_
            refine Go.callSIp [.ref a277, .ref a230, .int (0 : Int32), .int (4 : Int32), .int i1] [] 137 at_134 (tw7 hw) (tw8 hw) (tw9 hw) (tw10 hw) pl2 (by decide) (lenOf pd2 rfl) rfl (fun m => ef_k_at m a277 a230 (0 : Int32) (4 : Int32) i1) _ (k_at (i := 0) (x := (own_b (i1 &&& (1 : Int32)))) (y := (own_s (own_b (i1 &&& (1 : Int32))))) hw h275 zs283 a277 a230 (0 : Int32) (4 : Int32) i1 f279 f282 (by decide) (by decide) (by decide) rfl rfl) 0 rfl (Nat.le_of_eq rfl) (by decide) (by decide) (by decide) (by decide) rfl ?_
            refine Go.if_eq 192 140 at_137 (by decide) (by decide) rfl (fun c288 => ?_) (fun c288 => ?_)
            ·
              refine Go.iconst 193 (0) at_192 (by decide) rfl ?_
              refine Go.nreturn (t := .boolean) (z' := (0 : Int32)) at_193 rfl (by simp) (by decide) (by decide) (by decide) ?_
              exact absurd ((own_good i1 0 1 0 (by decide) (by decide) (by decide)).symm.trans c288) (by decide)
            ·
              refine Go.aload 142 at_140 rfl rfl rfl ?_
              refine Go.aload_n 143 at_142 rfl rfl rfl ?_
              refine Go.iconst 144 (1) at_143 (by decide) rfl ?_
              refine Go.iload_n 145 at_144 rfl rfl ?_
              refine Go.iload_n 146 at_145 rfl rfl ?_
              refine Go.callSIp [.ref a277, .ref a230, .int (1 : Int32), .int (4 : Int32), .int i1] [] 149 at_146 (tw7 hw) (tw8 hw) (tw9 hw) (tw10 hw) pl2 (by decide) (lenOf pd2 rfl) rfl (fun m => ef_k_at m a277 a230 (1 : Int32) (4 : Int32) i1) _ (k_at (i := 1) (x := (own_b (i1 &&& (2 : Int32)))) (y := (own_s (own_b (i1 &&& (2 : Int32))))) hw h275 zs283 a277 a230 (1 : Int32) (4 : Int32) i1 f279 f282 (by decide) (by decide) (by decide) rfl rfl) 0 rfl (Nat.le_of_eq rfl) (by decide) (by decide) (by decide) (by decide) rfl ?_
              refine Go.if_eq 192 152 at_149 (by decide) (by decide) rfl (fun c292 => ?_) (fun c292 => ?_)
              ·
                refine Go.iconst 193 (0) at_192 (by decide) rfl ?_
                refine Go.nreturn (t := .boolean) (z' := (0 : Int32)) at_193 rfl (by simp) (by decide) (by decide) (by decide) ?_
                exact absurd ((own_good i1 1 2 1 (by decide) (by decide) (by decide)).symm.trans c292) (by decide)
              ·
                refine Go.aload 154 at_152 rfl rfl rfl ?_
                refine Go.aload_n 155 at_154 rfl rfl rfl ?_
                refine Go.iconst 156 (2) at_155 (by decide) rfl ?_
                refine Go.iload_n 157 at_156 rfl rfl ?_
                refine Go.iload_n 158 at_157 rfl rfl ?_
                refine Go.callSIp [.ref a277, .ref a230, .int (2 : Int32), .int (4 : Int32), .int i1] [] 161 at_158 (tw7 hw) (tw8 hw) (tw9 hw) (tw10 hw) pl2 (by decide) (lenOf pd2 rfl) rfl (fun m => ef_k_at m a277 a230 (2 : Int32) (4 : Int32) i1) _ (k_at (i := 2) (x := (own_b (i1 &&& (4 : Int32)))) (y := (own_s (own_b (i1 &&& (4 : Int32))))) hw h275 zs283 a277 a230 (2 : Int32) (4 : Int32) i1 f279 f282 (by decide) (by decide) (by decide) rfl rfl) 0 rfl (Nat.le_of_eq rfl) (by decide) (by decide) (by decide) (by decide) rfl ?_
                refine Go.if_eq 192 164 at_161 (by decide) (by decide) rfl (fun c296 => ?_) (fun c296 => ?_)
                ·
                  refine Go.iconst 193 (0) at_192 (by decide) rfl ?_
                  refine Go.nreturn (t := .boolean) (z' := (0 : Int32)) at_193 rfl (by simp) (by decide) (by decide) (by decide) ?_
                  exact absurd ((own_good i1 2 4 2 (by decide) (by decide) (by decide)).symm.trans c296) (by decide)
                ·
                  refine Go.aload 166 at_164 rfl rfl rfl ?_
                  refine Go.aload_n 167 at_166 rfl rfl rfl ?_
                  refine Go.iconst 168 (3) at_167 (by decide) rfl ?_
                  refine Go.iload_n 169 at_168 rfl rfl ?_
                  refine Go.iload_n 170 at_169 rfl rfl ?_
                  refine Go.callSIp [.ref a277, .ref a230, .int (3 : Int32), .int (4 : Int32), .int i1] [] 173 at_170 (tw7 hw) (tw8 hw) (tw9 hw) (tw10 hw) pl2 (by decide) (lenOf pd2 rfl) rfl (fun m => ef_k_at m a277 a230 (3 : Int32) (4 : Int32) i1) _ (k_at (i := 3) (x := (own_b (i1 &&& (8 : Int32)))) (y := (own_s (own_b (i1 &&& (8 : Int32))))) hw h275 zs283 a277 a230 (3 : Int32) (4 : Int32) i1 f279 f282 (by decide) (by decide) (by decide) rfl rfl) 0 rfl (Nat.le_of_eq rfl) (by decide) (by decide) (by decide) (by decide) rfl ?_
                  refine Go.if_eq 192 176 at_173 (by decide) (by decide) rfl (fun c300 => ?_) (fun c300 => ?_)
                  ·
                    refine Go.iconst 193 (0) at_192 (by decide) rfl ?_
                    refine Go.nreturn (t := .boolean) (z' := (0 : Int32)) at_193 rfl (by simp) (by decide) (by decide) (by decide) ?_
                    exact absurd ((own_good i1 3 8 3 (by decide) (by decide) (by decide)).symm.trans c300) (by decide)
                  ·
                    refine Go.aload 178 at_176 rfl rfl rfl ?_
                    refine Go.aload_n 179 at_178 rfl rfl rfl ?_
                    refine Go.iconst 180 (4) at_179 (by decide) rfl ?_
                    refine Go.iload_n 181 at_180 rfl rfl ?_
                    refine Go.iload_n 182 at_181 rfl rfl ?_
                    refine Go.callSIp [.ref a277, .ref a230, .int (4 : Int32), .int (4 : Int32), .int i1] [] 185 at_182 (tw7 hw) (tw8 hw) (tw9 hw) (tw10 hw) pl2 (by decide) (lenOf pd2 rfl) rfl (fun m => ef_k_at2 m a277 a230 (4 : Int32) (4 : Int32) i1) _ (k_at2 hw h275 zs283 a277 a230 (4 : Int32) (4 : Int32) i1 (by decide)) 0 rfl (Nat.le_of_eq rfl) (by decide) (by decide) (by decide) (by decide) rfl ?_
                    refine Go.if_eq 192 188 at_185 (by decide) (by decide) rfl (fun c => absurd c (by decide)) (fun _ => ?_)
                    refine Go.iconst 189 (1) at_188 (by decide) rfl ?_
                    refine Go.goto 193 at_189 (by decide) (by decide) ?_
                    refine Go.nreturn (t := .boolean) (z' := (1 : Int32)) at_193 rfl (by simp) (by decide) (by decide) (by decide) ?_
                    rfl
          refine Go.if_eq 86 82 at_79 (by decide) (by decide) rfl (fun c305 => ?_) (fun c305 => ?_)
          ·
            refine Go.iconst 87 (0) at_86 (by decide) rfl ?_
            exact (J266 _ (by first | rfl | (simp only [if_pos c305]; done) | simp [c305])).le (by decide) (by decide)
          ·
            refine Go.iconst 83 (1) at_82 (by decide) rfl ?_
            refine Go.goto 87 at_83 (by decide) (by decide) ?_
            exact (J266 _ (by first | rfl | (simp only [if_neg c305]; done) | simp [c305])).le (by decide) (by decide)
        refine Go.if_eq 66 62 at_59 (by decide) (by decide) rfl (fun c306 => ?_) (fun c306 => ?_)
        ·
          refine Go.iconst 67 (0) at_66 (by decide) rfl ?_
          exact (J257 _ (by first | rfl | (simp only [if_pos c306]; done) | simp [c306])).le (by decide) (by decide)
        ·
          refine Go.iconst 63 (1) at_62 (by decide) rfl ?_
          refine Go.goto 67 at_63 (by decide) (by decide) ?_
          exact (J257 _ (by first | rfl | (simp only [if_neg c306]; done) | simp [c306])).le (by decide) (by decide)
      refine Go.if_eq 47 43 at_40 (by decide) (by decide) rfl (fun c307 => ?_) (fun c307 => ?_)
      ·
        refine Go.iconst 48 (0) at_47 (by decide) rfl ?_
        exact (J248 _ (by first | rfl | (simp only [if_pos c307]; done) | simp [c307])).le (by decide) (by decide)
      ·
        refine Go.iconst 44 (1) at_43 (by decide) rfl ?_
        refine Go.goto 48 at_44 (by decide) (by decide) ?_
        exact (J248 _ (by first | rfl | (simp only [if_neg c307]; done) | simp [c307])).le (by decide) (by decide)
    refine Go.if_eq 28 24 at_21 (by decide) (by decide) rfl (fun c308 => ?_) (fun c308 => ?_)
    ·
      refine Go.iconst 29 (0) at_28 (by decide) rfl ?_
      exact (J239 _ (by first | rfl | (simp only [if_pos c308]; done) | simp [c308])).le (by decide) (by decide)
    ·
      refine Go.iconst 25 (1) at_24 (by decide) rfl ?_
      refine Go.goto 29 at_25 (by decide) (by decide) ?_
      exact (J239 _ (by first | rfl | (simp only [if_neg c308]; done) | simp [c308])).le (by decide) (by decide)
  ·
    subst hs2
    refine Go.iload_n 9 at_8 rfl rfl ?_
    refine Go.newI (cap := 5) (xs := [0, 0, 0, 0, 0]) 11 at_9 (tw1 hw) rfl (by decide) (by decide) (by decide) rfl (by decide) (by decide) rfl (fun a309 h310 q311 E312 A313 => ?_)
    have ge314 : Z.heap.size ≤ a309 := (Eq.symm q311) ▸ hz
    have zs315 : Z.heap.size ≤ h310.size := Nat.le_trans hz E312.1
    refine Go.astore_n 12 #[.val (.int i0), .val (.int i1), .val (.int (5 : Int32)), .val (.ref a309), .unset] at_11 rfl rfl rfl ?_
    refine Go.iload_n 13 at_12 rfl rfl ?_
    refine Go.if_le 30 16 at_13 (by decide) (by decide) rfl (fun c => absurd c (by decide)) (fun _ => ?_)
    refine Go.aload_n 17 at_16 rfl rfl rfl ?_
    refine Go.iconst 18 (0) at_17 (by decide) rfl ?_
    refine Go.iload_n 19 at_18 rfl rfl ?_
    refine Go.iconst 20 (1) at_19 (by decide) rfl ?_
    refine Go.iand 21 at_20 rfl ?_
    have J318 : ∀ (v319 : Int32), v319 = (if (i1 &&& (1 : Int32)) = (0 : Int32) then (0 : Int32) else (1 : Int32)) → Go l Z x code maxLocals ret room_1 (QI fun z h' => z = 1) 1 5 h310 29 #[.val (.int i0), .val (.int i1), .val (.int (5 : Int32)), .val (.ref a309), .unset] [.int v319, .int (0 : Int32), .ref a309] := by
      intro v319 e320
      refine Go.zastore (0) ([own_b (i1 &&& (1 : Int32)), 0, 0, 0, 0]) 30 at_29 A313 (by decide) (by decide) (by decide : (0 : Nat) < 5) (by rw [e320]; rfl) ge314 rfl (fun h321 W322 A323 => ?_)
      have zs324 : Z.heap.size ≤ h321.size := W322.size ▸ zs315
      refine Go.iload_n 31 at_30 rfl rfl ?_
      refine Go.iconst 32 (1) at_31 (by decide) rfl ?_
      refine Go.icmp_le 49 35 at_32 (by decide) (by decide) rfl (fun c => absurd c (by decide)) (fun _ => ?_)
      refine Go.aload_n 36 at_35 rfl rfl rfl ?_
      refine Go.iconst 37 (1) at_36 (by decide) rfl ?_
      refine Go.iload_n 38 at_37 rfl rfl ?_
      refine Go.iconst 39 (2) at_38 (by decide) rfl ?_
      refine Go.iand 40 at_39 rfl ?_
      have J327 : ∀ (v328 : Int32), v328 = (if (i1 &&& (2 : Int32)) = (0 : Int32) then (0 : Int32) else (1 : Int32)) → Go l Z x code maxLocals ret room_1 (QI fun z h' => z = 1) 1 5 h321 48 #[.val (.int i0), .val (.int i1), .val (.int (5 : Int32)), .val (.ref a309), .unset] [.int v328, .int (1 : Int32), .ref a309] := by
        intro v328 e329
        refine Go.zastore (1) ([own_b (i1 &&& (1 : Int32)), own_b (i1 &&& (2 : Int32)), 0, 0, 0]) 49 at_48 A323 (by decide) (by decide) (by decide : (1 : Nat) < 5) (by rw [e329]; rfl) ge314 rfl (fun h330 W331 A332 => ?_)
        have zs333 : Z.heap.size ≤ h330.size := W331.size ▸ zs324
        refine Go.iload_n 50 at_49 rfl rfl ?_
        refine Go.iconst 51 (2) at_50 (by decide) rfl ?_
        refine Go.icmp_le 68 54 at_51 (by decide) (by decide) rfl (fun c => absurd c (by decide)) (fun _ => ?_)
        refine Go.aload_n 55 at_54 rfl rfl rfl ?_
        refine Go.iconst 56 (2) at_55 (by decide) rfl ?_
        refine Go.iload_n 57 at_56 rfl rfl ?_
        refine Go.iconst 58 (4) at_57 (by decide) rfl ?_
        refine Go.iand 59 at_58 rfl ?_
        have J336 : ∀ (v337 : Int32), v337 = (if (i1 &&& (4 : Int32)) = (0 : Int32) then (0 : Int32) else (1 : Int32)) → Go l Z x code maxLocals ret room_1 (QI fun z h' => z = 1) 1 5 h330 67 #[.val (.int i0), .val (.int i1), .val (.int (5 : Int32)), .val (.ref a309), .unset] [.int v337, .int (2 : Int32), .ref a309] := by
          intro v337 e338
          refine Go.zastore (2) ([own_b (i1 &&& (1 : Int32)), own_b (i1 &&& (2 : Int32)), own_b (i1 &&& (4 : Int32)), 0, 0]) 68 at_67 A332 (by decide) (by decide) (by decide : (2 : Nat) < 5) (by rw [e338]; rfl) ge314 rfl (fun h339 W340 A341 => ?_)
          have zs342 : Z.heap.size ≤ h339.size := W340.size ▸ zs333
          refine Go.iload_n 69 at_68 rfl rfl ?_
          refine Go.iconst 70 (3) at_69 (by decide) rfl ?_
          refine Go.icmp_le 88 73 at_70 (by decide) (by decide) rfl (fun c => absurd c (by decide)) (fun _ => ?_)
          refine Go.aload_n 74 at_73 rfl rfl rfl ?_
          refine Go.iconst 75 (3) at_74 (by decide) rfl ?_
          refine Go.iload_n 76 at_75 rfl rfl ?_
          refine Go.bipush 78 (8) at_76 (by decide) rfl ?_
          refine Go.iand 79 at_78 rfl ?_
          have J345 : ∀ (v346 : Int32), v346 = (if (i1 &&& (8 : Int32)) = (0 : Int32) then (0 : Int32) else (1 : Int32)) → Go l Z x code maxLocals ret room_1 (QI fun z h' => z = 1) 1 5 h339 87 #[.val (.int i0), .val (.int i1), .val (.int (5 : Int32)), .val (.ref a309), .unset] [.int v346, .int (3 : Int32), .ref a309] := by
            intro v346 e347
            refine Go.zastore (3) ([own_b (i1 &&& (1 : Int32)), own_b (i1 &&& (2 : Int32)), own_b (i1 &&& (4 : Int32)), own_b (i1 &&& (8 : Int32)), 0]) 88 at_87 A341 (by decide) (by decide) (by decide : (3 : Nat) < 5) (by rw [e347]; rfl) ge314 rfl (fun h348 W349 A350 => ?_)
            have zs351 : Z.heap.size ≤ h348.size := W349.size ▸ zs342
            refine Go.iload_n 89 at_88 rfl rfl ?_
            refine Go.iconst 90 (4) at_89 (by decide) rfl ?_
            refine Go.icmp_le 108 93 at_90 (by decide) (by decide) rfl (fun c => absurd c (by decide)) (fun _ => ?_)
            refine Go.aload_n 94 at_93 rfl rfl rfl ?_
            refine Go.iconst 95 (4) at_94 (by decide) rfl ?_
            refine Go.iload_n 96 at_95 rfl rfl ?_
            refine Go.bipush 98 (16) at_96 (by decide) rfl ?_
            refine Go.iand 99 at_98 rfl ?_
            have J354 : ∀ (v355 : Int32), v355 = (if (i1 &&& (16 : Int32)) = (0 : Int32) then (0 : Int32) else (1 : Int32)) → Go l Z x code maxLocals ret room_1 (QI fun z h' => z = 1) 1 5 h348 107 #[.val (.int i0), .val (.int i1), .val (.int (5 : Int32)), .val (.ref a309), .unset] [.int v355, .int (4 : Int32), .ref a309] := by
              intro v355 e356
              refine Go.zastore (4) ([own_b (i1 &&& (1 : Int32)), own_b (i1 &&& (2 : Int32)), own_b (i1 &&& (4 : Int32)), own_b (i1 &&& (8 : Int32)), own_b (i1 &&& (16 : Int32))]) 108 at_107 A350 (by decide) (by decide) (by decide : (4 : Nat) < 5) (by rw [e356]; rfl) ge314 rfl (fun h357 W358 A359 => ?_)
              have zs360 : Z.heap.size ≤ h357.size := W358.size ▸ zs351
              refine Go.aload_n 109 at_108 rfl rfl rfl ?_
              refine Go.callSR [.ref a309] [] 112 at_109 (tw2 hw) (tw3 hw) (tw4 hw) (tw5 hw) pl1 (by decide) (lenOf pd1 rfl) rfl (fun m => ef_k_open5 m a309) _ (k_open5 hw h357 zs360 a309 A359) 0 rfl (Nat.le_of_eq rfl) (by decide) (by decide) (by decide) (by decide) rfl ?_
              rintro z361 h362 ⟨a364, rfl, g365, K363, f366⟩
              have ne367 : a309 ≠ a364 := Nat.ne_of_lt (Nat.lt_of_lt_of_le A359.lt g365)
              have ge368 : Z.heap.size ≤ a364 := Nat.le_trans zs360 g365
              have f369 : Ari Z h362 a309 .boolean [own_b (i1 &&& (1 : Int32)), own_b (i1 &&& (2 : Int32)), own_b (i1 &&& (4 : Int32)), own_b (i1 &&& (8 : Int32)), own_b (i1 &&& (16 : Int32))] := A359.keep K363 nin0
              have zs370 : Z.heap.size ≤ h362.size := Nat.le_trans zs360 K363.1
              refine Go.astore 114 #[.val (.int i0), .val (.int i1), .val (.int (5 : Int32)), .val (.ref a309), .val (.ref a364)] at_112 rfl rfl rfl ?_
              refine Go.aload 116 at_114 rfl rfl rfl ?_
              refine Go.ifnull_no 119 at_116 rfl ?_
              refine Go.aload 121 at_119 rfl rfl rfl ?_
              refine Go.arraylength (z := (5 : Int32)) 122 at_121 f366 (by decide : Nat.toInt32 5 = (5 : Int32)) rfl ?_
              refine Go.iload_n 123 at_122 rfl rfl ?_
              refine Go.icmp_eq 128 126 at_123 (by decide) (by decide) rfl (fun _ => ?_) (fun c => absurd c (by decide))
              refine Go.aload 130 at_128 rfl rfl rfl ?_
              refine Go.aload_n 131 at_130 rfl rfl rfl ?_
              refine Go.iconst 132 (0) at_131 (by decide) rfl ?_
              refine Go.iload_n 133 at_132 rfl rfl ?_
              refine Go.iload_n 134 at_133 rfl rfl ?_
              refine Go.callSIp [.ref a364, .ref a309, .int (0 : Int32), .int (5 : Int32), .int i1] [] 137 at_134 (tw7 hw) (tw8 hw) (tw9 hw) (tw10 hw) pl2 (by decide) (lenOf pd2 rfl) rfl (fun m => ef_k_at m a364 a309 (0 : Int32) (5 : Int32) i1) _ (k_at (i := 0) (x := (own_b (i1 &&& (1 : Int32)))) (y := (own_s (own_b (i1 &&& (1 : Int32))))) hw h362 zs370 a364 a309 (0 : Int32) (5 : Int32) i1 f366 f369 (by decide) (by decide) (by decide) rfl rfl) 0 rfl (Nat.le_of_eq rfl) (by decide) (by decide) (by decide) (by decide) rfl ?_
              refine Go.if_eq 192 140 at_137 (by decide) (by decide) rfl (fun c375 => ?_) (fun c375 => ?_)
              ·
                refine Go.iconst 193 (0) at_192 (by decide) rfl ?_
                refine Go.nreturn (t := .boolean) (z' := (0 : Int32)) at_193 rfl (by simp) (by decide) (by decide) (by decide) ?_
                exact absurd ((own_good i1 0 1 0 (by decide) (by decide) (by decide)).symm.trans c375) (by decide)
              ·
                refine Go.aload 142 at_140 rfl rfl rfl ?_
                refine Go.aload_n 143 at_142 rfl rfl rfl ?_
                refine Go.iconst 144 (1) at_143 (by decide) rfl ?_
                refine Go.iload_n 145 at_144 rfl rfl ?_
                refine Go.iload_n 146 at_145 rfl rfl ?_
                refine Go.callSIp [.ref a364, .ref a309, .int (1 : Int32), .int (5 : Int32), .int i1] [] 149 at_146 (tw7 hw) (tw8 hw) (tw9 hw) (tw10 hw) pl2 (by decide) (lenOf pd2 rfl) rfl (fun m => ef_k_at m a364 a309 (1 : Int32) (5 : Int32) i1) _ (k_at (i := 1) (x := (own_b (i1 &&& (2 : Int32)))) (y := (own_s (own_b (i1 &&& (2 : Int32))))) hw h362 zs370 a364 a309 (1 : Int32) (5 : Int32) i1 f366 f369 (by decide) (by decide) (by decide) rfl rfl) 0 rfl (Nat.le_of_eq rfl) (by decide) (by decide) (by decide) (by decide) rfl ?_
                refine Go.if_eq 192 152 at_149 (by decide) (by decide) rfl (fun c379 => ?_) (fun c379 => ?_)
                ·
                  refine Go.iconst 193 (0) at_192 (by decide) rfl ?_
                  refine Go.nreturn (t := .boolean) (z' := (0 : Int32)) at_193 rfl (by simp) (by decide) (by decide) (by decide) ?_
                  exact absurd ((own_good i1 1 2 1 (by decide) (by decide) (by decide)).symm.trans c379) (by decide)
                ·
                  refine Go.aload 154 at_152 rfl rfl rfl ?_
                  refine Go.aload_n 155 at_154 rfl rfl rfl ?_
                  refine Go.iconst 156 (2) at_155 (by decide) rfl ?_
                  refine Go.iload_n 157 at_156 rfl rfl ?_
                  refine Go.iload_n 158 at_157 rfl rfl ?_
                  refine Go.callSIp [.ref a364, .ref a309, .int (2 : Int32), .int (5 : Int32), .int i1] [] 161 at_158 (tw7 hw) (tw8 hw) (tw9 hw) (tw10 hw) pl2 (by decide) (lenOf pd2 rfl) rfl (fun m => ef_k_at m a364 a309 (2 : Int32) (5 : Int32) i1) _ (k_at (i := 2) (x := (own_b (i1 &&& (4 : Int32)))) (y := (own_s (own_b (i1 &&& (4 : Int32))))) hw h362 zs370 a364 a309 (2 : Int32) (5 : Int32) i1 f366 f369 (by decide) (by decide) (by decide) rfl rfl) 0 rfl (Nat.le_of_eq rfl) (by decide) (by decide) (by decide) (by decide) rfl ?_
                  refine Go.if_eq 192 164 at_161 (by decide) (by decide) rfl (fun c383 => ?_) (fun c383 => ?_)
                  ·
                    refine Go.iconst 193 (0) at_192 (by decide) rfl ?_
                    refine Go.nreturn (t := .boolean) (z' := (0 : Int32)) at_193 rfl (by simp) (by decide) (by decide) (by decide) ?_
                    exact absurd ((own_good i1 2 4 2 (by decide) (by decide) (by decide)).symm.trans c383) (by decide)
                  ·
                    refine Go.aload 166 at_164 rfl rfl rfl ?_
                    refine Go.aload_n 167 at_166 rfl rfl rfl ?_
                    refine Go.iconst 168 (3) at_167 (by decide) rfl ?_
                    refine Go.iload_n 169 at_168 rfl rfl ?_
                    refine Go.iload_n 170 at_169 rfl rfl ?_
                    refine Go.callSIp [.ref a364, .ref a309, .int (3 : Int32), .int (5 : Int32), .int i1] [] 173 at_170 (tw7 hw) (tw8 hw) (tw9 hw) (tw10 hw) pl2 (by decide) (lenOf pd2 rfl) rfl (fun m => ef_k_at m a364 a309 (3 : Int32) (5 : Int32) i1) _ (k_at (i := 3) (x := (own_b (i1 &&& (8 : Int32)))) (y := (own_s (own_b (i1 &&& (8 : Int32))))) hw h362 zs370 a364 a309 (3 : Int32) (5 : Int32) i1 f366 f369 (by decide) (by decide) (by decide) rfl rfl) 0 rfl (Nat.le_of_eq rfl) (by decide) (by decide) (by decide) (by decide) rfl ?_
                    refine Go.if_eq 192 176 at_173 (by decide) (by decide) rfl (fun c387 => ?_) (fun c387 => ?_)
                    ·
                      refine Go.iconst 193 (0) at_192 (by decide) rfl ?_
                      refine Go.nreturn (t := .boolean) (z' := (0 : Int32)) at_193 rfl (by simp) (by decide) (by decide) (by decide) ?_
                      exact absurd ((own_good i1 3 8 3 (by decide) (by decide) (by decide)).symm.trans c387) (by decide)
                    ·
                      refine Go.aload 178 at_176 rfl rfl rfl ?_
                      refine Go.aload_n 179 at_178 rfl rfl rfl ?_
                      refine Go.iconst 180 (4) at_179 (by decide) rfl ?_
                      refine Go.iload_n 181 at_180 rfl rfl ?_
                      refine Go.iload_n 182 at_181 rfl rfl ?_
                      refine Go.callSIp [.ref a364, .ref a309, .int (4 : Int32), .int (5 : Int32), .int i1] [] 185 at_182 (tw7 hw) (tw8 hw) (tw9 hw) (tw10 hw) pl2 (by decide) (lenOf pd2 rfl) rfl (fun m => ef_k_at m a364 a309 (4 : Int32) (5 : Int32) i1) _ (k_at (i := 4) (x := (own_b (i1 &&& (16 : Int32)))) (y := (own_s (own_b (i1 &&& (16 : Int32))))) hw h362 zs370 a364 a309 (4 : Int32) (5 : Int32) i1 f366 f369 (by decide) (by decide) (by decide) rfl rfl) 0 rfl (Nat.le_of_eq rfl) (by decide) (by decide) (by decide) (by decide) rfl ?_
                      refine Go.if_eq 192 188 at_185 (by decide) (by decide) rfl (fun c391 => ?_) (fun c391 => ?_)
                      ·
                        refine Go.iconst 193 (0) at_192 (by decide) rfl ?_
                        refine Go.nreturn (t := .boolean) (z' := (0 : Int32)) at_193 rfl (by simp) (by decide) (by decide) (by decide) ?_
                        exact absurd ((own_good i1 4 16 4 (by decide) (by decide) (by decide)).symm.trans c391) (by decide)
                      ·
                        refine Go.iconst 189 (1) at_188 (by decide) rfl ?_
                        refine Go.goto 193 at_189 (by decide) (by decide) ?_
                        refine Go.nreturn (t := .boolean) (z' := (1 : Int32)) at_193 rfl (by simp) (by decide) (by decide) (by decide) ?_
                        rfl
            refine Go.if_eq 106 102 at_99 (by decide) (by decide) rfl (fun c392 => ?_) (fun c392 => ?_)
            ·
              refine Go.iconst 107 (0) at_106 (by decide) rfl ?_
              exact (J354 _ (by first | rfl | (simp only [if_pos c392]; done) | simp [c392])).le (by decide) (by decide)
            ·
              refine Go.iconst 103 (1) at_102 (by decide) rfl ?_
              refine Go.goto 107 at_103 (by decide) (by decide) ?_
              exact (J354 _ (by first | rfl | (simp only [if_neg c392]; done) | simp [c392])).le (by decide) (by decide)
          refine Go.if_eq 86 82 at_79 (by decide) (by decide) rfl (fun c393 => ?_) (fun c393 => ?_)
          ·
            refine Go.iconst 87 (0) at_86 (by decide) rfl ?_
            exact (J345 _ (by first | rfl | (simp only [if_pos c393]; done) | simp [c393])).le (by decide) (by decide)
          ·
            refine Go.iconst 83 (1) at_82 (by decide) rfl ?_
            refine Go.goto 87 at_83 (by decide) (by decide) ?_
            exact (J345 _ (by first | rfl | (simp only [if_neg c393]; done) | simp [c393])).le (by decide) (by decide)
        refine Go.if_eq 66 62 at_59 (by decide) (by decide) rfl (fun c394 => ?_) (fun c394 => ?_)
        ·
          refine Go.iconst 67 (0) at_66 (by decide) rfl ?_
          exact (J336 _ (by first | rfl | (simp only [if_pos c394]; done) | simp [c394])).le (by decide) (by decide)
        ·
          refine Go.iconst 63 (1) at_62 (by decide) rfl ?_
          refine Go.goto 67 at_63 (by decide) (by decide) ?_
          exact (J336 _ (by first | rfl | (simp only [if_neg c394]; done) | simp [c394])).le (by decide) (by decide)
      refine Go.if_eq 47 43 at_40 (by decide) (by decide) rfl (fun c395 => ?_) (fun c395 => ?_)
      ·
        refine Go.iconst 48 (0) at_47 (by decide) rfl ?_
        exact (J327 _ (by first | rfl | (simp only [if_pos c395]; done) | simp [c395])).le (by decide) (by decide)
      ·
        refine Go.iconst 44 (1) at_43 (by decide) rfl ?_
        refine Go.goto 48 at_44 (by decide) (by decide) ?_
        exact (J327 _ (by first | rfl | (simp only [if_neg c395]; done) | simp [c395])).le (by decide) (by decide)
    refine Go.if_eq 28 24 at_21 (by decide) (by decide) rfl (fun c396 => ?_) (fun c396 => ?_)
    ·
      refine Go.iconst 29 (0) at_28 (by decide) rfl ?_
      exact (J318 _ (by first | rfl | (simp only [if_pos c396]; done) | simp [c396])).le (by decide) (by decide)
    ·
      refine Go.iconst 25 (1) at_24 (by decide) rfl ?_
      refine Go.goto 29 at_25 (by decide) (by decide) ?_
      exact (J318 _ (by first | rfl | (simp only [if_neg c396]; done) | simp [c396])).le (by decide) (by decide)
set_option maxRecDepth 65536 in
set_option maxHeartbeats 40000000 in
theorem comes_1 {Post : Tables → Env → Array Value → State → Outcome → State → Prop} (hpost : ∀ tb e args s v u, (limb_1_1.after args s (.returned v) u = true ∧ limb_1_2.after args s (.returned v) u = true ∧ True) → FrameEnd s (.returned v) u (Jvm.fieldLocs frame_1_writes args s ++ Jvm.arrayLocs frame_1_arrays args s ++ Jvm.staticLocs frame_1_statics s) 16 128 → Post tb e args s (.returned v) u) :
    ArmFor flags0 classFile x code maxLocals ret World_1 tables_1 room_1 Calls_1 rest_1 Pre_1 Post := by
  intro l hfl _ _ p e ha hc hk s m args below hf hA hF happ hP
  obtain ⟨hcalls, hrest, hpre⟩ := hP
  obtain ⟨-, -, -, hnamed, -, -, -, hat⟩ := (Spec.applies_iff hf).mp happ
  obtain ⟨hg, hn⟩ := and_e (Cond.before_iff.mp (show (Jvm.Cond.and given_1 narrow_1).before args s = true from hpre))
  obtain ⟨h1, g0⟩ := and_e hg
  obtain ⟨w0, w1, rfl⟩ : ∃ w0 w1 : Value, args = #[w0, w1] := by
    have hs : args.size = 2 := by simpa [Cond.value, given_1] using h1
    obtain ⟨L⟩ := args
    match L, hs with
    | [w0, w1], _ => exact ⟨w0, w1, rfl⟩
  have hw := fun d (hd : d ∈ tables_1) => atoms_spec (ws := Jvm.Cond.code x code maxLocals ret :: tables_1) hat d (List.mem_cons_of_mem _ hd)
  obtain ⟨b0, g1⟩ := and_e g0
  obtain ⟨i0, ei0⟩ := is_v b0
  obtain rfl : w0 = (.int i0) := Option.some.inj ei0
  have b1 := g1
  obtain ⟨i1, ei1⟩ := is_v b1
  obtain rfl : w1 = (.int i1) := Option.some.inj ei1
  have G := law0 (l := l) hw s.heap (Nat.le_refl _) i0 i1
  obtain ⟨n, o, h1, h2, h3, _, L, rfl, ⟨⟨z, rfl, rfl⟩, N⟩, hq⟩ := Go.met (as' := #[.int i0, .int i1]) (plainFor_of_name pnx) (fun m => ef_law0 m i0 i1) G tables_1 p e ha hc hk s m _ below hf ((Spec.applies_iff_loose hf).mp happ).1 ⟨rfl, State.Warmed39.refl s, rfl⟩ trivial
  refine ⟨n, _, h1, h2, h3, hpost _ _ _ _ _ _ ⟨Cond.after_iff.mpr rfl, Cond.after_iff.mpr (eq_i res_at (Term.int_eval (1)) rfl), trivial⟩ ⟨hq.1, hq.2.1, (hq.2.2.sift fun y hy => Or.inr (N y hy)).mono (by decide) (by decide)⟩⟩
theorem main_1_1 : Claimed_1_1 := comes_1 fun _ _ _ _ _ _ h hF => ⟨h.1, hF⟩
theorem main_1_2 : Claimed_1_2 := comes_1 fun _ _ _ _ _ _ h hF => ⟨h.2.1, hF⟩
end Jvm.Pilot.@@N@@
namespace Jvm.Pilot.@@N@@
open Jvm Jvm.ClassFile Sem Op Lib Jvm.Free Jvm.Stand Jvm.Pilot.@@N@@.Jvm.D
/-! MADE BY PROGRAM (witnessworld.py) out of the Statement's table words and the real class files: 11 classes; the members and pool entries that the words name. The judged class is class 1, her method 1. -/
namespace start1
open Jvm.ClassFile
def u (s : String) : CpInfo := .utf8 (stringToUtf16 s)
/-- a pool by its gaps: so many unusable entries, then the entry; so many at the end -/
def gap : Nat → List CpInfo → List CpInfo
  | 0, r => r
  | n + 1, r => .unusable :: gap n r
def poolList (es : List (Nat × CpInfo)) (last : Nat) : List CpInfo := es.foldr (fun e r => gap e.1 (e.2 :: r)) (gap last [])
def pool (es : List (Nat × CpInfo)) (last : Nat) : Array CpInfo := ⟨poolList es last⟩
def fileOf (pool : Array CpInfo) (this : Nat) (attrs : Array Attribute := #[]) (ms : Array MethodInfo := #[]) (fl : Nat := 33) (sup : Nat := 0) (ifs : Array Nat := #[]) (fds : Array FieldInfo := #[]) : ClassFile where
  minorVersion := 0
  majorVersion := 65
  constantPool := pool
  accessFlags := fl
  thisClass := this
  superClass := sup
  interfaces := ifs
  fields := fds
  methods := ms
  attributes := attrs
def plain (name : String) (sup : Option ClassId) : Class where
  name := name
  kind := .ordinary
  loader := none
  accessFlags := 33
  super := sup
  interfaces := #[]
  cf := none
  fields := #[]
  methods := #[]
  instanceTypes := #[]
  staticTypes := #[]
  resolved := #[]
  callSites := []
  init := .initialized
  statics := none
  mirror := none

def pool0 : Array CpInfo := pool [(5, u "<init>"), (0, u "()V"), (1, .class_ 10), (1, u "java/lang/Object")] 113

def k0m0 : Method := { name := "<init>", desc := "()V", sig := { parameters := [], returnType := none }, accessFlags := 1, code := none }
/-- java/lang/Object -/
def k0 : Class := { plain "java/lang/Object" none with
  accessFlags := 33
  interfaces := #[]
  cf := some (fileOf pool0 8 #[] #[{ accessFlags := 1, nameIndex := 5, descriptorIndex := 6, attributes := #[] }] 33 0 #[] #[])
  fields := #[]
  methods := #[k0m0]
  instanceTypes := #[]
  staticTypes := #[]
  resolved := Array.replicate 124 none
  statics := none }

def pool1 : Array CpInfo := pool [(2, .class_ 4), (1, u "java/lang/Object"), (0, u "<init>"), (0, u "()V"), (0, .integer 2147483647), (0, .methodref 9 10), (0, .class_ 11), (0, .nameAndType 12 13), (0, u "com/example/medianpoint/medianpoint/Relaxation"), (0, u "openStatus"), (0, u "([Z)[B"), (0, .methodref 15 16), (0, .class_ 17), (0, .nameAndType 18 19), (0, u "com/example/medianpoint/medianpoint/RelaxationOpenStatusPinLaw"), (0, u "at"), (0, u "([B[ZIII)Z"), (2, u "law"), (0, u "(II)Z")] 7

def k1m0 : Method := { name := "<init>", desc := "()V", sig := { parameters := [], returnType := none }, accessFlags := 1, code := none }
def k1c1 : Code := { maxStack := 5, maxLocals := 5, code := code, exceptionTable := #[], attributes := #[] }
def k1m1 : Method := { name := "law", desc := "(II)Z", sig := { parameters := [.int, .int], returnType := some .boolean }, accessFlags := 9, code := some k1c1 }
def k1c2 : Code := { maxStack := 2, maxLocals := 7, code := method_3_code, exceptionTable := #[], attributes := #[] }
def k1m2 : Method := { name := "at", desc := "([B[ZIII)Z", sig := { parameters := [(.array .byte), (.array .boolean), .int, .int, .int], returnType := some .boolean }, accessFlags := 10, code := some k1c2 }
/-- com/example/medianpoint/medianpoint/RelaxationOpenStatusPinLaw -/
def k1 : Class := { plain "com/example/medianpoint/medianpoint/RelaxationOpenStatusPinLaw" (some 0) with
  accessFlags := 49
  interfaces := #[]
  cf := some (fileOf pool1 15 #[] #[{ accessFlags := 1, nameIndex := 5, descriptorIndex := 6, attributes := #[] }, { accessFlags := 9, nameIndex := 22, descriptorIndex := 23, attributes := #[] }, { accessFlags := 10, nameIndex := 18, descriptorIndex := 19, attributes := #[] }] 49 2 #[] #[])
  fields := #[]
  methods := #[k1m0, k1m1, k1m2]
  instanceTypes := #[]
  staticTypes := #[]
  resolved := Array.replicate 31 none
  statics := none }

def pool2 : Array CpInfo := pool [(2, .class_ 4), (1, u "java/lang/Object"), (3, .class_ 10), (1, u "com/example/medianpoint/medianpoint/Relaxation"), (0, u "_matrix"), (0, u "Lcom/example/medianpoint/medianpoint/CostMatrix;"), (2, u "_p"), (0, u "I"), (17, u "_listedSites"), (0, u "[I"), (2, u "_listedCosts"), (0, u "[D"), (10, u "_width"), (2, u "_listed"), (0, u "[Z"), (8, u "_cheaper"), (2, u "_rho"), (2, u "_chosen"), (2, u "_isChosen"), (0, u "[B"), (2, u "_freeRho"), (16, .class_ 95), (1, u "com/example/medianpoint/medianpoint/Relaxation$Schedule"), (13, u "_error"), (0, u "D"), (12, .class_ 125), (1, u "com/example/medianpoint/medianpoint/Relaxation$Watcher"), (45, u "EPSILON"), (18, u "_freeChosen"), (2, u "_freeCount"), (36, u "FREE"), (0, u "B"), (2, u "OPEN"), (1, u "CLOSED"), (1, u "LAST_FACTOR"), (5, u "openStatus"), (0, u "([Z)[B")] 40

def k2c0 : Code := { maxStack := 4, maxLocals := 3, code := prog_36_method_2_code, exceptionTable := #[], attributes := #[] }
def k2m0 : Method := { name := "openStatus", desc := "([Z)[B", sig := { parameters := [(.array .boolean)], returnType := some (.array .byte) }, accessFlags := 8, code := some k2c0 }
/-- com/example/medianpoint/medianpoint/Relaxation -/
def k2 : Class := { plain "com/example/medianpoint/medianpoint/Relaxation" (some 0) with
  accessFlags := 48
  interfaces := #[]
  cf := some (fileOf pool2 8 #[.nestMembers #[123, 93]] #[{ accessFlags := 8, nameIndex := 244, descriptorIndex := 245, attributes := #[] }] 48 2 #[] #[{ accessFlags := 24, nameIndex := 230, descriptorIndex := 231, attributes := #[] }, { accessFlags := 24, nameIndex := 234, descriptorIndex := 231, attributes := #[] }, { accessFlags := 24, nameIndex := 236, descriptorIndex := 231, attributes := #[] }, { accessFlags := 26, nameIndex := 238, descriptorIndex := 110, attributes := #[] }, { accessFlags := 26, nameIndex := 171, descriptorIndex := 110, attributes := #[] }, { accessFlags := 18, nameIndex := 11, descriptorIndex := 12, attributes := #[] }, { accessFlags := 18, nameIndex := 15, descriptorIndex := 16, attributes := #[] }, { accessFlags := 18, nameIndex := 34, descriptorIndex := 35, attributes := #[] }, { accessFlags := 18, nameIndex := 38, descriptorIndex := 39, attributes := #[] }, { accessFlags := 2, nameIndex := 50, descriptorIndex := 16, attributes := #[] }, { accessFlags := 18, nameIndex := 53, descriptorIndex := 54, attributes := #[] }, { accessFlags := 18, nameIndex := 63, descriptorIndex := 35, attributes := #[] }, { accessFlags := 18, nameIndex := 66, descriptorIndex := 39, attributes := #[] }, { accessFlags := 18, nameIndex := 69, descriptorIndex := 35, attributes := #[] }, { accessFlags := 18, nameIndex := 72, descriptorIndex := 73, attributes := #[] }, { accessFlags := 18, nameIndex := 76, descriptorIndex := 39, attributes := #[] }, { accessFlags := 2, nameIndex := 193, descriptorIndex := 16, attributes := #[] }, { accessFlags := 2, nameIndex := 190, descriptorIndex := 16, attributes := #[] }, { accessFlags := 2, nameIndex := 109, descriptorIndex := 110, attributes := #[] }])
  fields := #[{ name := "FREE", type := .byte, accessFlags := 24, slot := 0, constantValue := 0 }, { name := "OPEN", type := .byte, accessFlags := 24, slot := 1, constantValue := 0 }, { name := "CLOSED", type := .byte, accessFlags := 24, slot := 2, constantValue := 0 }, { name := "LAST_FACTOR", type := .double, accessFlags := 26, slot := 3, constantValue := 0 }, { name := "EPSILON", type := .double, accessFlags := 26, slot := 4, constantValue := 0 }, { name := "_matrix", type := (.object "com/example/medianpoint/medianpoint/CostMatrix"), accessFlags := 18, slot := 0, constantValue := 0 }, { name := "_p", type := .int, accessFlags := 18, slot := 1, constantValue := 0 }, { name := "_listedSites", type := (.array .int), accessFlags := 18, slot := 2, constantValue := 0 }, { name := "_listedCosts", type := (.array .double), accessFlags := 18, slot := 3, constantValue := 0 }, { name := "_width", type := .int, accessFlags := 2, slot := 4, constantValue := 0 }, { name := "_listed", type := (.array .boolean), accessFlags := 18, slot := 5, constantValue := 0 }, { name := "_cheaper", type := (.array .int), accessFlags := 18, slot := 6, constantValue := 0 }, { name := "_rho", type := (.array .double), accessFlags := 18, slot := 7, constantValue := 0 }, { name := "_chosen", type := (.array .int), accessFlags := 18, slot := 8, constantValue := 0 }, { name := "_isChosen", type := (.array .byte), accessFlags := 18, slot := 9, constantValue := 0 }, { name := "_freeRho", type := (.array .double), accessFlags := 18, slot := 10, constantValue := 0 }, { name := "_freeCount", type := .int, accessFlags := 2, slot := 11, constantValue := 0 }, { name := "_freeChosen", type := .int, accessFlags := 2, slot := 12, constantValue := 0 }, { name := "_error", type := .double, accessFlags := 2, slot := 13, constantValue := 0 }]
  methods := #[k2m0]
  instanceTypes := #[(.object "com/example/medianpoint/medianpoint/CostMatrix"), .int, (.array .int), (.array .double), .int, (.array .boolean), (.array .int), (.array .double), (.array .int), (.array .byte), (.array .double), .int, .int, .double]
  staticTypes := #[.byte, .byte, .byte, .double, .double]
  resolved := Array.replicate 286 none
  statics := none }

def pool3 : Array CpInfo := pool [(1, u "java/lang/Cloneable"), (0, .class_ 1), (0, u "java/lang/Object"), (0, .class_ 3)] 3

/-- java/lang/Cloneable -/
def k3 : Class := { plain "java/lang/Cloneable" (some 0) with
  accessFlags := 1537
  interfaces := #[]
  cf := some (fileOf pool3 2 #[] #[] 1537 4 #[] #[])
  fields := #[]
  methods := #[]
  instanceTypes := #[]
  staticTypes := #[]
  resolved := Array.replicate 8 none
  statics := none }

def pool4 : Array CpInfo := pool [(1, u "java/io/Serializable"), (0, .class_ 1), (0, u "java/lang/Object"), (0, .class_ 3)] 3

/-- java/io/Serializable -/
def k4 : Class := { plain "java/io/Serializable" (some 0) with
  accessFlags := 1537
  interfaces := #[]
  cf := some (fileOf pool4 2 #[] #[] 1537 4 #[] #[])
  fields := #[]
  methods := #[]
  instanceTypes := #[]
  staticTypes := #[]
  resolved := Array.replicate 8 none
  statics := none }

/-- the primitive boolean -/
def k5 : Class := { plain "boolean" none with kind := .primitive 'Z', accessFlags := 0x411 }
/-- [Z -/
def k6 : Class := { plain "[Z" (some 0) with kind := .array 5 .boolean, interfaces := #[3, 4], accessFlags := 1041 }

/-- the primitive byte -/
def k7 : Class := { plain "byte" none with kind := .primitive 'B', accessFlags := 0x411 }
/-- [B -/
def k8 : Class := { plain "[B" (some 0) with kind := .array 7 .byte, interfaces := #[3, 4], accessFlags := 1041 }

/-- the primitive int -/
def k9 : Class := { plain "int" none with kind := .primitive 'I', accessFlags := 0x411 }
/-- [I -/
def k10 : Class := { plain "[I" (some 0) with kind := .array 9 .int, interfaces := #[3, 4], accessFlags := 1041 }

def heap : Heap := #[]
def classes : Array Class := #[k0, k1, k2, k3, k4, k5, k6, k7, k8, k9, k10]
def interned : List (Array UInt16 × Addr) := []
def slotsUsed : Nat := 0
def theMethod : MethodId := ⟨1, 1⟩
def args0 : Array Value := #[.int 5, .int 6]
def aboutOver (below : List Frame) : State where
  vm := { classes := classes, interned := interned.toArray }
  heap := heap
  slotsUsed := slotsUsed
  threads := #[{ frames := .invoking theMethod args0 :: below }]
def below0 : List Frame := [.native { method := ⟨0, 0⟩, args := #[] }]
def about1 : State := aboutOver below0
def p0 : Program := .bare "" "" ""
def e0 : Env := launch0.env 0 0 0
theorem w_frames : about1.frames = Frame.invoking theMethod args0 :: below0 := rfl
set_option maxRecDepth 65536 in
theorem w_args : argsFit about1.vm theMethod args0 = true := by decide +kernel
set_option maxRecDepth 65536 in
theorem w_heap : heapFits about1 = true := by decide +kernel
set_option maxRecDepth 65536 in
theorem w_runnable : about1.curStatus? = some .runnable := by decide +kernel
set_option maxRecDepth 65536 in
theorem w_alone : about1.alone = true := by decide +kernel
set_option maxRecDepth 65536 in
theorem w_named : about1.methodNamed? x = some theMethod := by decide +kernel
set_option maxRecDepth 65536 in
theorem w_hears : about1.hears theMethod below0 = true := by decide +kernel
set_option maxRecDepth 65536 in
theorem w_ripe : about1.ripe theMethod args0 below0 = true := by decide +kernel
theorem w_running : about1.status = .running := rfl
set_option maxRecDepth 65536 in
theorem w_room : about1.hasRoom e0.platform room_1 = true :=
  launch0.hasRoom_least _ room_1 (by decide +kernel) (by decide +kernel) (by decide +kernel) (by decide +kernel) (by decide +kernel) (by decide +kernel)
theorem allAtoms_all (ts : List Jvm.Cond) (a : Array Jvm.Value) (st : Jvm.State) : (allAtoms ts).before a st = ts.all (fun c => c.before a st) := by
  induction ts with
  | nil => rfl
  | cons c t ih =>
    show (Jvm.Cond.and c (allAtoms t)).before a st = _
    rw [Jvm.Cond.before_and, ih, List.all_cons]
def words1 : List Jvm.Cond := Jvm.Cond.code x code maxLocals ret :: tables_1
/-- a 'code' word, met by the world's own term for the bytes: nothing is compared byte by byte -/
theorem code_word {y : MethodName} {bytes : ByteArray} {mx : Nat} {rt : Option FieldType} {a : Array Value} {s : State} {m : MethodId} {meth : Method} {c : Code} (h1 : s.methodNamed? y = some m) (h2 : s.vm.method? m = some meth) (h3 : meth.code = some c) (h4 : c.code = bytes)
    (h5 : (c.maxLocals == mx && c.exceptionTable.isEmpty && decide (c.maxStack ≤ mostOperands) && decide (meth.sig.returnType = rt) && !meth.locks && decide (parseMethodDescriptor y.desc = some meth.sig)) = true) : (Jvm.Cond.code y bytes mx rt).before a s = true := by
  simp only [Bool.and_eq_true, beq_iff_eq, Bool.not_eq_true', decide_eq_true_eq] at h5
  obtain ⟨⟨⟨⟨⟨g1, g2⟩, g3⟩, g4⟩, g5⟩, g6⟩ := h5
  simp [Cond.before, Cond.holds, Cond.value, h1, h2, h3, h4, g1, g2, g3, g4, g5, g6]
def isCode : Jvm.Cond → Bool
  | .code _ _ _ _ => true
  | _ => false
theorem all_split {L : List Jvm.Cond} {P : Jvm.Cond → Bool} (h1 : L.all (fun c => isCode c || P c) = true) (h2 : ∀ c ∈ L.filter isCode, P c = true) : L.all P = true := by
  refine List.all_eq_true.mpr fun c hc => ?_
  have h := List.all_eq_true.mp h1 c hc
  rcases Bool.eq_false_or_eq_true (isCode c) with hi | hi
  · exact h2 c (List.mem_filter.mpr ⟨hc, hi⟩)
  · simpa [hi] using h
set_option maxRecDepth 65536 in
theorem w_c0 : (Jvm.Cond.code x code maxLocals ret).before args0 about1 = true := code_word (m := ⟨1, 1⟩) (meth := k1m1) (c := k1c1) (by decide +kernel) rfl rfl rfl (by decide +kernel)
set_option maxRecDepth 65536 in
theorem w_c1 : (Jvm.Cond.code ({ cls := "com/example/medianpoint/medianpoint/Relaxation", name := "openStatus", desc := "([Z)[B" } : Jvm.MethodName) prog_36_method_2_code (3 : Nat) (Option.some (Jvm.ClassFile.FieldType.array Jvm.ClassFile.FieldType.byte))).before args0 about1 = true := code_word (m := ⟨2, 0⟩) (meth := k2m0) (c := k2c0) (by decide +kernel) rfl rfl rfl (by decide +kernel)
set_option maxRecDepth 65536 in
theorem w_c2 : (Jvm.Cond.code ({ cls := "com/example/medianpoint/medianpoint/RelaxationOpenStatusPinLaw", name := "at", desc := "([B[ZIII)Z" } : Jvm.MethodName) method_3_code (7 : Nat) (Option.some Jvm.ClassFile.FieldType.boolean)).before args0 about1 = true := code_word (m := ⟨1, 2⟩) (meth := k1m2) (c := k1c2) (by decide +kernel) rfl rfl rfl (by decide +kernel)
def codes1 : List Jvm.Cond := [Jvm.Cond.code x code maxLocals ret, Jvm.Cond.code ({ cls := "com/example/medianpoint/medianpoint/Relaxation", name := "openStatus", desc := "([Z)[B" } : Jvm.MethodName) prog_36_method_2_code (3 : Nat) (Option.some (Jvm.ClassFile.FieldType.array Jvm.ClassFile.FieldType.byte)), Jvm.Cond.code ({ cls := "com/example/medianpoint/medianpoint/RelaxationOpenStatusPinLaw", name := "at", desc := "([B[ZIII)Z" } : Jvm.MethodName) method_3_code (7 : Nat) (Option.some Jvm.ClassFile.FieldType.boolean)]
set_option maxRecDepth 65536 in
theorem codes_eq : words1.filter isCode = codes1 := rfl
theorem w_codes : ∀ c ∈ words1.filter isCode, c.before args0 about1 = true := by
  rw [codes_eq]
  intro c hc
  simp only [codes1, List.mem_cons, List.not_mem_nil, or_false] at hc
  rcases hc with rfl | rfl | rfl
  · exact w_c0
  · exact w_c1
  · exact w_c2
set_option maxRecDepth 65536 in
theorem w_t1 : words1.all (fun c => isCode c || c.before args0 about1) = true := by decide +kernel
theorem w_tables : (allAtoms (Jvm.Cond.code x code maxLocals ret :: tables_1)).before args0 about1 = true := by
  rw [allAtoms_all]
  show words1.all (fun c => c.before args0 about1) = true
  refine all_split ?_ w_codes
  rw [w_t1]
set_option maxRecDepth 65536 in
theorem w_case : (Jvm.Cond.and given_1 narrow_1).before args0 about1 = true := by decide +kernel
theorem w_applies : (headSpec (Jvm.Cond.code x code maxLocals ret :: tables_1) room_1).applies x e0.platform about1 = true :=
  (Spec.applies_iff w_frames).mpr ⟨w_running, w_runnable, w_alone, w_named, w_hears, w_ripe, w_room, w_tables⟩
theorem atStart : AtStart classFile x code maxLocals ret World_1 tables_1 room_1 Calls_1 rest_1 Pre_1 launch0 p0 e0 about1 theMethod args0 below0 :=
  ⟨lists_1, trivial, launch0.admits_env _ _ _, launch0.least_env, fairChoices_fair.cas, fairChoices_fair.clock, w_frames, w_args, w_heap, w_applies, trivial, trivial, w_case⟩
end start1
theorem witness_1 : WitnessClaimed_1 := ⟨start1.p0, start1.e0, start1.about1, start1.theMethod, start1.args0, start1.below0, start1.atStart⟩
end Jvm.Pilot.@@N@@
