import JvmDerived
import JvmDerived.Pilot.@@N@@Statement
import JvmDerived.Pilot.@@N@@Code
set_option linter.unusedVariables false
set_option linter.unusedSimpArgs false

namespace Jvm.OwnGo
open Sem ClassFile Op Lib Jvm.Stand Jvm.Free Jvm.LawKit Jvm.RoadKit
/-- what is known of a body while it is walked -/
def Cx (Z : State) (y : MethodName) (code : ByteArray) (ml : Nat) (ret : Option FieldType) (p : Program) (s : State) (m : MethodId) (meth : Method) (c : Code) : Prop :=
  p.tables.exec = Jvm.exec ∧ c.code = code ∧ Z.Warmed39 s.vm ∧ s.vm.findClass y.cls = some m.cls ∧ c.maxLocals = ml ∧ meth.sig.returnType = ret ∧ meth.locks = false ∧ meth.name = y.name
/-- from the frame (pc, Ls, st) over the heap h, with at most k cells and n slots made so far, the body of y returns with Q -/
def Go (l : Launch) (Z : State) (y : MethodName) (code : ByteArray) (ml : Nat) (ret : Option FieldType) (R : Room) (Q : Option Value → Heap → Prop) (k n : Nat) (h : Heap) (pc : Nat) (Ls : Array Slot) (st : List Value) : Prop :=
  ∀ (p : Program) (e : Env) (s : State) (m : MethodId) (args : Array Value) (below : List Frame) (meth : Method) (c : Code), Cx Z y code ml ret p s m meth c →
  ∀ (T : State) (L : List Loc) (k' n' : Nat), Stand p l e R s m args below meth c T L k' n' → k' ≤ k → n' ≤ n → Fr Z.heap.size L → T.heap = h →
  ∃ (v : Option Value) (T' : State) (L' : List Loc) (k'' n'' : Nat), Stand p l e R s m args below meth c T' L' k'' n'' ∧ k'' ≤ R.cells ∧ n'' ≤ R.slots ∧ Fr Z.heap.size L' ∧ Q v T'.heap ∧ (ret = none → v = none) ∧
    ∀ fs, (∀ (f : JFrame) (acts : List Action), f.method = m → f.locked = none → f.entered = [] → (doReturn e (T'.setTop f) acts v).1 = T'.setFrames fs) → Steps p.tables e below (T.setTop (mkF m pc Ls st)) (T'.setFrames fs)
/-- the shapes of an answer -/
def QI (P : Int32 → Heap → Prop) (v : Option Value) (h : Heap) : Prop := ∃ z : Int32, v = some (.int z) ∧ P z h
def QJ (P : Int64 → Heap → Prop) (v : Option Value) (h : Heap) : Prop := ∃ z : Int64, v = some (.long z) ∧ P z h
def QR (P : Value → Heap → Prop) (v : Option Value) (h : Heap) : Prop := ∃ z : Value, v = some z ∧ P z h
def QV (P : Heap → Prop) (v : Option Value) (h : Heap) : Prop := v = none ∧ P h
section Laws
variable {l : Launch} {Z : State} {y : MethodName} {code : ByteArray} {ml : Nat} {ret : Option FieldType} {R : Room} {Q : Option Value → Heap → Prop} {k n : Nat} {h : Heap} {pc : Nat} {Ls : Array Slot} {st : List Value} {a0 : Array Value}
theorem Go.pure {pc' : Nat} {Ls' : Array Slot} {st' : List Value} (g : Go l Z y code ml ret R Q k n h pc' Ls' st')
    (f : ∀ (p : Program) (e : Env) (s : State) (m : MethodId) (args : Array Value) (below : List Frame) (meth : Method) (c : Code), Cx Z y code ml ret p s m meth c → ∀ (T : State) (L : List Loc) (k' n' : Nat), Stand p l e R s m args below meth c T L k' n' → T.heap = h → ∀ target, Steps p.tables e below (T.setTop (mkF m pc' Ls' st')) target → Steps p.tables e below (T.setTop (mkF m pc Ls st)) target) :
    Go l Z y code ml ret R Q k n h pc Ls st := by
  intro p e s m args below meth c K T L k' n' X h1 h2 N hT
  obtain ⟨v, T', L', k'', n'', X', b1, b2, N', q, hv, stp⟩ := g p e s m args below meth c K T L k' n' X h1 h2 N hT
  exact ⟨v, T', L', k'', n'', X', b1, b2, N', q, hv, fun fs hl => f p e s m args below meth c K T L k' n' X hT _ (stp fs hl)⟩
/-- a step that moves the state: by a law that hands out the new Stand -/
theorem Go.move {pc' : Nat} {Ls' : Array Slot} {st' : List Value} {kk nn : Nat} {P : Heap → Prop} (g : ∀ h', P h' → Go l Z y code ml ret R Q kk nn h' pc' Ls' st')
    (f : ∀ (p : Program) (e : Env) (s : State) (m : MethodId) (args : Array Value) (below : List Frame) (meth : Method) (c : Code), Cx Z y code ml ret p s m meth c → ∀ (T : State) (L : List Loc) (k' n' : Nat), Stand p l e R s m args below meth c T L k' n' → k' ≤ k → n' ≤ n → Fr Z.heap.size L → T.heap = h →
      ∃ (T' : State) (L' : List Loc) (k'' n'' : Nat), Stand p l e R s m args below meth c T' L' k'' n'' ∧ k'' ≤ kk ∧ n'' ≤ nn ∧ Fr Z.heap.size L' ∧ P T'.heap ∧ ∀ target, Steps p.tables e below (T'.setTop (mkF m pc' Ls' st')) target → Steps p.tables e below (T.setTop (mkF m pc Ls st)) target) :
    Go l Z y code ml ret R Q k n h pc Ls st := by
  intro p e s m args below meth c K T L k' n' X h1 h2 N hT
  obtain ⟨T1, L1, k1, n1, X1, c1, c2, N1, p1, s1⟩ := f p e s m args below meth c K T L k' n' X h1 h2 N hT
  obtain ⟨v, T', L', k'', n'', X', b1, b2, N', q, hv, stp⟩ := g _ p1 p e s m args below meth c K T1 L1 k1 n1 X1 c1 c2 N1 rfl
  exact ⟨v, T', L', k'', n'', X', b1, b2, N', q, hv, fun fs hl => s1 _ (stp fs hl)⟩
theorem Go.le {k₀ n₀ : Nat} (g : Go l Z y code ml ret R Q k n h pc Ls st) (hk : k₀ ≤ k) (hn : n₀ ≤ n) : Go l Z y code ml ret R Q k₀ n₀ h pc Ls st :=
  fun p e s m args below meth c K T L k' n' X h1 h2 N hT => g p e s m args below meth c K T L k' n' X (Nat.le_trans h1 hk) (Nat.le_trans h2 hn) N hT
theorem Go.mono {Q' : Option Value → Heap → Prop} (g : Go l Z y code ml ret R Q k n h pc Ls st) (hq : ∀ v h', Q v h' → Q' v h') : Go l Z y code ml ret R Q' k n h pc Ls st := by
  intro p e s m args below meth c K T L k' n' X h1 h2 N hT
  obtain ⟨v, T', L', k'', n'', X', b1, b2, N', q, r⟩ := g p e s m args below meth c K T L k' n' X h1 h2 N hT
  exact ⟨v, T', L', k'', n'', X', b1, b2, N', hq _ _ q, r⟩
theorem Go.nameI {x : Int32} (g : ∀ v : Int32, v = x → Go l Z y code ml ret R Q k n h pc Ls (.int v :: st)) : Go l Z y code ml ret R Q k n h pc Ls (.int x :: st) := g x rfl
theorem Go.nameJ {x : Int64} (g : ∀ v : Int64, v = x → Go l Z y code ml ret R Q k n h pc Ls (.long v :: st)) : Go l Z y code ml ret R Q k n h pc Ls (.long x :: st) := g x rfl

theorem Go.iadd {x z : Int32} (q : Nat) (hd : decode code pc = .ok (.iadd, 1))  (hq : pc + 1 = q) (g : Go l Z y code ml ret R Q k n h q Ls (.int (x + z) :: st)) : Go l Z y code ml ret R Q k n h pc Ls (.int z :: .int x :: st) := by
  subst hq; exact g.pure fun p e s m args below meth c K T L k' n' X hT t r => XS.iadd X.here K.1 rfl (hb K.2.1 hd) rfl  r
theorem Go.isub {x z : Int32} (q : Nat) (hd : decode code pc = .ok (.isub, 1))  (hq : pc + 1 = q) (g : Go l Z y code ml ret R Q k n h q Ls (.int (x - z) :: st)) : Go l Z y code ml ret R Q k n h pc Ls (.int z :: .int x :: st) := by
  subst hq; exact g.pure fun p e s m args below meth c K T L k' n' X hT t r => XS.isub X.here K.1 rfl (hb K.2.1 hd) rfl  r
theorem Go.iand {x z : Int32} (q : Nat) (hd : decode code pc = .ok (.iand, 1))  (hq : pc + 1 = q) (g : Go l Z y code ml ret R Q k n h q Ls (.int (x &&& z) :: st)) : Go l Z y code ml ret R Q k n h pc Ls (.int z :: .int x :: st) := by
  subst hq; exact g.pure fun p e s m args below meth c K T L k' n' X hT t r => XS.iand X.here K.1 rfl (hb K.2.1 hd) rfl  r
theorem Go.imul {x z : Int32} (q : Nat) (hd : decode code pc = .ok (.imul, 1))  (hq : pc + 1 = q) (g : Go l Z y code ml ret R Q k n h q Ls (.int (x * z) :: st)) : Go l Z y code ml ret R Q k n h pc Ls (.int z :: .int x :: st) := by
  subst hq; exact g.pure fun p e s m args below meth c K T L k' n' X hT t r => XS.imul X.here K.1 rfl (hb K.2.1 hd) rfl  r
theorem Go.ixor {x z : Int32} (q : Nat) (hd : decode code pc = .ok (.ixor, 1))  (hq : pc + 1 = q) (g : Go l Z y code ml ret R Q k n h q Ls (.int (x ^^^ z) :: st)) : Go l Z y code ml ret R Q k n h pc Ls (.int z :: .int x :: st) := by
  subst hq; exact g.pure fun p e s m args below meth c K T L k' n' X hT t r => XT.ixor X.here K.1 rfl (hb K.2.1 hd) rfl  r
theorem Go.ior {x z : Int32} (q : Nat) (hd : decode code pc = .ok (.ior, 1))  (hq : pc + 1 = q) (g : Go l Z y code ml ret R Q k n h q Ls (.int (x ||| z) :: st)) : Go l Z y code ml ret R Q k n h pc Ls (.int z :: .int x :: st) := by
  subst hq; exact g.pure fun p e s m args below meth c K T L k' n' X hT t r => XT.ior X.here K.1 rfl (hb K.2.1 hd) rfl  r
theorem Go.ishl {x z : Int32} (q : Nat) (hd : decode code pc = .ok (.ishl, 1))  (hq : pc + 1 = q) (g : Go l Z y code ml ret R Q k n h q Ls (.int (x <<< (z &&& 31)) :: st)) : Go l Z y code ml ret R Q k n h pc Ls (.int z :: .int x :: st) := by
  subst hq; exact g.pure fun p e s m args below meth c K T L k' n' X hT t r => XT.ishl X.here K.1 rfl (hb K.2.1 hd) rfl  r
theorem Go.ishr {x z : Int32} (q : Nat) (hd : decode code pc = .ok (.ishr, 1))  (hq : pc + 1 = q) (g : Go l Z y code ml ret R Q k n h q Ls (.int (x >>> (z &&& 31)) :: st)) : Go l Z y code ml ret R Q k n h pc Ls (.int z :: .int x :: st) := by
  subst hq; exact g.pure fun p e s m args below meth c K T L k' n' X hT t r => XT.ishr X.here K.1 rfl (hb K.2.1 hd) rfl  r
theorem Go.iushr {x z : Int32} (q : Nat) (hd : decode code pc = .ok (.iushr, 1))  (hq : pc + 1 = q) (g : Go l Z y code ml ret R Q k n h q Ls (.int (XT.ushr x z) :: st)) : Go l Z y code ml ret R Q k n h pc Ls (.int z :: .int x :: st) := by
  subst hq; exact g.pure fun p e s m args below meth c K T L k' n' X hT t r => XT.iushr X.here K.1 rfl (hb K.2.1 hd) rfl  r
theorem Go.idiv {x z : Int32} (q : Nat) (hd : decode code pc = .ok (.idiv, 1)) (hz : z ≠ 0) (hq : pc + 1 = q) (g : Go l Z y code ml ret R Q k n h q Ls (.int (x / z) :: st)) : Go l Z y code ml ret R Q k n h pc Ls (.int z :: .int x :: st) := by
  subst hq; exact g.pure fun p e s m args below meth c K T L k' n' X hT t r => XS.idiv X.here K.1 rfl (hb K.2.1 hd) rfl hz r
theorem Go.irem {x z : Int32} (q : Nat) (hd : decode code pc = .ok (.irem, 1)) (hz : z ≠ 0) (hq : pc + 1 = q) (g : Go l Z y code ml ret R Q k n h q Ls (.int (x % z) :: st)) : Go l Z y code ml ret R Q k n h pc Ls (.int z :: .int x :: st) := by
  subst hq; exact g.pure fun p e s m args below meth c K T L k' n' X hT t r => iremM X K.1 rfl (hb K.2.1 hd) rfl hz r
theorem Go.ineg {x : Int32} (q : Nat) (hd : decode code pc = .ok (.ineg, 1))  (hq : pc + 1 = q) (g : Go l Z y code ml ret R Q k n h q Ls (.int (-x) :: st)) : Go l Z y code ml ret R Q k n h pc Ls (.int x :: st) := by
  subst hq; exact g.pure fun p e s m args below meth c K T L k' n' X hT t r => XS.ineg X.here K.1 rfl (hb K.2.1 hd) rfl  r
theorem Go.ladd {x z : Int64} (q : Nat) (hd : decode code pc = .ok (.ladd, 1))  (hq : pc + 1 = q) (g : Go l Z y code ml ret R Q k n h q Ls (.long (x + z) :: st)) : Go l Z y code ml ret R Q k n h pc Ls (.long z :: .long x :: st) := by
  subst hq; exact g.pure fun p e s m args below meth c K T L k' n' X hT t r => XT.ladd X.here K.1 rfl (hb K.2.1 hd) rfl  r
theorem Go.lsub {x z : Int64} (q : Nat) (hd : decode code pc = .ok (.lsub, 1))  (hq : pc + 1 = q) (g : Go l Z y code ml ret R Q k n h q Ls (.long (x - z) :: st)) : Go l Z y code ml ret R Q k n h pc Ls (.long z :: .long x :: st) := by
  subst hq; exact g.pure fun p e s m args below meth c K T L k' n' X hT t r => XT.lsub X.here K.1 rfl (hb K.2.1 hd) rfl  r
theorem Go.lmul {x z : Int64} (q : Nat) (hd : decode code pc = .ok (.lmul, 1))  (hq : pc + 1 = q) (g : Go l Z y code ml ret R Q k n h q Ls (.long (x * z) :: st)) : Go l Z y code ml ret R Q k n h pc Ls (.long z :: .long x :: st) := by
  subst hq; exact g.pure fun p e s m args below meth c K T L k' n' X hT t r => XT.lmul X.here K.1 rfl (hb K.2.1 hd) rfl  r
theorem Go.land {x z : Int64} (q : Nat) (hd : decode code pc = .ok (.land, 1))  (hq : pc + 1 = q) (g : Go l Z y code ml ret R Q k n h q Ls (.long (x &&& z) :: st)) : Go l Z y code ml ret R Q k n h pc Ls (.long z :: .long x :: st) := by
  subst hq; exact g.pure fun p e s m args below meth c K T L k' n' X hT t r => XT.land X.here K.1 rfl (hb K.2.1 hd) rfl  r
theorem Go.lor {x z : Int64} (q : Nat) (hd : decode code pc = .ok (.lor, 1))  (hq : pc + 1 = q) (g : Go l Z y code ml ret R Q k n h q Ls (.long (x ||| z) :: st)) : Go l Z y code ml ret R Q k n h pc Ls (.long z :: .long x :: st) := by
  subst hq; exact g.pure fun p e s m args below meth c K T L k' n' X hT t r => XT.lor X.here K.1 rfl (hb K.2.1 hd) rfl  r
theorem Go.lxor {x z : Int64} (q : Nat) (hd : decode code pc = .ok (.lxor, 1))  (hq : pc + 1 = q) (g : Go l Z y code ml ret R Q k n h q Ls (.long (x ^^^ z) :: st)) : Go l Z y code ml ret R Q k n h pc Ls (.long z :: .long x :: st) := by
  subst hq; exact g.pure fun p e s m args below meth c K T L k' n' X hT t r => XT.lxor X.here K.1 rfl (hb K.2.1 hd) rfl  r
theorem Go.ldiv {x z : Int64} (q : Nat) (hd : decode code pc = .ok (.ldiv, 1)) (hz : z ≠ 0) (hq : pc + 1 = q) (g : Go l Z y code ml ret R Q k n h q Ls (.long (x / z) :: st)) : Go l Z y code ml ret R Q k n h pc Ls (.long z :: .long x :: st) := by
  subst hq; exact g.pure fun p e s m args below meth c K T L k' n' X hT t r => XT.ldiv X.here K.1 rfl (hb K.2.1 hd) rfl hz r
theorem Go.lrem {x z : Int64} (q : Nat) (hd : decode code pc = .ok (.lrem, 1)) (hz : z ≠ 0) (hq : pc + 1 = q) (g : Go l Z y code ml ret R Q k n h q Ls (.long (x - (x / z) * z) :: st)) : Go l Z y code ml ret R Q k n h pc Ls (.long z :: .long x :: st) := by
  subst hq; exact g.pure fun p e s m args below meth c K T L k' n' X hT t r => XT.lrem X.here K.1 rfl (hb K.2.1 hd) rfl hz r
theorem Go.lneg {x : Int64} (q : Nat) (hd : decode code pc = .ok (.lneg, 1))  (hq : pc + 1 = q) (g : Go l Z y code ml ret R Q k n h q Ls (.long (-x) :: st)) : Go l Z y code ml ret R Q k n h pc Ls (.long x :: st) := by
  subst hq; exact g.pure fun p e s m args below meth c K T L k' n' X hT t r => XT.lneg X.here K.1 rfl (hb K.2.1 hd) rfl  r
theorem Go.lshl {x : Int64} {z : Int32} (q : Nat) (hd : decode code pc = .ok (.lshl, 1))  (hq : pc + 1 = q) (g : Go l Z y code ml ret R Q k n h q Ls (.long (x <<< (z.toInt64 &&& 63)) :: st)) : Go l Z y code ml ret R Q k n h pc Ls (.int z :: .long x :: st) := by
  subst hq; exact g.pure fun p e s m args below meth c K T L k' n' X hT t r => XT.lshl X.here K.1 rfl (hb K.2.1 hd) rfl  r
theorem Go.lshr {x : Int64} {z : Int32} (q : Nat) (hd : decode code pc = .ok (.lshr, 1))  (hq : pc + 1 = q) (g : Go l Z y code ml ret R Q k n h q Ls (.long (x >>> (z.toInt64 &&& 63)) :: st)) : Go l Z y code ml ret R Q k n h pc Ls (.int z :: .long x :: st) := by
  subst hq; exact g.pure fun p e s m args below meth c K T L k' n' X hT t r => XT.lshr X.here K.1 rfl (hb K.2.1 hd) rfl  r
theorem Go.lushr {x : Int64} {z : Int32} (q : Nat) (hd : decode code pc = .ok (.lushr, 1))  (hq : pc + 1 = q) (g : Go l Z y code ml ret R Q k n h q Ls (.long (XT.ushrL x z) :: st)) : Go l Z y code ml ret R Q k n h pc Ls (.int z :: .long x :: st) := by
  subst hq; exact g.pure fun p e s m args below meth c K T L k' n' X hT t r => XT.lushr X.here K.1 rfl (hb K.2.1 hd) rfl  r
theorem Go.lcmp {x z : Int64} (q : Nat) (hd : decode code pc = .ok (.lcmp, 1))  (hq : pc + 1 = q) (g : Go l Z y code ml ret R Q k n h q Ls (.int (XT.cmpL x z) :: st)) : Go l Z y code ml ret R Q k n h pc Ls (.long z :: .long x :: st) := by
  subst hq; exact g.pure fun p e s m args below meth c K T L k' n' X hT t r => XT.lcmp X.here K.1 rfl (hb K.2.1 hd) rfl  r
theorem Go.i2l {x : Int32} (q : Nat) (hd : decode code pc = .ok (.i2l, 1))  (hq : pc + 1 = q) (g : Go l Z y code ml ret R Q k n h q Ls (.long x.toInt64 :: st)) : Go l Z y code ml ret R Q k n h pc Ls (.int x :: st) := by
  subst hq; exact g.pure fun p e s m args below meth c K T L k' n' X hT t r => XT.i2l X.here K.1 rfl (hb K.2.1 hd) rfl  r
theorem Go.l2i {x : Int64} (q : Nat) (hd : decode code pc = .ok (.l2i, 1))  (hq : pc + 1 = q) (g : Go l Z y code ml ret R Q k n h q Ls (.int x.toInt32 :: st)) : Go l Z y code ml ret R Q k n h pc Ls (.long x :: st) := by
  subst hq; exact g.pure fun p e s m args below meth c K T L k' n' X hT t r => XT.l2i X.here K.1 rfl (hb K.2.1 hd) rfl  r
theorem Go.i2b {x : Int32} (q : Nat) (hd : decode code pc = .ok (.i2b, 1))  (hq : pc + 1 = q) (g : Go l Z y code ml ret R Q k n h q Ls (.int x.toInt8.toInt32 :: st)) : Go l Z y code ml ret R Q k n h pc Ls (.int x :: st) := by
  subst hq; exact g.pure fun p e s m args below meth c K T L k' n' X hT t r => XT.i2b X.here K.1 rfl (hb K.2.1 hd) rfl  r
theorem Go.i2c {x : Int32} (q : Nat) (hd : decode code pc = .ok (.i2c, 1))  (hq : pc + 1 = q) (g : Go l Z y code ml ret R Q k n h q Ls (.int x.toUInt32.toUInt16.toUInt32.toInt32 :: st)) : Go l Z y code ml ret R Q k n h pc Ls (.int x :: st) := by
  subst hq; exact g.pure fun p e s m args below meth c K T L k' n' X hT t r => XT.i2c X.here K.1 rfl (hb K.2.1 hd) rfl  r
theorem Go.i2s {x : Int32} (q : Nat) (hd : decode code pc = .ok (.i2s, 1))  (hq : pc + 1 = q) (g : Go l Z y code ml ret R Q k n h q Ls (.int x.toInt16.toInt32 :: st)) : Go l Z y code ml ret R Q k n h pc Ls (.int x :: st) := by
  subst hq; exact g.pure fun p e s m args below meth c K T L k' n' X hT t r => XT.i2s X.here K.1 rfl (hb K.2.1 hd) rfl  r
theorem Go.pop {x : Value} (q : Nat) (hd : decode code pc = .ok (.pop, 1)) (hc : x.category = 1) (hq : pc + 1 = q) (g : Go l Z y code ml ret R Q k n h q Ls (st)) : Go l Z y code ml ret R Q k n h pc Ls (x :: st) := by
  subst hq; exact g.pure fun p e s m args below meth c K T L k' n' X hT t r => XT.pop X.here K.1 rfl (hb K.2.1 hd) rfl hc r
theorem Go.dup {x : Value} (q : Nat) (hd : decode code pc = .ok (.dup, 1)) (hc : x.category = 1) (hq : pc + 1 = q) (g : Go l Z y code ml ret R Q k n h q Ls (x :: x :: st)) : Go l Z y code ml ret R Q k n h pc Ls (x :: st) := by
  subst hq; exact g.pure fun p e s m args below meth c K T L k' n' X hT t r => XS.dup X.here K.1 rfl (hb K.2.1 hd) rfl hc r
theorem Go.dupX1 {x z : Value} (q : Nat) (hd : decode code pc = .ok (.dup_x1, 1)) (hc : x.category = 1) (hc' : z.category = 1) (hq : pc + 1 = q) (g : Go l Z y code ml ret R Q k n h q Ls (x :: z :: x :: st)) : Go l Z y code ml ret R Q k n h pc Ls (x :: z :: st) := by
  subst hq; exact g.pure fun p e s m args below meth c K T L k' n' X hT t r => XT.dupX1 X.here K.1 rfl (hb K.2.1 hd) rfl hc hc' r
theorem Go.dup2 {x z : Value} (q : Nat) (hd : decode code pc = .ok (.dup2, 1)) (hc : x.category = 1) (hc' : z.category = 1) (hq : pc + 1 = q) (g : Go l Z y code ml ret R Q k n h q Ls (x :: z :: x :: z :: st)) : Go l Z y code ml ret R Q k n h pc Ls (x :: z :: st) := by
  subst hq; exact g.pure fun p e s m args below meth c K T L k' n' X hT t r => XT.dup2 X.here K.1 rfl (hb K.2.1 hd) rfl hc hc' r
theorem Go.dup2L {x : Int64} (q : Nat) (hd : decode code pc = .ok (.dup2, 1))  (hq : pc + 1 = q) (g : Go l Z y code ml ret R Q k n h q Ls (.long x :: .long x :: st)) : Go l Z y code ml ret R Q k n h pc Ls (.long x :: st) := by
  subst hq; exact g.pure fun p e s m args below meth c K T L k' n' X hT t r => XT.dup2L X.here K.1 rfl (hb K.2.1 hd) rfl  r
theorem Go.iconst {i : Int} (q : Nat) (v : Int32) (hd : decode code pc = .ok (.iconst i, 1)) (hv : Int32.ofInt i = v) (hq : pc + 1 = q) (g : Go l Z y code ml ret R Q k n h q Ls (.int v :: st)) : Go l Z y code ml ret R Q k n h pc Ls st := by
  subst hq; exact g.pure fun p e s m args below meth c K T L k' n' X hT t r => XT.iconstV X.here K.1 rfl v (hb K.2.1 hd) hv r
theorem Go.bipush {i : Int} (q : Nat) (v : Int32) (hd : decode code pc = .ok (.bipush i, 2)) (hv : (Int8.ofInt i).toInt32 = v) (hq : pc + 2 = q) (g : Go l Z y code ml ret R Q k n h q Ls (.int v :: st)) : Go l Z y code ml ret R Q k n h pc Ls st := by
  subst hq; exact g.pure fun p e s m args below meth c K T L k' n' X hT t r => XT.bipushV X.here K.1 rfl v (hb K.2.1 hd) hv r
theorem Go.sipush {i : Int} (q : Nat) (v : Int32) (hd : decode code pc = .ok (.sipush i, 3)) (hv : (Int16.ofInt i).toInt32 = v) (hq : pc + 3 = q) (g : Go l Z y code ml ret R Q k n h q Ls (.int v :: st)) : Go l Z y code ml ret R Q k n h pc Ls st := by
  subst hq; exact g.pure fun p e s m args below meth c K T L k' n' X hT t r => XT.sipushV X.here K.1 rfl v (hb K.2.1 hd) hv r
theorem Go.lconst {i : Fin 2} (q : Nat) (v : Int64) (hd : decode code pc = .ok (.lconst i, 1)) (hv : Int64.ofNat i = v) (hq : pc + 1 = q) (g : Go l Z y code ml ret R Q k n h q Ls (.long v :: st)) : Go l Z y code ml ret R Q k n h pc Ls st := by
  subst hq; exact g.pure fun p e s m args below meth c K T L k' n' X hT t r => XT.lconstV X.here K.1 rfl v (hb K.2.1 hd) hv r
theorem Go.aconst_null (q : Nat) (hd : decode code pc = .ok (.aconst_null, 1)) (hq : pc + 1 = q) (g : Go l Z y code ml ret R Q k n h q Ls (.null :: st)) : Go l Z y code ml ret R Q k n h pc Ls st := by
  subst hq; exact g.pure fun p e s m args below meth c K T L k' n' X hT t r => XS.aconstNull X.here K.1 rfl (hb K.2.1 hd) r
theorem Go.ldc {i : Nat} {v : Int32} (q : Nat) (hd : decode code pc = .ok (.ldc i, 2)) (w : (Cond.constant y.cls i v).before a0 Z = true) (hq : pc + 2 = q) (g : Go l Z y code ml ret R Q k n h q Ls (.int v :: st)) : Go l Z y code ml ret R Q k n h pc Ls st := by
  subst hq; exact g.pure fun p e s m args below meth c K T L k' n' X hT t r => X.ldcI K.1 K.2.2.2.1 (mvT K.2.2.1 w) rfl (hb K.2.1 hd) r
theorem Go.ldc_w {i : Nat} {v : Int32} (q : Nat) (hd : decode code pc = .ok (.ldc_w i, 3)) (w : (Cond.constant y.cls i v).before a0 Z = true) (hq : pc + 3 = q) (g : Go l Z y code ml ret R Q k n h q Ls (.int v :: st)) : Go l Z y code ml ret R Q k n h pc Ls st := by
  subst hq; exact g.pure fun p e s m args below meth c K T L k' n' X hT t r => X.ldcWI K.1 K.2.2.2.1 (mvT K.2.2.1 w) rfl (hb K.2.1 hd) r
theorem Go.ldc2_w {i : Nat} {v : Int64} (q : Nat) (hd : decode code pc = .ok (.ldc2_w i, 3)) (w : (Cond.constantLong y.cls i v).before a0 Z = true) (hq : pc + 3 = q) (g : Go l Z y code ml ret R Q k n h q Ls (.long v :: st)) : Go l Z y code ml ret R Q k n h pc Ls st := by
  subst hq; exact g.pure fun p e s m args below meth c K T L k' n' X hT t r => X.ldc2J K.1 K.2.2.2.1 (mvT K.2.2.1 w) rfl (hb K.2.1 hd) r
theorem Go.iload {i : Nat} {v : Int32} (q : Nat) (hd : decode code pc = .ok (.iload i, 2)) (hl : Ls[i]? = some (.val (.int v))) (hq : pc + 2 = q) (g : Go l Z y code ml ret R Q k n h q Ls (.int v :: st)) : Go l Z y code ml ret R Q k n h pc Ls st := by
  subst hq; exact g.pure fun p e s m args below meth c K T L k' n' X hT t r => XS.iload X.here K.1 rfl (hb K.2.1 hd) hl r
theorem Go.iload_n {i : Fin 4} {v : Int32} (q : Nat) (hd : decode code pc = .ok (.iload_n i, 1)) (hl : Ls[i.val]? = some (.val (.int v))) (hq : pc + 1 = q) (g : Go l Z y code ml ret R Q k n h q Ls (.int v :: st)) : Go l Z y code ml ret R Q k n h pc Ls st := by
  subst hq; exact g.pure fun p e s m args below meth c K T L k' n' X hT t r => XS.iloadN X.here K.1 rfl (hb K.2.1 hd) hl r
theorem Go.lload {i : Nat} {v : Int64} (q : Nat) (hd : decode code pc = .ok (.lload i, 2)) (hl : Ls[i]? = some (.val (.long v))) (hq : pc + 2 = q) (g : Go l Z y code ml ret R Q k n h q Ls (.long v :: st)) : Go l Z y code ml ret R Q k n h pc Ls st := by
  subst hq; exact g.pure fun p e s m args below meth c K T L k' n' X hT t r => XT.lload X.here K.1 rfl (hb K.2.1 hd) hl r
theorem Go.lload_n {i : Fin 4} {v : Int64} (q : Nat) (hd : decode code pc = .ok (.lload_n i, 1)) (hl : Ls[i.val]? = some (.val (.long v))) (hq : pc + 1 = q) (g : Go l Z y code ml ret R Q k n h q Ls (.long v :: st)) : Go l Z y code ml ret R Q k n h pc Ls st := by
  subst hq; exact g.pure fun p e s m args below meth c K T L k' n' X hT t r => XT.lloadN X.here K.1 rfl (hb K.2.1 hd) hl r
theorem Go.aload {i : Nat} {v : Value} (q : Nat) (hd : decode code pc = .ok (.aload i, 2)) (hl : Ls[i]? = some (.val v)) (hv : v.isRef = true) (hq : pc + 2 = q) (g : Go l Z y code ml ret R Q k n h q Ls (v :: st)) : Go l Z y code ml ret R Q k n h pc Ls st := by
  subst hq; exact g.pure fun p e s m args below meth c K T L k' n' X hT t r => XS.aload X.here K.1 rfl (hb K.2.1 hd) hl hv r
theorem Go.aload_n {i : Fin 4} {v : Value} (q : Nat) (hd : decode code pc = .ok (.aload_n i, 1)) (hl : Ls[i.val]? = some (.val v)) (hv : v.isRef = true) (hq : pc + 1 = q) (g : Go l Z y code ml ret R Q k n h q Ls (v :: st)) : Go l Z y code ml ret R Q k n h pc Ls st := by
  subst hq; exact g.pure fun p e s m args below meth c K T L k' n' X hT t r => XS.aloadN X.here K.1 rfl (hb K.2.1 hd) hl hv r
theorem Go.istore {i : Nat} {v : Int32} (q : Nat) (Ls' : Array Slot) (hd : decode code pc = .ok (.istore i, 2)) (hl : storeLocals Ls i (.int v) = some Ls') (hq : pc + 2 = q) (g : Go l Z y code ml ret R Q k n h q Ls' st) : Go l Z y code ml ret R Q k n h pc Ls (.int v :: st) := by
  subst hq; exact g.pure fun p e s m args below meth c K T L k' n' X hT t r => XS.istore X.here K.1 rfl (hb K.2.1 hd) rfl hl r
theorem Go.istore_n {i : Fin 4} {v : Int32} (q : Nat) (Ls' : Array Slot) (hd : decode code pc = .ok (.istore_n i, 1)) (hl : storeLocals Ls i.val (.int v) = some Ls') (hq : pc + 1 = q) (g : Go l Z y code ml ret R Q k n h q Ls' st) : Go l Z y code ml ret R Q k n h pc Ls (.int v :: st) := by
  subst hq; exact g.pure fun p e s m args below meth c K T L k' n' X hT t r => XS.istoreN X.here K.1 rfl (hb K.2.1 hd) rfl hl r
theorem Go.lstore {i : Nat} {v : Int64} (q : Nat) (Ls' : Array Slot) (hd : decode code pc = .ok (.lstore i, 2)) (hl : storeLocals Ls i (.long v) = some Ls') (hq : pc + 2 = q) (g : Go l Z y code ml ret R Q k n h q Ls' st) : Go l Z y code ml ret R Q k n h pc Ls (.long v :: st) := by
  subst hq; exact g.pure fun p e s m args below meth c K T L k' n' X hT t r => XT.lstore X.here K.1 rfl (hb K.2.1 hd) rfl hl r
theorem Go.lstore_n {i : Fin 4} {v : Int64} (q : Nat) (Ls' : Array Slot) (hd : decode code pc = .ok (.lstore_n i, 1)) (hl : storeLocals Ls i.val (.long v) = some Ls') (hq : pc + 1 = q) (g : Go l Z y code ml ret R Q k n h q Ls' st) : Go l Z y code ml ret R Q k n h pc Ls (.long v :: st) := by
  subst hq; exact g.pure fun p e s m args below meth c K T L k' n' X hT t r => XT.lstoreN X.here K.1 rfl (hb K.2.1 hd) rfl hl r
theorem Go.astore {i : Nat} {v : Value} (q : Nat) (Ls' : Array Slot) (hd : decode code pc = .ok (.astore i, 2)) (hv : v.isRef = true) (hl : storeLocals Ls i v = some Ls') (hq : pc + 2 = q) (g : Go l Z y code ml ret R Q k n h q Ls' st) : Go l Z y code ml ret R Q k n h pc Ls (v :: st) := by
  subst hq; exact g.pure fun p e s m args below meth c K T L k' n' X hT t r => XS.astore X.here K.1 rfl (hb K.2.1 hd) rfl hv hl r
theorem Go.astore_n {i : Fin 4} {v : Value} (q : Nat) (Ls' : Array Slot) (hd : decode code pc = .ok (.astore_n i, 1)) (hv : v.isRef = true) (hl : storeLocals Ls i.val v = some Ls') (hq : pc + 1 = q) (g : Go l Z y code ml ret R Q k n h q Ls' st) : Go l Z y code ml ret R Q k n h pc Ls (v :: st) := by
  subst hq; exact g.pure fun p e s m args below meth c K T L k' n' X hT t r => XS.astoreN X.here K.1 rfl (hb K.2.1 hd) rfl hv hl r
theorem Go.iinc {i : Nat} {cst : Int} {x : Int32} (q : Nat) (v : Int32) (Ls' : Array Slot) (hd : decode code pc = .ok (.iinc i cst, 3)) (hv : Int32.ofInt cst = v) (hl : Ls[i]? = some (.val (.int x))) (hl' : storeLocals Ls i (.int (x + v)) = some Ls') (hq : pc + 3 = q) (g : Go l Z y code ml ret R Q k n h q Ls' st) : Go l Z y code ml ret R Q k n h pc Ls st := by
  subst hq; exact g.pure fun p e s m args below meth c K T L k' n' X hT t r => XT.iincV X.here K.1 rfl v (hb K.2.1 hd) hv hl hl' r
theorem Go.goto {o : Int} (q : Nat) (hd : decode code pc = .ok (.goto o, 3)) (ho : 0 ≤ (pc : Int) + o) (hq : ((pc : Int) + o).toNat = q) (g : Go l Z y code ml ret R Q k n h q Ls st) : Go l Z y code ml ret R Q k n h pc Ls st :=
  g.pure fun p e s m args below meth c K T L k' n' X hT t r => XS.goto X.here K.1 rfl rfl (hb K.2.1 hd) ho hq r
theorem Go.icmp_eq {o : Int} {x z : Int32} (q1 q2 : Nat) (hd : decode code pc = .ok (.if_icmp .eq o, 3)) (ho : 0 ≤ (pc : Int) + o) (h1 : ((pc : Int) + o).toNat = q1) (h2 : pc + 3 = q2) (g1 : x = z → Go l Z y code ml ret R Q k n h q1 Ls st) (g2 : ¬ x = z → Go l Z y code ml ret R Q k n h q2 Ls st) : Go l Z y code ml ret R Q k n h pc Ls (.int z :: .int x :: st) := by
  subst h2
  by_cases hc : x = z
  · exact (g1 hc).pure fun p e s m args below meth c K T L k' n' X hT t r => XS.icmpYes X.here K.1 rfl rfl (hb K.2.1 hd) rfl (XT.ii_eq_t hc) ho h1 r
  · exact (g2 (by first | exact hc | exact Decidable.not_not.mp hc)).pure fun p e s m args below meth c K T L k' n' X hT t r => XS.icmpNo X.here K.1 rfl (hb K.2.1 hd) rfl (XT.ii_eq_f (by first | exact hc | exact Decidable.not_not.mp hc)) r
theorem Go.lcmp_eq {o : Int} {x z : Int64} (q1 q2 : Nat) (hd : decode code pc = .ok (.ifCond .eq o, 3)) (ho : 0 ≤ (pc : Int) + o) (h1 : ((pc : Int) + o).toNat = q1) (h2 : pc + 3 = q2) (g1 : x = z → Go l Z y code ml ret R Q k n h q1 Ls st) (g2 : ¬ x = z → Go l Z y code ml ret R Q k n h q2 Ls st) : Go l Z y code ml ret R Q k n h pc Ls (.int (XT.cmpL x z) :: st) := by
  subst h2
  by_cases hc : x = z
  · exact (g1 hc).pure fun p e s m args below meth c K T L k' n' X hT t r => XS.ifYes X.here K.1 rfl rfl (hb K.2.1 hd) rfl (XT.ll_eq_t hc) ho h1 r
  · exact (g2 (by first | exact hc | exact Decidable.not_not.mp hc)).pure fun p e s m args below meth c K T L k' n' X hT t r => XS.ifNo X.here K.1 rfl (hb K.2.1 hd) rfl (XT.ll_eq_f (by first | exact hc | exact Decidable.not_not.mp hc)) r
theorem Go.icmp_ne {o : Int} {x z : Int32} (q1 q2 : Nat) (hd : decode code pc = .ok (.if_icmp .ne o, 3)) (ho : 0 ≤ (pc : Int) + o) (h1 : ((pc : Int) + o).toNat = q1) (h2 : pc + 3 = q2) (g1 : ¬ x = z → Go l Z y code ml ret R Q k n h q1 Ls st) (g2 : x = z → Go l Z y code ml ret R Q k n h q2 Ls st) : Go l Z y code ml ret R Q k n h pc Ls (.int z :: .int x :: st) := by
  subst h2
  by_cases hc : ¬ x = z
  · exact (g1 hc).pure fun p e s m args below meth c K T L k' n' X hT t r => XS.icmpYes X.here K.1 rfl rfl (hb K.2.1 hd) rfl (XT.ii_ne_t hc) ho h1 r
  · exact (g2 (by first | exact hc | exact Decidable.not_not.mp hc)).pure fun p e s m args below meth c K T L k' n' X hT t r => XS.icmpNo X.here K.1 rfl (hb K.2.1 hd) rfl (XT.ii_ne_f (by first | exact hc | exact Decidable.not_not.mp hc)) r
theorem Go.lcmp_ne {o : Int} {x z : Int64} (q1 q2 : Nat) (hd : decode code pc = .ok (.ifCond .ne o, 3)) (ho : 0 ≤ (pc : Int) + o) (h1 : ((pc : Int) + o).toNat = q1) (h2 : pc + 3 = q2) (g1 : ¬ x = z → Go l Z y code ml ret R Q k n h q1 Ls st) (g2 : x = z → Go l Z y code ml ret R Q k n h q2 Ls st) : Go l Z y code ml ret R Q k n h pc Ls (.int (XT.cmpL x z) :: st) := by
  subst h2
  by_cases hc : ¬ x = z
  · exact (g1 hc).pure fun p e s m args below meth c K T L k' n' X hT t r => XS.ifYes X.here K.1 rfl rfl (hb K.2.1 hd) rfl (XT.ll_ne_t hc) ho h1 r
  · exact (g2 (by first | exact hc | exact Decidable.not_not.mp hc)).pure fun p e s m args below meth c K T L k' n' X hT t r => XS.ifNo X.here K.1 rfl (hb K.2.1 hd) rfl (XT.ll_ne_f (by first | exact hc | exact Decidable.not_not.mp hc)) r
theorem Go.icmp_lt {o : Int} {x z : Int32} (q1 q2 : Nat) (hd : decode code pc = .ok (.if_icmp .lt o, 3)) (ho : 0 ≤ (pc : Int) + o) (h1 : ((pc : Int) + o).toNat = q1) (h2 : pc + 3 = q2) (g1 : x < z → Go l Z y code ml ret R Q k n h q1 Ls st) (g2 : ¬ x < z → Go l Z y code ml ret R Q k n h q2 Ls st) : Go l Z y code ml ret R Q k n h pc Ls (.int z :: .int x :: st) := by
  subst h2
  by_cases hc : x < z
  · exact (g1 hc).pure fun p e s m args below meth c K T L k' n' X hT t r => XS.icmpYes X.here K.1 rfl rfl (hb K.2.1 hd) rfl (XT.ii_lt_t hc) ho h1 r
  · exact (g2 (by first | exact hc | exact Decidable.not_not.mp hc)).pure fun p e s m args below meth c K T L k' n' X hT t r => XS.icmpNo X.here K.1 rfl (hb K.2.1 hd) rfl (XT.ii_lt_f (by first | exact hc | exact Decidable.not_not.mp hc)) r
theorem Go.lcmp_lt {o : Int} {x z : Int64} (q1 q2 : Nat) (hd : decode code pc = .ok (.ifCond .lt o, 3)) (ho : 0 ≤ (pc : Int) + o) (h1 : ((pc : Int) + o).toNat = q1) (h2 : pc + 3 = q2) (g1 : x < z → Go l Z y code ml ret R Q k n h q1 Ls st) (g2 : ¬ x < z → Go l Z y code ml ret R Q k n h q2 Ls st) : Go l Z y code ml ret R Q k n h pc Ls (.int (XT.cmpL x z) :: st) := by
  subst h2
  by_cases hc : x < z
  · exact (g1 hc).pure fun p e s m args below meth c K T L k' n' X hT t r => XS.ifYes X.here K.1 rfl rfl (hb K.2.1 hd) rfl (XT.ll_lt_t hc) ho h1 r
  · exact (g2 (by first | exact hc | exact Decidable.not_not.mp hc)).pure fun p e s m args below meth c K T L k' n' X hT t r => XS.ifNo X.here K.1 rfl (hb K.2.1 hd) rfl (XT.ll_lt_f (by first | exact hc | exact Decidable.not_not.mp hc)) r
theorem Go.icmp_ge {o : Int} {x z : Int32} (q1 q2 : Nat) (hd : decode code pc = .ok (.if_icmp .ge o, 3)) (ho : 0 ≤ (pc : Int) + o) (h1 : ((pc : Int) + o).toNat = q1) (h2 : pc + 3 = q2) (g1 : ¬ x < z → Go l Z y code ml ret R Q k n h q1 Ls st) (g2 : x < z → Go l Z y code ml ret R Q k n h q2 Ls st) : Go l Z y code ml ret R Q k n h pc Ls (.int z :: .int x :: st) := by
  subst h2
  by_cases hc : ¬ x < z
  · exact (g1 hc).pure fun p e s m args below meth c K T L k' n' X hT t r => XS.icmpYes X.here K.1 rfl rfl (hb K.2.1 hd) rfl (XT.ii_ge_t hc) ho h1 r
  · exact (g2 (by first | exact hc | exact Decidable.not_not.mp hc)).pure fun p e s m args below meth c K T L k' n' X hT t r => XS.icmpNo X.here K.1 rfl (hb K.2.1 hd) rfl (XT.ii_ge_f (by first | exact hc | exact Decidable.not_not.mp hc)) r
theorem Go.lcmp_ge {o : Int} {x z : Int64} (q1 q2 : Nat) (hd : decode code pc = .ok (.ifCond .ge o, 3)) (ho : 0 ≤ (pc : Int) + o) (h1 : ((pc : Int) + o).toNat = q1) (h2 : pc + 3 = q2) (g1 : ¬ x < z → Go l Z y code ml ret R Q k n h q1 Ls st) (g2 : x < z → Go l Z y code ml ret R Q k n h q2 Ls st) : Go l Z y code ml ret R Q k n h pc Ls (.int (XT.cmpL x z) :: st) := by
  subst h2
  by_cases hc : ¬ x < z
  · exact (g1 hc).pure fun p e s m args below meth c K T L k' n' X hT t r => XS.ifYes X.here K.1 rfl rfl (hb K.2.1 hd) rfl (XT.ll_ge_t hc) ho h1 r
  · exact (g2 (by first | exact hc | exact Decidable.not_not.mp hc)).pure fun p e s m args below meth c K T L k' n' X hT t r => XS.ifNo X.here K.1 rfl (hb K.2.1 hd) rfl (XT.ll_ge_f (by first | exact hc | exact Decidable.not_not.mp hc)) r
theorem Go.icmp_gt {o : Int} {x z : Int32} (q1 q2 : Nat) (hd : decode code pc = .ok (.if_icmp .gt o, 3)) (ho : 0 ≤ (pc : Int) + o) (h1 : ((pc : Int) + o).toNat = q1) (h2 : pc + 3 = q2) (g1 : z < x → Go l Z y code ml ret R Q k n h q1 Ls st) (g2 : ¬ z < x → Go l Z y code ml ret R Q k n h q2 Ls st) : Go l Z y code ml ret R Q k n h pc Ls (.int z :: .int x :: st) := by
  subst h2
  by_cases hc : z < x
  · exact (g1 hc).pure fun p e s m args below meth c K T L k' n' X hT t r => XS.icmpYes X.here K.1 rfl rfl (hb K.2.1 hd) rfl (XT.ii_gt_t hc) ho h1 r
  · exact (g2 (by first | exact hc | exact Decidable.not_not.mp hc)).pure fun p e s m args below meth c K T L k' n' X hT t r => XS.icmpNo X.here K.1 rfl (hb K.2.1 hd) rfl (XT.ii_gt_f (by first | exact hc | exact Decidable.not_not.mp hc)) r
theorem Go.lcmp_gt {o : Int} {x z : Int64} (q1 q2 : Nat) (hd : decode code pc = .ok (.ifCond .gt o, 3)) (ho : 0 ≤ (pc : Int) + o) (h1 : ((pc : Int) + o).toNat = q1) (h2 : pc + 3 = q2) (g1 : z < x → Go l Z y code ml ret R Q k n h q1 Ls st) (g2 : ¬ z < x → Go l Z y code ml ret R Q k n h q2 Ls st) : Go l Z y code ml ret R Q k n h pc Ls (.int (XT.cmpL x z) :: st) := by
  subst h2
  by_cases hc : z < x
  · exact (g1 hc).pure fun p e s m args below meth c K T L k' n' X hT t r => XS.ifYes X.here K.1 rfl rfl (hb K.2.1 hd) rfl (XT.ll_gt_t hc) ho h1 r
  · exact (g2 (by first | exact hc | exact Decidable.not_not.mp hc)).pure fun p e s m args below meth c K T L k' n' X hT t r => XS.ifNo X.here K.1 rfl (hb K.2.1 hd) rfl (XT.ll_gt_f (by first | exact hc | exact Decidable.not_not.mp hc)) r
theorem Go.icmp_le {o : Int} {x z : Int32} (q1 q2 : Nat) (hd : decode code pc = .ok (.if_icmp .le o, 3)) (ho : 0 ≤ (pc : Int) + o) (h1 : ((pc : Int) + o).toNat = q1) (h2 : pc + 3 = q2) (g1 : ¬ z < x → Go l Z y code ml ret R Q k n h q1 Ls st) (g2 : z < x → Go l Z y code ml ret R Q k n h q2 Ls st) : Go l Z y code ml ret R Q k n h pc Ls (.int z :: .int x :: st) := by
  subst h2
  by_cases hc : ¬ z < x
  · exact (g1 hc).pure fun p e s m args below meth c K T L k' n' X hT t r => XS.icmpYes X.here K.1 rfl rfl (hb K.2.1 hd) rfl (XT.ii_le_t hc) ho h1 r
  · exact (g2 (by first | exact hc | exact Decidable.not_not.mp hc)).pure fun p e s m args below meth c K T L k' n' X hT t r => XS.icmpNo X.here K.1 rfl (hb K.2.1 hd) rfl (XT.ii_le_f (by first | exact hc | exact Decidable.not_not.mp hc)) r
theorem Go.lcmp_le {o : Int} {x z : Int64} (q1 q2 : Nat) (hd : decode code pc = .ok (.ifCond .le o, 3)) (ho : 0 ≤ (pc : Int) + o) (h1 : ((pc : Int) + o).toNat = q1) (h2 : pc + 3 = q2) (g1 : ¬ z < x → Go l Z y code ml ret R Q k n h q1 Ls st) (g2 : z < x → Go l Z y code ml ret R Q k n h q2 Ls st) : Go l Z y code ml ret R Q k n h pc Ls (.int (XT.cmpL x z) :: st) := by
  subst h2
  by_cases hc : ¬ z < x
  · exact (g1 hc).pure fun p e s m args below meth c K T L k' n' X hT t r => XS.ifYes X.here K.1 rfl rfl (hb K.2.1 hd) rfl (XT.ll_le_t hc) ho h1 r
  · exact (g2 (by first | exact hc | exact Decidable.not_not.mp hc)).pure fun p e s m args below meth c K T L k' n' X hT t r => XS.ifNo X.here K.1 rfl (hb K.2.1 hd) rfl (XT.ll_le_f (by first | exact hc | exact Decidable.not_not.mp hc)) r
theorem if0_eq_t {x : Int32} (h : x = 0) : ifCond.holds .eq x = true := by
  have e : ifCond.holds .eq x = if_icmp.holds .eq x 0 := rfl
  rw [e]; exact XT.ii_eq_t h
theorem if0_eq_f {x : Int32} (h : ¬ x = 0) : ifCond.holds .eq x = false := by
  have e : ifCond.holds .eq x = if_icmp.holds .eq x 0 := rfl
  rw [e]; exact XT.ii_eq_f h
theorem Go.if_eq {o : Int} {x : Int32} (q1 q2 : Nat) (hd : decode code pc = .ok (.ifCond .eq o, 3)) (ho : 0 ≤ (pc : Int) + o) (h1 : ((pc : Int) + o).toNat = q1) (h2 : pc + 3 = q2) (g1 : x = 0 → Go l Z y code ml ret R Q k n h q1 Ls st) (g2 : ¬ x = 0 → Go l Z y code ml ret R Q k n h q2 Ls st) : Go l Z y code ml ret R Q k n h pc Ls (.int x :: st) := by
  subst h2
  by_cases hc : x = 0
  · exact (g1 hc).pure fun p e s m args below meth c K T L k' n' X hT t r => XS.ifYes X.here K.1 rfl rfl (hb K.2.1 hd) rfl (if0_eq_t hc) ho h1 r
  · exact (g2 (by first | exact hc | exact Decidable.not_not.mp hc)).pure fun p e s m args below meth c K T L k' n' X hT t r => XS.ifNo X.here K.1 rfl (hb K.2.1 hd) rfl (if0_eq_f (by first | exact hc | exact Decidable.not_not.mp hc)) r
theorem if0_ne_t {x : Int32} (h : ¬ x = 0) : ifCond.holds .ne x = true := by
  have e : ifCond.holds .ne x = if_icmp.holds .ne x 0 := rfl
  rw [e]; exact XT.ii_ne_t h
theorem if0_ne_f {x : Int32} (h : x = 0) : ifCond.holds .ne x = false := by
  have e : ifCond.holds .ne x = if_icmp.holds .ne x 0 := rfl
  rw [e]; exact XT.ii_ne_f h
theorem Go.if_ne {o : Int} {x : Int32} (q1 q2 : Nat) (hd : decode code pc = .ok (.ifCond .ne o, 3)) (ho : 0 ≤ (pc : Int) + o) (h1 : ((pc : Int) + o).toNat = q1) (h2 : pc + 3 = q2) (g1 : ¬ x = 0 → Go l Z y code ml ret R Q k n h q1 Ls st) (g2 : x = 0 → Go l Z y code ml ret R Q k n h q2 Ls st) : Go l Z y code ml ret R Q k n h pc Ls (.int x :: st) := by
  subst h2
  by_cases hc : ¬ x = 0
  · exact (g1 hc).pure fun p e s m args below meth c K T L k' n' X hT t r => XS.ifYes X.here K.1 rfl rfl (hb K.2.1 hd) rfl (if0_ne_t hc) ho h1 r
  · exact (g2 (by first | exact hc | exact Decidable.not_not.mp hc)).pure fun p e s m args below meth c K T L k' n' X hT t r => XS.ifNo X.here K.1 rfl (hb K.2.1 hd) rfl (if0_ne_f (by first | exact hc | exact Decidable.not_not.mp hc)) r
theorem if0_lt_t {x : Int32} (h : x < 0) : ifCond.holds .lt x = true := by
  have e : ifCond.holds .lt x = if_icmp.holds .lt x 0 := rfl
  rw [e]; exact XT.ii_lt_t h
theorem if0_lt_f {x : Int32} (h : ¬ x < 0) : ifCond.holds .lt x = false := by
  have e : ifCond.holds .lt x = if_icmp.holds .lt x 0 := rfl
  rw [e]; exact XT.ii_lt_f h
theorem Go.if_lt {o : Int} {x : Int32} (q1 q2 : Nat) (hd : decode code pc = .ok (.ifCond .lt o, 3)) (ho : 0 ≤ (pc : Int) + o) (h1 : ((pc : Int) + o).toNat = q1) (h2 : pc + 3 = q2) (g1 : x < 0 → Go l Z y code ml ret R Q k n h q1 Ls st) (g2 : ¬ x < 0 → Go l Z y code ml ret R Q k n h q2 Ls st) : Go l Z y code ml ret R Q k n h pc Ls (.int x :: st) := by
  subst h2
  by_cases hc : x < 0
  · exact (g1 hc).pure fun p e s m args below meth c K T L k' n' X hT t r => XS.ifYes X.here K.1 rfl rfl (hb K.2.1 hd) rfl (if0_lt_t hc) ho h1 r
  · exact (g2 (by first | exact hc | exact Decidable.not_not.mp hc)).pure fun p e s m args below meth c K T L k' n' X hT t r => XS.ifNo X.here K.1 rfl (hb K.2.1 hd) rfl (if0_lt_f (by first | exact hc | exact Decidable.not_not.mp hc)) r
theorem if0_ge_t {x : Int32} (h : ¬ x < 0) : ifCond.holds .ge x = true := by
  have e : ifCond.holds .ge x = if_icmp.holds .ge x 0 := rfl
  rw [e]; exact XT.ii_ge_t h
theorem if0_ge_f {x : Int32} (h : x < 0) : ifCond.holds .ge x = false := by
  have e : ifCond.holds .ge x = if_icmp.holds .ge x 0 := rfl
  rw [e]; exact XT.ii_ge_f h
theorem Go.if_ge {o : Int} {x : Int32} (q1 q2 : Nat) (hd : decode code pc = .ok (.ifCond .ge o, 3)) (ho : 0 ≤ (pc : Int) + o) (h1 : ((pc : Int) + o).toNat = q1) (h2 : pc + 3 = q2) (g1 : ¬ x < 0 → Go l Z y code ml ret R Q k n h q1 Ls st) (g2 : x < 0 → Go l Z y code ml ret R Q k n h q2 Ls st) : Go l Z y code ml ret R Q k n h pc Ls (.int x :: st) := by
  subst h2
  by_cases hc : ¬ x < 0
  · exact (g1 hc).pure fun p e s m args below meth c K T L k' n' X hT t r => XS.ifYes X.here K.1 rfl rfl (hb K.2.1 hd) rfl (if0_ge_t hc) ho h1 r
  · exact (g2 (by first | exact hc | exact Decidable.not_not.mp hc)).pure fun p e s m args below meth c K T L k' n' X hT t r => XS.ifNo X.here K.1 rfl (hb K.2.1 hd) rfl (if0_ge_f (by first | exact hc | exact Decidable.not_not.mp hc)) r
theorem if0_gt_t {x : Int32} (h : 0 < x) : ifCond.holds .gt x = true := by
  have e : ifCond.holds .gt x = if_icmp.holds .gt x 0 := rfl
  rw [e]; exact XT.ii_gt_t h
theorem if0_gt_f {x : Int32} (h : ¬ 0 < x) : ifCond.holds .gt x = false := by
  have e : ifCond.holds .gt x = if_icmp.holds .gt x 0 := rfl
  rw [e]; exact XT.ii_gt_f h
theorem Go.if_gt {o : Int} {x : Int32} (q1 q2 : Nat) (hd : decode code pc = .ok (.ifCond .gt o, 3)) (ho : 0 ≤ (pc : Int) + o) (h1 : ((pc : Int) + o).toNat = q1) (h2 : pc + 3 = q2) (g1 : 0 < x → Go l Z y code ml ret R Q k n h q1 Ls st) (g2 : ¬ 0 < x → Go l Z y code ml ret R Q k n h q2 Ls st) : Go l Z y code ml ret R Q k n h pc Ls (.int x :: st) := by
  subst h2
  by_cases hc : 0 < x
  · exact (g1 hc).pure fun p e s m args below meth c K T L k' n' X hT t r => XS.ifYes X.here K.1 rfl rfl (hb K.2.1 hd) rfl (if0_gt_t hc) ho h1 r
  · exact (g2 (by first | exact hc | exact Decidable.not_not.mp hc)).pure fun p e s m args below meth c K T L k' n' X hT t r => XS.ifNo X.here K.1 rfl (hb K.2.1 hd) rfl (if0_gt_f (by first | exact hc | exact Decidable.not_not.mp hc)) r
theorem if0_le_t {x : Int32} (h : ¬ 0 < x) : ifCond.holds .le x = true := by
  have e : ifCond.holds .le x = if_icmp.holds .le x 0 := rfl
  rw [e]; exact XT.ii_le_t h
theorem if0_le_f {x : Int32} (h : 0 < x) : ifCond.holds .le x = false := by
  have e : ifCond.holds .le x = if_icmp.holds .le x 0 := rfl
  rw [e]; exact XT.ii_le_f h
theorem Go.if_le {o : Int} {x : Int32} (q1 q2 : Nat) (hd : decode code pc = .ok (.ifCond .le o, 3)) (ho : 0 ≤ (pc : Int) + o) (h1 : ((pc : Int) + o).toNat = q1) (h2 : pc + 3 = q2) (g1 : ¬ 0 < x → Go l Z y code ml ret R Q k n h q1 Ls st) (g2 : 0 < x → Go l Z y code ml ret R Q k n h q2 Ls st) : Go l Z y code ml ret R Q k n h pc Ls (.int x :: st) := by
  subst h2
  by_cases hc : ¬ 0 < x
  · exact (g1 hc).pure fun p e s m args below meth c K T L k' n' X hT t r => XS.ifYes X.here K.1 rfl rfl (hb K.2.1 hd) rfl (if0_le_t hc) ho h1 r
  · exact (g2 (by first | exact hc | exact Decidable.not_not.mp hc)).pure fun p e s m args below meth c K T L k' n' X hT t r => XS.ifNo X.here K.1 rfl (hb K.2.1 hd) rfl (if0_le_f (by first | exact hc | exact Decidable.not_not.mp hc)) r
theorem Go.ifnull_no {o : Int} {b : Addr} (q : Nat) (hd : decode code pc = .ok (.ifnull o, 3)) (hq : pc + 3 = q) (g : Go l Z y code ml ret R Q k n h q Ls st) : Go l Z y code ml ret R Q k n h pc Ls (.ref b :: st) := by
  subst hq; exact g.pure fun p e s m args below meth c K T L k' n' X hT t r => XS.ifnullNo X.here K.1 rfl (hb K.2.1 hd) rfl r
theorem Go.ifnull_yes {o : Int} (q : Nat) (hd : decode code pc = .ok (.ifnull o, 3)) (ho : 0 ≤ (pc : Int) + o) (hq : ((pc : Int) + o).toNat = q) (g : Go l Z y code ml ret R Q k n h q Ls st) : Go l Z y code ml ret R Q k n h pc Ls (.null :: st) :=
  g.pure fun p e s m args below meth c K T L k' n' X hT t r => XS.ifnullYes X.here K.1 rfl rfl (hb K.2.1 hd) rfl ho hq r
theorem Go.ifnonnull_yes {o : Int} {b : Addr} (q : Nat) (hd : decode code pc = .ok (.ifnonnull o, 3)) (ho : 0 ≤ (pc : Int) + o) (hq : ((pc : Int) + o).toNat = q) (g : Go l Z y code ml ret R Q k n h q Ls st) : Go l Z y code ml ret R Q k n h pc Ls (.ref b :: st) :=
  g.pure fun p e s m args below meth c K T L k' n' X hT t r => XT.ifnonnullYes X.here K.1 rfl rfl (hb K.2.1 hd) rfl ho hq r
theorem Go.ifnonnull_no {o : Int} (q : Nat) (hd : decode code pc = .ok (.ifnonnull o, 3)) (hq : pc + 3 = q) (g : Go l Z y code ml ret R Q k n h q Ls st) : Go l Z y code ml ret R Q k n h pc Ls (.null :: st) := by
  subst hq; exact g.pure fun p e s m args below meth c K T L k' n' X hT t r => XT.ifnonnullNo X.here K.1 rfl (hb K.2.1 hd) rfl r
theorem Go.acmp {cd : ACond} {o : Int} {x z : Value} (q : Nat) (same : Bool) (hd : decode code pc = .ok (.if_acmp cd o, 3)) (h1 : x.isRef = true) (h2 : z.isRef = true) (hs : decide (x = z) = same) (ho : 0 ≤ (pc : Int) + o) (hq : q = if acV cd same = true then ((pc : Int) + o).toNat else pc + 3) (g : Go l Z y code ml ret R Q k n h q Ls st) : Go l Z y code ml ret R Q k n h pc Ls (z :: x :: st) :=
  g.pure fun p e s m args below meth c K T L k' n' X hT t r => Jvm.RoadKit.acmp X K.1 rfl h1 h2 rfl (hb K.2.1 hd) rfl hs ho hq r
theorem Go.acmp_eq {o : Int} {x z : Addr} (q1 q2 : Nat) (hd : decode code pc = .ok (.if_acmp .eq o, 3)) (ho : 0 ≤ (pc : Int) + o) (h1 : ((pc : Int) + o).toNat = q1) (h2 : pc + 3 = q2) (g1 : x = z → Go l Z y code ml ret R Q k n h q1 Ls st) (g2 : ¬ x = z → Go l Z y code ml ret R Q k n h q2 Ls st) : Go l Z y code ml ret R Q k n h pc Ls (.ref z :: .ref x :: st) := by
  subst h1 h2
  by_cases hc : x = z
  · exact Go.acmp _ true hd rfl rfl (by simp [hc]) ho rfl (by simpa [acV] using g1 hc)
  · exact Go.acmp _ false hd rfl rfl (by simp [hc]) ho rfl (by simpa [acV] using g2 hc)
theorem Go.acmp_ne {o : Int} {x z : Addr} (q1 q2 : Nat) (hd : decode code pc = .ok (.if_acmp .ne o, 3)) (ho : 0 ≤ (pc : Int) + o) (h1 : ((pc : Int) + o).toNat = q1) (h2 : pc + 3 = q2) (g1 : ¬ x = z → Go l Z y code ml ret R Q k n h q1 Ls st) (g2 : x = z → Go l Z y code ml ret R Q k n h q2 Ls st) : Go l Z y code ml ret R Q k n h pc Ls (.ref z :: .ref x :: st) := by
  subst h1 h2
  by_cases hc : x = z
  · exact Go.acmp _ true hd rfl rfl (by simp [hc]) ho rfl (by simpa [acV] using g2 hc)
  · exact Go.acmp _ false hd rfl rfl (by simp [hc]) ho rfl (by simpa [acV] using g1 hc)

theorem Go.retV {w : Value} {t : FieldType} {i : Instr} (hd : decode code pc = .ok (i, 1)) (hret : ret = some t) (hn : narrow t w = w)
    (hi : (i = .ireturn ∧ (t = .int ∨ t = .boolean ∨ t = .byte ∨ t = .char ∨ t = .short) ∧ ∃ z, w = .int z) ∨ (i = .lreturn ∧ t = .long ∧ ∃ z, w = .long z) ∨ (i = .dreturn ∧ t = .double ∧ ∃ z, w = .double z) ∨ (i = .freturn ∧ t = .float ∧ ∃ z, w = .float z) ∨ (i = .areturn ∧ t.isReference = true ∧ w.isRef = true))
    (hk : k ≤ R.cells) (hN : n ≤ R.slots) (hQ : Q (some w) h) : Go l Z y code ml ret R Q k n h pc Ls (w :: st) := by
  intro p e s m args below meth c K T L k' n' X h1 h2 N hT
  refine ⟨some w, T, L, k', n', X, Nat.le_trans h1 hk, Nat.le_trans h2 hN, N, hT ▸ hQ, fun e => ?_, fun fs hl => ?_⟩
  · rw [hret] at e; cases e
  · exact retOut X K.1 (K.2.2.2.2.2.1.trans hret) hn hi (hb K.2.1 hd) hl
theorem Go.ireturn {z : Int32} {P : Int32 → Heap → Prop} (hd : decode code pc = .ok (.ireturn, 1)) (hret : ret = some .int) (hk : k ≤ R.cells) (hN : n ≤ R.slots) (hP : P z h) : Go l Z y code ml ret R (QI P) k n h pc Ls (.int z :: st) :=
  Go.retV hd hret rfl (Or.inl ⟨rfl, Or.inl rfl, z, rfl⟩) hk hN ⟨z, rfl, hP⟩
theorem Go.lreturn {z : Int64} {P : Int64 → Heap → Prop} (hd : decode code pc = .ok (.lreturn, 1)) (hret : ret = some .long) (hk : k ≤ R.cells) (hN : n ≤ R.slots) (hP : P z h) : Go l Z y code ml ret R (QJ P) k n h pc Ls (.long z :: st) :=
  Go.retV hd hret rfl (Or.inr (Or.inl ⟨rfl, rfl, z, rfl⟩)) hk hN ⟨z, rfl, hP⟩
theorem Go.areturn {z : Value} {t : FieldType} {P : Value → Heap → Prop} (hd : decode code pc = .ok (.areturn, 1)) (hret : ret = some t) (ht : t.isReference = true) (hz : z.isRef = true) (hk : k ≤ R.cells) (hN : n ≤ R.slots) (hP : P z h) : Go l Z y code ml ret R (QR P) k n h pc Ls (z :: st) := by
  refine Go.retV hd hret ?_ (Or.inr (Or.inr (Or.inr (Or.inr ⟨rfl, ht, hz⟩)))) hk hN ⟨z, rfl, hP⟩
  cases t <;> cases z <;> first | rfl | (simp [Value.isRef] at hz)
/-- a boolean, byte, char or short: narrowed -/
theorem Go.nreturn {z z' : Int32} {t : FieldType} {P : Int32 → Heap → Prop} (hd : decode code pc = .ok (.ireturn, 1)) (hret : ret = some t) (ht : t = .boolean ∨ t = .byte ∨ t = .char ∨ t = .short) (hz : nar t z = z') (hk : k ≤ R.cells) (hN : n ≤ R.slots) (hP : P z' h) : Go l Z y code ml ret R (QI P) k n h pc Ls (.int z :: st) := by
  subst hz
  intro p e s m args below meth c K T L k' n' X h1 h2 N hT
  refine ⟨some (.int (nar t z)), T, L, k', n', X, Nat.le_trans h1 hk, Nat.le_trans h2 hN, N, ⟨_, rfl, hT ▸ hP⟩, fun e => ?_, fun fs hl => ?_⟩
  · rw [hret] at e; cases e
  · exact retN X K.1 (K.2.2.2.2.2.1.trans hret) ht (hb K.2.1 hd) hl
theorem Go.vreturn {P : Heap → Prop} (hd : decode code pc = .ok (.return_, 1)) (hret : ret = none) (hk : k ≤ R.cells) (hN : n ≤ R.slots) (hP : P h) : Go l Z y code ml ret R (QV P) k n h pc Ls [] := by
  intro p e s m args below meth c K T L k' n' X h1 h2 N hT
  exact ⟨none, T, L, k', n', X, Nat.le_trans h1 hk, Nat.le_trans h2 hN, N, ⟨rfl, hT ▸ hP⟩, fun _ => rfl, fun fs hl => X.returnOut K.1 (K.2.2.2.2.2.1.trans hret) (hb K.2.1 hd) hl⟩
/-- the whole body, as a contract -/
theorem Go.met {as' : Array Value} (hx : plainFor y = true) (hent : ∀ m, entryFrame m as' ml = mkF m 0 Ls []) (G : Go l Z y code ml ret R Q 0 0 h 0 Ls []) (ws : List Jvm.Cond) :
    MetFree l y (head1 (Jvm.Cond.code y code ml ret :: ws) R) (fun a U => a = as' ∧ Z.Warmed39 U.vm ∧ U.heap = h) (fun _ _ _ _ _ => True) (fun _ U o U' => ∃ v L, o = .returned v ∧ (Q v U'.heap ∧ Fr Z.heap.size L) ∧ FrameEnd U o U' L R.cells R.slots) := by
  refine MetFree.of_bodySF hx hisR ?_
  intro p e s m args below meth c s₁ Bd hml hP hK
  obtain ⟨rfl, hZ, hh⟩ := hP
  have X0 : Stand p l e R s m args below meth c s₁ [] 0 0 := Stand.of_body Bd
  have e0 : s₁.heap = h := by rw [← hh, Bd.state]; rfl
  have hnm := (name_of_methodNamed Bd.named Bd.method).1
  obtain ⟨v, T', L', k'', n'', X', b1, b2, N', q, hv, stp⟩ := G p e s m args below meth c ⟨Bd.exec, Bd.bytes, hZ, findClass_of_methodNamed Bd.named, hml, Bd.returns, Bd.notSynchronized, hnm⟩ s₁ [] 0 0 X0 (Nat.le_refl _) (Nat.le_refl _) (Fr.nil _) e0
  obtain ⟨fs, hr, hrun, hended, hW, hsame⟩ := X'.leave (v := v) (fun hh => hv (by rw [← Bd.returns]; exact hh))
  refine ⟨_, _, castTop (hent m) (stp fs hr), hrun, hended, v, L', rfl, ⟨q, N'⟩, ⟨_, rfl⟩, hW, hsame.mono b1 b2⟩


theorem Go.getfield {i : Nat} {O nm d : String} {a : Addr} {v : Value} (q : Nat) (hd : decode code pc = .ok (.getfield i, 3)) (w : (Cond.fieldLink y.cls i O nm d).before a0 Z = true) (F : Fld Z h a O nm d v) (hq : pc + 3 = q) (g : Go l Z y code ml ret R Q k n h q Ls (v :: st)) : Go l Z y code ml ret R Q k n h pc Ls (.ref a :: st) := by
  subst hq
  refine Go.move (P := fun h' => h' = h) (kk := k) (nn := n) (fun h' e => e ▸ g) ?_
  intro p e s m args below meth c K T L k' n' X h1 h2 N hT
  obtain ⟨T', X', e', s'⟩ := getF X K.1 K.2.2.1 K.2.2.2.1 (host := "") (Or.inl w) Via.refl hT F (g := mkF m pc Ls (.ref a :: st)) rfl rfl (hb K.2.1 hd)
  exact ⟨T', L, k', n', X', h1, h2, N, e', s'⟩
theorem Go.getfieldN {i : Nat} {O nm d host : String} {a : Addr} {v : Value} (q : Nat) (hd : decode code pc = .ok (.getfield i, 3)) (w : (Cond.fieldLinkNest y.cls i O nm d host).before a0 Z = true) (F : Fld Z h a O nm d v) (hq : pc + 3 = q) (g : Go l Z y code ml ret R Q k n h q Ls (v :: st)) : Go l Z y code ml ret R Q k n h pc Ls (.ref a :: st) := by
  subst hq
  refine Go.move (P := fun h' => h' = h) (kk := k) (nn := n) (fun h' e => e ▸ g) ?_
  intro p e s m args below meth c K T L k' n' X h1 h2 N hT
  obtain ⟨T', X', e', s'⟩ := getF X K.1 K.2.2.1 K.2.2.2.1 (host := host) (Or.inr w) Via.refl hT F (g := mkF m pc Ls (.ref a :: st)) rfl rfl (hb K.2.1 hd)
  exact ⟨T', L, k', n', X', h1, h2, N, e', s'⟩
theorem Go.getfieldU {i : Nat} {R0 O nm d : String} {a : Addr} {v : Value} (q : Nat) (hd : decode code pc = .ok (.getfield i, 3)) (w : (Cond.fieldLink y.cls i R0 nm d).before a0 Z = true) (via : Via Z R0 O nm d) (F : Fld Z h a O nm d v) (hq : pc + 3 = q) (g : Go l Z y code ml ret R Q k n h q Ls (v :: st)) : Go l Z y code ml ret R Q k n h pc Ls (.ref a :: st) := by
  subst hq
  refine Go.move (P := fun h' => h' = h) (kk := k) (nn := n) (fun h' e => e ▸ g) ?_
  intro p e s m args below meth c K T L k' n' X h1 h2 N hT
  obtain ⟨T', X', e', s'⟩ := getF X K.1 K.2.2.1 K.2.2.2.1 (host := "") (Or.inl w) via hT F (g := mkF m pc Ls (.ref a :: st)) rfl rfl (hb K.2.1 hd)
  exact ⟨T', L, k', n', X', h1, h2, N, e', s'⟩
theorem Go.getstatic {i : Nat} {O nm d : String} {v : Value} (q : Nat) (hd : decode code pc = .ok (.getstatic i, 3)) (w : (Cond.fieldLink y.cls i O nm d).before a0 Z = true) (F : Sta Z h O nm d v) (hq : pc + 3 = q) (g : Go l Z y code ml ret R Q k n h q Ls (v :: st)) : Go l Z y code ml ret R Q k n h pc Ls st := by
  subst hq
  refine Go.move (P := fun h' => h' = h) (kk := k) (nn := n) (fun h' e => e ▸ g) ?_
  intro p e s m args below meth c K T L k' n' X h1 h2 N hT
  obtain ⟨T', X', e', s'⟩ := getS X K.1 K.2.2.1 (host := "") K.2.2.2.1 w Via.refl hT F (g := mkF m pc Ls st) rfl (hb K.2.1 hd)
  exact ⟨T', L, k', n', X', h1, h2, N, e', s'⟩
theorem Go.putfield {i kk : Nat} {C O nm d : String} {ty : FieldType} {a : Addr} {v old : Value} (q : Nat) (hd : decode code pc = .ok (.putfield i, 3)) (w : (Cond.fieldLink y.cls i O nm d).before a0 Z = true) (F : Fld Z h a O nm d old) (E : Exa Z h a C) (hL : (Cond.lays C O nm d).before a0 Z = true ∨ ((Cond.laysFinal C O nm d).before a0 Z = true ∧ y.cls = O ∧ y.name = "<init>"))
    (wi : (Cond.instantiable C kk).before a0 Z = true) (hty : parseFieldDescriptor d = some ty) (hn : narrow ty v = v) (hf : fits ty v = true) (hge : Z.heap.size ≤ a) (hq : pc + 3 = q)
    (g : ∀ h', Wr h h' a (Jvm.RoadKit.slotOf Z O nm d) v → Go l Z y code ml ret R Q k n h' q Ls st) : Go l Z y code ml ret R Q k n h pc Ls (v :: .ref a :: st) := by
  subst hq
  refine Go.move (P := fun h' => Wr h h' a (Jvm.RoadKit.slotOf Z O nm d) v) (kk := k) (nn := n) g ?_
  intro p e s m args below meth c K T L k' n' X h1 h2 N hT
  obtain ⟨T', h', X', e', W', s'⟩ := putF X K.1 K.2.2.1 K.2.2.2.1 (host := "") (Or.inl w) Via.refl hT F E (hL.imp id fun ⟨a1, a2, a3⟩ => ⟨a1, a2, K.2.2.2.2.2.2.2.trans a3⟩) wi hty hn hf (g := mkF m pc Ls (v :: .ref a :: st)) rfl rfl (hb K.2.1 hd)
  exact ⟨T', _, k', n', X', h1, h2, Fr.snoc X' N hge, e' ▸ W', s'⟩
theorem Go.putfieldU {i kk : Nat} {R0 C O nm d : String} {ty : FieldType} {a : Addr} {v old : Value} (q : Nat) (hd : decode code pc = .ok (.putfield i, 3)) (w : (Cond.fieldLink y.cls i R0 nm d).before a0 Z = true) (via : Via Z R0 O nm d) (F : Fld Z h a O nm d old) (E : Exa Z h a C) (hL : (Cond.lays C O nm d).before a0 Z = true ∨ ((Cond.laysFinal C O nm d).before a0 Z = true ∧ y.cls = O ∧ y.name = "<init>"))
    (wi : (Cond.instantiable C kk).before a0 Z = true) (hty : parseFieldDescriptor d = some ty) (hn : narrow ty v = v) (hf : fits ty v = true) (hge : Z.heap.size ≤ a) (hq : pc + 3 = q)
    (g : ∀ h', Wr h h' a (Jvm.RoadKit.slotOf Z O nm d) v → Go l Z y code ml ret R Q k n h' q Ls st) : Go l Z y code ml ret R Q k n h pc Ls (v :: .ref a :: st) := by
  subst hq
  refine Go.move (P := fun h' => Wr h h' a (Jvm.RoadKit.slotOf Z O nm d) v) (kk := k) (nn := n) g ?_
  intro p e s m args below meth c K T L k' n' X h1 h2 N hT
  obtain ⟨T', h', X', e', W', s'⟩ := putF X K.1 K.2.2.1 K.2.2.2.1 (host := "") (Or.inl w) via hT F E (hL.imp id fun ⟨a1, a2, a3⟩ => ⟨a1, a2, K.2.2.2.2.2.2.2.trans a3⟩) wi hty hn hf (g := mkF m pc Ls (v :: .ref a :: st)) rfl rfl (hb K.2.1 hd)
  exact ⟨T', _, k', n', X', h1, h2, Fr.snoc X' N hge, e' ▸ W', s'⟩
/-- a field that narrows (boolean, byte, char, short) -/
theorem Go.putfieldN {i kk : Nat} {C O nm d : String} {ty : FieldType} {a : Addr} {v v' old : Value} (q : Nat) (hd : decode code pc = .ok (.putfield i, 3)) (w : (Cond.fieldLink y.cls i O nm d).before a0 Z = true) (F : Fld Z h a O nm d old) (E : Exa Z h a C) (hL : (Cond.lays C O nm d).before a0 Z = true ∨ ((Cond.laysFinal C O nm d).before a0 Z = true ∧ y.cls = O ∧ y.name = "<init>"))
    (wi : (Cond.instantiable C kk).before a0 Z = true) (hty : parseFieldDescriptor d = some ty) (hn : narrow ty v = v') (hf : fits ty v' = true) (hge : Z.heap.size ≤ a) (hq : pc + 3 = q)
    (g : ∀ h', Wr h h' a (Jvm.RoadKit.slotOf Z O nm d) v' → Go l Z y code ml ret R Q k n h' q Ls st) : Go l Z y code ml ret R Q k n h pc Ls (v :: .ref a :: st) := by
  subst hq
  refine Go.move (P := fun h' => Wr h h' a (Jvm.RoadKit.slotOf Z O nm d) v') (kk := k) (nn := n) g ?_
  intro p e s m args below meth c K T L k' n' X h1 h2 N hT
  obtain ⟨T', h', X', e', W', s'⟩ := putFN X K.1 K.2.2.1 K.2.2.2.1 w Via.refl hT F E (hL.imp id fun ⟨a1, a2, a3⟩ => ⟨a1, a2, K.2.2.2.2.2.2.2.trans a3⟩) wi hty hn hf (g := mkF m pc Ls (v :: .ref a :: st)) rfl rfl (hb K.2.1 hd)
  exact ⟨T', _, k', n', X', h1, h2, Fr.snoc X' N hge, e' ▸ W', s'⟩
theorem Go.new {i sz : Nat} {C : String} (q : Nat) (hd : decode code pc = .ok (.new i, 3)) (w : (Cond.classLink y.cls i C).before a0 Z = true) (wi : (Cond.instantiable C sz).before a0 Z = true) (wz : (Cond.initialized C).before a0 Z = true) (hk : k + 1 ≤ R.cells) (hN : n + sz ≤ R.slots) (hq : pc + 3 = q)
    (g : ∀ (a : Addr) h', a = h.size → Ext h h' → Exa Z h' a C → (∀ {O nm d : String} {ty : FieldType}, Laid Z a0 C O nm d → parseFieldDescriptor d = some ty → Fld Z h' a O nm d (defaultValue ty)) → Go l Z y code ml ret R Q (k + 1) (n + sz) h' q Ls (.ref a :: st)) : Go l Z y code ml ret R Q k n h pc Ls st := by
  subst hq
  refine Go.move (P := fun h' => Ext h h' ∧ Exa Z h' h.size C ∧ (∀ {O nm d : String} {ty : FieldType}, Laid Z a0 C O nm d → parseFieldDescriptor d = some ty → Fld Z h' h.size O nm d (defaultValue ty))) (kk := k + 1) (nn := n + sz) (fun h' p => g h.size h' rfl p.1 p.2.1 p.2.2) ?_
  intro p e s m args below meth c K T L k' n' X h1 h2 N hT
  obtain ⟨T', h', X', e', E', A', D', -, s'⟩ := newO X K.1 K.2.2.1 K.2.2.2.1 w wi wz hT (g := mkF m pc Ls st) rfl (hb K.2.1 hd) (Nat.le_trans (Nat.add_le_add_right h1 1) hk) (Nat.le_trans (Nat.add_le_add_right h2 sz) hN)
  subst e'
  exact ⟨T', L, k' + 1, n' + sz, X', Nat.add_le_add_right h1 1, Nat.add_le_add_right h2 sz, N, ⟨E', A', D'⟩, s'⟩
theorem Go.initO {i : Nat} {a : Addr} (W : Nat) (q : Nat) (hd : decode code pc = .ok (.invokespecial i, 3)) (w1 : (Cond.methodLink y.cls i Lib.objectInit).before a0 Z = true) (w2 : (Cond.instanceMethod Lib.objectInit).before a0 Z = true) (w3 : (Cond.code Lib.objectInit ⟨#[0xb1]⟩ 1 none).before a0 Z = true)
    (hsz : Ls.size = ml) (hf : 1 ≤ R.frames) (hW : (st.map fun v => v.category).sum ≤ W) (hl : W + 12 ≤ R.locals) (hq : pc + 3 = q) (g : Go l Z y code ml ret R Q k n h q Ls st) : Go l Z y code ml ret R Q k n h pc Ls (.ref a :: st) := by
  subst hq
  refine Go.move (P := fun h' => h' = h) (kk := k) (nn := n) (fun h' e => e ▸ g) ?_
  intro p e s m args below meth c K T L k' n' X h1 h2 N hT
  obtain ⟨T', X', e', s'⟩ := Jvm.RoadKit.initO X K.1 K.2.2.1 K.2.2.2.1 w1 w2 w3 hT (g := mkF m pc Ls (.ref a :: st)) rfl (hsz.trans K.2.2.2.2.1.symm) rfl (hb K.2.1 hd) hf (W := W) (by show 2 * 0 + _ ≤ _; rw [Nat.mul_zero, Nat.zero_add]; exact hW) hl
  exact ⟨T', L, k', n', X', h1, h2, N, e', s'⟩


section Calls
variable {y' : MethodName} {code' : ByteArray} {ml' : Nat} {ret' : Option FieldType} {R' : Room} {Q' : Option Value → Heap → Prop} {Ls' : Array Slot} {i W : Nat}
theorem Go.callS (argsL : List Value) (rest : List Value) (q : Nat) (hd : decode code pc = .ok (.invokestatic i, 3)) (w1 : (Cond.methodLink y.cls i y').before a0 Z = true) (w2 : (Cond.static y').before a0 Z = true) (w3 : (Cond.initialized y'.cls).before a0 Z = true) (w4 : (Cond.code y' code' ml' ret').before a0 Z = true)
    (hpl : plainFor y' = true) (hy : y'.cls ≠ "java/lang/invoke/MethodHandle" ∧ y'.cls ≠ "java/lang/invoke/VarHandle") (hlen : ∀ sig, parseMethodDescriptor y'.desc = some sig → argsL.length = sig.parameters.length) (hst : st = argsL.reverse ++ rest) (hent : ∀ m, entryFrame m argsL.toArray ml' = mkF m 0 Ls' [])
    (G : Go l Z y' code' ml' ret' R' Q' 0 0 h 0 Ls' []) (W : Nat) (hsz : Ls.size = ml) (hW : (rest.map fun v => v.category).sum ≤ W) (hf : R'.frames + 1 ≤ R.frames) (hl : W + (ml' + 11) + R'.locals ≤ R.locals) (hk : k + R'.cells ≤ R.cells) (hN : n + R'.slots ≤ R.slots) (hq : pc + 3 = q)
    (g : ∀ v h', Q' v h' → Go l Z y code ml ret R Q (k + R'.cells) (n + R'.slots) h' q Ls (v.toList ++ rest)) : Go l Z y code ml ret R Q k n h pc Ls st := by
  subst hq
  intro p e s m args below meth c K T L k' n' X h1 h2 N hT
  obtain ⟨v, vm₁, ⟨T', L', k'', n''⟩, -, X', ⟨Lc, ⟨hQ, N'⟩, e1, e2, e3⟩, s'⟩ := Jvm.LawKit.callS X K.1 K.2.2.2.1 (mvT K.2.2.1 w1) (mvT K.2.2.1 w2) (mvT K.2.2.1 w3) (mvT K.2.2.1 w4) hy (backOf (W := W) (Q := fun v h L => Q' v h ∧ Fr Z.heap.size L) (Go.met hpl hent G []) K.2.2.1 w4 w3 hf hl) (g := mkF m pc Ls st) rfl (hsz.trans K.2.2.2.2.1.symm) (argsL := argsL) (rest := rest) hlen hst (by show 2 * 0 + _ ≤ _; rw [Nat.mul_zero, Nat.zero_add]; exact hW) (hb K.2.1 hd) (fun _ _ => ⟨rfl, hT, Nat.le_trans (Nat.add_le_add_right h1 _) hk, Nat.le_trans (Nat.add_le_add_right h2 _) hN⟩)
  dsimp only [Pt.U, Pt.locs, Pt.cells, Pt.slots] at X' e1 e2 e3 s' hQ
  subst e1 e2 e3
  obtain ⟨v2, T2, L2, k2, n2, X2, b1, b2, N2, q2, hv, stp⟩ := g v _ hQ p e s m args below meth c K T' _ _ _ X' (Nat.add_le_add_right h1 _) (Nat.add_le_add_right h2 _) (Fr.app N N') rfl
  exact ⟨v2, T2, L2, k2, n2, X2, b1, b2, N2, q2, hv, fun fs hl => s' _ (stp fs hl)⟩
theorem Go.callC {a : Addr} (argsL : List Value) (rest : List Value) (q : Nat) (hd : decode code pc = .ok (.invokespecial i, 3)) (hy1 : y'.name = "<init>") (w1 : (Cond.methodLink y.cls i y').before a0 Z = true) (w2 : (Cond.instanceMethod y').before a0 Z = true) (w3 : (Cond.initialized y'.cls).before a0 Z = true) (w4 : (Cond.code y' code' ml' none).before a0 Z = true)
    (hpl : plainFor y' = true) (hy : y'.cls ≠ "java/lang/invoke/MethodHandle" ∧ y'.cls ≠ "java/lang/invoke/VarHandle") (hlen : ∀ sig, parseMethodDescriptor y'.desc = some sig → argsL.length = sig.parameters.length) (hst : st = argsL.reverse ++ .ref a :: rest) (hent : ∀ m, entryFrame m (.ref a :: argsL).toArray ml' = mkF m 0 Ls' [])
    (P' : Heap → Prop) (G : Go l Z y' code' ml' none R' (QV P') 0 0 h 0 Ls' []) (W : Nat) (hsz : Ls.size = ml) (hW : (rest.map fun v => v.category).sum ≤ W) (hf : R'.frames + 1 ≤ R.frames) (hl : W + (ml' + 11) + R'.locals ≤ R.locals) (hk : k + R'.cells ≤ R.cells) (hN : n + R'.slots ≤ R.slots) (hq : pc + 3 = q)
    (g : ∀ h', P' h' → Go l Z y code ml ret R Q (k + R'.cells) (n + R'.slots) h' q Ls rest) : Go l Z y code ml ret R Q k n h pc Ls st := by
  subst hq
  intro p e s m args below meth c K T L k' n' X h1 h2 N hT
  obtain ⟨v, vm₁, ⟨T', L', k'', n''⟩, -, X', ⟨Lc, ⟨⟨rfl, hQ⟩, N'⟩, e1, e2, e3⟩, s'⟩ := X.specialBack K.1 hy1 K.2.2.2.1 (mvT K.2.2.1 w1) (mvT K.2.2.1 w2) (mvT K.2.2.1 w4) hy (backOf (W := W) (Q := fun v h L => QV P' v h ∧ Fr Z.heap.size L) (Go.met hpl hent G []) K.2.2.1 w4 w3 hf hl) (g := mkF m pc Ls st) rfl (hsz.trans K.2.2.2.2.1.symm) (Steps.refl _) (a := a) (argsL := argsL) (rest := rest) hlen hst (by show 2 * 0 + _ ≤ _; rw [Nat.mul_zero, Nat.zero_add]; exact hW) (hb K.2.1 hd) (fun _ _ => ⟨rfl, hT, Nat.le_trans (Nat.add_le_add_right h1 _) hk, Nat.le_trans (Nat.add_le_add_right h2 _) hN⟩)
  dsimp only [Pt.U, Pt.locs, Pt.cells, Pt.slots] at X' e1 e2 e3 s' hQ
  subst e1 e2 e3
  obtain ⟨v2, T2, L2, k2, n2, X2, b1, b2, N2, q2, hv, stp⟩ := g _ hQ p e s m args below meth c K T' _ _ _ X' (Nat.add_le_add_right h1 _) (Nat.add_le_add_right h2 _) (Fr.app N N') rfl
  exact ⟨v2, T2, L2, k2, n2, X2, b1, b2, N2, q2, hv, fun fs hl => s'.trans (stp fs hl)⟩
theorem Go.callV {a : Addr} {C : String} (argsL : List Value) (rest : List Value) (q : Nat) (hd : decode code pc = .ok (.invokevirtual i, 3)) (w1 : (Cond.methodLink y.cls i y').before a0 Z = true) (w1' : (Cond.declares y').before a0 Z = true) (w1s : (Cond.selects C y' y').before a0 Z = true) (w2 : (Cond.instanceMethod y').before a0 Z = true) (w3 : (Cond.initialized y'.cls).before a0 Z = true) (w4 : (Cond.code y' code' ml' ret').before a0 Z = true) (E : Exa Z h a C)
    (hpl : plainFor y' = true) (hy : y'.cls ≠ "java/lang/invoke/MethodHandle" ∧ y'.cls ≠ "java/lang/invoke/VarHandle") (hlen : ∀ sig, parseMethodDescriptor y'.desc = some sig → argsL.length = sig.parameters.length) (hst : st = argsL.reverse ++ .ref a :: rest) (hent : ∀ m, entryFrame m (.ref a :: argsL).toArray ml' = mkF m 0 Ls' [])
    (G : Go l Z y' code' ml' ret' R' Q' 0 0 h 0 Ls' []) (W : Nat) (hsz : Ls.size = ml) (hW : (rest.map fun v => v.category).sum ≤ W) (hf : R'.frames + 1 ≤ R.frames) (hl : W + (ml' + 11) + R'.locals ≤ R.locals) (hk : k + R'.cells ≤ R.cells) (hN : n + R'.slots ≤ R.slots) (hq : pc + 3 = q)
    (g : ∀ v h', Q' v h' → Go l Z y code ml ret R Q (k + R'.cells) (n + R'.slots) h' q Ls (v.toList ++ rest)) : Go l Z y code ml ret R Q k n h pc Ls st := by
  subst hq
  intro p e s m args below meth c K T L k' n' X h1 h2 N hT
  obtain ⟨cq, kq, qa, qb, qc⟩ := isOf K.2.2.1 hT E
  obtain ⟨v, vm₁, ⟨T', L', k'', n''⟩, -, X', ⟨Lc, ⟨hQ, N'⟩, e1, e2, e3⟩, s'⟩ := X.virtualBack K.1 K.2.2.2.1 (mvT K.2.2.1 w1) (mvT K.2.2.1 w1') (notFace_of_selects (args := #[]) (mvT K.2.2.1 w1s)) (mvT K.2.2.1 w1s) (mvT K.2.2.1 w2) hy (backOf (W := W) (Q := fun v h L => Q' v h ∧ Fr Z.heap.size L) (Go.met hpl hent G []) K.2.2.1 w4 w3 hf hl) qa qc (g := mkF m pc Ls st) rfl (hsz.trans K.2.2.2.2.1.symm) (Steps.refl _) (argsL := argsL) (rest := rest) hlen hst (by show 2 * 0 + _ ≤ _; rw [Nat.mul_zero, Nat.zero_add]; exact hW) (hb K.2.1 hd) (fun _ _ => ⟨rfl, hT, Nat.le_trans (Nat.add_le_add_right h1 _) hk, Nat.le_trans (Nat.add_le_add_right h2 _) hN⟩)
  dsimp only [Pt.U, Pt.locs, Pt.cells, Pt.slots] at X' e1 e2 e3 s' hQ
  subst e1 e2 e3
  obtain ⟨v2, T2, L2, k2, n2, X2, b1, b2, N2, q2, hv, stp⟩ := g v _ hQ p e s m args below meth c K T' _ _ _ X' (Nat.add_le_add_right h1 _) (Nat.add_le_add_right h2 _) (Fr.app N N') rfl
  exact ⟨v2, T2, L2, k2, n2, X2, b1, b2, N2, q2, hv, fun fs hl => s'.trans (stp fs hl)⟩
theorem Go.callCp {a : Addr} (argsL : List Value) (rest : List Value) (q : Nat) (hd : decode code pc = .ok (.invokespecial i, 3)) (hy1 : y'.name = "<init>") (w1 : (Cond.methodLink y.cls i y').before a0 Z = true) (w2 : (Cond.instanceMethod y').before a0 Z = true) (w3 : (Cond.initialized y'.cls).before a0 Z = true) (w4 : (Cond.code y' code' ml' none).before a0 Z = true)
    (hpl : plainFor y' = true) (hy : y'.cls ≠ "java/lang/invoke/MethodHandle" ∧ y'.cls ≠ "java/lang/invoke/VarHandle") (hlen : ∀ sig, parseMethodDescriptor y'.desc = some sig → argsL.length = sig.parameters.length) (hst : st = argsL.reverse ++ .ref a :: rest) (hent : ∀ m, entryFrame m (.ref a :: argsL).toArray ml' = mkF m 0 Ls' [])
    (G : Go l Z y' code' ml' none R' (QV fun h' => h' = h) 0 0 h 0 Ls' []) (W : Nat) (hsz : Ls.size = ml) (hW : (rest.map fun v => v.category).sum ≤ W) (hf : R'.frames + 1 ≤ R.frames) (hl : W + (ml' + 11) + R'.locals ≤ R.locals) (hk : k + R'.cells ≤ R.cells) (hN : n + R'.slots ≤ R.slots) (hq : pc + 3 = q)
    (g : Go l Z y code ml ret R Q (k + R'.cells) (n + R'.slots) h q Ls rest) : Go l Z y code ml ret R Q k n h pc Ls st :=
  Go.callC argsL rest q hd hy1 w1 w2 w3 w4 hpl hy hlen hst hent _ G W hsz hW hf hl hk hN hq (fun h' e => by subst e; exact g)
end Calls

section
variable {y' : MethodName} {code' : ByteArray} {ml' : Nat} {ret' : Option FieldType} {R' : Room} {Ls' : Array Slot} {i : Nat}
theorem Go.callSI (argsL : List Value) (rest : List Value) (q : Nat) (hd : decode code pc = .ok (.invokestatic i, 3)) (w1 : (Cond.methodLink y.cls i y').before a0 Z = true) (w2 : (Cond.static y').before a0 Z = true) (w3 : (Cond.initialized y'.cls).before a0 Z = true) (w4 : (Cond.code y' code' ml' ret').before a0 Z = true)
    (hpl : plainFor y' = true) (hy : y'.cls ≠ "java/lang/invoke/MethodHandle" ∧ y'.cls ≠ "java/lang/invoke/VarHandle") (hlen : ∀ sig, parseMethodDescriptor y'.desc = some sig → argsL.length = sig.parameters.length) (hst : st = argsL.reverse ++ rest) (hent : ∀ m, entryFrame m argsL.toArray ml' = mkF m 0 Ls' [])
    (P' : Int32 → Heap → Prop) (G : Go l Z y' code' ml' ret' R' (QI P') 0 0 h 0 Ls' []) (W : Nat) (hsz : Ls.size = ml) (hW : (rest.map fun v => v.category).sum ≤ W) (hf : R'.frames + 1 ≤ R.frames) (hl : W + (ml' + 11) + R'.locals ≤ R.locals) (hk : k + R'.cells ≤ R.cells) (hN : n + R'.slots ≤ R.slots) (hq : pc + 3 = q)
    (g : ∀ (z : Int32) h', P' z h' → Go l Z y code ml ret R Q (k + R'.cells) (n + R'.slots) h' q Ls (.int z :: rest)) : Go l Z y code ml ret R Q k n h pc Ls st := by
  exact Go.callS argsL rest q hd w1 w2 w3 w4 hpl hy hlen hst hent G W hsz hW hf hl hk hN hq (fun v h' hq' => by obtain ⟨z, e, hp⟩ := hq'; subst e; exact g z h' hp)
end
section
variable {y' : MethodName} {code' : ByteArray} {ml' : Nat} {ret' : Option FieldType} {R' : Room} {Ls' : Array Slot} {i : Nat}
theorem Go.callSIp (argsL : List Value) (rest : List Value) (q : Nat) (hd : decode code pc = .ok (.invokestatic i, 3)) (w1 : (Cond.methodLink y.cls i y').before a0 Z = true) (w2 : (Cond.static y').before a0 Z = true) (w3 : (Cond.initialized y'.cls).before a0 Z = true) (w4 : (Cond.code y' code' ml' ret').before a0 Z = true)
    (hpl : plainFor y' = true) (hy : y'.cls ≠ "java/lang/invoke/MethodHandle" ∧ y'.cls ≠ "java/lang/invoke/VarHandle") (hlen : ∀ sig, parseMethodDescriptor y'.desc = some sig → argsL.length = sig.parameters.length) (hst : st = argsL.reverse ++ rest) (hent : ∀ m, entryFrame m argsL.toArray ml' = mkF m 0 Ls' [])
    (F : Int32) (G : Go l Z y' code' ml' ret' R' (QI fun z h' => z = F ∧ h' = h) 0 0 h 0 Ls' []) (W : Nat) (hsz : Ls.size = ml) (hW : (rest.map fun v => v.category).sum ≤ W) (hf : R'.frames + 1 ≤ R.frames) (hl : W + (ml' + 11) + R'.locals ≤ R.locals) (hk : k + R'.cells ≤ R.cells) (hN : n + R'.slots ≤ R.slots) (hq : pc + 3 = q)
    (g : Go l Z y code ml ret R Q (k + R'.cells) (n + R'.slots) h q Ls (.int F :: rest)) : Go l Z y code ml ret R Q k n h pc Ls st := by
  exact Go.callS argsL rest q hd w1 w2 w3 w4 hpl hy hlen hst hent G W hsz hW hf hl hk hN hq (fun v h' hq' => by obtain ⟨z, e, hp, hh⟩ := hq'; subst e; subst hh; rw [hp]; exact g)
end
section
variable {y' : MethodName} {code' : ByteArray} {ml' : Nat} {ret' : Option FieldType} {R' : Room} {Ls' : Array Slot} {i : Nat}
theorem Go.callSIe (argsL : List Value) (rest : List Value) (q : Nat) (hd : decode code pc = .ok (.invokestatic i, 3)) (w1 : (Cond.methodLink y.cls i y').before a0 Z = true) (w2 : (Cond.static y').before a0 Z = true) (w3 : (Cond.initialized y'.cls).before a0 Z = true) (w4 : (Cond.code y' code' ml' ret').before a0 Z = true)
    (hpl : plainFor y' = true) (hy : y'.cls ≠ "java/lang/invoke/MethodHandle" ∧ y'.cls ≠ "java/lang/invoke/VarHandle") (hlen : ∀ sig, parseMethodDescriptor y'.desc = some sig → argsL.length = sig.parameters.length) (hst : st = argsL.reverse ++ rest) (hent : ∀ m, entryFrame m argsL.toArray ml' = mkF m 0 Ls' [])
    (F : Int32) (P' : Heap → Prop) (G : Go l Z y' code' ml' ret' R' (QI fun z h' => z = F ∧ P' h') 0 0 h 0 Ls' []) (W : Nat) (hsz : Ls.size = ml) (hW : (rest.map fun v => v.category).sum ≤ W) (hf : R'.frames + 1 ≤ R.frames) (hl : W + (ml' + 11) + R'.locals ≤ R.locals) (hk : k + R'.cells ≤ R.cells) (hN : n + R'.slots ≤ R.slots) (hq : pc + 3 = q)
    (g : ∀ h', P' h' → Go l Z y code ml ret R Q (k + R'.cells) (n + R'.slots) h' q Ls (.int F :: rest)) : Go l Z y code ml ret R Q k n h pc Ls st := by
  exact Go.callS argsL rest q hd w1 w2 w3 w4 hpl hy hlen hst hent G W hsz hW hf hl hk hN hq (fun v h' hq' => by obtain ⟨z, e, hp, hh⟩ := hq'; subst e; rw [hp]; exact g h' hh)
end
section
variable {y' : MethodName} {code' : ByteArray} {ml' : Nat} {ret' : Option FieldType} {R' : Room} {Ls' : Array Slot} {i : Nat}
theorem Go.callSJ (argsL : List Value) (rest : List Value) (q : Nat) (hd : decode code pc = .ok (.invokestatic i, 3)) (w1 : (Cond.methodLink y.cls i y').before a0 Z = true) (w2 : (Cond.static y').before a0 Z = true) (w3 : (Cond.initialized y'.cls).before a0 Z = true) (w4 : (Cond.code y' code' ml' ret').before a0 Z = true)
    (hpl : plainFor y' = true) (hy : y'.cls ≠ "java/lang/invoke/MethodHandle" ∧ y'.cls ≠ "java/lang/invoke/VarHandle") (hlen : ∀ sig, parseMethodDescriptor y'.desc = some sig → argsL.length = sig.parameters.length) (hst : st = argsL.reverse ++ rest) (hent : ∀ m, entryFrame m argsL.toArray ml' = mkF m 0 Ls' [])
    (P' : Int64 → Heap → Prop) (G : Go l Z y' code' ml' ret' R' (QJ P') 0 0 h 0 Ls' []) (W : Nat) (hsz : Ls.size = ml) (hW : (rest.map fun v => v.category).sum ≤ W) (hf : R'.frames + 1 ≤ R.frames) (hl : W + (ml' + 11) + R'.locals ≤ R.locals) (hk : k + R'.cells ≤ R.cells) (hN : n + R'.slots ≤ R.slots) (hq : pc + 3 = q)
    (g : ∀ (z : Int64) h', P' z h' → Go l Z y code ml ret R Q (k + R'.cells) (n + R'.slots) h' q Ls (.long z :: rest)) : Go l Z y code ml ret R Q k n h pc Ls st := by
  exact Go.callS argsL rest q hd w1 w2 w3 w4 hpl hy hlen hst hent G W hsz hW hf hl hk hN hq (fun v h' hq' => by obtain ⟨z, e, hp⟩ := hq'; subst e; exact g z h' hp)
end
section
variable {y' : MethodName} {code' : ByteArray} {ml' : Nat} {ret' : Option FieldType} {R' : Room} {Ls' : Array Slot} {i : Nat}
theorem Go.callSJp (argsL : List Value) (rest : List Value) (q : Nat) (hd : decode code pc = .ok (.invokestatic i, 3)) (w1 : (Cond.methodLink y.cls i y').before a0 Z = true) (w2 : (Cond.static y').before a0 Z = true) (w3 : (Cond.initialized y'.cls).before a0 Z = true) (w4 : (Cond.code y' code' ml' ret').before a0 Z = true)
    (hpl : plainFor y' = true) (hy : y'.cls ≠ "java/lang/invoke/MethodHandle" ∧ y'.cls ≠ "java/lang/invoke/VarHandle") (hlen : ∀ sig, parseMethodDescriptor y'.desc = some sig → argsL.length = sig.parameters.length) (hst : st = argsL.reverse ++ rest) (hent : ∀ m, entryFrame m argsL.toArray ml' = mkF m 0 Ls' [])
    (F : Int64) (G : Go l Z y' code' ml' ret' R' (QJ fun z h' => z = F ∧ h' = h) 0 0 h 0 Ls' []) (W : Nat) (hsz : Ls.size = ml) (hW : (rest.map fun v => v.category).sum ≤ W) (hf : R'.frames + 1 ≤ R.frames) (hl : W + (ml' + 11) + R'.locals ≤ R.locals) (hk : k + R'.cells ≤ R.cells) (hN : n + R'.slots ≤ R.slots) (hq : pc + 3 = q)
    (g : Go l Z y code ml ret R Q (k + R'.cells) (n + R'.slots) h q Ls (.long F :: rest)) : Go l Z y code ml ret R Q k n h pc Ls st := by
  exact Go.callS argsL rest q hd w1 w2 w3 w4 hpl hy hlen hst hent G W hsz hW hf hl hk hN hq (fun v h' hq' => by obtain ⟨z, e, hp, hh⟩ := hq'; subst e; subst hh; rw [hp]; exact g)
end
section
variable {y' : MethodName} {code' : ByteArray} {ml' : Nat} {ret' : Option FieldType} {R' : Room} {Ls' : Array Slot} {i : Nat}
theorem Go.callSJe (argsL : List Value) (rest : List Value) (q : Nat) (hd : decode code pc = .ok (.invokestatic i, 3)) (w1 : (Cond.methodLink y.cls i y').before a0 Z = true) (w2 : (Cond.static y').before a0 Z = true) (w3 : (Cond.initialized y'.cls).before a0 Z = true) (w4 : (Cond.code y' code' ml' ret').before a0 Z = true)
    (hpl : plainFor y' = true) (hy : y'.cls ≠ "java/lang/invoke/MethodHandle" ∧ y'.cls ≠ "java/lang/invoke/VarHandle") (hlen : ∀ sig, parseMethodDescriptor y'.desc = some sig → argsL.length = sig.parameters.length) (hst : st = argsL.reverse ++ rest) (hent : ∀ m, entryFrame m argsL.toArray ml' = mkF m 0 Ls' [])
    (F : Int64) (P' : Heap → Prop) (G : Go l Z y' code' ml' ret' R' (QJ fun z h' => z = F ∧ P' h') 0 0 h 0 Ls' []) (W : Nat) (hsz : Ls.size = ml) (hW : (rest.map fun v => v.category).sum ≤ W) (hf : R'.frames + 1 ≤ R.frames) (hl : W + (ml' + 11) + R'.locals ≤ R.locals) (hk : k + R'.cells ≤ R.cells) (hN : n + R'.slots ≤ R.slots) (hq : pc + 3 = q)
    (g : ∀ h', P' h' → Go l Z y code ml ret R Q (k + R'.cells) (n + R'.slots) h' q Ls (.long F :: rest)) : Go l Z y code ml ret R Q k n h pc Ls st := by
  exact Go.callS argsL rest q hd w1 w2 w3 w4 hpl hy hlen hst hent G W hsz hW hf hl hk hN hq (fun v h' hq' => by obtain ⟨z, e, hp, hh⟩ := hq'; subst e; rw [hp]; exact g h' hh)
end
section
variable {y' : MethodName} {code' : ByteArray} {ml' : Nat} {ret' : Option FieldType} {R' : Room} {Ls' : Array Slot} {i : Nat}
theorem Go.callSR (argsL : List Value) (rest : List Value) (q : Nat) (hd : decode code pc = .ok (.invokestatic i, 3)) (w1 : (Cond.methodLink y.cls i y').before a0 Z = true) (w2 : (Cond.static y').before a0 Z = true) (w3 : (Cond.initialized y'.cls).before a0 Z = true) (w4 : (Cond.code y' code' ml' ret').before a0 Z = true)
    (hpl : plainFor y' = true) (hy : y'.cls ≠ "java/lang/invoke/MethodHandle" ∧ y'.cls ≠ "java/lang/invoke/VarHandle") (hlen : ∀ sig, parseMethodDescriptor y'.desc = some sig → argsL.length = sig.parameters.length) (hst : st = argsL.reverse ++ rest) (hent : ∀ m, entryFrame m argsL.toArray ml' = mkF m 0 Ls' [])
    (P' : Value → Heap → Prop) (G : Go l Z y' code' ml' ret' R' (QR P') 0 0 h 0 Ls' []) (W : Nat) (hsz : Ls.size = ml) (hW : (rest.map fun v => v.category).sum ≤ W) (hf : R'.frames + 1 ≤ R.frames) (hl : W + (ml' + 11) + R'.locals ≤ R.locals) (hk : k + R'.cells ≤ R.cells) (hN : n + R'.slots ≤ R.slots) (hq : pc + 3 = q)
    (g : ∀ (z : Value) h', P' z h' → Go l Z y code ml ret R Q (k + R'.cells) (n + R'.slots) h' q Ls ( z :: rest)) : Go l Z y code ml ret R Q k n h pc Ls st := by
  exact Go.callS argsL rest q hd w1 w2 w3 w4 hpl hy hlen hst hent G W hsz hW hf hl hk hN hq (fun v h' hq' => by obtain ⟨z, e, hp⟩ := hq'; subst e; exact g z h' hp)
end
section
variable {y' : MethodName} {code' : ByteArray} {ml' : Nat} {ret' : Option FieldType} {R' : Room} {Ls' : Array Slot} {i : Nat}
theorem Go.callSRp (argsL : List Value) (rest : List Value) (q : Nat) (hd : decode code pc = .ok (.invokestatic i, 3)) (w1 : (Cond.methodLink y.cls i y').before a0 Z = true) (w2 : (Cond.static y').before a0 Z = true) (w3 : (Cond.initialized y'.cls).before a0 Z = true) (w4 : (Cond.code y' code' ml' ret').before a0 Z = true)
    (hpl : plainFor y' = true) (hy : y'.cls ≠ "java/lang/invoke/MethodHandle" ∧ y'.cls ≠ "java/lang/invoke/VarHandle") (hlen : ∀ sig, parseMethodDescriptor y'.desc = some sig → argsL.length = sig.parameters.length) (hst : st = argsL.reverse ++ rest) (hent : ∀ m, entryFrame m argsL.toArray ml' = mkF m 0 Ls' [])
    (F : Value) (G : Go l Z y' code' ml' ret' R' (QR fun z h' => z = F ∧ h' = h) 0 0 h 0 Ls' []) (W : Nat) (hsz : Ls.size = ml) (hW : (rest.map fun v => v.category).sum ≤ W) (hf : R'.frames + 1 ≤ R.frames) (hl : W + (ml' + 11) + R'.locals ≤ R.locals) (hk : k + R'.cells ≤ R.cells) (hN : n + R'.slots ≤ R.slots) (hq : pc + 3 = q)
    (g : Go l Z y code ml ret R Q (k + R'.cells) (n + R'.slots) h q Ls ( F :: rest)) : Go l Z y code ml ret R Q k n h pc Ls st := by
  exact Go.callS argsL rest q hd w1 w2 w3 w4 hpl hy hlen hst hent G W hsz hW hf hl hk hN hq (fun v h' hq' => by obtain ⟨z, e, hp, hh⟩ := hq'; subst e; subst hh; rw [hp]; exact g)
end
section
variable {y' : MethodName} {code' : ByteArray} {ml' : Nat} {ret' : Option FieldType} {R' : Room} {Ls' : Array Slot} {i : Nat}
theorem Go.callSRe (argsL : List Value) (rest : List Value) (q : Nat) (hd : decode code pc = .ok (.invokestatic i, 3)) (w1 : (Cond.methodLink y.cls i y').before a0 Z = true) (w2 : (Cond.static y').before a0 Z = true) (w3 : (Cond.initialized y'.cls).before a0 Z = true) (w4 : (Cond.code y' code' ml' ret').before a0 Z = true)
    (hpl : plainFor y' = true) (hy : y'.cls ≠ "java/lang/invoke/MethodHandle" ∧ y'.cls ≠ "java/lang/invoke/VarHandle") (hlen : ∀ sig, parseMethodDescriptor y'.desc = some sig → argsL.length = sig.parameters.length) (hst : st = argsL.reverse ++ rest) (hent : ∀ m, entryFrame m argsL.toArray ml' = mkF m 0 Ls' [])
    (F : Value) (P' : Heap → Prop) (G : Go l Z y' code' ml' ret' R' (QR fun z h' => z = F ∧ P' h') 0 0 h 0 Ls' []) (W : Nat) (hsz : Ls.size = ml) (hW : (rest.map fun v => v.category).sum ≤ W) (hf : R'.frames + 1 ≤ R.frames) (hl : W + (ml' + 11) + R'.locals ≤ R.locals) (hk : k + R'.cells ≤ R.cells) (hN : n + R'.slots ≤ R.slots) (hq : pc + 3 = q)
    (g : ∀ h', P' h' → Go l Z y code ml ret R Q (k + R'.cells) (n + R'.slots) h' q Ls ( F :: rest)) : Go l Z y code ml ret R Q k n h pc Ls st := by
  exact Go.callS argsL rest q hd w1 w2 w3 w4 hpl hy hlen hst hent G W hsz hW hf hl hk hN hq (fun v h' hq' => by obtain ⟨z, e, hp, hh⟩ := hq'; subst e; rw [hp]; exact g h' hh)
end
section
variable {y' : MethodName} {code' : ByteArray} {ml' : Nat} {ret' : Option FieldType} {R' : Room} {Ls' : Array Slot} {i : Nat}
theorem Go.callSV (argsL : List Value) (rest : List Value) (q : Nat) (hd : decode code pc = .ok (.invokestatic i, 3)) (w1 : (Cond.methodLink y.cls i y').before a0 Z = true) (w2 : (Cond.static y').before a0 Z = true) (w3 : (Cond.initialized y'.cls).before a0 Z = true) (w4 : (Cond.code y' code' ml' ret').before a0 Z = true)
    (hpl : plainFor y' = true) (hy : y'.cls ≠ "java/lang/invoke/MethodHandle" ∧ y'.cls ≠ "java/lang/invoke/VarHandle") (hlen : ∀ sig, parseMethodDescriptor y'.desc = some sig → argsL.length = sig.parameters.length) (hst : st = argsL.reverse ++ rest) (hent : ∀ m, entryFrame m argsL.toArray ml' = mkF m 0 Ls' [])
    (P' : Heap → Prop) (G : Go l Z y' code' ml' ret' R' (QV P') 0 0 h 0 Ls' []) (W : Nat) (hsz : Ls.size = ml) (hW : (rest.map fun v => v.category).sum ≤ W) (hf : R'.frames + 1 ≤ R.frames) (hl : W + (ml' + 11) + R'.locals ≤ R.locals) (hk : k + R'.cells ≤ R.cells) (hN : n + R'.slots ≤ R.slots) (hq : pc + 3 = q)
    (g : ∀ h', P' h' → Go l Z y code ml ret R Q (k + R'.cells) (n + R'.slots) h' q Ls rest) : Go l Z y code ml ret R Q k n h pc Ls st := by
  exact Go.callS argsL rest q hd w1 w2 w3 w4 hpl hy hlen hst hent G W hsz hW hf hl hk hN hq (fun v h' hq' => by obtain ⟨e, hp⟩ := hq'; subst e; exact g h' hp)
end
section
variable {y' : MethodName} {code' : ByteArray} {ml' : Nat} {ret' : Option FieldType} {R' : Room} {Ls' : Array Slot} {i : Nat}
theorem Go.callSVp (argsL : List Value) (rest : List Value) (q : Nat) (hd : decode code pc = .ok (.invokestatic i, 3)) (w1 : (Cond.methodLink y.cls i y').before a0 Z = true) (w2 : (Cond.static y').before a0 Z = true) (w3 : (Cond.initialized y'.cls).before a0 Z = true) (w4 : (Cond.code y' code' ml' ret').before a0 Z = true)
    (hpl : plainFor y' = true) (hy : y'.cls ≠ "java/lang/invoke/MethodHandle" ∧ y'.cls ≠ "java/lang/invoke/VarHandle") (hlen : ∀ sig, parseMethodDescriptor y'.desc = some sig → argsL.length = sig.parameters.length) (hst : st = argsL.reverse ++ rest) (hent : ∀ m, entryFrame m argsL.toArray ml' = mkF m 0 Ls' [])
    (G : Go l Z y' code' ml' ret' R' (QV fun h' => h' = h) 0 0 h 0 Ls' []) (W : Nat) (hsz : Ls.size = ml) (hW : (rest.map fun v => v.category).sum ≤ W) (hf : R'.frames + 1 ≤ R.frames) (hl : W + (ml' + 11) + R'.locals ≤ R.locals) (hk : k + R'.cells ≤ R.cells) (hN : n + R'.slots ≤ R.slots) (hq : pc + 3 = q)
    (g : Go l Z y code ml ret R Q (k + R'.cells) (n + R'.slots) h q Ls rest) : Go l Z y code ml ret R Q k n h pc Ls st := by
  exact Go.callS argsL rest q hd w1 w2 w3 w4 hpl hy hlen hst hent G W hsz hW hf hl hk hN hq (fun v h' hq' => by obtain ⟨e, hp⟩ := hq'; subst e; subst hp; exact g)
end
section
variable {y' : MethodName} {code' : ByteArray} {ml' : Nat} {ret' : Option FieldType} {R' : Room} {Ls' : Array Slot} {i : Nat}
theorem Go.callVI {a : Addr} {C : String} (argsL : List Value) (rest : List Value) (q : Nat) (hd : decode code pc = .ok (.invokevirtual i, 3)) (w1 : (Cond.methodLink y.cls i y').before a0 Z = true) (w1' : (Cond.declares y').before a0 Z = true) (w1s : (Cond.selects C y' y').before a0 Z = true) (w2 : (Cond.instanceMethod y').before a0 Z = true) (w3 : (Cond.initialized y'.cls).before a0 Z = true) (w4 : (Cond.code y' code' ml' ret').before a0 Z = true) (E : Exa Z h a C)
    (hpl : plainFor y' = true) (hy : y'.cls ≠ "java/lang/invoke/MethodHandle" ∧ y'.cls ≠ "java/lang/invoke/VarHandle") (hlen : ∀ sig, parseMethodDescriptor y'.desc = some sig → argsL.length = sig.parameters.length) (hst : st = argsL.reverse ++ .ref a :: rest) (hent : ∀ m, entryFrame m (.ref a :: argsL).toArray ml' = mkF m 0 Ls' [])
    (P' : Int32 → Heap → Prop) (G : Go l Z y' code' ml' ret' R' (QI P') 0 0 h 0 Ls' []) (W : Nat) (hsz : Ls.size = ml) (hW : (rest.map fun v => v.category).sum ≤ W) (hf : R'.frames + 1 ≤ R.frames) (hl : W + (ml' + 11) + R'.locals ≤ R.locals) (hk : k + R'.cells ≤ R.cells) (hN : n + R'.slots ≤ R.slots) (hq : pc + 3 = q)
    (g : ∀ (z : Int32) h', P' z h' → Go l Z y code ml ret R Q (k + R'.cells) (n + R'.slots) h' q Ls (.int z :: rest)) : Go l Z y code ml ret R Q k n h pc Ls st := by
  exact Go.callV argsL rest q hd w1 w1' w1s w2 w3 w4 E hpl hy hlen hst hent G W hsz hW hf hl hk hN hq (fun v h' hq' => by obtain ⟨z, e, hp⟩ := hq'; subst e; exact g z h' hp)
end
section
variable {y' : MethodName} {code' : ByteArray} {ml' : Nat} {ret' : Option FieldType} {R' : Room} {Ls' : Array Slot} {i : Nat}
theorem Go.callVIp {a : Addr} {C : String} (argsL : List Value) (rest : List Value) (q : Nat) (hd : decode code pc = .ok (.invokevirtual i, 3)) (w1 : (Cond.methodLink y.cls i y').before a0 Z = true) (w1' : (Cond.declares y').before a0 Z = true) (w1s : (Cond.selects C y' y').before a0 Z = true) (w2 : (Cond.instanceMethod y').before a0 Z = true) (w3 : (Cond.initialized y'.cls).before a0 Z = true) (w4 : (Cond.code y' code' ml' ret').before a0 Z = true) (E : Exa Z h a C)
    (hpl : plainFor y' = true) (hy : y'.cls ≠ "java/lang/invoke/MethodHandle" ∧ y'.cls ≠ "java/lang/invoke/VarHandle") (hlen : ∀ sig, parseMethodDescriptor y'.desc = some sig → argsL.length = sig.parameters.length) (hst : st = argsL.reverse ++ .ref a :: rest) (hent : ∀ m, entryFrame m (.ref a :: argsL).toArray ml' = mkF m 0 Ls' [])
    (F : Int32) (G : Go l Z y' code' ml' ret' R' (QI fun z h' => z = F ∧ h' = h) 0 0 h 0 Ls' []) (W : Nat) (hsz : Ls.size = ml) (hW : (rest.map fun v => v.category).sum ≤ W) (hf : R'.frames + 1 ≤ R.frames) (hl : W + (ml' + 11) + R'.locals ≤ R.locals) (hk : k + R'.cells ≤ R.cells) (hN : n + R'.slots ≤ R.slots) (hq : pc + 3 = q)
    (g : Go l Z y code ml ret R Q (k + R'.cells) (n + R'.slots) h q Ls (.int F :: rest)) : Go l Z y code ml ret R Q k n h pc Ls st := by
  exact Go.callV argsL rest q hd w1 w1' w1s w2 w3 w4 E hpl hy hlen hst hent G W hsz hW hf hl hk hN hq (fun v h' hq' => by obtain ⟨z, e, hp, hh⟩ := hq'; subst e; subst hh; rw [hp]; exact g)
end
section
variable {y' : MethodName} {code' : ByteArray} {ml' : Nat} {ret' : Option FieldType} {R' : Room} {Ls' : Array Slot} {i : Nat}
theorem Go.callVIe {a : Addr} {C : String} (argsL : List Value) (rest : List Value) (q : Nat) (hd : decode code pc = .ok (.invokevirtual i, 3)) (w1 : (Cond.methodLink y.cls i y').before a0 Z = true) (w1' : (Cond.declares y').before a0 Z = true) (w1s : (Cond.selects C y' y').before a0 Z = true) (w2 : (Cond.instanceMethod y').before a0 Z = true) (w3 : (Cond.initialized y'.cls).before a0 Z = true) (w4 : (Cond.code y' code' ml' ret').before a0 Z = true) (E : Exa Z h a C)
    (hpl : plainFor y' = true) (hy : y'.cls ≠ "java/lang/invoke/MethodHandle" ∧ y'.cls ≠ "java/lang/invoke/VarHandle") (hlen : ∀ sig, parseMethodDescriptor y'.desc = some sig → argsL.length = sig.parameters.length) (hst : st = argsL.reverse ++ .ref a :: rest) (hent : ∀ m, entryFrame m (.ref a :: argsL).toArray ml' = mkF m 0 Ls' [])
    (F : Int32) (P' : Heap → Prop) (G : Go l Z y' code' ml' ret' R' (QI fun z h' => z = F ∧ P' h') 0 0 h 0 Ls' []) (W : Nat) (hsz : Ls.size = ml) (hW : (rest.map fun v => v.category).sum ≤ W) (hf : R'.frames + 1 ≤ R.frames) (hl : W + (ml' + 11) + R'.locals ≤ R.locals) (hk : k + R'.cells ≤ R.cells) (hN : n + R'.slots ≤ R.slots) (hq : pc + 3 = q)
    (g : ∀ h', P' h' → Go l Z y code ml ret R Q (k + R'.cells) (n + R'.slots) h' q Ls (.int F :: rest)) : Go l Z y code ml ret R Q k n h pc Ls st := by
  exact Go.callV argsL rest q hd w1 w1' w1s w2 w3 w4 E hpl hy hlen hst hent G W hsz hW hf hl hk hN hq (fun v h' hq' => by obtain ⟨z, e, hp, hh⟩ := hq'; subst e; rw [hp]; exact g h' hh)
end
section
variable {y' : MethodName} {code' : ByteArray} {ml' : Nat} {ret' : Option FieldType} {R' : Room} {Ls' : Array Slot} {i : Nat}
theorem Go.callVJ {a : Addr} {C : String} (argsL : List Value) (rest : List Value) (q : Nat) (hd : decode code pc = .ok (.invokevirtual i, 3)) (w1 : (Cond.methodLink y.cls i y').before a0 Z = true) (w1' : (Cond.declares y').before a0 Z = true) (w1s : (Cond.selects C y' y').before a0 Z = true) (w2 : (Cond.instanceMethod y').before a0 Z = true) (w3 : (Cond.initialized y'.cls).before a0 Z = true) (w4 : (Cond.code y' code' ml' ret').before a0 Z = true) (E : Exa Z h a C)
    (hpl : plainFor y' = true) (hy : y'.cls ≠ "java/lang/invoke/MethodHandle" ∧ y'.cls ≠ "java/lang/invoke/VarHandle") (hlen : ∀ sig, parseMethodDescriptor y'.desc = some sig → argsL.length = sig.parameters.length) (hst : st = argsL.reverse ++ .ref a :: rest) (hent : ∀ m, entryFrame m (.ref a :: argsL).toArray ml' = mkF m 0 Ls' [])
    (P' : Int64 → Heap → Prop) (G : Go l Z y' code' ml' ret' R' (QJ P') 0 0 h 0 Ls' []) (W : Nat) (hsz : Ls.size = ml) (hW : (rest.map fun v => v.category).sum ≤ W) (hf : R'.frames + 1 ≤ R.frames) (hl : W + (ml' + 11) + R'.locals ≤ R.locals) (hk : k + R'.cells ≤ R.cells) (hN : n + R'.slots ≤ R.slots) (hq : pc + 3 = q)
    (g : ∀ (z : Int64) h', P' z h' → Go l Z y code ml ret R Q (k + R'.cells) (n + R'.slots) h' q Ls (.long z :: rest)) : Go l Z y code ml ret R Q k n h pc Ls st := by
  exact Go.callV argsL rest q hd w1 w1' w1s w2 w3 w4 E hpl hy hlen hst hent G W hsz hW hf hl hk hN hq (fun v h' hq' => by obtain ⟨z, e, hp⟩ := hq'; subst e; exact g z h' hp)
end
section
variable {y' : MethodName} {code' : ByteArray} {ml' : Nat} {ret' : Option FieldType} {R' : Room} {Ls' : Array Slot} {i : Nat}
theorem Go.callVJp {a : Addr} {C : String} (argsL : List Value) (rest : List Value) (q : Nat) (hd : decode code pc = .ok (.invokevirtual i, 3)) (w1 : (Cond.methodLink y.cls i y').before a0 Z = true) (w1' : (Cond.declares y').before a0 Z = true) (w1s : (Cond.selects C y' y').before a0 Z = true) (w2 : (Cond.instanceMethod y').before a0 Z = true) (w3 : (Cond.initialized y'.cls).before a0 Z = true) (w4 : (Cond.code y' code' ml' ret').before a0 Z = true) (E : Exa Z h a C)
    (hpl : plainFor y' = true) (hy : y'.cls ≠ "java/lang/invoke/MethodHandle" ∧ y'.cls ≠ "java/lang/invoke/VarHandle") (hlen : ∀ sig, parseMethodDescriptor y'.desc = some sig → argsL.length = sig.parameters.length) (hst : st = argsL.reverse ++ .ref a :: rest) (hent : ∀ m, entryFrame m (.ref a :: argsL).toArray ml' = mkF m 0 Ls' [])
    (F : Int64) (G : Go l Z y' code' ml' ret' R' (QJ fun z h' => z = F ∧ h' = h) 0 0 h 0 Ls' []) (W : Nat) (hsz : Ls.size = ml) (hW : (rest.map fun v => v.category).sum ≤ W) (hf : R'.frames + 1 ≤ R.frames) (hl : W + (ml' + 11) + R'.locals ≤ R.locals) (hk : k + R'.cells ≤ R.cells) (hN : n + R'.slots ≤ R.slots) (hq : pc + 3 = q)
    (g : Go l Z y code ml ret R Q (k + R'.cells) (n + R'.slots) h q Ls (.long F :: rest)) : Go l Z y code ml ret R Q k n h pc Ls st := by
  exact Go.callV argsL rest q hd w1 w1' w1s w2 w3 w4 E hpl hy hlen hst hent G W hsz hW hf hl hk hN hq (fun v h' hq' => by obtain ⟨z, e, hp, hh⟩ := hq'; subst e; subst hh; rw [hp]; exact g)
end
section
variable {y' : MethodName} {code' : ByteArray} {ml' : Nat} {ret' : Option FieldType} {R' : Room} {Ls' : Array Slot} {i : Nat}
theorem Go.callVJe {a : Addr} {C : String} (argsL : List Value) (rest : List Value) (q : Nat) (hd : decode code pc = .ok (.invokevirtual i, 3)) (w1 : (Cond.methodLink y.cls i y').before a0 Z = true) (w1' : (Cond.declares y').before a0 Z = true) (w1s : (Cond.selects C y' y').before a0 Z = true) (w2 : (Cond.instanceMethod y').before a0 Z = true) (w3 : (Cond.initialized y'.cls).before a0 Z = true) (w4 : (Cond.code y' code' ml' ret').before a0 Z = true) (E : Exa Z h a C)
    (hpl : plainFor y' = true) (hy : y'.cls ≠ "java/lang/invoke/MethodHandle" ∧ y'.cls ≠ "java/lang/invoke/VarHandle") (hlen : ∀ sig, parseMethodDescriptor y'.desc = some sig → argsL.length = sig.parameters.length) (hst : st = argsL.reverse ++ .ref a :: rest) (hent : ∀ m, entryFrame m (.ref a :: argsL).toArray ml' = mkF m 0 Ls' [])
    (F : Int64) (P' : Heap → Prop) (G : Go l Z y' code' ml' ret' R' (QJ fun z h' => z = F ∧ P' h') 0 0 h 0 Ls' []) (W : Nat) (hsz : Ls.size = ml) (hW : (rest.map fun v => v.category).sum ≤ W) (hf : R'.frames + 1 ≤ R.frames) (hl : W + (ml' + 11) + R'.locals ≤ R.locals) (hk : k + R'.cells ≤ R.cells) (hN : n + R'.slots ≤ R.slots) (hq : pc + 3 = q)
    (g : ∀ h', P' h' → Go l Z y code ml ret R Q (k + R'.cells) (n + R'.slots) h' q Ls (.long F :: rest)) : Go l Z y code ml ret R Q k n h pc Ls st := by
  exact Go.callV argsL rest q hd w1 w1' w1s w2 w3 w4 E hpl hy hlen hst hent G W hsz hW hf hl hk hN hq (fun v h' hq' => by obtain ⟨z, e, hp, hh⟩ := hq'; subst e; rw [hp]; exact g h' hh)
end
section
variable {y' : MethodName} {code' : ByteArray} {ml' : Nat} {ret' : Option FieldType} {R' : Room} {Ls' : Array Slot} {i : Nat}
theorem Go.callVR {a : Addr} {C : String} (argsL : List Value) (rest : List Value) (q : Nat) (hd : decode code pc = .ok (.invokevirtual i, 3)) (w1 : (Cond.methodLink y.cls i y').before a0 Z = true) (w1' : (Cond.declares y').before a0 Z = true) (w1s : (Cond.selects C y' y').before a0 Z = true) (w2 : (Cond.instanceMethod y').before a0 Z = true) (w3 : (Cond.initialized y'.cls).before a0 Z = true) (w4 : (Cond.code y' code' ml' ret').before a0 Z = true) (E : Exa Z h a C)
    (hpl : plainFor y' = true) (hy : y'.cls ≠ "java/lang/invoke/MethodHandle" ∧ y'.cls ≠ "java/lang/invoke/VarHandle") (hlen : ∀ sig, parseMethodDescriptor y'.desc = some sig → argsL.length = sig.parameters.length) (hst : st = argsL.reverse ++ .ref a :: rest) (hent : ∀ m, entryFrame m (.ref a :: argsL).toArray ml' = mkF m 0 Ls' [])
    (P' : Value → Heap → Prop) (G : Go l Z y' code' ml' ret' R' (QR P') 0 0 h 0 Ls' []) (W : Nat) (hsz : Ls.size = ml) (hW : (rest.map fun v => v.category).sum ≤ W) (hf : R'.frames + 1 ≤ R.frames) (hl : W + (ml' + 11) + R'.locals ≤ R.locals) (hk : k + R'.cells ≤ R.cells) (hN : n + R'.slots ≤ R.slots) (hq : pc + 3 = q)
    (g : ∀ (z : Value) h', P' z h' → Go l Z y code ml ret R Q (k + R'.cells) (n + R'.slots) h' q Ls ( z :: rest)) : Go l Z y code ml ret R Q k n h pc Ls st := by
  exact Go.callV argsL rest q hd w1 w1' w1s w2 w3 w4 E hpl hy hlen hst hent G W hsz hW hf hl hk hN hq (fun v h' hq' => by obtain ⟨z, e, hp⟩ := hq'; subst e; exact g z h' hp)
end
section
variable {y' : MethodName} {code' : ByteArray} {ml' : Nat} {ret' : Option FieldType} {R' : Room} {Ls' : Array Slot} {i : Nat}
theorem Go.callVRp {a : Addr} {C : String} (argsL : List Value) (rest : List Value) (q : Nat) (hd : decode code pc = .ok (.invokevirtual i, 3)) (w1 : (Cond.methodLink y.cls i y').before a0 Z = true) (w1' : (Cond.declares y').before a0 Z = true) (w1s : (Cond.selects C y' y').before a0 Z = true) (w2 : (Cond.instanceMethod y').before a0 Z = true) (w3 : (Cond.initialized y'.cls).before a0 Z = true) (w4 : (Cond.code y' code' ml' ret').before a0 Z = true) (E : Exa Z h a C)
    (hpl : plainFor y' = true) (hy : y'.cls ≠ "java/lang/invoke/MethodHandle" ∧ y'.cls ≠ "java/lang/invoke/VarHandle") (hlen : ∀ sig, parseMethodDescriptor y'.desc = some sig → argsL.length = sig.parameters.length) (hst : st = argsL.reverse ++ .ref a :: rest) (hent : ∀ m, entryFrame m (.ref a :: argsL).toArray ml' = mkF m 0 Ls' [])
    (F : Value) (G : Go l Z y' code' ml' ret' R' (QR fun z h' => z = F ∧ h' = h) 0 0 h 0 Ls' []) (W : Nat) (hsz : Ls.size = ml) (hW : (rest.map fun v => v.category).sum ≤ W) (hf : R'.frames + 1 ≤ R.frames) (hl : W + (ml' + 11) + R'.locals ≤ R.locals) (hk : k + R'.cells ≤ R.cells) (hN : n + R'.slots ≤ R.slots) (hq : pc + 3 = q)
    (g : Go l Z y code ml ret R Q (k + R'.cells) (n + R'.slots) h q Ls ( F :: rest)) : Go l Z y code ml ret R Q k n h pc Ls st := by
  exact Go.callV argsL rest q hd w1 w1' w1s w2 w3 w4 E hpl hy hlen hst hent G W hsz hW hf hl hk hN hq (fun v h' hq' => by obtain ⟨z, e, hp, hh⟩ := hq'; subst e; subst hh; rw [hp]; exact g)
end
section
variable {y' : MethodName} {code' : ByteArray} {ml' : Nat} {ret' : Option FieldType} {R' : Room} {Ls' : Array Slot} {i : Nat}
theorem Go.callVRe {a : Addr} {C : String} (argsL : List Value) (rest : List Value) (q : Nat) (hd : decode code pc = .ok (.invokevirtual i, 3)) (w1 : (Cond.methodLink y.cls i y').before a0 Z = true) (w1' : (Cond.declares y').before a0 Z = true) (w1s : (Cond.selects C y' y').before a0 Z = true) (w2 : (Cond.instanceMethod y').before a0 Z = true) (w3 : (Cond.initialized y'.cls).before a0 Z = true) (w4 : (Cond.code y' code' ml' ret').before a0 Z = true) (E : Exa Z h a C)
    (hpl : plainFor y' = true) (hy : y'.cls ≠ "java/lang/invoke/MethodHandle" ∧ y'.cls ≠ "java/lang/invoke/VarHandle") (hlen : ∀ sig, parseMethodDescriptor y'.desc = some sig → argsL.length = sig.parameters.length) (hst : st = argsL.reverse ++ .ref a :: rest) (hent : ∀ m, entryFrame m (.ref a :: argsL).toArray ml' = mkF m 0 Ls' [])
    (F : Value) (P' : Heap → Prop) (G : Go l Z y' code' ml' ret' R' (QR fun z h' => z = F ∧ P' h') 0 0 h 0 Ls' []) (W : Nat) (hsz : Ls.size = ml) (hW : (rest.map fun v => v.category).sum ≤ W) (hf : R'.frames + 1 ≤ R.frames) (hl : W + (ml' + 11) + R'.locals ≤ R.locals) (hk : k + R'.cells ≤ R.cells) (hN : n + R'.slots ≤ R.slots) (hq : pc + 3 = q)
    (g : ∀ h', P' h' → Go l Z y code ml ret R Q (k + R'.cells) (n + R'.slots) h' q Ls ( F :: rest)) : Go l Z y code ml ret R Q k n h pc Ls st := by
  exact Go.callV argsL rest q hd w1 w1' w1s w2 w3 w4 E hpl hy hlen hst hent G W hsz hW hf hl hk hN hq (fun v h' hq' => by obtain ⟨z, e, hp, hh⟩ := hq'; subst e; rw [hp]; exact g h' hh)
end
section
variable {y' : MethodName} {code' : ByteArray} {ml' : Nat} {ret' : Option FieldType} {R' : Room} {Ls' : Array Slot} {i : Nat}
theorem Go.callVV {a : Addr} {C : String} (argsL : List Value) (rest : List Value) (q : Nat) (hd : decode code pc = .ok (.invokevirtual i, 3)) (w1 : (Cond.methodLink y.cls i y').before a0 Z = true) (w1' : (Cond.declares y').before a0 Z = true) (w1s : (Cond.selects C y' y').before a0 Z = true) (w2 : (Cond.instanceMethod y').before a0 Z = true) (w3 : (Cond.initialized y'.cls).before a0 Z = true) (w4 : (Cond.code y' code' ml' ret').before a0 Z = true) (E : Exa Z h a C)
    (hpl : plainFor y' = true) (hy : y'.cls ≠ "java/lang/invoke/MethodHandle" ∧ y'.cls ≠ "java/lang/invoke/VarHandle") (hlen : ∀ sig, parseMethodDescriptor y'.desc = some sig → argsL.length = sig.parameters.length) (hst : st = argsL.reverse ++ .ref a :: rest) (hent : ∀ m, entryFrame m (.ref a :: argsL).toArray ml' = mkF m 0 Ls' [])
    (P' : Heap → Prop) (G : Go l Z y' code' ml' ret' R' (QV P') 0 0 h 0 Ls' []) (W : Nat) (hsz : Ls.size = ml) (hW : (rest.map fun v => v.category).sum ≤ W) (hf : R'.frames + 1 ≤ R.frames) (hl : W + (ml' + 11) + R'.locals ≤ R.locals) (hk : k + R'.cells ≤ R.cells) (hN : n + R'.slots ≤ R.slots) (hq : pc + 3 = q)
    (g : ∀ h', P' h' → Go l Z y code ml ret R Q (k + R'.cells) (n + R'.slots) h' q Ls rest) : Go l Z y code ml ret R Q k n h pc Ls st := by
  exact Go.callV argsL rest q hd w1 w1' w1s w2 w3 w4 E hpl hy hlen hst hent G W hsz hW hf hl hk hN hq (fun v h' hq' => by obtain ⟨e, hp⟩ := hq'; subst e; exact g h' hp)
end
section
variable {y' : MethodName} {code' : ByteArray} {ml' : Nat} {ret' : Option FieldType} {R' : Room} {Ls' : Array Slot} {i : Nat}
theorem Go.callVVp {a : Addr} {C : String} (argsL : List Value) (rest : List Value) (q : Nat) (hd : decode code pc = .ok (.invokevirtual i, 3)) (w1 : (Cond.methodLink y.cls i y').before a0 Z = true) (w1' : (Cond.declares y').before a0 Z = true) (w1s : (Cond.selects C y' y').before a0 Z = true) (w2 : (Cond.instanceMethod y').before a0 Z = true) (w3 : (Cond.initialized y'.cls).before a0 Z = true) (w4 : (Cond.code y' code' ml' ret').before a0 Z = true) (E : Exa Z h a C)
    (hpl : plainFor y' = true) (hy : y'.cls ≠ "java/lang/invoke/MethodHandle" ∧ y'.cls ≠ "java/lang/invoke/VarHandle") (hlen : ∀ sig, parseMethodDescriptor y'.desc = some sig → argsL.length = sig.parameters.length) (hst : st = argsL.reverse ++ .ref a :: rest) (hent : ∀ m, entryFrame m (.ref a :: argsL).toArray ml' = mkF m 0 Ls' [])
    (G : Go l Z y' code' ml' ret' R' (QV fun h' => h' = h) 0 0 h 0 Ls' []) (W : Nat) (hsz : Ls.size = ml) (hW : (rest.map fun v => v.category).sum ≤ W) (hf : R'.frames + 1 ≤ R.frames) (hl : W + (ml' + 11) + R'.locals ≤ R.locals) (hk : k + R'.cells ≤ R.cells) (hN : n + R'.slots ≤ R.slots) (hq : pc + 3 = q)
    (g : Go l Z y code ml ret R Q (k + R'.cells) (n + R'.slots) h q Ls rest) : Go l Z y code ml ret R Q k n h pc Ls st := by
  exact Go.callV argsL rest q hd w1 w1' w1s w2 w3 w4 E hpl hy hlen hst hent G W hsz hW hf hl hk hN hq (fun v h' hq' => by obtain ⟨e, hp⟩ := hq'; subst e; subst hp; exact g)
end



theorem own_eqf {args : Array Value} {s : State} {t : Term} {O n d : String} {v : Int32} {x : Addr} (ht : t.eval args s none [] s = some (.ref x)) (h : (Jvm.Cond.eq (Term.field t O n d) (Term.int v)).value args s none s [] = some true) : Fld s s.heap x O n d (.int v) := by
  apply Fld.start
  have e := fld_at (C := O) (n := n) (dd := d) ht
  have i : (Term.int v).eval args s none [] s = some (.int v) := Term.int_eval v
  simp only [Jvm.Cond.value, e, i] at h
  cases q : s.fieldOf? x O n d with
  | none => rw [q] at h; simp at h
  | some w =>
    rw [q] at h
    cases w <;> simp at h
    rw [h]
/-- an array of ints, shorts, chars, bytes or booleans, with its elements -/
def Ari (Z : State) (h : Heap) (a : Addr) (ty : FieldType) (xs : List Int32) : Prop := ∃ c : Cell, Arr Z h a c ty ∧ c.slots.toList = xs.map Value.int ∧ xs.length < 2147483648
def Arj (Z : State) (h : Heap) (a : Addr) (xs : List Int64) : Prop := ∃ c : Cell, Arr Z h a c .long ∧ c.slots.toList = xs.map Value.long ∧ xs.length < 2147483648
theorem Ari.lt {a : Addr} {ty : FieldType} {xs : List Int32} (F : Ari Z h a ty xs) : a < h.size := by obtain ⟨c, A, -⟩ := F; exact A.lt
theorem Arj.lt {a : Addr} {xs : List Int64} (F : Arj Z h a xs) : a < h.size := by obtain ⟨c, A, -⟩ := F; exact A.lt
theorem Ari.ext {h' : Heap} {a : Addr} {ty : FieldType} {xs : List Int32} (F : Ari Z h a ty xs) (E : Ext h h') : Ari Z h' a ty xs := by obtain ⟨c, A, r⟩ := F; exact ⟨c, A.ext E, r⟩
theorem Arj.ext {h' : Heap} {a : Addr} {xs : List Int64} (F : Arj Z h a xs) (E : Ext h h') : Arj Z h' a xs := by obtain ⟨c, A, r⟩ := F; exact ⟨c, A.ext E, r⟩
theorem Ari.other {h' : Heap} {a b : Addr} {sl : Nat} {v : Value} {ty : FieldType} {xs : List Int32} (F : Ari Z h b ty xs) (W : Wr h h' a sl v) (q : b ≠ a) : Ari Z h' b ty xs := by obtain ⟨c, A, r⟩ := F; exact ⟨c, A.other W q, r⟩
theorem Arj.other {h' : Heap} {a b : Addr} {sl : Nat} {v : Value} {xs : List Int64} (F : Arj Z h b xs) (W : Wr h h' a sl v) (q : b ≠ a) : Arj Z h' b xs := by obtain ⟨c, A, r⟩ := F; exact ⟨c, A.other W q, r⟩
theorem Ari.keep {h' : Heap} {a : Addr} {ws : List Addr} {ty : FieldType} {xs : List Int32} (F : Ari Z h a ty xs) (K : Keep h h' ws) (q : a ∉ ws) : Ari Z h' a ty xs := by obtain ⟨c, A, r⟩ := F; exact ⟨c, ⟨K.2.1 _ _ A.1 q, A.2⟩, r⟩
theorem Arj.keep {h' : Heap} {a : Addr} {ws : List Addr} {xs : List Int64} (F : Arj Z h a xs) (K : Keep h h' ws) (q : a ∉ ws) : Arj Z h' a xs := by obtain ⟨c, A, r⟩ := F; exact ⟨c, ⟨K.2.1 _ _ A.1 q, A.2⟩, r⟩
theorem own_size {c : Cell} {α : Type} {f : α → Value} {xs : List α} (e : c.slots.toList = xs.map f) : c.slots.size = xs.length := by
  have q := congrArg List.length e
  simpa using q
theorem own_at {c : Cell} {α : Type} {f : α → Value} {xs : List α} (e : c.slots.toList = xs.map f) {i : Nat} {x : α} (hx : xs[i]? = some x) : c.slots[i]? = some (f x) := by
  have q : c.slots.toList[i]? = some (f x) := by rw [e, List.getElem?_map, hx]; rfl
  simpa using q
theorem own_in {c : Cell} {α : Type} {f : α → Value} {xs : List α} (e : c.slots.toList = xs.map f) {i : Nat} {j : Int32} (hj : ¬ j < 0) (hi : j.toNatClampNeg = i) (hx : i < xs.length) : ¬ (j < 0 ∨ c.slots.size ≤ j.toNatClampNeg) := by
  rw [own_size e, hi]; intro q; rcases q with q | q
  · exact hj q
  · exact absurd hx (Nat.not_lt.mpr q)
theorem own_set {c : Cell} {α : Type} {f : α → Value} {xs : List α} (e : c.slots.toList = xs.map f) (i : Nat) (x : α) : (c.setSlot i (f x)).slots.toList = (xs.set i x).map f := by
  show (c.slots.setIfInBounds i (f x)).toList = _
  rw [Array.toList_setIfInBounds, e, List.map_set]
theorem Ari.set {h' : Heap} {a : Addr} {ty : FieldType} {xs xs' : List Int32} {i : Nat} {x : Int32} (F : Ari Z h a ty xs) (W : Wr h h' a i (.int x)) (e : xs.set i x = xs') : Ari Z h' a ty xs' := by
  subst e
  obtain ⟨c, A, r, r2⟩ := F
  exact ⟨_, A.same W, own_set r i x, by rw [List.length_set]; exact r2⟩
theorem Arj.set {h' : Heap} {a : Addr} {xs xs' : List Int64} {i : Nat} {x : Int64} (F : Arj Z h a xs) (W : Wr h h' a i (.long x)) (e : xs.set i x = xs') : Arj Z h' a xs' := by
  subst e
  obtain ⟨c, A, r, r2⟩ := F
  exact ⟨_, A.same W, own_set r i x, by rw [List.length_set]; exact r2⟩

theorem Go.iaload {a : Addr} {j x : Int32} {xs : List Int32} (i : Nat) (q : Nat) (hd : decode code pc = .ok (.iaload, 1)) (A : Ari Z h a .int xs) (hj : ¬ j < 0) (hi : j.toNatClampNeg = i) (hx : xs[i]? = some x) (hq : pc + 1 = q) (g : Go l Z y code ml ret R Q k n h q Ls (.int x :: st)) : Go l Z y code ml ret R Q k n h pc Ls (.int j :: .ref a :: st) := by
  subst hq hi
  obtain ⟨cl, A, r, r2⟩ := A
  have hv := own_at r hx
  have hin := own_in r hj rfl (List.getElem?_eq_some_iff.mp hx).1
  exact g.pure fun p e s m args below meth c K T L k' n' X hT t rr => X.iaload K.1 (cell := cl) (v := .int x) (by rw [hT]; exact A.1) (State.isArrayOf_alike K.2.2.1.alike A.2.1) A.2.2 hin hv (g := mkF m pc Ls (.int j :: .ref a :: st)) rfl rfl (hb K.2.1 hd) t rr
theorem Go.baload {a : Addr} {j x : Int32} {xs : List Int32} (i : Nat) (q : Nat) (hd : decode code pc = .ok (.baload, 1)) (A : Ari Z h a .byte xs) (hj : ¬ j < 0) (hi : j.toNatClampNeg = i) (hx : xs[i]? = some x) (hq : pc + 1 = q) (g : Go l Z y code ml ret R Q k n h q Ls (.int x :: st)) : Go l Z y code ml ret R Q k n h pc Ls (.int j :: .ref a :: st) := by
  subst hq hi
  obtain ⟨cl, A, r, r2⟩ := A
  have hv := own_at r hx
  have hin := own_in r hj rfl (List.getElem?_eq_some_iff.mp hx).1
  exact g.pure fun p e s m args below meth c K T L k' n' X hT t rr => X.baloadBytes K.1 (cell := cl) (v := .int x) (by rw [hT]; exact A.1) (State.isArrayOf_alike K.2.2.1.alike A.2.1) A.2.2 hin hv (g := mkF m pc Ls (.int j :: .ref a :: st)) rfl rfl (hb K.2.1 hd) t rr
theorem Go.zaload {a : Addr} {j x : Int32} {xs : List Int32} (i : Nat) (q : Nat) (hd : decode code pc = .ok (.baload, 1)) (A : Ari Z h a .boolean xs) (hj : ¬ j < 0) (hi : j.toNatClampNeg = i) (hx : xs[i]? = some x) (hq : pc + 1 = q) (g : Go l Z y code ml ret R Q k n h q Ls (.int x :: st)) : Go l Z y code ml ret R Q k n h pc Ls (.int j :: .ref a :: st) := by
  subst hq hi
  obtain ⟨cl, A, r, r2⟩ := A
  have hv := own_at r hx
  have hin := own_in r hj rfl (List.getElem?_eq_some_iff.mp hx).1
  exact g.pure fun p e s m args below meth c K T L k' n' X hT t rr => X.baloadBooleans K.1 (cell := cl) (v := .int x) (by rw [hT]; exact A.1) (State.isArrayOf_alike K.2.2.1.alike A.2.1) A.2.2 hin hv (g := mkF m pc Ls (.int j :: .ref a :: st)) rfl rfl (hb K.2.1 hd) t rr
theorem Go.caload {a : Addr} {j x : Int32} {xs : List Int32} (i : Nat) (q : Nat) (hd : decode code pc = .ok (.caload, 1)) (A : Ari Z h a .char xs) (hj : ¬ j < 0) (hi : j.toNatClampNeg = i) (hx : xs[i]? = some x) (hq : pc + 1 = q) (g : Go l Z y code ml ret R Q k n h q Ls (.int x :: st)) : Go l Z y code ml ret R Q k n h pc Ls (.int j :: .ref a :: st) := by
  subst hq hi
  obtain ⟨cl, A, r, r2⟩ := A
  have hv := own_at r hx
  have hin := own_in r hj rfl (List.getElem?_eq_some_iff.mp hx).1
  exact g.pure fun p e s m args below meth c K T L k' n' X hT t rr => X.caload K.1 (cell := cl) (v := .int x) (by rw [hT]; exact A.1) (State.isArrayOf_alike K.2.2.1.alike A.2.1) A.2.2 hin hv (g := mkF m pc Ls (.int j :: .ref a :: st)) rfl rfl (hb K.2.1 hd) t rr
theorem Go.laload {a : Addr} {j : Int32} {x : Int64} {xs : List Int64} (i : Nat) (q : Nat) (hd : decode code pc = .ok (.laload, 1)) (A : Arj Z h a xs) (hj : ¬ j < 0) (hi : j.toNatClampNeg = i) (hx : xs[i]? = some x) (hq : pc + 1 = q) (g : Go l Z y code ml ret R Q k n h q Ls (.long x :: st)) : Go l Z y code ml ret R Q k n h pc Ls (.int j :: .ref a :: st) := by
  subst hq hi
  obtain ⟨cl, A, r, r2⟩ := A
  have hv := own_at r hx
  have hin := own_in r hj rfl (List.getElem?_eq_some_iff.mp hx).1
  exact g.pure fun p e s m args below meth c K T L k' n' X hT t rr => X.laload K.1 (cell := cl) (v := .long x) (by rw [hT]; exact A.1) (State.isArrayOf_alike K.2.2.1.alike A.2.1) A.2.2 hin hv (g := mkF m pc Ls (.int j :: .ref a :: st)) rfl rfl (hb K.2.1 hd) t rr
theorem Go.arraylength {a : Addr} {ty : FieldType} {xs : List Int32} {z : Int32} (q : Nat) (hd : decode code pc = .ok (.arraylength, 1)) (A : Ari Z h a ty xs) (hz : xs.length.toInt32 = z) (hq : pc + 1 = q) (g : Go l Z y code ml ret R Q k n h q Ls (.int z :: st)) : Go l Z y code ml ret R Q k n h pc Ls (.ref a :: st) := by
  subst hq
  obtain ⟨cl, A, r, r2⟩ := A
  subst hz
  exact g.pure fun p e s m args below meth c K T L k' n' X hT t rr => X.arraylength K.1 (cell := cl) (by rw [hT]; exact A.1) (State.isArrayOf_alike K.2.2.1.alike A.2.1) (g := mkF m pc Ls (.ref a :: st)) rfl rfl (hb K.2.1 hd) t (by rw [own_size r]; exact rr)
theorem Go.arraylengthJ {a : Addr} {xs : List Int64} {z : Int32} (q : Nat) (hd : decode code pc = .ok (.arraylength, 1)) (A : Arj Z h a xs) (hz : xs.length.toInt32 = z) (hq : pc + 1 = q) (g : Go l Z y code ml ret R Q k n h q Ls (.int z :: st)) : Go l Z y code ml ret R Q k n h pc Ls (.ref a :: st) := by
  subst hq
  obtain ⟨cl, A, r, r2⟩ := A
  subst hz
  exact g.pure fun p e s m args below meth c K T L k' n' X hT t rr => X.arraylength K.1 (cell := cl) (by rw [hT]; exact A.1) (State.isArrayOf_alike K.2.2.1.alike A.2.1) (g := mkF m pc Ls (.ref a :: st)) rfl rfl (hb K.2.1 hd) t (by rw [own_size r]; exact rr)
theorem Go.iastore {a : Addr} {j x : Int32} {xs : List Int32} (i : Nat) (xs' : List Int32) (q : Nat) (hd : decode code pc = .ok (.iastore, 1)) (A : Ari Z h a .int xs) (hj : ¬ j < 0) (hi : j.toNatClampNeg = i) (hx : i < xs.length) (he : xs.set i (x) = xs') (hge : Z.heap.size ≤ a) (hq : pc + 1 = q)
    (g : ∀ h', Wr h h' a i (.int (x)) → Ari Z h' a .int xs' → Go l Z y code ml ret R Q k n h' q Ls st) : Go l Z y code ml ret R Q k n h pc Ls (.int x :: .int j :: .ref a :: st) := by
  subst hq hi
  refine Go.move (P := fun h' => Wr h h' a j.toNatClampNeg (.int (x))) (kk := k) (nn := n) (fun h' W => g h' W (A.set W he)) ?_
  obtain ⟨cl, A, r, r2⟩ := A
  intro p e s m args below meth c K T L k' n' X h1 h2 N hT
  obtain ⟨T', h', X', e', W', s'⟩ := stI X K.1 K.2.2.1 hT A (own_in r hj rfl hx) (g := mkF m pc Ls (.int x :: .int j :: .ref a :: st)) rfl rfl (hb K.2.1 hd)
  exact ⟨T', _, k', n', X', h1, h2, Fr.snoc X' N hge, e' ▸ W', s'⟩
theorem Go.bastore {a : Addr} {j x : Int32} {xs : List Int32} (i : Nat) (xs' : List Int32) (q : Nat) (hd : decode code pc = .ok (.bastore, 1)) (A : Ari Z h a .byte xs) (hj : ¬ j < 0) (hi : j.toNatClampNeg = i) (hx : i < xs.length) (he : xs.set i (nar .byte x) = xs') (hge : Z.heap.size ≤ a) (hq : pc + 1 = q)
    (g : ∀ h', Wr h h' a i (.int (nar .byte x)) → Ari Z h' a .byte xs' → Go l Z y code ml ret R Q k n h' q Ls st) : Go l Z y code ml ret R Q k n h pc Ls (.int x :: .int j :: .ref a :: st) := by
  subst hq hi
  refine Go.move (P := fun h' => Wr h h' a j.toNatClampNeg (.int (nar .byte x))) (kk := k) (nn := n) (fun h' W => g h' W (A.set W he)) ?_
  obtain ⟨cl, A, r, r2⟩ := A
  intro p e s m args below meth c K T L k' n' X h1 h2 N hT
  obtain ⟨T', h', X', e', W', s'⟩ := stB X K.1 K.2.2.1 hT A (own_in r hj rfl hx) (g := mkF m pc Ls (.int x :: .int j :: .ref a :: st)) rfl rfl (hb K.2.1 hd)
  exact ⟨T', _, k', n', X', h1, h2, Fr.snoc X' N hge, e' ▸ W', s'⟩
theorem Go.zastore {a : Addr} {j x : Int32} {xs : List Int32} (i : Nat) (xs' : List Int32) (q : Nat) (hd : decode code pc = .ok (.bastore, 1)) (A : Ari Z h a .boolean xs) (hj : ¬ j < 0) (hi : j.toNatClampNeg = i) (hx : i < xs.length) (he : xs.set i (nar .boolean x) = xs') (hge : Z.heap.size ≤ a) (hq : pc + 1 = q)
    (g : ∀ h', Wr h h' a i (.int (nar .boolean x)) → Ari Z h' a .boolean xs' → Go l Z y code ml ret R Q k n h' q Ls st) : Go l Z y code ml ret R Q k n h pc Ls (.int x :: .int j :: .ref a :: st) := by
  subst hq hi
  refine Go.move (P := fun h' => Wr h h' a j.toNatClampNeg (.int (nar .boolean x))) (kk := k) (nn := n) (fun h' W => g h' W (A.set W he)) ?_
  obtain ⟨cl, A, r, r2⟩ := A
  intro p e s m args below meth c K T L k' n' X h1 h2 N hT
  obtain ⟨T', h', X', e', W', s'⟩ := stZ X K.1 K.2.2.1 hT A (own_in r hj rfl hx) (g := mkF m pc Ls (.int x :: .int j :: .ref a :: st)) rfl rfl (hb K.2.1 hd)
  exact ⟨T', _, k', n', X', h1, h2, Fr.snoc X' N hge, e' ▸ W', s'⟩
theorem Go.castore {a : Addr} {j x : Int32} {xs : List Int32} (i : Nat) (xs' : List Int32) (q : Nat) (hd : decode code pc = .ok (.castore, 1)) (A : Ari Z h a .char xs) (hj : ¬ j < 0) (hi : j.toNatClampNeg = i) (hx : i < xs.length) (he : xs.set i (nar .char x) = xs') (hge : Z.heap.size ≤ a) (hq : pc + 1 = q)
    (g : ∀ h', Wr h h' a i (.int (nar .char x)) → Ari Z h' a .char xs' → Go l Z y code ml ret R Q k n h' q Ls st) : Go l Z y code ml ret R Q k n h pc Ls (.int x :: .int j :: .ref a :: st) := by
  subst hq hi
  refine Go.move (P := fun h' => Wr h h' a j.toNatClampNeg (.int (nar .char x))) (kk := k) (nn := n) (fun h' W => g h' W (A.set W he)) ?_
  obtain ⟨cl, A, r, r2⟩ := A
  intro p e s m args below meth c K T L k' n' X h1 h2 N hT
  obtain ⟨T', h', X', e', W', s'⟩ := stC X K.1 K.2.2.1 hT A (own_in r hj rfl hx) (g := mkF m pc Ls (.int x :: .int j :: .ref a :: st)) rfl rfl (hb K.2.1 hd)
  exact ⟨T', _, k', n', X', h1, h2, Fr.snoc X' N hge, e' ▸ W', s'⟩
theorem Go.lastore {a : Addr} {j : Int32} {x : Int64} {xs : List Int64} (i : Nat) (xs' : List Int64) (q : Nat) (hd : decode code pc = .ok (.lastore, 1)) (A : Arj Z h a xs) (hj : ¬ j < 0) (hi : j.toNatClampNeg = i) (hx : i < xs.length) (he : xs.set i x = xs') (hge : Z.heap.size ≤ a) (hq : pc + 1 = q)
    (g : ∀ h', Wr h h' a i (.long x) → Arj Z h' a xs' → Go l Z y code ml ret R Q k n h' q Ls st) : Go l Z y code ml ret R Q k n h pc Ls (.long x :: .int j :: .ref a :: st) := by
  subst hq hi
  refine Go.move (P := fun h' => Wr h h' a j.toNatClampNeg (.long x)) (kk := k) (nn := n) (fun h' W => g h' W (A.set W he)) ?_
  obtain ⟨cl, A, r, r2⟩ := A
  intro p e s m args below meth c K T L k' n' X h1 h2 N hT
  obtain ⟨T', h', X', e', W', s'⟩ := stJ X K.1 K.2.2.1 hT A (own_in r hj rfl hx) (g := mkF m pc Ls (.long x :: .int j :: .ref a :: st)) rfl rfl (hb K.2.1 hd)
  exact ⟨T', _, k', n', X', h1, h2, Fr.snoc X' N hge, e' ▸ W', s'⟩
theorem Go.newI {aty : ArrayType} {z : Int32} (cap : Nat) (xs : List Int32) (q : Nat) (hd : decode code pc = .ok (.newarray aty, 2)) (w : (Cond.arrayClass (newarray.typeOf aty)).before a0 Z = true) (hdv : defaultValue (newarray.typeOf aty) = .int 0) (hz : ¬ z < 0) (hcap : z.toNatClampNeg ≤ cap) (hbig : cap * 8 ≤ 536870912) (hxs : List.replicate z.toNatClampNeg 0 = xs) (hk : k + 1 ≤ R.cells) (hN : n + cap ≤ R.slots) (hq : pc + 2 = q)
    (g : ∀ (a : Addr) h', a = h.size → Ext h h' → Ari Z h' a (newarray.typeOf aty) xs → Go l Z y code ml ret R Q (k + 1) (n + cap) h' q Ls (.ref a :: st)) : Go l Z y code ml ret R Q k n h pc Ls (.int z :: st) := by
  subst hq hxs
  refine Go.move (P := fun h' => Ext h h' ∧ Ari Z h' h.size (newarray.typeOf aty) (List.replicate z.toNatClampNeg 0)) (kk := k + 1) (nn := n + cap) (fun h' p => g h.size h' rfl p.1 p.2) ?_
  intro p e s m args below meth c K T L k' n' X h1 h2 N hT
  obtain ⟨T', h', cA, X', e', E', A', s'⟩ := newP X K.1 K.2.2.1 w hT (g := mkF m pc Ls (.int z :: st)) rfl (hb K.2.1 hd) rfl hz hcap hbig (Nat.le_trans (Nat.add_le_add_right h1 1) hk) (Nat.le_trans (Nat.add_le_add_right h2 cap) hN)
  subst e'
  refine ⟨T', L, k' + 1, n' + cap, X', Nat.add_le_add_right h1 1, Nat.add_le_add_right h2 cap, N, ⟨E', _, A', ?_, ?_⟩, s'⟩
  · show (Array.replicate z.toNatClampNeg (defaultValue (newarray.typeOf aty))).toList = _
    rw [hdv]; simp [List.map_replicate]
  · rw [List.length_replicate]; omega
theorem Go.newJ {aty : ArrayType} {z : Int32} (cap : Nat) (xs : List Int64) (q : Nat) (hd : decode code pc = .ok (.newarray aty, 2)) (w : (Cond.arrayClass (newarray.typeOf aty)).before a0 Z = true) (hdv : newarray.typeOf aty = .long) (hz : ¬ z < 0) (hcap : z.toNatClampNeg ≤ cap) (hbig : cap * 8 ≤ 536870912) (hxs : List.replicate z.toNatClampNeg 0 = xs) (hk : k + 1 ≤ R.cells) (hN : n + cap ≤ R.slots) (hq : pc + 2 = q)
    (g : ∀ (a : Addr) h', a = h.size → Ext h h' → Arj Z h' a xs → Go l Z y code ml ret R Q (k + 1) (n + cap) h' q Ls (.ref a :: st)) : Go l Z y code ml ret R Q k n h pc Ls (.int z :: st) := by
  subst hq hxs
  refine Go.move (P := fun h' => Ext h h' ∧ Arj Z h' h.size (List.replicate z.toNatClampNeg 0)) (kk := k + 1) (nn := n + cap) (fun h' p => g h.size h' rfl p.1 p.2) ?_
  intro p e s m args below meth c K T L k' n' X h1 h2 N hT
  obtain ⟨T', h', cA, X', e', E', A', s'⟩ := newP X K.1 K.2.2.1 w hT (g := mkF m pc Ls (.int z :: st)) rfl (hb K.2.1 hd) rfl hz hcap hbig (Nat.le_trans (Nat.add_le_add_right h1 1) hk) (Nat.le_trans (Nat.add_le_add_right h2 cap) hN)
  subst e'
  refine ⟨T', L, k' + 1, n' + cap, X', Nat.add_le_add_right h1 1, Nat.add_le_add_right h2 cap, N, ⟨E', _, hdv ▸ A', ?_, ?_⟩, s'⟩
  · show (Array.replicate z.toNatClampNeg (defaultValue .long)).toList = _
    simp [List.map_replicate, defaultValue]
  · rw [List.length_replicate]; omega

theorem own_arv {a : Addr} {ty : FieldType} {xs : List Int32} (F : Ari Z h a ty xs) (hf : ∀ x ∈ xs, fits ty (.int x) = true) : ∃ k : ClassId, Arv Z h a k ty xs.length.toInt32 (xs.map Value.int) (.int 0) := by
  obtain ⟨c, A, r, r2⟩ := F
  have sz := own_size r
  have hz : ¬ xs.length.toInt32 < 0 := by
    have e := len_toInt (n := xs.length) (by omega)
    rw [Int32.lt_iff_toInt_lt, e]
    show ¬ (xs.length : Int) < 0
    omega
  have hn : xs.length.toInt32.toNatClampNeg = xs.length := by
    have e := nat_of hz
    have e2 := len_toInt (n := xs.length) (by omega)
    omega
  have hat : ∀ i, i < c.slots.size → ∃ x, xs[i]? = some x := fun i hi => ⟨xs[i]'(by omega), List.getElem?_eq_getElem (by omega)⟩
  refine ⟨c.cls, c, A, rfl, by rw [sz, hn], hz, fun i hi => ?_, fun i hi => ?_⟩
  · obtain ⟨x, hx⟩ := hat i hi
    rw [own_at r hx, List.getD_eq_getElem?_getD, List.getElem?_map, hx]; rfl
  · obtain ⟨x, hx⟩ := hat i hi
    rw [List.getD_eq_getElem?_getD, List.getElem?_map, hx]
    exact hf x (List.mem_of_getElem? hx)
theorem own_ari {a : Addr} {ty : FieldType} {k : ClassId} {z : Int32} {ys : List Int32} (F : Arv Z h a k ty z (ys.map Value.int) (.int 0)) (hl : z.toNatClampNeg = ys.length) (hb : ys.length < 2147483648) : Ari Z h a ty ys := by
  obtain ⟨c, A, -, sz, -, H, -⟩ := F
  refine ⟨c, A, ?_, hb⟩
  apply List.ext_getElem?
  intro i
  rw [List.getElem?_map]
  by_cases hi : i < c.slots.size
  · have q := H i hi
    rw [Array.getElem?_toList, q, List.getD_eq_getElem?_getD, List.getElem?_map, List.getElem?_eq_getElem (show i < ys.length by omega)]
    rfl
  · rw [List.getElem?_eq_none (by simpa using hi), List.getElem?_eq_none (show ys.length ≤ i by omega)]
    rfl
theorem Go.arraycopy {a b : Addr} {ty : FieldType} {xs ys ys' : List Int32} {sp dp nn : Int32} {i W : Nat} (sN dN n' : Nat) (q : Nat) (hd : decode code pc = .ok (.invokestatic i, 3)) (w1 : (Cond.methodLink y.cls i Jvm.Stand.acN).before a0 Z = true) (w2 : (Cond.native Jvm.Stand.acN).before a0 Z = true) (w3 : (Cond.static Jvm.Stand.acN).before a0 Z = true) (w4 : (Cond.initialized "java/lang/System").before a0 Z = true)
    (A : Ari Z h a ty xs) (B : Ari Z h b ty ys) (hfa : ∀ x ∈ xs, fits ty (.int x) = true) (hfb : ∀ x ∈ ys, fits ty (.int x) = true) (hty : refKind ty = false) (h1 : ¬ sp < 0) (h2 : ¬ dp < 0) (h3 : ¬ nn < 0) (e1 : sp.toNatClampNeg = sN) (e2 : dp.toNatClampNeg = dN) (e3 : nn.toNatClampNeg = n') (l1 : sN + n' ≤ xs.length) (l2 : dN + n' ≤ ys.length) (he : ys.take dN ++ (xs.drop sN).take n' ++ ys.drop (dN + n') = ys')
    (hge : Z.heap.size ≤ b) (hsz : Ls.size = ml) (hfr : 1 ≤ R.frames) (hW : (st.map fun v => v.category).sum ≤ W) (hlo : W + (nativeFrameWords "java/lang/System" "arraycopy" 5 + 11) ≤ R.locals) (hq : pc + 3 = q)
    (g : ∀ h', Keep h h' [b] → Ari Z h' b ty ys' → Go l Z y code ml ret R Q k n h' q Ls st) : Go l Z y code ml ret R Q k n h pc Ls (.int nn :: .int dp :: .ref b :: .int sp :: .ref a :: st) := by
  subst hq e1 e2 e3 he
  refine Go.move (P := fun h' => Keep h h' [b] ∧ Ari Z h' b ty (ys.take dp.toNatClampNeg ++ (xs.drop sp.toNatClampNeg).take nn.toNatClampNeg ++ ys.drop (dp.toNatClampNeg + nn.toNatClampNeg))) (kk := k) (nn := n) (fun h' p => g h' p.1 p.2) ?_
  obtain ⟨ka, A'⟩ := own_arv A hfa
  obtain ⟨kb, B'⟩ := own_arv B hfb
  obtain ⟨_, _, _, bb⟩ := B
  obtain ⟨_, _, _, ba⟩ := A
  have na : xs.length.toInt32.toNatClampNeg = xs.length := by
    have hz : ¬ xs.length.toInt32 < 0 := A'.choose_spec.2.2.2.1
    have e := nat_of hz
    have e2 := len_toInt (n := xs.length) (by omega)
    omega
  have nb : ys.length.toInt32.toNatClampNeg = ys.length := by
    have hz : ¬ ys.length.toInt32 < 0 := B'.choose_spec.2.2.2.1
    have e := nat_of hz
    have e2 := len_toInt (n := ys.length) (by omega)
    omega
  have hus : ((xs.drop sp.toNatClampNeg).take nn.toNatClampNeg).map Value.int = (List.range nn.toNatClampNeg).map fun i => (xs.map Value.int).getD (sp.toNatClampNeg + i) (.int 0) := by
    apply List.ext_getElem?
    intro i
    simp only [List.getElem?_map, List.getElem?_take, List.getElem?_drop, List.getElem?_range']
    by_cases hi : i < nn.toNatClampNeg
    · rw [if_pos hi, List.getElem?_range hi, Option.map_some, List.getD_eq_getElem?_getD, List.getElem?_map, List.getElem?_eq_getElem (show sp.toNatClampNeg + i < xs.length by omega)]
      rfl
    · rw [if_neg hi, List.getElem?_eq_none (by simpa using hi)]
      rfl
  intro p e s m args below meth c K T L k' n' X h1' h2' N hT
  obtain ⟨T', h', L', X', e', N', K', B2, s'⟩ := cpA X K.1 K.2.2.1 K.2.2.2.1 w1 w2 w3 w4 hT A' B' (Or.inl ⟨rfl, hty⟩) h1 h2 h3 (by rw [na]; exact l1) (by rw [nb]; exact l2) hus (by rw [List.length_map]; exact l2) N hge (g := mkF m pc Ls (.int nn :: .int dp :: .ref b :: .int sp :: .ref a :: st)) rfl (hsz.trans K.2.2.2.2.1.symm) rfl (hb K.2.1 hd) hfr (W := W) (by show 2 * 0 + _ ≤ _; rw [Nat.mul_zero, Nat.zero_add]; exact hW) hlo
  subst e'
  refine ⟨T', L', k', n', X', h1', h2', N', ⟨K', own_ari (z := ys.length.toInt32) (k := kb) ?_ ?_ ?_⟩, s'⟩
  · rw [List.map_append, List.map_append, List.map_take, List.map_drop]; exact B2
  · rw [nb]; simp only [List.length_append, List.length_take, List.length_drop]; omega
  · simp only [List.length_append, List.length_take, List.length_drop]; omega

end Laws
end Jvm.OwnGo

namespace Jvm.Pilot.@@N@@
open Jvm Jvm.ClassFile Sem Op Lib Jvm.Free Jvm.Stand Jvm.LawKit Jvm.RoadKit Bundle Jvm.OwnGo Jvm.Pilot.@@N@@.Jvm.D
theorem pnx : plainName x.cls = true := by first | (simp [x, plainName, overriddenIn]; done) | decide +kernel
theorem tw0 {a0 : Array Value} {Z : State} (hw : ∀ d ∈ tables_1, d.before a0 Z = true) : ((Jvm.Cond.arrayClass Jvm.ClassFile.FieldType.byte)).before a0 Z = true := hw _ (List.mem_of_getElem? (i := 0) rfl)
theorem tw1 {a0 : Array Value} {Z : State} (hw : ∀ d ∈ tables_1, d.before a0 Z = true) : ((Jvm.Cond.methodLink "com/example/interlace/interlace/csv/Utf8SequenceLengthPinLaw" (7 : Nat) ({ cls := "com/example/interlace/interlace/csv/Utf8", name := "sequenceLength", desc := "([BII)I" } : Jvm.MethodName))).before a0 Z = true := hw _ (List.mem_of_getElem? (i := 1) rfl)
theorem tw2 {a0 : Array Value} {Z : State} (hw : ∀ d ∈ tables_1, d.before a0 Z = true) : ((Jvm.Cond.static ({ cls := "com/example/interlace/interlace/csv/Utf8", name := "sequenceLength", desc := "([BII)I" } : Jvm.MethodName))).before a0 Z = true := hw _ (List.mem_of_getElem? (i := 2) rfl)
theorem tw3 {a0 : Array Value} {Z : State} (hw : ∀ d ∈ tables_1, d.before a0 Z = true) : ((Jvm.Cond.initialized "com/example/interlace/interlace/csv/Utf8")).before a0 Z = true := hw _ (List.mem_of_getElem? (i := 3) rfl)
theorem tw4 {a0 : Array Value} {Z : State} (hw : ∀ d ∈ tables_1, d.before a0 Z = true) : ((Jvm.Cond.code ({ cls := "com/example/interlace/interlace/csv/Utf8", name := "sequenceLength", desc := "([BII)I" } : Jvm.MethodName) prog_18_method_2_code (10 : Nat) (Option.some Jvm.ClassFile.FieldType.int))).before a0 Z = true := hw _ (List.mem_of_getElem? (i := 4) rfl)
theorem tw5 {a0 : Array Value} {Z : State} (hw : ∀ d ∈ tables_1, d.before a0 Z = true) : ((Jvm.Cond.methodLink "com/example/interlace/interlace/csv/Utf8SequenceLengthPinLaw" (13 : Nat) ({ cls := "com/example/interlace/interlace/csv/Utf8SequenceLengthPinLaw", name := "expected", desc := "(IIIII)I" } : Jvm.MethodName))).before a0 Z = true := hw _ (List.mem_of_getElem? (i := 5) rfl)
theorem tw6 {a0 : Array Value} {Z : State} (hw : ∀ d ∈ tables_1, d.before a0 Z = true) : ((Jvm.Cond.static ({ cls := "com/example/interlace/interlace/csv/Utf8SequenceLengthPinLaw", name := "expected", desc := "(IIIII)I" } : Jvm.MethodName))).before a0 Z = true := hw _ (List.mem_of_getElem? (i := 6) rfl)
theorem tw7 {a0 : Array Value} {Z : State} (hw : ∀ d ∈ tables_1, d.before a0 Z = true) : ((Jvm.Cond.initialized "com/example/interlace/interlace/csv/Utf8SequenceLengthPinLaw")).before a0 Z = true := hw _ (List.mem_of_getElem? (i := 7) rfl)
theorem tw8 {a0 : Array Value} {Z : State} (hw : ∀ d ∈ tables_1, d.before a0 Z = true) : ((Jvm.Cond.code ({ cls := "com/example/interlace/interlace/csv/Utf8SequenceLengthPinLaw", name := "expected", desc := "(IIIII)I" } : Jvm.MethodName) method_4_code (7 : Nat) (Option.some Jvm.ClassFile.FieldType.int))).before a0 Z = true := hw _ (List.mem_of_getElem? (i := 8) rfl)
theorem tw9 {a0 : Array Value} {Z : State} (hw : ∀ d ∈ tables_1, d.before a0 Z = true) : ((Jvm.Cond.methodLink "com/example/interlace/interlace/csv/Utf8SequenceLengthPinLaw" (19 : Nat) ({ cls := "com/example/interlace/interlace/csv/Utf8SequenceLengthPinLaw", name := "cont", desc := "(I)Z" } : Jvm.MethodName))).before a0 Z = true := hw _ (List.mem_of_getElem? (i := 9) rfl)
theorem tw10 {a0 : Array Value} {Z : State} (hw : ∀ d ∈ tables_1, d.before a0 Z = true) : ((Jvm.Cond.static ({ cls := "com/example/interlace/interlace/csv/Utf8SequenceLengthPinLaw", name := "cont", desc := "(I)Z" } : Jvm.MethodName))).before a0 Z = true := hw _ (List.mem_of_getElem? (i := 10) rfl)
theorem tw11 {a0 : Array Value} {Z : State} (hw : ∀ d ∈ tables_1, d.before a0 Z = true) : ((Jvm.Cond.code ({ cls := "com/example/interlace/interlace/csv/Utf8SequenceLengthPinLaw", name := "cont", desc := "(I)Z" } : Jvm.MethodName) method_3_code (1 : Nat) (Option.some Jvm.ClassFile.FieldType.boolean))).before a0 Z = true := hw _ (List.mem_of_getElem? (i := 11) rfl)
theorem tw12 {a0 : Array Value} {Z : State} (hw : ∀ d ∈ tables_1, d.before a0 Z = true) : ((Jvm.Cond.constant "com/example/interlace/interlace/csv/Utf8SequenceLengthPinLaw" (23 : Nat) (55296 : Int32))).before a0 Z = true := hw _ (List.mem_of_getElem? (i := 12) rfl)
theorem tw13 {a0 : Array Value} {Z : State} (hw : ∀ d ∈ tables_1, d.before a0 Z = true) : ((Jvm.Cond.constant "com/example/interlace/interlace/csv/Utf8SequenceLengthPinLaw" (24 : Nat) (57343 : Int32))).before a0 Z = true := hw _ (List.mem_of_getElem? (i := 13) rfl)
theorem tw14 {a0 : Array Value} {Z : State} (hw : ∀ d ∈ tables_1, d.before a0 Z = true) : ((Jvm.Cond.constant "com/example/interlace/interlace/csv/Utf8SequenceLengthPinLaw" (25 : Nat) (65536 : Int32))).before a0 Z = true := hw _ (List.mem_of_getElem? (i := 14) rfl)
theorem tw15 {a0 : Array Value} {Z : State} (hw : ∀ d ∈ tables_1, d.before a0 Z = true) : ((Jvm.Cond.constant "com/example/interlace/interlace/csv/Utf8SequenceLengthPinLaw" (26 : Nat) (1114111 : Int32))).before a0 Z = true := hw _ (List.mem_of_getElem? (i := 15) rfl)
theorem own_nn {x : Int32} (h : 0 ≤ x.toInt) : x.toInt = (x.toBitVec.toNat : Int) := by
  have q := BitVec.toInt_eq_toNat_cond x.toBitVec
  have e : x.toInt = x.toBitVec.toInt := rfl
  rw [e] at h ⊢
  rw [q] at h ⊢
  have := x.toBitVec.isLt
  split at h <;> rename_i c
  · rw [if_pos c]
  · omega
theorem own_nn' {x : Int32} (h : x.toBitVec.toNat < 2147483648) : x.toInt = (x.toBitVec.toNat : Int) := by
  have q := BitVec.toInt_eq_toNat_cond x.toBitVec
  have e : x.toInt = x.toBitVec.toInt := rfl
  rw [e, q, if_pos (by omega)]
theorem own_ofnat {x : Int32} (h : 0 ≤ x.toInt) : x = Int32.ofNat x.toBitVec.toNat := by
  apply Int32.toBitVec_inj.mp
  apply BitVec.eq_of_toNat_eq
  show _ = (BitVec.ofNat 32 x.toBitVec.toNat).toNat
  rw [BitVec.toNat_ofNat, Nat.mod_eq_of_lt x.toBitVec.isLt]
theorem own_b32 (x : Int32) : -2147483648 ≤ x.toInt ∧ x.toInt < 2147483648 := ⟨Int32.le_toInt x, Int32.toInt_lt x⟩
theorem own_b64 (x : Int64) : -9223372036854775808 ≤ x.toInt ∧ x.toInt < 9223372036854775808 := ⟨Int64.le_toInt x, Int64.toInt_lt x⟩
theorem own_add64 {x y : Int64} (h1 : -9223372036854775808 ≤ x.toInt + y.toInt) (h2 : x.toInt + y.toInt < 9223372036854775808) : (x + y).toInt = x.toInt + y.toInt := XT.add64 ⟨h1, h2⟩
theorem own_sub64 {x y : Int64} (h1 : -9223372036854775808 ≤ x.toInt - y.toInt) (h2 : x.toInt - y.toInt < 9223372036854775808) : (x - y).toInt = x.toInt - y.toInt := XT.sub64 ⟨h1, h2⟩
theorem own_mul64 {x y : Int64} (h1 : -9223372036854775808 ≤ x.toInt * y.toInt) (h2 : x.toInt * y.toInt < 9223372036854775808) : (x * y).toInt = x.toInt * y.toInt := XT.mul64 ⟨h1, h2⟩
theorem own_add32 {x y : Int32} (h1 : -2147483648 ≤ x.toInt + y.toInt) (h2 : x.toInt + y.toInt < 2147483648) : (x + y).toInt = x.toInt + y.toInt := XT.add32 ⟨h1, h2⟩
theorem own_sub32 {x y : Int32} (h1 : -2147483648 ≤ x.toInt - y.toInt) (h2 : x.toInt - y.toInt < 2147483648) : (x - y).toInt = x.toInt - y.toInt := XT.sub32 ⟨h1, h2⟩
theorem own_w (x : Int32) : x.toInt64.toInt = x.toInt := Int32.toInt_toInt64 x
theorem own_div64 {x y : Int64} (hx : 0 ≤ x.toInt) (hy : 0 < y.toInt) : (x / y).toInt = x.toInt / y.toInt := by
  rw [Int64.toInt_div, Int.tdiv_eq_ediv_of_nonneg hx]
  have b := own_b64 x
  have h1 : 0 ≤ x.toInt / y.toInt := Int.ediv_nonneg hx (Int.le_of_lt hy)
  have h2 : x.toInt / y.toInt ≤ x.toInt := Int.ediv_le_self _ hx
  exact Int.bmod_eq_of_le (by omega) (by omega)
theorem own_div32 {x y : Int32} (hx : 0 ≤ x.toInt) (hy : 0 < y.toInt) : (x / y).toInt = x.toInt / y.toInt := by
  rw [Int32.toInt_div, Int.tdiv_eq_ediv_of_nonneg hx]
  have b := own_b32 x
  have h1 : 0 ≤ x.toInt / y.toInt := Int.ediv_nonneg hx (Int.le_of_lt hy)
  have h2 : x.toInt / y.toInt ≤ x.toInt := Int.ediv_le_self _ hx
  exact Int.bmod_eq_of_le (by omega) (by omega)
theorem own_rem32 {x y : Int32} (hx : 0 ≤ x.toInt) : (x % y).toInt = x.toInt % y.toInt := by
  rw [Int32.toInt_mod, Int.tmod_eq_emod_of_nonneg hx]
theorem own_pos32 (x : Int32) : 0 ≤ (x &&& 2147483647).toInt := by
  have q := (XT.and_neg32 x 2147483647)
  rw [XT.negI32] at q
  have r : ¬ (x &&& 2147483647).toInt < 0 := fun h => absurd (q.mp h).2 (by decide)
  omega
theorem own_pos64 (x : Int64) : 0 ≤ (x &&& 9223372036854775807).toInt := by
  have q := (XT.and_neg64 x 9223372036854775807)
  rw [XT.negI64] at q
  have r : ¬ (x &&& 9223372036854775807).toInt < 0 := fun h => absurd (q.mp h).2 (by decide)
  omega
theorem own_lt32 {x y : Int32} : x < y ↔ x.toInt < y.toInt := Int32.lt_iff_toInt_lt
theorem own_lt64 {x y : Int64} : x < y ↔ x.toInt < y.toInt := Int64.lt_iff_toInt_lt
theorem own_eq32 {x y : Int32} : x = y ↔ x.toInt = y.toInt := ⟨fun h => h ▸ rfl, Int32.toInt_inj.mp⟩
theorem own_eq64 {x y : Int64} : x = y ↔ x.toInt = y.toInt := ⟨fun h => h ▸ rfl, Int64.toInt_inj.mp⟩
theorem own_255 (i : Nat) : (255#32).getLsbD i = decide (i < 8) := by
  show (BitVec.ofNat 32 (2 ^ 8 - 1)).getLsbD i = _
  rw [BitVec.getLsbD_ofNat, Nat.testBit_two_pow_sub_one]
  by_cases h : i < 8
  · simp [h, show i < 32 by omega]
  · simp [h]
theorem own_sx (x : BitVec 32) (i : Nat) (h : i < 8) : ((x.signExtend 8).signExtend 32).getLsbD i = x.getLsbD i := by
  rw [BitVec.getLsbD_signExtend, if_pos h, BitVec.getLsbD_signExtend, if_pos (show i < 32 by omega)]
  rw [decide_eq_true h, decide_eq_true (show i < 32 by omega), Bool.true_and, Bool.true_and]
theorem own_byte (x : Int32) : (nar .byte x) &&& 255 = x &&& 255 := by
  apply Int32.toBitVec_inj.mp
  rw [Int32.toBitVec_and, Int32.toBitVec_and]
  show ((x.toBitVec.signExtend 8).signExtend 32) &&& 255#32 = x.toBitVec &&& 255#32
  apply BitVec.eq_of_getLsbD_eq
  intro i hi
  rw [BitVec.getLsbD_and, BitVec.getLsbD_and, own_255]
  by_cases h : i < 8
  · rw [own_sx _ _ h]
  · simp [h]
theorem own_byte2 (x : Int32) : (nar .byte (x.toInt8.toInt32)) &&& 255 = x &&& 255 := by
  rw [own_byte]; exact own_byte x
theorem own_cat4 (w : BitVec 32) : (((w >>> 24 &&& 255#32) <<< 24 ||| (w >>> 16 &&& 255#32) <<< 16) ||| (w >>> 8 &&& 255#32) <<< 8) ||| (w &&& 255#32) = w := by
  apply BitVec.eq_of_getLsbD_eq
  intro i hi
  simp only [BitVec.getLsbD_or, BitVec.getLsbD_and, BitVec.getLsbD_shiftLeft, BitVec.getLsbD_ushiftRight, own_255]
  have q : i < 8 ∨ (8 ≤ i ∧ i < 16) ∨ (16 ≤ i ∧ i < 24) ∨ (24 ≤ i ∧ i < 32) := by omega
  rcases q with q | q | q | q
  · simp [q, show i < 16 by omega, show i < 24 by omega]
  · simp [show i < 32 by omega, show i < 16 by omega, show i < 24 by omega, show ¬ i < 8 by omega, show 8 + (i - 8) = i by omega, show i - 8 < 8 by omega]
  · simp [show i < 32 by omega, show ¬ i < 16 by omega, show i < 24 by omega, show ¬ i < 8 by omega, show 16 + (i - 16) = i by omega, show i - 16 < 8 by omega, show ¬ i - 8 < 8 by omega]
  · simp [show i < 32 by omega, show ¬ i < 16 by omega, show ¬ i < 24 by omega, show ¬ i < 8 by omega, show 24 + (i - 24) = i by omega, show i - 24 < 8 by omega, show ¬ i - 8 < 8 by omega, show ¬ i - 16 < 8 by omega]
theorem own_ushr32 (z k : Int32) (n : Nat) (hk : (k &&& 31).toUInt32.toBitVec.toNat = n) (hn : n < 32) : (XT.ushr z k).toBitVec = z.toBitVec >>> n := by
  unfold XT.ushr
  show (z.toUInt32 >>> (k &&& 31).toUInt32).toBitVec = _
  rw [UInt32.toBitVec_shiftRight]
  show z.toBitVec >>> ((k &&& 31).toUInt32.toBitVec % 32) = _
  rw [BitVec.ushiftRight_eq']
  congr 1
  rw [BitVec.toNat_umod, hk]
  exact Nat.mod_eq_of_lt hn
theorem own_shl32 (z k : Int32) (n : Nat) (hk : (k &&& 31).toBitVec.toNat = n) (hn : n < 32) : (z <<< (k &&& 31)).toBitVec = z.toBitVec <<< n := by
  rw [Int32.toBitVec_shiftLeft]
  show z.toBitVec <<< ((k &&& 31).toBitVec.smod 32) = _
  have e : (k &&& 31).toBitVec.smod 32#32 = (k &&& 31).toBitVec := by
    rw [show (k &&& 31).toBitVec = BitVec.ofNat 32 n from BitVec.eq_of_toNat_eq (by rw [hk, BitVec.toNat_ofNat, Nat.mod_eq_of_lt (by omega)])]
    have : ∀ m : Fin 32, (BitVec.ofNat 32 m.val).smod 32#32 = BitVec.ofNat 32 m.val := by decide +kernel
    exact this ⟨n, hn⟩
  show z.toBitVec <<< ((k &&& 31).toBitVec.smod 32#32) = _
  rw [e, BitVec.shiftLeft_eq', hk]
def own_w4 (b3 b2 b1 b0 : Int32) : Int32 := (((b3 &&& 255) <<< ((24 : Int32) &&& 31) ||| (b2 &&& 255) <<< ((16 : Int32) &&& 31)) ||| (b1 &&& 255) <<< ((8 : Int32) &&& 31)) ||| (b0 &&& 255)
theorem own_word (w : Int32) : own_w4 (nar .byte (XT.ushr w 24).toInt8.toInt32) (nar .byte (XT.ushr w 16).toInt8.toInt32) (nar .byte (XT.ushr w 8).toInt8.toInt32) (nar .byte w.toInt8.toInt32) = w := by
  unfold own_w4
  rw [own_byte2, own_byte2, own_byte2, own_byte2]
  apply Int32.toBitVec_inj.mp
  rw [Int32.toBitVec_or, Int32.toBitVec_or, Int32.toBitVec_or, own_shl32 _ 24 24 (by decide) (by decide), own_shl32 _ 16 16 (by decide) (by decide), own_shl32 _ 8 8 (by decide) (by decide),
    Int32.toBitVec_and, Int32.toBitVec_and, Int32.toBitVec_and, Int32.toBitVec_and, own_ushr32 _ 24 24 (by decide) (by decide), own_ushr32 _ 16 16 (by decide) (by decide), own_ushr32 _ 8 8 (by decide) (by decide)]
  exact own_cat4 w.toBitVec
theorem own_k0 : (0 : Int32).toInt = 0 := by decide
theorem own_k1 : (1 : Int32).toInt = 1 := by decide
theorem own_k2 : (2 : Int32).toInt = 2 := by decide
theorem own_k3 : (3 : Int32).toInt = 3 := by decide
theorem own_k4 : (4 : Int32).toInt = 4 := by decide
theorem own_k127 : (127 : Int32).toInt = 127 := by decide
theorem own_k128 : (128 : Int32).toInt = 128 := by decide
theorem own_k143 : (143 : Int32).toInt = 143 := by decide
theorem own_k144 : (144 : Int32).toInt = 144 := by decide
theorem own_k159 : (159 : Int32).toInt = 159 := by decide
theorem own_k160 : (160 : Int32).toInt = 160 := by decide
theorem own_k191 : (191 : Int32).toInt = 191 := by decide
theorem own_k192 : (192 : Int32).toInt = 192 := by decide
theorem own_k194 : (194 : Int32).toInt = 194 := by decide
theorem own_k223 : (223 : Int32).toInt = 223 := by decide
theorem own_k224 : (224 : Int32).toInt = 224 := by decide
theorem own_k237 : (237 : Int32).toInt = 237 := by decide
theorem own_k239 : (239 : Int32).toInt = 239 := by decide
theorem own_k240 : (240 : Int32).toInt = 240 := by decide
theorem own_k244 : (244 : Int32).toInt = 244 := by decide
theorem own_k248 : (248 : Int32).toInt = 248 := by decide
theorem own_k2048 : (2048 : Int32).toInt = 2048 := by decide
theorem own_k55296 : (55296 : Int32).toInt = 55296 := by decide
theorem own_k57343 : (57343 : Int32).toInt = 57343 := by decide
theorem own_k65536 : (65536 : Int32).toInt = 65536 := by decide
theorem own_k1114111 : (1114111 : Int32).toInt = 1114111 := by decide
def own_b2 (d x1 : Int32) : Int32 := if d < 2 then 0 else if x1 < 128 then 0 else if 191 < x1 then 0 else 2
def own_b3 (lo hi d x1 y2 : Int32) : Int32 := if d < 3 then 0 else if x1 < lo then 0 else if hi < x1 then 0 else if y2 = 128 then 3 else 0
def own_b4 (lo hi d x1 y2 y3 : Int32) : Int32 := if d < 4 then 0 else if x1 < lo then 0 else if hi < x1 then 0 else if y2 = 128 then (if y3 = 128 then 4 else 0) else 0
def own_len (l x1 y2 y3 d : Int32) : Int32 :=
  if ¬ l < 194 ∧ ¬ 223 < l then own_b2 d x1
  else if ¬ l < 224 ∧ ¬ 239 < l then own_b3 (if l = 224 then 160 else 128) (if l = 237 then 159 else 191) d x1 y2
  else if ¬ l < 240 ∧ ¬ 244 < l then own_b4 (if l = 240 then 144 else 128) (if l = 244 then 143 else 191) d x1 y2 y3
  else 0
def own_V (x lo hi : Int32) : Int32 := if x < lo then 0 else if hi < x then 0 else 1
theorem own_len_lo {l x1 y2 y3 d : Int32} (h : l < 194) : own_len l x1 y2 y3 d = 0 := by
  simp only [own_lt32, own_k0, own_k1, own_k2, own_k3, own_k4, own_k127, own_k128, own_k143, own_k144, own_k159, own_k160, own_k191, own_k192, own_k194, own_k223, own_k224, own_k237, own_k239, own_k240, own_k244, own_k248, own_k2048, own_k55296, own_k57343, own_k65536, own_k1114111] at h
  unfold own_len
  rw [if_neg (by simp only [own_lt32, own_k0, own_k1, own_k2, own_k3, own_k4, own_k127, own_k128, own_k143, own_k144, own_k159, own_k160, own_k191, own_k192, own_k194, own_k223, own_k224, own_k237, own_k239, own_k240, own_k244, own_k248, own_k2048, own_k55296, own_k57343, own_k65536, own_k1114111]; omega), if_neg (by simp only [own_lt32, own_k0, own_k1, own_k2, own_k3, own_k4, own_k127, own_k128, own_k143, own_k144, own_k159, own_k160, own_k191, own_k192, own_k194, own_k223, own_k224, own_k237, own_k239, own_k240, own_k244, own_k248, own_k2048, own_k55296, own_k57343, own_k65536, own_k1114111]; omega), if_neg (by simp only [own_lt32, own_k0, own_k1, own_k2, own_k3, own_k4, own_k127, own_k128, own_k143, own_k144, own_k159, own_k160, own_k191, own_k192, own_k194, own_k223, own_k224, own_k237, own_k239, own_k240, own_k244, own_k248, own_k2048, own_k55296, own_k57343, own_k65536, own_k1114111]; omega)]
theorem own_len_hi {l x1 y2 y3 d : Int32} (h : 244 < l) : own_len l x1 y2 y3 d = 0 := by
  simp only [own_lt32, own_k0, own_k1, own_k2, own_k3, own_k4, own_k127, own_k128, own_k143, own_k144, own_k159, own_k160, own_k191, own_k192, own_k194, own_k223, own_k224, own_k237, own_k239, own_k240, own_k244, own_k248, own_k2048, own_k55296, own_k57343, own_k65536, own_k1114111] at h
  unfold own_len
  rw [if_neg (by simp only [own_lt32, own_k0, own_k1, own_k2, own_k3, own_k4, own_k127, own_k128, own_k143, own_k144, own_k159, own_k160, own_k191, own_k192, own_k194, own_k223, own_k224, own_k237, own_k239, own_k240, own_k244, own_k248, own_k2048, own_k55296, own_k57343, own_k65536, own_k1114111]; omega), if_neg (by simp only [own_lt32, own_k0, own_k1, own_k2, own_k3, own_k4, own_k127, own_k128, own_k143, own_k144, own_k159, own_k160, own_k191, own_k192, own_k194, own_k223, own_k224, own_k237, own_k239, own_k240, own_k244, own_k248, own_k2048, own_k55296, own_k57343, own_k65536, own_k1114111]; omega), if_neg (by simp only [own_lt32, own_k0, own_k1, own_k2, own_k3, own_k4, own_k127, own_k128, own_k143, own_k144, own_k159, own_k160, own_k191, own_k192, own_k194, own_k223, own_k224, own_k237, own_k239, own_k240, own_k244, own_k248, own_k2048, own_k55296, own_k57343, own_k65536, own_k1114111]; omega)]
theorem own_len_2 {l x1 y2 y3 d : Int32} (h1 : ¬ l < 194) (h2 : ¬ 223 < l) : own_len l x1 y2 y3 d = if d < 2 then 0 else if (if x1 < 128 then (0 : Int32) else if 191 < x1 then 0 else 1) = 0 then 0 else 2 := by
  unfold own_len own_b2
  rw [if_pos ⟨h1, h2⟩]
  repeat' split
  all_goals first | rfl | (exfalso; simp_all; done)
theorem own_len_3 {l x1 y2 y3 d : Int32} (h1 : 223 < l) (h2 : ¬ 239 < l) : own_len l x1 y2 y3 d = if d < 3 then 0 else if ((if x1 < (if l = 224 then (160 : Int32) else 128) then (0 : Int32) else if (if l = 237 then (159 : Int32) else 191) < x1 then 0 else 1) &&& (if y2 = 128 then (1 : Int32) else 0)) = 0 then 0 else 3 := by
  unfold own_len own_b3
  generalize (if l = 224 then (160 : Int32) else 128) = lo
  generalize (if l = 237 then (159 : Int32) else 191) = hi
  have g1 : ¬ (¬ l < 194 ∧ ¬ 223 < l) := fun q => q.2 h1
  have g2 : ¬ l < 224 := by simp only [own_lt32, own_k0, own_k1, own_k2, own_k3, own_k4, own_k127, own_k128, own_k143, own_k144, own_k159, own_k160, own_k191, own_k192, own_k194, own_k223, own_k224, own_k237, own_k239, own_k240, own_k244, own_k248, own_k2048, own_k55296, own_k57343, own_k65536, own_k1114111] at h1 ⊢; omega
  rw [if_neg g1, if_pos ⟨g2, h2⟩]
  by_cases a : d < 3
  · rw [if_pos a, if_pos a]
  · rw [if_neg a, if_neg a]
    by_cases b : x1 < lo
    · rw [if_pos b, if_pos b]; by_cases y : y2 = 128 <;> simp only [y, if_true, if_false] <;> rfl
    · rw [if_neg b, if_neg b]
      by_cases b' : hi < x1
      · rw [if_pos b', if_pos b']; by_cases y : y2 = 128 <;> simp only [y, if_true, if_false] <;> rfl
      · rw [if_neg b', if_neg b']; by_cases y : y2 = 128 <;> simp only [y, if_true, if_false] <;> rfl
theorem own_len_4 {l x1 y2 y3 d : Int32} (h1 : 239 < l) (h2 : ¬ 244 < l) : own_len l x1 y2 y3 d = if d < 4 then 0 else if (((if x1 < (if l = 240 then (144 : Int32) else 128) then (0 : Int32) else if (if l = 244 then (143 : Int32) else 191) < x1 then 0 else 1) &&& (if y2 = 128 then (1 : Int32) else 0)) &&& (if y3 = 128 then (1 : Int32) else 0)) = 0 then 0 else 4 := by
  unfold own_len own_b4
  generalize (if l = 240 then (144 : Int32) else 128) = lo
  generalize (if l = 244 then (143 : Int32) else 191) = hi
  have g1 : ¬ (¬ l < 194 ∧ ¬ 223 < l) := by simp only [own_lt32, own_k0, own_k1, own_k2, own_k3, own_k4, own_k127, own_k128, own_k143, own_k144, own_k159, own_k160, own_k191, own_k192, own_k194, own_k223, own_k224, own_k237, own_k239, own_k240, own_k244, own_k248, own_k2048, own_k55296, own_k57343, own_k65536, own_k1114111] at h1 ⊢; omega
  have g3 : ¬ (¬ l < 224 ∧ ¬ 239 < l) := fun q => q.2 h1
  have g2 : ¬ l < 240 := by simp only [own_lt32, own_k0, own_k1, own_k2, own_k3, own_k4, own_k127, own_k128, own_k143, own_k144, own_k159, own_k160, own_k191, own_k192, own_k194, own_k223, own_k224, own_k237, own_k239, own_k240, own_k244, own_k248, own_k2048, own_k55296, own_k57343, own_k65536, own_k1114111] at h1 ⊢; omega
  rw [if_neg g1, if_neg g3, if_pos ⟨g2, h2⟩]
  by_cases a : d < 4
  · rw [if_pos a, if_pos a]
  · rw [if_neg a, if_neg a]
    by_cases b : x1 < lo
    · rw [if_pos b, if_pos b]; by_cases y : y2 = 128 <;> by_cases z : y3 = 128 <;> simp only [y, z, if_true, if_false] <;> rfl
    · rw [if_neg b, if_neg b]
      by_cases b' : hi < x1
      · rw [if_pos b', if_pos b']; by_cases y : y2 = 128 <;> by_cases z : y3 = 128 <;> simp only [y, z, if_true, if_false] <;> rfl
      · rw [if_neg b', if_neg b']; by_cases y : y2 = 128 <;> by_cases z : y3 = 128 <;> simp only [y, z, if_true, if_false] <;> rfl
def own_cont (c : Int32) : Int32 := if (c &&& 192) = 128 then 1 else 0
def own_cp2 (c0 c1 : Int32) : Int32 := ((c0 &&& 31) <<< ((6 : Int32) &&& 31)) ||| (c1 &&& 63)
def own_cp3 (c0 c1 c2 : Int32) : Int32 := (((c0 &&& 15) <<< ((12 : Int32) &&& 31)) ||| ((c1 &&& 63) <<< ((6 : Int32) &&& 31))) ||| (c2 &&& 63)
def own_cp4 (c0 c1 c2 c3 : Int32) : Int32 := ((((c0 &&& 7) <<< ((18 : Int32) &&& 31)) ||| ((c1 &&& 63) <<< ((12 : Int32) &&& 31))) ||| ((c2 &&& 63) <<< ((6 : Int32) &&& 31))) ||| (c3 &&& 63)
def own_e2 (c0 c1 av : Int32) : Int32 := if av < 2 then 0 else if own_cont c1 = 0 then 0 else if own_cp2 c0 c1 < 128 then 0 else 2
def own_e3 (c0 c1 c2 av : Int32) : Int32 := if av < 3 then 0 else if own_cont c1 = 0 then 0 else if own_cont c2 = 0 then 0 else if own_cp3 c0 c1 c2 < 2048 then 0 else if own_cp3 c0 c1 c2 < 55296 then 3 else if 57343 < own_cp3 c0 c1 c2 then 3 else 0
def own_e4 (c0 c1 c2 c3 av : Int32) : Int32 := if av < 4 then 0 else if own_cont c1 = 0 then 0 else if own_cont c2 = 0 then 0 else if own_cont c3 = 0 then 0 else if own_cp4 c0 c1 c2 c3 < 65536 then 0 else if 1114111 < own_cp4 c0 c1 c2 c3 then 0 else 4
def own_expd (c0 c1 c2 c3 av : Int32) : Int32 := if c0 < 192 then 0 else if c0 < 224 then own_e2 c0 c1 av else if c0 < 240 then own_e3 c0 c1 c2 av else if c0 < 248 then own_e4 c0 c1 c2 c3 av else 0
theorem own_andm (x m : Int32) (k : Nat) (hm : m.toBitVec.toNat = 2 ^ k - 1) : (x &&& m).toBitVec.toNat = x.toBitVec.toNat % 2 ^ k := by
  rw [Int32.toBitVec_and, BitVec.toNat_and, hm]; exact Nat.and_two_pow_sub_one_eq_mod _ k
theorem own_shlN (x k : Int32) (n : Nat) (hk : (k &&& 31).toBitVec.toNat = n) (hn : n < 32) (hx : x.toBitVec.toNat * 2 ^ n < 2 ^ 32) : (x <<< (k &&& 31)).toBitVec.toNat = x.toBitVec.toNat * 2 ^ n := by
  rw [own_shl32 x k n hk hn, BitVec.toNat_shiftLeft, Nat.shiftLeft_eq, Nat.mod_eq_of_lt hx]
theorem own_orN {a b i : Nat} (hb : b < 2 ^ i) : a * 2 ^ i ||| b = a * 2 ^ i + b := by
  have := Nat.shiftLeft_add_eq_or_of_lt hb a
  rw [Nat.shiftLeft_eq] at this
  exact this.symm
theorem own_orI (x y : Int32) : (x ||| y).toBitVec.toNat = x.toBitVec.toNat ||| y.toBitVec.toNat := by rw [Int32.toBitVec_or, BitVec.toNat_or]
theorem own_cp2v (c0 c1 : Int32) : (own_cp2 c0 c1).toInt = (c0.toBitVec.toNat % 32 * 64 + c1.toBitVec.toNat % 64 : Nat) := by
  have e : (own_cp2 c0 c1).toBitVec.toNat = c0.toBitVec.toNat % 32 * 64 + c1.toBitVec.toNat % 64 := by
    unfold own_cp2
    rw [own_orI, own_shlN _ 6 6 (by decide) (by decide) (by rw [own_andm _ 31 5 (by decide)]; omega), own_andm _ 31 5 (by decide), own_andm _ 63 6 (by decide)]
    exact own_orN (i := 6) (by omega)
  rw [own_nn' (by omega), e]
theorem own_cp3v (c0 c1 c2 : Int32) : (own_cp3 c0 c1 c2).toInt = (c0.toBitVec.toNat % 16 * 4096 + c1.toBitVec.toNat % 64 * 64 + c2.toBitVec.toNat % 64 : Nat) := by
  have e : (own_cp3 c0 c1 c2).toBitVec.toNat = c0.toBitVec.toNat % 16 * 4096 + c1.toBitVec.toNat % 64 * 64 + c2.toBitVec.toNat % 64 := by
    unfold own_cp3
    rw [own_orI, own_orI, own_shlN _ 12 12 (by decide) (by decide) (by rw [own_andm _ 15 4 (by decide)]; omega), own_shlN _ 6 6 (by decide) (by decide) (by rw [own_andm _ 63 6 (by decide)]; omega), own_andm _ 15 4 (by decide), own_andm _ 63 6 (by decide), own_andm _ 63 6 (by decide)]
    rw [own_orN (i := 12) (by omega)]
    have q : c0.toBitVec.toNat % 2 ^ 4 * 2 ^ 12 + c1.toBitVec.toNat % 2 ^ 6 * 2 ^ 6 = (c0.toBitVec.toNat % 16 * 64 + c1.toBitVec.toNat % 64) * 2 ^ 6 := by omega
    rw [q, own_orN (i := 6) (by omega)]
    first | done | omega
  rw [own_nn' (by omega), e]
set_option maxRecDepth 65536 in
theorem own_cp4v (c0 c1 c2 c3 : Int32) : (own_cp4 c0 c1 c2 c3).toInt = (c0.toBitVec.toNat % 8 * 262144 + c1.toBitVec.toNat % 64 * 4096 + c2.toBitVec.toNat % 64 * 64 + c3.toBitVec.toNat % 64 : Nat) := by
  have e : (own_cp4 c0 c1 c2 c3).toBitVec.toNat = c0.toBitVec.toNat % 8 * 262144 + c1.toBitVec.toNat % 64 * 4096 + c2.toBitVec.toNat % 64 * 64 + c3.toBitVec.toNat % 64 := by
    unfold own_cp4
    rw [own_orI, own_orI, own_orI, own_shlN _ 18 18 (by decide) (by decide) (by rw [own_andm _ 7 3 (by decide)]; omega), own_shlN _ 12 12 (by decide) (by decide) (by rw [own_andm _ 63 6 (by decide)]; omega), own_shlN _ 6 6 (by decide) (by decide) (by rw [own_andm _ 63 6 (by decide)]; omega), own_andm _ 7 3 (by decide), own_andm _ 63 6 (by decide), own_andm _ 63 6 (by decide), own_andm _ 63 6 (by decide)]
    rw [own_orN (i := 18) (by omega)]
    have q : c0.toBitVec.toNat % 2 ^ 3 * 2 ^ 18 + c1.toBitVec.toNat % 2 ^ 6 * 2 ^ 12 = (c0.toBitVec.toNat % 8 * 64 + c1.toBitVec.toNat % 64) * 2 ^ 12 := by omega
    rw [q, own_orN (i := 12) (by omega)]
    have q2 : (c0.toBitVec.toNat % 8 * 64 + c1.toBitVec.toNat % 64) * 2 ^ 12 + c2.toBitVec.toNat % 2 ^ 6 * 2 ^ 6 = (c0.toBitVec.toNat % 8 * 4096 + c1.toBitVec.toNat % 64 * 64 + c2.toBitVec.toNat % 64) * 2 ^ 6 := by omega
    rw [q2, own_orN (i := 6) (by omega)]
    first | done | omega
  rw [own_nn' (by omega), e]
set_option maxRecDepth 65536 in
theorem own_c192 : ∀ k : Fin 256, decide ((Int32.ofNat k.val &&& 192) = 128) = decide (128 ≤ k.val ∧ k.val < 192) := by decide +kernel
theorem own_c192v {c : Int32} (h : c.toBitVec.toNat < 256) : ((c &&& 192) = 128) ↔ (128 ≤ c.toBitVec.toNat ∧ c.toBitVec.toNat < 192) := by
  have q := own_c192 ⟨_, h⟩
  rw [← own_ofnat (x := c) (by rw [own_nn' (by omega)]; omega)] at q
  exact decide_eq_decide.mp q
theorem own_cont0 {c : Int32} (h : c.toBitVec.toNat < 256) : own_cont c = 0 ↔ ¬ (128 ≤ c.toBitVec.toNat ∧ c.toBitVec.toNat < 192) := by
  unfold own_cont
  by_cases q : (c &&& 192) = 128
  · rw [if_pos q]; rw [own_c192v h] at q; simp [q]
  · rw [if_neg q]; rw [own_c192v h] at q; simp [q]
set_option maxHeartbeats 4000000 in
theorem own_fin {c0 c1 c2 c3 av : Int32} (h0 : c0.toBitVec.toNat < 256) (h1 : c1.toBitVec.toNat < 256) (h2 : c2.toBitVec.toNat < 256) (h3 : c3.toBitVec.toNat < 256) : own_len c0 c1 (c2 &&& 192) (c3 &&& 192) av = own_expd c0 c1 c2 c3 av := by
  have e0 := own_nn' (x := c0) (by omega)
  have e1 := own_nn' (x := c1) (by omega)
  have p2 := own_cp2v c0 c1
  have p3 := own_cp3v c0 c1 c2
  have p4 := own_cp4v c0 c1 c2 c3
  have k1 := own_cont0 h1
  have k2 := own_cont0 h2
  have k3 := own_cont0 h3
  have q2 := own_c192v h2
  have q3 := own_c192v h3
  unfold own_len own_expd
  by_cases a1 : c0 < 192
  · rw [if_pos a1]
    simp only [own_lt32, own_k0, own_k1, own_k2, own_k3, own_k4, own_k127, own_k128, own_k143, own_k144, own_k159, own_k160, own_k191, own_k192, own_k194, own_k223, own_k224, own_k237, own_k239, own_k240, own_k244, own_k248, own_k2048, own_k55296, own_k57343, own_k65536, own_k1114111] at a1
    rw [if_neg (by simp only [own_lt32, own_k0, own_k1, own_k2, own_k3, own_k4, own_k127, own_k128, own_k143, own_k144, own_k159, own_k160, own_k191, own_k192, own_k194, own_k223, own_k224, own_k237, own_k239, own_k240, own_k244, own_k248, own_k2048, own_k55296, own_k57343, own_k65536, own_k1114111]; omega), if_neg (by simp only [own_lt32, own_k0, own_k1, own_k2, own_k3, own_k4, own_k127, own_k128, own_k143, own_k144, own_k159, own_k160, own_k191, own_k192, own_k194, own_k223, own_k224, own_k237, own_k239, own_k240, own_k244, own_k248, own_k2048, own_k55296, own_k57343, own_k65536, own_k1114111]; omega), if_neg (by simp only [own_lt32, own_k0, own_k1, own_k2, own_k3, own_k4, own_k127, own_k128, own_k143, own_k144, own_k159, own_k160, own_k191, own_k192, own_k194, own_k223, own_k224, own_k237, own_k239, own_k240, own_k244, own_k248, own_k2048, own_k55296, own_k57343, own_k65536, own_k1114111]; omega)]
  · rw [if_neg a1]
    simp only [own_lt32, own_k0, own_k1, own_k2, own_k3, own_k4, own_k127, own_k128, own_k143, own_k144, own_k159, own_k160, own_k191, own_k192, own_k194, own_k223, own_k224, own_k237, own_k239, own_k240, own_k244, own_k248, own_k2048, own_k55296, own_k57343, own_k65536, own_k1114111] at a1
    by_cases a2 : c0 < 224
    · rw [if_pos a2]
      simp only [own_lt32, own_k0, own_k1, own_k2, own_k3, own_k4, own_k127, own_k128, own_k143, own_k144, own_k159, own_k160, own_k191, own_k192, own_k194, own_k223, own_k224, own_k237, own_k239, own_k240, own_k244, own_k248, own_k2048, own_k55296, own_k57343, own_k65536, own_k1114111] at a2
      by_cases a3 : c0 < 194
      · simp only [own_lt32, own_k0, own_k1, own_k2, own_k3, own_k4, own_k127, own_k128, own_k143, own_k144, own_k159, own_k160, own_k191, own_k192, own_k194, own_k223, own_k224, own_k237, own_k239, own_k240, own_k244, own_k248, own_k2048, own_k55296, own_k57343, own_k65536, own_k1114111] at a3
        rw [if_neg (by simp only [own_lt32, own_k0, own_k1, own_k2, own_k3, own_k4, own_k127, own_k128, own_k143, own_k144, own_k159, own_k160, own_k191, own_k192, own_k194, own_k223, own_k224, own_k237, own_k239, own_k240, own_k244, own_k248, own_k2048, own_k55296, own_k57343, own_k65536, own_k1114111]; omega), if_neg (by simp only [own_lt32, own_k0, own_k1, own_k2, own_k3, own_k4, own_k127, own_k128, own_k143, own_k144, own_k159, own_k160, own_k191, own_k192, own_k194, own_k223, own_k224, own_k237, own_k239, own_k240, own_k244, own_k248, own_k2048, own_k55296, own_k57343, own_k65536, own_k1114111]; omega), if_neg (by simp only [own_lt32, own_k0, own_k1, own_k2, own_k3, own_k4, own_k127, own_k128, own_k143, own_k144, own_k159, own_k160, own_k191, own_k192, own_k194, own_k223, own_k224, own_k237, own_k239, own_k240, own_k244, own_k248, own_k2048, own_k55296, own_k57343, own_k65536, own_k1114111]; omega)]
        unfold own_e2
        simp only [k1]
        clear k2 k3 p3 p4 q2 q3 k1
        repeat' split
        all_goals first | rfl | (exfalso; simp only [own_lt32, own_k0, own_k1, own_k2, own_k3, own_k4, own_k127, own_k128, own_k143, own_k144, own_k159, own_k160, own_k191, own_k192, own_k194, own_k223, own_k224, own_k237, own_k239, own_k240, own_k244, own_k248, own_k2048, own_k55296, own_k57343, own_k65536, own_k1114111] at *; omega)
      · simp only [own_lt32, own_k0, own_k1, own_k2, own_k3, own_k4, own_k127, own_k128, own_k143, own_k144, own_k159, own_k160, own_k191, own_k192, own_k194, own_k223, own_k224, own_k237, own_k239, own_k240, own_k244, own_k248, own_k2048, own_k55296, own_k57343, own_k65536, own_k1114111] at a3
        rw [if_pos (by simp only [own_lt32, own_k0, own_k1, own_k2, own_k3, own_k4, own_k127, own_k128, own_k143, own_k144, own_k159, own_k160, own_k191, own_k192, own_k194, own_k223, own_k224, own_k237, own_k239, own_k240, own_k244, own_k248, own_k2048, own_k55296, own_k57343, own_k65536, own_k1114111]; omega)]
        unfold own_e2 own_b2
        simp only [k1]
        clear k2 k3 p3 p4 q2 q3 k1
        repeat' split
        all_goals first | rfl | (exfalso; simp only [own_lt32, own_k0, own_k1, own_k2, own_k3, own_k4, own_k127, own_k128, own_k143, own_k144, own_k159, own_k160, own_k191, own_k192, own_k194, own_k223, own_k224, own_k237, own_k239, own_k240, own_k244, own_k248, own_k2048, own_k55296, own_k57343, own_k65536, own_k1114111] at *; omega)
    · rw [if_neg a2]
      simp only [own_lt32, own_k0, own_k1, own_k2, own_k3, own_k4, own_k127, own_k128, own_k143, own_k144, own_k159, own_k160, own_k191, own_k192, own_k194, own_k223, own_k224, own_k237, own_k239, own_k240, own_k244, own_k248, own_k2048, own_k55296, own_k57343, own_k65536, own_k1114111] at a2
      rw [if_neg (by simp only [own_lt32, own_k0, own_k1, own_k2, own_k3, own_k4, own_k127, own_k128, own_k143, own_k144, own_k159, own_k160, own_k191, own_k192, own_k194, own_k223, own_k224, own_k237, own_k239, own_k240, own_k244, own_k248, own_k2048, own_k55296, own_k57343, own_k65536, own_k1114111]; omega)]
      by_cases a3 : c0 < 240
      · rw [if_pos a3]
        simp only [own_lt32, own_k0, own_k1, own_k2, own_k3, own_k4, own_k127, own_k128, own_k143, own_k144, own_k159, own_k160, own_k191, own_k192, own_k194, own_k223, own_k224, own_k237, own_k239, own_k240, own_k244, own_k248, own_k2048, own_k55296, own_k57343, own_k65536, own_k1114111] at a3
        rw [if_pos (by simp only [own_lt32, own_k0, own_k1, own_k2, own_k3, own_k4, own_k127, own_k128, own_k143, own_k144, own_k159, own_k160, own_k191, own_k192, own_k194, own_k223, own_k224, own_k237, own_k239, own_k240, own_k244, own_k248, own_k2048, own_k55296, own_k57343, own_k65536, own_k1114111]; omega)]
        unfold own_e3 own_b3
        simp only [k1, k2, q2]
        clear k3 p2 p4 q3 k1 k2 q2
        repeat' split
        all_goals first | rfl | (exfalso; simp only [own_lt32, own_eq32, own_k0, own_k1, own_k2, own_k3, own_k4, own_k127, own_k128, own_k143, own_k144, own_k159, own_k160, own_k191, own_k192, own_k194, own_k223, own_k224, own_k237, own_k239, own_k240, own_k244, own_k248, own_k2048, own_k55296, own_k57343, own_k65536, own_k1114111] at *; omega)
      · rw [if_neg a3]
        simp only [own_lt32, own_k0, own_k1, own_k2, own_k3, own_k4, own_k127, own_k128, own_k143, own_k144, own_k159, own_k160, own_k191, own_k192, own_k194, own_k223, own_k224, own_k237, own_k239, own_k240, own_k244, own_k248, own_k2048, own_k55296, own_k57343, own_k65536, own_k1114111] at a3
        rw [if_neg (by simp only [own_lt32, own_k0, own_k1, own_k2, own_k3, own_k4, own_k127, own_k128, own_k143, own_k144, own_k159, own_k160, own_k191, own_k192, own_k194, own_k223, own_k224, own_k237, own_k239, own_k240, own_k244, own_k248, own_k2048, own_k55296, own_k57343, own_k65536, own_k1114111]; omega)]
        by_cases a4 : c0 < 248
        · rw [if_pos a4]
          simp only [own_lt32, own_k0, own_k1, own_k2, own_k3, own_k4, own_k127, own_k128, own_k143, own_k144, own_k159, own_k160, own_k191, own_k192, own_k194, own_k223, own_k224, own_k237, own_k239, own_k240, own_k244, own_k248, own_k2048, own_k55296, own_k57343, own_k65536, own_k1114111] at a4
          by_cases a5 : 244 < c0
          · simp only [own_lt32, own_k0, own_k1, own_k2, own_k3, own_k4, own_k127, own_k128, own_k143, own_k144, own_k159, own_k160, own_k191, own_k192, own_k194, own_k223, own_k224, own_k237, own_k239, own_k240, own_k244, own_k248, own_k2048, own_k55296, own_k57343, own_k65536, own_k1114111] at a5
            rw [if_neg (by simp only [own_lt32, own_k0, own_k1, own_k2, own_k3, own_k4, own_k127, own_k128, own_k143, own_k144, own_k159, own_k160, own_k191, own_k192, own_k194, own_k223, own_k224, own_k237, own_k239, own_k240, own_k244, own_k248, own_k2048, own_k55296, own_k57343, own_k65536, own_k1114111]; omega)]
            unfold own_e4
            simp only [k1, k2, k3]
            clear p2 p3 q2 q3 k1 k2 k3
            repeat' split
            all_goals first | rfl | (exfalso; simp only [own_lt32, own_k0, own_k1, own_k2, own_k3, own_k4, own_k127, own_k128, own_k143, own_k144, own_k159, own_k160, own_k191, own_k192, own_k194, own_k223, own_k224, own_k237, own_k239, own_k240, own_k244, own_k248, own_k2048, own_k55296, own_k57343, own_k65536, own_k1114111] at *; omega)
          · simp only [own_lt32, own_k0, own_k1, own_k2, own_k3, own_k4, own_k127, own_k128, own_k143, own_k144, own_k159, own_k160, own_k191, own_k192, own_k194, own_k223, own_k224, own_k237, own_k239, own_k240, own_k244, own_k248, own_k2048, own_k55296, own_k57343, own_k65536, own_k1114111] at a5
            rw [if_pos (by simp only [own_lt32, own_k0, own_k1, own_k2, own_k3, own_k4, own_k127, own_k128, own_k143, own_k144, own_k159, own_k160, own_k191, own_k192, own_k194, own_k223, own_k224, own_k237, own_k239, own_k240, own_k244, own_k248, own_k2048, own_k55296, own_k57343, own_k65536, own_k1114111]; omega)]
            unfold own_e4 own_b4
            simp only [k1, k2, k3, q2, q3]
            clear p2 p3 k1 k2 k3 q2 q3
            repeat' split
            all_goals first | rfl | (exfalso; simp only [own_lt32, own_eq32, own_k0, own_k1, own_k2, own_k3, own_k4, own_k127, own_k128, own_k143, own_k144, own_k159, own_k160, own_k191, own_k192, own_k194, own_k223, own_k224, own_k237, own_k239, own_k240, own_k244, own_k248, own_k2048, own_k55296, own_k57343, own_k65536, own_k1114111] at *; omega)
        · rw [if_neg a4]
          simp only [own_lt32, own_k0, own_k1, own_k2, own_k3, own_k4, own_k127, own_k128, own_k143, own_k144, own_k159, own_k160, own_k191, own_k192, own_k194, own_k223, own_k224, own_k237, own_k239, own_k240, own_k244, own_k248, own_k2048, own_k55296, own_k57343, own_k65536, own_k1114111] at a4
          rw [if_neg (by simp only [own_lt32, own_k0, own_k1, own_k2, own_k3, own_k4, own_k127, own_k128, own_k143, own_k144, own_k159, own_k160, own_k191, own_k192, own_k194, own_k223, own_k224, own_k237, own_k239, own_k240, own_k244, own_k248, own_k2048, own_k55296, own_k57343, own_k65536, own_k1114111]; omega)]
theorem own_192 (i : Nat) (h : 8 ≤ i) : (192#32).getLsbD i = false := by
  have : (192#32) = 192#32 &&& 255#32 := by decide
  rw [this, BitVec.getLsbD_and, own_255]
  simp [show ¬ i < 8 by omega]
theorem own_byte192 (x : Int32) : (nar .byte x) &&& 192 = x &&& 192 := by
  apply Int32.toBitVec_inj.mp
  rw [Int32.toBitVec_and, Int32.toBitVec_and]
  show ((x.toBitVec.signExtend 8).signExtend 32) &&& 192#32 = x.toBitVec &&& 192#32
  apply BitVec.eq_of_getLsbD_eq
  intro i hi
  rw [BitVec.getLsbD_and, BitVec.getLsbD_and]
  by_cases h : i < 8
  · rw [own_sx _ _ h]
  · rw [own_192 i (by omega)]; simp
theorem own_idem (x : Int32) : x &&& 255 &&& 255 = x &&& 255 := by
  rw [Int32.and_assoc]; rfl
theorem own_lt256 {x c : Int32} (h : c = x &&& 255) : c.toBitVec.toNat < 256 := by
  rw [h, own_andm x 255 8 (by decide)]; omega
theorem own_two {x v : Int32} (h : v = XT.ushr x 3 &&& 1) : v = 0 ∨ v = 1 := by
  have e := own_andm (XT.ushr x 3) 1 1 (by decide)
  have q := own_ofnat (x := XT.ushr x 3 &&& 1) (by rw [own_nn' (by omega)]; omega)
  rw [h]
  have : (XT.ushr x 3 &&& 1).toBitVec.toNat = 0 ∨ (XT.ushr x 3 &&& 1).toBitVec.toNat = 1 := by omega
  rcases this with k | k <;> rw [k] at q <;> rw [q] <;> decide
theorem own_sub0 (a : Int32) : (0 + a) - 0 = a := by rw [Int32.zero_add, Int32.sub_zero]
theorem own_sub1 (a : Int32) : (1 + a) - 1 = a := by rw [Int32.add_comm, Int32.add_sub_cancel]
theorem own_joint {p0 p1 p2 p3 c0 c1 c2 c3 av : Int32} (h0 : c0 = p0 &&& 255) (h1 : c1 = p1 &&& 255) (h2 : c2 = p2 &&& 255) (h3 : c3 = p3 &&& 255) {s : Int32} (hs : ∀ a : Int32, (s + a) - s = a) :
    own_len ((nar .byte c0.toInt8.toInt32) &&& 255) ((nar .byte c1.toInt8.toInt32) &&& 255) ((nar .byte c2.toInt8.toInt32) &&& 192) ((nar .byte c3.toInt8.toInt32) &&& 192) ((s + av) - s) = own_expd c0 c1 c2 c3 av := by
  have b2 : (nar .byte c2.toInt8.toInt32) &&& 192 = c2 &&& 192 := by rw [own_byte192]; exact own_byte192 c2
  have b3 : (nar .byte c3.toInt8.toInt32) &&& 192 = c3 &&& 192 := by rw [own_byte192]; exact own_byte192 c3
  have a0 : c0 &&& 255 = c0 := by rw [h0, own_idem]
  have a1 : c1 &&& 255 = c1 := by rw [h1, own_idem]
  rw [own_byte2, own_byte2, b2, b3, hs, a0, a1]
  exact own_fin (own_lt256 h0) (own_lt256 h1) (own_lt256 h2) (own_lt256 h3)

theorem d1_0 : decode prog_18_method_2_code 0 = .ok (.aload_n 0, 1) := by decide +kernel
theorem d1_1 : decode prog_18_method_2_code 1 = .ok (.iload_n 1, 1) := by decide +kernel
theorem d1_2 : decode prog_18_method_2_code 2 = .ok (.baload, 1) := by decide +kernel
theorem d1_3 : decode prog_18_method_2_code 3 = .ok (.sipush 255, 3) := by decide +kernel
theorem d1_6 : decode prog_18_method_2_code 6 = .ok (.iand, 1) := by decide +kernel
theorem d1_7 : decode prog_18_method_2_code 7 = .ok (.istore_n 3, 1) := by decide +kernel
theorem d1_8 : decode prog_18_method_2_code 8 = .ok (.iconst 0, 1) := by decide +kernel
theorem d1_9 : decode prog_18_method_2_code 9 = .ok (.istore 4, 2) := by decide +kernel
theorem d1_11 : decode prog_18_method_2_code 11 = .ok (.sipush 128, 3) := by decide +kernel
theorem d1_14 : decode prog_18_method_2_code 14 = .ok (.istore 5, 2) := by decide +kernel
theorem d1_16 : decode prog_18_method_2_code 16 = .ok (.sipush 191, 3) := by decide +kernel
theorem d1_19 : decode prog_18_method_2_code 19 = .ok (.istore 6, 2) := by decide +kernel
theorem d1_21 : decode prog_18_method_2_code 21 = .ok (.iload_n 3, 1) := by decide +kernel
theorem d1_22 : decode prog_18_method_2_code 22 = .ok (.sipush 194, 3) := by decide +kernel
theorem d1_25 : decode prog_18_method_2_code 25 = .ok (.if_icmp .lt 16, 3) := by decide +kernel
theorem d1_28 : decode prog_18_method_2_code 28 = .ok (.iload_n 3, 1) := by decide +kernel
theorem d1_29 : decode prog_18_method_2_code 29 = .ok (.sipush 223, 3) := by decide +kernel
theorem d1_32 : decode prog_18_method_2_code 32 = .ok (.if_icmp .gt 9, 3) := by decide +kernel
theorem d1_35 : decode prog_18_method_2_code 35 = .ok (.iconst 2, 1) := by decide +kernel
theorem d1_36 : decode prog_18_method_2_code 36 = .ok (.istore 4, 2) := by decide +kernel
theorem d1_38 : decode prog_18_method_2_code 38 = .ok (.goto 112, 3) := by decide +kernel
theorem d1_41 : decode prog_18_method_2_code 41 = .ok (.iload_n 3, 1) := by decide +kernel
theorem d1_42 : decode prog_18_method_2_code 42 = .ok (.sipush 224, 3) := by decide +kernel
theorem d1_45 : decode prog_18_method_2_code 45 = .ok (.if_icmp .lt 52, 3) := by decide +kernel
theorem d1_48 : decode prog_18_method_2_code 48 = .ok (.iload_n 3, 1) := by decide +kernel
theorem d1_49 : decode prog_18_method_2_code 49 = .ok (.sipush 239, 3) := by decide +kernel
theorem d1_52 : decode prog_18_method_2_code 52 = .ok (.if_icmp .gt 45, 3) := by decide +kernel
theorem d1_55 : decode prog_18_method_2_code 55 = .ok (.iconst 3, 1) := by decide +kernel
theorem d1_56 : decode prog_18_method_2_code 56 = .ok (.istore 4, 2) := by decide +kernel
theorem d1_58 : decode prog_18_method_2_code 58 = .ok (.iload_n 3, 1) := by decide +kernel
theorem d1_59 : decode prog_18_method_2_code 59 = .ok (.sipush 224, 3) := by decide +kernel
theorem d1_62 : decode prog_18_method_2_code 62 = .ok (.if_icmp .ne 9, 3) := by decide +kernel
theorem d1_65 : decode prog_18_method_2_code 65 = .ok (.sipush 160, 3) := by decide +kernel
theorem d1_68 : decode prog_18_method_2_code 68 = .ok (.goto 6, 3) := by decide +kernel
theorem d1_71 : decode prog_18_method_2_code 71 = .ok (.sipush 128, 3) := by decide +kernel
theorem d1_74 : decode prog_18_method_2_code 74 = .ok (.istore 5, 2) := by decide +kernel
theorem d1_76 : decode prog_18_method_2_code 76 = .ok (.iload_n 3, 1) := by decide +kernel
theorem d1_77 : decode prog_18_method_2_code 77 = .ok (.sipush 237, 3) := by decide +kernel
theorem d1_80 : decode prog_18_method_2_code 80 = .ok (.if_icmp .ne 9, 3) := by decide +kernel
theorem d1_83 : decode prog_18_method_2_code 83 = .ok (.sipush 159, 3) := by decide +kernel
theorem d1_86 : decode prog_18_method_2_code 86 = .ok (.goto 6, 3) := by decide +kernel
theorem d1_89 : decode prog_18_method_2_code 89 = .ok (.sipush 191, 3) := by decide +kernel
theorem d1_92 : decode prog_18_method_2_code 92 = .ok (.istore 6, 2) := by decide +kernel
theorem d1_94 : decode prog_18_method_2_code 94 = .ok (.goto 56, 3) := by decide +kernel
theorem d1_97 : decode prog_18_method_2_code 97 = .ok (.iload_n 3, 1) := by decide +kernel
theorem d1_98 : decode prog_18_method_2_code 98 = .ok (.sipush 240, 3) := by decide +kernel
theorem d1_101 : decode prog_18_method_2_code 101 = .ok (.if_icmp .lt 49, 3) := by decide +kernel
theorem d1_104 : decode prog_18_method_2_code 104 = .ok (.iload_n 3, 1) := by decide +kernel
theorem d1_105 : decode prog_18_method_2_code 105 = .ok (.sipush 244, 3) := by decide +kernel
theorem d1_108 : decode prog_18_method_2_code 108 = .ok (.if_icmp .gt 42, 3) := by decide +kernel
theorem d1_111 : decode prog_18_method_2_code 111 = .ok (.iconst 4, 1) := by decide +kernel
theorem d1_112 : decode prog_18_method_2_code 112 = .ok (.istore 4, 2) := by decide +kernel
theorem d1_114 : decode prog_18_method_2_code 114 = .ok (.iload_n 3, 1) := by decide +kernel
theorem d1_115 : decode prog_18_method_2_code 115 = .ok (.sipush 240, 3) := by decide +kernel
theorem d1_118 : decode prog_18_method_2_code 118 = .ok (.if_icmp .ne 9, 3) := by decide +kernel
theorem d1_121 : decode prog_18_method_2_code 121 = .ok (.sipush 144, 3) := by decide +kernel
theorem d1_124 : decode prog_18_method_2_code 124 = .ok (.goto 6, 3) := by decide +kernel
theorem d1_127 : decode prog_18_method_2_code 127 = .ok (.sipush 128, 3) := by decide +kernel
theorem d1_130 : decode prog_18_method_2_code 130 = .ok (.istore 5, 2) := by decide +kernel
theorem d1_132 : decode prog_18_method_2_code 132 = .ok (.iload_n 3, 1) := by decide +kernel
theorem d1_133 : decode prog_18_method_2_code 133 = .ok (.sipush 244, 3) := by decide +kernel
theorem d1_136 : decode prog_18_method_2_code 136 = .ok (.if_icmp .ne 9, 3) := by decide +kernel
theorem d1_139 : decode prog_18_method_2_code 139 = .ok (.sipush 143, 3) := by decide +kernel
theorem d1_142 : decode prog_18_method_2_code 142 = .ok (.goto 6, 3) := by decide +kernel
theorem d1_145 : decode prog_18_method_2_code 145 = .ok (.sipush 191, 3) := by decide +kernel
theorem d1_148 : decode prog_18_method_2_code 148 = .ok (.istore 6, 2) := by decide +kernel
theorem d1_150 : decode prog_18_method_2_code 150 = .ok (.iload 4, 2) := by decide +kernel
theorem d1_152 : decode prog_18_method_2_code 152 = .ok (.ifCond .eq 11, 3) := by decide +kernel
theorem d1_155 : decode prog_18_method_2_code 155 = .ok (.iload_n 2, 1) := by decide +kernel
theorem d1_156 : decode prog_18_method_2_code 156 = .ok (.iload_n 1, 1) := by decide +kernel
theorem d1_157 : decode prog_18_method_2_code 157 = .ok (.isub, 1) := by decide +kernel
theorem d1_158 : decode prog_18_method_2_code 158 = .ok (.iload 4, 2) := by decide +kernel
theorem d1_160 : decode prog_18_method_2_code 160 = .ok (.if_icmp .ge 5, 3) := by decide +kernel
theorem d1_163 : decode prog_18_method_2_code 163 = .ok (.iconst 0, 1) := by decide +kernel
theorem d1_164 : decode prog_18_method_2_code 164 = .ok (.ireturn, 1) := by decide +kernel
theorem d1_165 : decode prog_18_method_2_code 165 = .ok (.aload_n 0, 1) := by decide +kernel
theorem d1_166 : decode prog_18_method_2_code 166 = .ok (.iload_n 1, 1) := by decide +kernel
theorem d1_167 : decode prog_18_method_2_code 167 = .ok (.iconst 1, 1) := by decide +kernel
theorem d1_168 : decode prog_18_method_2_code 168 = .ok (.iadd, 1) := by decide +kernel
theorem d1_169 : decode prog_18_method_2_code 169 = .ok (.baload, 1) := by decide +kernel
theorem d1_170 : decode prog_18_method_2_code 170 = .ok (.sipush 255, 3) := by decide +kernel
theorem d1_173 : decode prog_18_method_2_code 173 = .ok (.iand, 1) := by decide +kernel
theorem d1_174 : decode prog_18_method_2_code 174 = .ok (.istore 7, 2) := by decide +kernel
theorem d1_176 : decode prog_18_method_2_code 176 = .ok (.iload 7, 2) := by decide +kernel
theorem d1_178 : decode prog_18_method_2_code 178 = .ok (.iload 5, 2) := by decide +kernel
theorem d1_180 : decode prog_18_method_2_code 180 = .ok (.if_icmp .lt 14, 3) := by decide +kernel
theorem d1_183 : decode prog_18_method_2_code 183 = .ok (.iload 7, 2) := by decide +kernel
theorem d1_185 : decode prog_18_method_2_code 185 = .ok (.iload 6, 2) := by decide +kernel
theorem d1_187 : decode prog_18_method_2_code 187 = .ok (.if_icmp .gt 7, 3) := by decide +kernel
theorem d1_190 : decode prog_18_method_2_code 190 = .ok (.iconst 1, 1) := by decide +kernel
theorem d1_191 : decode prog_18_method_2_code 191 = .ok (.goto 4, 3) := by decide +kernel
theorem d1_194 : decode prog_18_method_2_code 194 = .ok (.iconst 0, 1) := by decide +kernel
theorem d1_195 : decode prog_18_method_2_code 195 = .ok (.istore 8, 2) := by decide +kernel
theorem d1_197 : decode prog_18_method_2_code 197 = .ok (.iload_n 1, 1) := by decide +kernel
theorem d1_198 : decode prog_18_method_2_code 198 = .ok (.iconst 2, 1) := by decide +kernel
theorem d1_199 : decode prog_18_method_2_code 199 = .ok (.iadd, 1) := by decide +kernel
theorem d1_200 : decode prog_18_method_2_code 200 = .ok (.istore 9, 2) := by decide +kernel
theorem d1_202 : decode prog_18_method_2_code 202 = .ok (.iload 9, 2) := by decide +kernel
theorem d1_204 : decode prog_18_method_2_code 204 = .ok (.iload_n 1, 1) := by decide +kernel
theorem d1_205 : decode prog_18_method_2_code 205 = .ok (.iload 4, 2) := by decide +kernel
theorem d1_207 : decode prog_18_method_2_code 207 = .ok (.iadd, 1) := by decide +kernel
theorem d1_208 : decode prog_18_method_2_code 208 = .ok (.if_icmp .ge 33, 3) := by decide +kernel
theorem d1_211 : decode prog_18_method_2_code 211 = .ok (.iload 8, 2) := by decide +kernel
theorem d1_213 : decode prog_18_method_2_code 213 = .ok (.aload_n 0, 1) := by decide +kernel
theorem d1_214 : decode prog_18_method_2_code 214 = .ok (.iload 9, 2) := by decide +kernel
theorem d1_216 : decode prog_18_method_2_code 216 = .ok (.baload, 1) := by decide +kernel
theorem d1_217 : decode prog_18_method_2_code 217 = .ok (.sipush 192, 3) := by decide +kernel
theorem d1_220 : decode prog_18_method_2_code 220 = .ok (.iand, 1) := by decide +kernel
theorem d1_221 : decode prog_18_method_2_code 221 = .ok (.sipush 128, 3) := by decide +kernel
theorem d1_224 : decode prog_18_method_2_code 224 = .ok (.if_icmp .ne 7, 3) := by decide +kernel
theorem d1_227 : decode prog_18_method_2_code 227 = .ok (.iconst 1, 1) := by decide +kernel
theorem d1_228 : decode prog_18_method_2_code 228 = .ok (.goto 4, 3) := by decide +kernel
theorem d1_231 : decode prog_18_method_2_code 231 = .ok (.iconst 0, 1) := by decide +kernel
theorem d1_232 : decode prog_18_method_2_code 232 = .ok (.iand, 1) := by decide +kernel
theorem d1_233 : decode prog_18_method_2_code 233 = .ok (.istore 8, 2) := by decide +kernel
theorem d1_235 : decode prog_18_method_2_code 235 = .ok (.iinc 9 1, 3) := by decide +kernel
theorem d1_238 : decode prog_18_method_2_code 238 = .ok (.goto (-36), 3) := by decide +kernel
theorem d1_241 : decode prog_18_method_2_code 241 = .ok (.iload 8, 2) := by decide +kernel
theorem d1_243 : decode prog_18_method_2_code 243 = .ok (.ifCond .eq 8, 3) := by decide +kernel
theorem d1_246 : decode prog_18_method_2_code 246 = .ok (.iload 4, 2) := by decide +kernel
theorem d1_248 : decode prog_18_method_2_code 248 = .ok (.goto 4, 3) := by decide +kernel
theorem d1_251 : decode prog_18_method_2_code 251 = .ok (.iconst 0, 1) := by decide +kernel
theorem d1_252 : decode prog_18_method_2_code 252 = .ok (.ireturn, 1) := by decide +kernel

theorem pd1 : parseMethodDescriptor "([BII)I" = some ⟨[(.array .byte), .int, .int], some .int⟩ := by decide +kernel
theorem pl1 : plainFor (⟨"com/example/interlace/interlace/csv/Utf8", "sequenceLength", "([BII)I"⟩ : MethodName) = true := by first | exact plainFor_of_name (by first | (simp [plainName, overriddenIn]; done) | decide +kernel) | decide +kernel

theorem ef_k_sl0 (m : MethodId) (x0 : Addr) (x1 : Int32) (x2 : Int32) : entryFrame m #[(.ref x0), (.int x1), (.int x2)] 10 = mkF m 0 #[.val (.ref x0), .val (.int x1), .val (.int x2), .unset, .unset, .unset, .unset, .unset, .unset, .unset] [] := by first | (simp [entryFrame, mkF, argsToLocals, Value.category]; done) | rfl

set_option maxRecDepth 65536 in
set_option maxHeartbeats 40000000 in
theorem k_sl0 {l : Launch} {Z : State} {a0 : Array Value} (hw : ∀ d ∈ tables_1, d.before a0 Z = true) {xs : List Int32} {b0 : Int32} {b1 : Int32} {b2 : Int32} {b3 : Int32} (h : Heap) (hz : Z.heap.size ≤ h.size) (a : Addr) (e : Int32) (fa0 : Ari Z h a .byte xs) (r0 : xs[0]? = some b0) (r1 : xs[1]? = some b1) (r2 : xs[2]? = some b2) (r3 : xs[3]? = some b3)   : Go l Z (⟨"com/example/interlace/interlace/csv/Utf8", "sequenceLength", "([BII)I"⟩ : MethodName) prog_18_method_2_code 10 (Option.some Jvm.ClassFile.FieldType.int) ({ frames := 0, cells := 0, slots := 0, locals := 0 } : Room) (QI fun rz h' => rz = (own_len (b0 &&& 255) (b1 &&& 255) (b2 &&& 192) (b3 &&& 192) (e - (0 : Int32))) ∧ h' = h) 0 0 h 0 #[.val (.ref a), .val (.int (0 : Int32)), .val (.int e), .unset, .unset, .unset, .unset, .unset, .unset, .unset] [] := by
  refine Go.aload_n 1 d1_0 rfl rfl rfl ?_
  refine Go.iload_n 2 d1_1 rfl rfl ?_
  refine Go.baload (x := b0) (0) 3 d1_2 fa0 (by decide) (by decide) r0 rfl ?_
  refine Go.sipush 6 (255) d1_3 (by decide) rfl ?_
  refine Go.iand 7 d1_6 rfl ?_
  refine Go.istore_n 8 #[.val (.ref a), .val (.int (0 : Int32)), .val (.int e), .val (.int (b0 &&& (255 : Int32))), .unset, .unset, .unset, .unset, .unset, .unset] d1_7 rfl rfl ?_
  refine Go.iconst 9 (0) d1_8 (by decide) rfl ?_
  refine Go.istore 11 #[.val (.ref a), .val (.int (0 : Int32)), .val (.int e), .val (.int (b0 &&& (255 : Int32))), .val (.int (0 : Int32)), .unset, .unset, .unset, .unset, .unset] d1_9 rfl rfl ?_
  refine Go.sipush 14 (128) d1_11 (by decide) rfl ?_
  refine Go.istore 16 #[.val (.ref a), .val (.int (0 : Int32)), .val (.int e), .val (.int (b0 &&& (255 : Int32))), .val (.int (0 : Int32)), .val (.int (128 : Int32)), .unset, .unset, .unset, .unset] d1_14 rfl rfl ?_
  refine Go.sipush 19 (191) d1_16 (by decide) rfl ?_
  refine Go.istore 21 #[.val (.ref a), .val (.int (0 : Int32)), .val (.int e), .val (.int (b0 &&& (255 : Int32))), .val (.int (0 : Int32)), .val (.int (128 : Int32)), .val (.int (191 : Int32)), .unset, .unset, .unset] d1_19 rfl rfl ?_
  refine Go.iload_n 22 d1_21 rfl rfl ?_
  refine Go.sipush 25 (194) d1_22 (by decide) rfl ?_
  refine Go.icmp_lt 41 28 d1_25 (by decide) (by decide) rfl (fun c1 => ?_) (fun c1 => ?_)
  ·
    refine Go.iload_n 42 d1_41 rfl rfl ?_
    refine Go.sipush 45 (224) d1_42 (by decide) rfl ?_
    refine Go.icmp_lt 97 48 d1_45 (by decide) (by decide) rfl (fun _ => ?_) (fun c => by exfalso; simp only [own_lt32, own_eq32, own_k0, own_k1, own_k2, own_k3, own_k4, own_k127, own_k128, own_k143, own_k144, own_k159, own_k160, own_k191, own_k192, own_k194, own_k223, own_k224, own_k237, own_k239, own_k240, own_k244, own_k248, own_k2048, own_k55296, own_k57343, own_k65536, own_k1114111] at c c1; omega)
    refine Go.iload_n 98 d1_97 rfl rfl ?_
    refine Go.sipush 101 (240) d1_98 (by decide) rfl ?_
    refine Go.icmp_lt 150 104 d1_101 (by decide) (by decide) rfl (fun _ => ?_) (fun c => by exfalso; simp only [own_lt32, own_eq32, own_k0, own_k1, own_k2, own_k3, own_k4, own_k127, own_k128, own_k143, own_k144, own_k159, own_k160, own_k191, own_k192, own_k194, own_k223, own_k224, own_k237, own_k239, own_k240, own_k244, own_k248, own_k2048, own_k55296, own_k57343, own_k65536, own_k1114111] at c c1; omega)
    refine Go.iload 152 d1_150 rfl rfl ?_
    refine Go.if_eq 163 155 d1_152 (by decide) (by decide) rfl (fun _ => ?_) (fun c => absurd c (by decide))
    refine Go.iconst 164 (0) d1_163 (by decide) rfl ?_
    refine Go.ireturn d1_164 rfl (by decide) (by decide) ?_
    refine ⟨?_, rfl⟩
    exact (own_len_lo c1).symm
  ·
    refine Go.iload_n 29 d1_28 rfl rfl ?_
    refine Go.sipush 32 (223) d1_29 (by decide) rfl ?_
    refine Go.icmp_gt 41 35 d1_32 (by decide) (by decide) rfl (fun c5 => ?_) (fun c5 => ?_)
    ·
      refine Go.iload_n 42 d1_41 rfl rfl ?_
      refine Go.sipush 45 (224) d1_42 (by decide) rfl ?_
      refine Go.icmp_lt 97 48 d1_45 (by decide) (by decide) rfl (fun c => by exfalso; simp only [own_lt32, own_eq32, own_k0, own_k1, own_k2, own_k3, own_k4, own_k127, own_k128, own_k143, own_k144, own_k159, own_k160, own_k191, own_k192, own_k194, own_k223, own_k224, own_k237, own_k239, own_k240, own_k244, own_k248, own_k2048, own_k55296, own_k57343, own_k65536, own_k1114111] at c c1 c5; omega) (fun _ => ?_)
      refine Go.iload_n 49 d1_48 rfl rfl ?_
      refine Go.sipush 52 (239) d1_49 (by decide) rfl ?_
      refine Go.icmp_gt 97 55 d1_52 (by decide) (by decide) rfl (fun c7 => ?_) (fun c7 => ?_)
      ·
        refine Go.iload_n 98 d1_97 rfl rfl ?_
        refine Go.sipush 101 (240) d1_98 (by decide) rfl ?_
        refine Go.icmp_lt 150 104 d1_101 (by decide) (by decide) rfl (fun c => by exfalso; simp only [own_lt32, own_eq32, own_k0, own_k1, own_k2, own_k3, own_k4, own_k127, own_k128, own_k143, own_k144, own_k159, own_k160, own_k191, own_k192, own_k194, own_k223, own_k224, own_k237, own_k239, own_k240, own_k244, own_k248, own_k2048, own_k55296, own_k57343, own_k65536, own_k1114111] at c c1 c5 c7; omega) (fun _ => ?_)
        refine Go.iload_n 105 d1_104 rfl rfl ?_
        refine Go.sipush 108 (244) d1_105 (by decide) rfl ?_
        refine Go.icmp_gt 150 111 d1_108 (by decide) (by decide) rfl (fun c9 => ?_) (fun c9 => ?_)
        ·
          refine Go.iload 152 d1_150 rfl rfl ?_
          refine Go.if_eq 163 155 d1_152 (by decide) (by decide) rfl (fun _ => ?_) (fun c => absurd c (by decide))
          refine Go.iconst 164 (0) d1_163 (by decide) rfl ?_
          refine Go.ireturn d1_164 rfl (by decide) (by decide) ?_
          refine ⟨?_, rfl⟩
          exact (own_len_hi c9).symm
        ·
          refine Go.iconst 112 (4) d1_111 (by decide) rfl ?_
          refine Go.istore 114 #[.val (.ref a), .val (.int (0 : Int32)), .val (.int e), .val (.int (b0 &&& (255 : Int32))), .val (.int (4 : Int32)), .val (.int (128 : Int32)), .val (.int (191 : Int32)), .unset, .unset, .unset] d1_112 rfl rfl ?_
          refine Go.iload_n 115 d1_114 rfl rfl ?_
          refine Go.sipush 118 (240) d1_115 (by decide) rfl ?_
          have J12 : ∀ (v13 : Int32), v13 = (if (b0 &&& (255 : Int32)) = (240 : Int32) then (144 : Int32) else (128 : Int32)) → Go l Z (⟨"com/example/interlace/interlace/csv/Utf8", "sequenceLength", "([BII)I"⟩ : MethodName) prog_18_method_2_code 10 (Option.some Jvm.ClassFile.FieldType.int) ({ frames := 0, cells := 0, slots := 0, locals := 0 } : Room) (QI fun rz h' => rz = (own_len (b0 &&& 255) (b1 &&& 255) (b2 &&& 192) (b3 &&& 192) (e - (0 : Int32))) ∧ h' = h) 0 0 h 130 #[.val (.ref a), .val (.int (0 : Int32)), .val (.int e), .val (.int (b0 &&& (255 : Int32))), .val (.int (4 : Int32)), .val (.int (128 : Int32)), .val (.int (191 : Int32)), .unset, .unset, .unset] [.int v13] := by
            intro v13 e14
            refine Go.istore 132 #[.val (.ref a), .val (.int (0 : Int32)), .val (.int e), .val (.int (b0 &&& (255 : Int32))), .val (.int (4 : Int32)), .val (.int v13), .val (.int (191 : Int32)), .unset, .unset, .unset] d1_130 rfl rfl ?_
            refine Go.iload_n 133 d1_132 rfl rfl ?_
            refine Go.sipush 136 (244) d1_133 (by decide) rfl ?_
            have J16 : ∀ (v17 : Int32), v17 = (if (b0 &&& (255 : Int32)) = (244 : Int32) then (143 : Int32) else (191 : Int32)) → Go l Z (⟨"com/example/interlace/interlace/csv/Utf8", "sequenceLength", "([BII)I"⟩ : MethodName) prog_18_method_2_code 10 (Option.some Jvm.ClassFile.FieldType.int) ({ frames := 0, cells := 0, slots := 0, locals := 0 } : Room) (QI fun rz h' => rz = (own_len (b0 &&& 255) (b1 &&& 255) (b2 &&& 192) (b3 &&& 192) (e - (0 : Int32))) ∧ h' = h) 0 0 h 148 #[.val (.ref a), .val (.int (0 : Int32)), .val (.int e), .val (.int (b0 &&& (255 : Int32))), .val (.int (4 : Int32)), .val (.int v13), .val (.int (191 : Int32)), .unset, .unset, .unset] [.int v17] := by
              intro v17 e18
              refine Go.istore 150 #[.val (.ref a), .val (.int (0 : Int32)), .val (.int e), .val (.int (b0 &&& (255 : Int32))), .val (.int (4 : Int32)), .val (.int v13), .val (.int v17), .unset, .unset, .unset] d1_148 rfl rfl ?_
              refine Go.iload 152 d1_150 rfl rfl ?_
              refine Go.if_eq 163 155 d1_152 (by decide) (by decide) rfl (fun c => absurd c (by decide)) (fun _ => ?_)
              refine Go.iload_n 156 d1_155 rfl rfl ?_
              refine Go.iload_n 157 d1_156 rfl rfl ?_
              refine Go.isub 158 d1_157 rfl ?_
              refine Go.iload 160 d1_158 rfl rfl ?_
              refine Go.icmp_ge 165 163 d1_160 (by decide) (by decide) rfl (fun c20 => ?_) (fun c20 => ?_)
              ·
                refine Go.aload_n 166 d1_165 rfl rfl rfl ?_
                refine Go.iload_n 167 d1_166 rfl rfl ?_
                refine Go.iconst 168 (1) d1_167 (by decide) rfl ?_
                refine Go.iadd 169 d1_168 rfl ?_
                refine Go.baload (x := b1) (1) 170 d1_169 fa0 (by decide) (by decide) r1 rfl ?_
                refine Go.sipush 173 (255) d1_170 (by decide) rfl ?_
                refine Go.iand 174 d1_173 rfl ?_
                refine Go.istore 176 #[.val (.ref a), .val (.int (0 : Int32)), .val (.int e), .val (.int (b0 &&& (255 : Int32))), .val (.int (4 : Int32)), .val (.int v13), .val (.int v17), .val (.int (b1 &&& (255 : Int32))), .unset, .unset] d1_174 rfl rfl ?_
                refine Go.iload 178 d1_176 rfl rfl ?_
                refine Go.iload 180 d1_178 rfl rfl ?_
                have J22 : ∀ (v23 : Int32), v23 = (if (b1 &&& (255 : Int32)) < v13 then (0 : Int32) else (if v17 < (b1 &&& (255 : Int32)) then (0 : Int32) else (1 : Int32))) → Go l Z (⟨"com/example/interlace/interlace/csv/Utf8", "sequenceLength", "([BII)I"⟩ : MethodName) prog_18_method_2_code 10 (Option.some Jvm.ClassFile.FieldType.int) ({ frames := 0, cells := 0, slots := 0, locals := 0 } : Room) (QI fun rz h' => rz = (own_len (b0 &&& 255) (b1 &&& 255) (b2 &&& 192) (b3 &&& 192) (e - (0 : Int32))) ∧ h' = h) 0 0 h 195 #[.val (.ref a), .val (.int (0 : Int32)), .val (.int e), .val (.int (b0 &&& (255 : Int32))), .val (.int (4 : Int32)), .val (.int v13), .val (.int v17), .val (.int (b1 &&& (255 : Int32))), .unset, .unset] [.int v23] := by
                  intro v23 e24
                  refine Go.istore 197 #[.val (.ref a), .val (.int (0 : Int32)), .val (.int e), .val (.int (b0 &&& (255 : Int32))), .val (.int (4 : Int32)), .val (.int v13), .val (.int v17), .val (.int (b1 &&& (255 : Int32))), .val (.int v23), .unset] d1_195 rfl rfl ?_
                  refine Go.iload_n 198 d1_197 rfl rfl ?_
                  refine Go.iconst 199 (2) d1_198 (by decide) rfl ?_
                  refine Go.iadd 200 d1_199 rfl ?_
                  refine Go.istore 202 #[.val (.ref a), .val (.int (0 : Int32)), .val (.int e), .val (.int (b0 &&& (255 : Int32))), .val (.int (4 : Int32)), .val (.int v13), .val (.int v17), .val (.int (b1 &&& (255 : Int32))), .val (.int v23), .val (.int ((0 : Int32) + (2 : Int32)))] d1_200 rfl rfl ?_
                  refine Go.iload 204 d1_202 rfl rfl ?_
                  refine Go.iload_n 205 d1_204 rfl rfl ?_
                  refine Go.iload 207 d1_205 rfl rfl ?_
                  refine Go.iadd 208 d1_207 rfl ?_
                  refine Go.icmp_ge 241 211 d1_208 (by decide) (by decide) rfl (fun c => absurd c (by decide)) (fun _ => ?_)
                  refine Go.iload 213 d1_211 rfl rfl ?_
                  refine Go.aload_n 214 d1_213 rfl rfl rfl ?_
                  refine Go.iload 216 d1_214 rfl rfl ?_
                  refine Go.baload (x := b2) (2) 217 d1_216 fa0 (by decide) (by decide) r2 rfl ?_
                  refine Go.sipush 220 (192) d1_217 (by decide) rfl ?_
                  refine Go.iand 221 d1_220 rfl ?_
                  refine Go.sipush 224 (128) d1_221 (by decide) rfl ?_
                  have J27 : ∀ (v28 : Int32), v28 = (if (b2 &&& (192 : Int32)) = (128 : Int32) then (1 : Int32) else (0 : Int32)) → Go l Z (⟨"com/example/interlace/interlace/csv/Utf8", "sequenceLength", "([BII)I"⟩ : MethodName) prog_18_method_2_code 10 (Option.some Jvm.ClassFile.FieldType.int) ({ frames := 0, cells := 0, slots := 0, locals := 0 } : Room) (QI fun rz h' => rz = (own_len (b0 &&& 255) (b1 &&& 255) (b2 &&& 192) (b3 &&& 192) (e - (0 : Int32))) ∧ h' = h) 0 0 h 232 #[.val (.ref a), .val (.int (0 : Int32)), .val (.int e), .val (.int (b0 &&& (255 : Int32))), .val (.int (4 : Int32)), .val (.int v13), .val (.int v17), .val (.int (b1 &&& (255 : Int32))), .val (.int v23), .val (.int ((0 : Int32) + (2 : Int32)))] [.int v28, .int v23] := by
                    intro v28 e29
                    refine Go.iand 233 d1_232 rfl ?_
                    refine Go.istore 235 #[.val (.ref a), .val (.int (0 : Int32)), .val (.int e), .val (.int (b0 &&& (255 : Int32))), .val (.int (4 : Int32)), .val (.int v13), .val (.int v17), .val (.int (b1 &&& (255 : Int32))), .val (.int (v23 &&& v28)), .val (.int ((0 : Int32) + (2 : Int32)))] d1_233 rfl rfl ?_
                    refine Go.iinc 238 (1) #[.val (.ref a), .val (.int (0 : Int32)), .val (.int e), .val (.int (b0 &&& (255 : Int32))), .val (.int (4 : Int32)), .val (.int v13), .val (.int v17), .val (.int (b1 &&& (255 : Int32))), .val (.int (v23 &&& v28)), .val (.int (((0 : Int32) + (2 : Int32)) + (1 : Int32)))] d1_235 (by decide) rfl rfl rfl ?_
                    refine Go.goto 202 d1_238 (by decide) (by decide) ?_
                    refine Go.iload 204 d1_202 rfl rfl ?_
                    refine Go.iload_n 205 d1_204 rfl rfl ?_
                    refine Go.iload 207 d1_205 rfl rfl ?_
                    refine Go.iadd 208 d1_207 rfl ?_
                    refine Go.icmp_ge 241 211 d1_208 (by decide) (by decide) rfl (fun c => absurd c (by decide)) (fun _ => ?_)
                    refine Go.iload 213 d1_211 rfl rfl ?_
                    refine Go.aload_n 214 d1_213 rfl rfl rfl ?_
                    refine Go.iload 216 d1_214 rfl rfl ?_
                    refine Go.baload (x := b3) (3) 217 d1_216 fa0 (by decide) (by decide) r3 rfl ?_
                    refine Go.sipush 220 (192) d1_217 (by decide) rfl ?_
                    refine Go.iand 221 d1_220 rfl ?_
                    refine Go.sipush 224 (128) d1_221 (by decide) rfl ?_
                    have J32 : ∀ (v33 : Int32), v33 = (if (b3 &&& (192 : Int32)) = (128 : Int32) then (1 : Int32) else (0 : Int32)) → Go l Z (⟨"com/example/interlace/interlace/csv/Utf8", "sequenceLength", "([BII)I"⟩ : MethodName) prog_18_method_2_code 10 (Option.some Jvm.ClassFile.FieldType.int) ({ frames := 0, cells := 0, slots := 0, locals := 0 } : Room) (QI fun rz h' => rz = (own_len (b0 &&& 255) (b1 &&& 255) (b2 &&& 192) (b3 &&& 192) (e - (0 : Int32))) ∧ h' = h) 0 0 h 232 #[.val (.ref a), .val (.int (0 : Int32)), .val (.int e), .val (.int (b0 &&& (255 : Int32))), .val (.int (4 : Int32)), .val (.int v13), .val (.int v17), .val (.int (b1 &&& (255 : Int32))), .val (.int (v23 &&& v28)), .val (.int (((0 : Int32) + (2 : Int32)) + (1 : Int32)))] [.int v33, .int (v23 &&& v28)] := by
                      intro v33 e34
                      refine Go.iand 233 d1_232 rfl ?_
                      refine Go.istore 235 #[.val (.ref a), .val (.int (0 : Int32)), .val (.int e), .val (.int (b0 &&& (255 : Int32))), .val (.int (4 : Int32)), .val (.int v13), .val (.int v17), .val (.int (b1 &&& (255 : Int32))), .val (.int ((v23 &&& v28) &&& v33)), .val (.int (((0 : Int32) + (2 : Int32)) + (1 : Int32)))] d1_233 rfl rfl ?_
                      refine Go.iinc 238 (1) #[.val (.ref a), .val (.int (0 : Int32)), .val (.int e), .val (.int (b0 &&& (255 : Int32))), .val (.int (4 : Int32)), .val (.int v13), .val (.int v17), .val (.int (b1 &&& (255 : Int32))), .val (.int ((v23 &&& v28) &&& v33)), .val (.int ((((0 : Int32) + (2 : Int32)) + (1 : Int32)) + (1 : Int32)))] d1_235 (by decide) rfl rfl rfl ?_
                      refine Go.goto 202 d1_238 (by decide) (by decide) ?_
                      refine Go.iload 204 d1_202 rfl rfl ?_
                      refine Go.iload_n 205 d1_204 rfl rfl ?_
                      refine Go.iload 207 d1_205 rfl rfl ?_
                      refine Go.iadd 208 d1_207 rfl ?_
                      refine Go.icmp_ge 241 211 d1_208 (by decide) (by decide) rfl (fun _ => ?_) (fun c => absurd c (by decide))
                      refine Go.iload 243 d1_241 rfl rfl ?_
                      refine Go.if_eq 251 246 d1_243 (by decide) (by decide) rfl (fun c36 => ?_) (fun c36 => ?_)
                      ·
                        refine Go.iconst 252 (0) d1_251 (by decide) rfl ?_
                        refine Go.ireturn d1_252 rfl (by decide) (by decide) ?_
                        refine ⟨?_, rfl⟩
                        rw [own_len_4 c7 c9, if_neg c20]
                        subst_vars
                        rw [if_pos c36]
                      ·
                        refine Go.iload 248 d1_246 rfl rfl ?_
                        refine Go.goto 252 d1_248 (by decide) (by decide) ?_
                        refine Go.ireturn d1_252 rfl (by decide) (by decide) ?_
                        refine ⟨?_, rfl⟩
                        rw [own_len_4 c7 c9, if_neg c20]
                        subst_vars
                        rw [if_neg c36]
                    refine Go.icmp_ne 231 227 d1_224 (by decide) (by decide) rfl (fun c37 => ?_) (fun c37 => ?_)
                    ·
                      refine Go.iconst 232 (0) d1_231 (by decide) rfl ?_
                      exact (J32 _ (by first | rfl | (simp only [if_neg c37]; done) | simp [c37])).le (by decide) (by decide)
                    ·
                      refine Go.iconst 228 (1) d1_227 (by decide) rfl ?_
                      refine Go.goto 232 d1_228 (by decide) (by decide) ?_
                      exact (J32 _ (by first | rfl | (simp only [if_pos c37]; done) | simp [c37])).le (by decide) (by decide)
                  refine Go.icmp_ne 231 227 d1_224 (by decide) (by decide) rfl (fun c38 => ?_) (fun c38 => ?_)
                  ·
                    refine Go.iconst 232 (0) d1_231 (by decide) rfl ?_
                    exact (J27 _ (by first | rfl | (simp only [if_neg c38]; done) | simp [c38])).le (by decide) (by decide)
                  ·
                    refine Go.iconst 228 (1) d1_227 (by decide) rfl ?_
                    refine Go.goto 232 d1_228 (by decide) (by decide) ?_
                    exact (J27 _ (by first | rfl | (simp only [if_pos c38]; done) | simp [c38])).le (by decide) (by decide)
                refine Go.icmp_lt 194 183 d1_180 (by decide) (by decide) rfl (fun c39 => ?_) (fun c39 => ?_)
                ·
                  refine Go.iconst 195 (0) d1_194 (by decide) rfl ?_
                  exact (J22 _ (by first | rfl | (simp only [if_pos c39]; done) | simp [c39])).le (by decide) (by decide)
                ·
                  refine Go.iload 185 d1_183 rfl rfl ?_
                  refine Go.iload 187 d1_185 rfl rfl ?_
                  refine Go.icmp_gt 194 190 d1_187 (by decide) (by decide) rfl (fun c40 => ?_) (fun c40 => ?_)
                  ·
                    refine Go.iconst 195 (0) d1_194 (by decide) rfl ?_
                    exact (J22 _ (by first | rfl | (simp only [if_neg c39, if_pos c40]; done) | simp [c39, c40])).le (by decide) (by decide)
                  ·
                    refine Go.iconst 191 (1) d1_190 (by decide) rfl ?_
                    refine Go.goto 195 d1_191 (by decide) (by decide) ?_
                    exact (J22 _ (by first | rfl | (simp only [if_neg c39, if_neg c40]; done) | simp [c39, c40])).le (by decide) (by decide)
              ·
                refine Go.iconst 164 (0) d1_163 (by decide) rfl ?_
                refine Go.ireturn d1_164 rfl (by decide) (by decide) ?_
                refine ⟨?_, rfl⟩
                rw [own_len_4 c7 c9, if_pos c20]
            refine Go.icmp_ne 145 139 d1_136 (by decide) (by decide) rfl (fun c41 => ?_) (fun c41 => ?_)
            ·
              refine Go.sipush 148 (191) d1_145 (by decide) rfl ?_
              exact (J16 _ (by first | rfl | (simp only [if_neg c41]; done) | simp [c41])).le (by decide) (by decide)
            ·
              refine Go.sipush 142 (143) d1_139 (by decide) rfl ?_
              refine Go.goto 148 d1_142 (by decide) (by decide) ?_
              exact (J16 _ (by first | rfl | (simp only [if_pos c41]; done) | simp [c41])).le (by decide) (by decide)
          refine Go.icmp_ne 127 121 d1_118 (by decide) (by decide) rfl (fun c42 => ?_) (fun c42 => ?_)
          ·
            refine Go.sipush 130 (128) d1_127 (by decide) rfl ?_
            exact (J12 _ (by first | rfl | (simp only [if_neg c42]; done) | simp [c42])).le (by decide) (by decide)
          ·
            refine Go.sipush 124 (144) d1_121 (by decide) rfl ?_
            refine Go.goto 130 d1_124 (by decide) (by decide) ?_
            exact (J12 _ (by first | rfl | (simp only [if_pos c42]; done) | simp [c42])).le (by decide) (by decide)
      ·
        refine Go.iconst 56 (3) d1_55 (by decide) rfl ?_
        refine Go.istore 58 #[.val (.ref a), .val (.int (0 : Int32)), .val (.int e), .val (.int (b0 &&& (255 : Int32))), .val (.int (3 : Int32)), .val (.int (128 : Int32)), .val (.int (191 : Int32)), .unset, .unset, .unset] d1_56 rfl rfl ?_
        refine Go.iload_n 59 d1_58 rfl rfl ?_
        refine Go.sipush 62 (224) d1_59 (by decide) rfl ?_
        have J44 : ∀ (v45 : Int32), v45 = (if (b0 &&& (255 : Int32)) = (224 : Int32) then (160 : Int32) else (128 : Int32)) → Go l Z (⟨"com/example/interlace/interlace/csv/Utf8", "sequenceLength", "([BII)I"⟩ : MethodName) prog_18_method_2_code 10 (Option.some Jvm.ClassFile.FieldType.int) ({ frames := 0, cells := 0, slots := 0, locals := 0 } : Room) (QI fun rz h' => rz = (own_len (b0 &&& 255) (b1 &&& 255) (b2 &&& 192) (b3 &&& 192) (e - (0 : Int32))) ∧ h' = h) 0 0 h 74 #[.val (.ref a), .val (.int (0 : Int32)), .val (.int e), .val (.int (b0 &&& (255 : Int32))), .val (.int (3 : Int32)), .val (.int (128 : Int32)), .val (.int (191 : Int32)), .unset, .unset, .unset] [.int v45] := by
          intro v45 e46
          refine Go.istore 76 #[.val (.ref a), .val (.int (0 : Int32)), .val (.int e), .val (.int (b0 &&& (255 : Int32))), .val (.int (3 : Int32)), .val (.int v45), .val (.int (191 : Int32)), .unset, .unset, .unset] d1_74 rfl rfl ?_
          refine Go.iload_n 77 d1_76 rfl rfl ?_
          refine Go.sipush 80 (237) d1_77 (by decide) rfl ?_
          have J48 : ∀ (v49 : Int32), v49 = (if (b0 &&& (255 : Int32)) = (237 : Int32) then (159 : Int32) else (191 : Int32)) → Go l Z (⟨"com/example/interlace/interlace/csv/Utf8", "sequenceLength", "([BII)I"⟩ : MethodName) prog_18_method_2_code 10 (Option.some Jvm.ClassFile.FieldType.int) ({ frames := 0, cells := 0, slots := 0, locals := 0 } : Room) (QI fun rz h' => rz = (own_len (b0 &&& 255) (b1 &&& 255) (b2 &&& 192) (b3 &&& 192) (e - (0 : Int32))) ∧ h' = h) 0 0 h 92 #[.val (.ref a), .val (.int (0 : Int32)), .val (.int e), .val (.int (b0 &&& (255 : Int32))), .val (.int (3 : Int32)), .val (.int v45), .val (.int (191 : Int32)), .unset, .unset, .unset] [.int v49] := by
            intro v49 e50
            refine Go.istore 94 #[.val (.ref a), .val (.int (0 : Int32)), .val (.int e), .val (.int (b0 &&& (255 : Int32))), .val (.int (3 : Int32)), .val (.int v45), .val (.int v49), .unset, .unset, .unset] d1_92 rfl rfl ?_
            refine Go.goto 150 d1_94 (by decide) (by decide) ?_
            refine Go.iload 152 d1_150 rfl rfl ?_
            refine Go.if_eq 163 155 d1_152 (by decide) (by decide) rfl (fun c => absurd c (by decide)) (fun _ => ?_)
            refine Go.iload_n 156 d1_155 rfl rfl ?_
            refine Go.iload_n 157 d1_156 rfl rfl ?_
            refine Go.isub 158 d1_157 rfl ?_
            refine Go.iload 160 d1_158 rfl rfl ?_
            refine Go.icmp_ge 165 163 d1_160 (by decide) (by decide) rfl (fun c52 => ?_) (fun c52 => ?_)
            ·
              refine Go.aload_n 166 d1_165 rfl rfl rfl ?_
              refine Go.iload_n 167 d1_166 rfl rfl ?_
              refine Go.iconst 168 (1) d1_167 (by decide) rfl ?_
              refine Go.iadd 169 d1_168 rfl ?_
              refine Go.baload (x := b1) (1) 170 d1_169 fa0 (by decide) (by decide) r1 rfl ?_
              refine Go.sipush 173 (255) d1_170 (by decide) rfl ?_
              refine Go.iand 174 d1_173 rfl ?_
              refine Go.istore 176 #[.val (.ref a), .val (.int (0 : Int32)), .val (.int e), .val (.int (b0 &&& (255 : Int32))), .val (.int (3 : Int32)), .val (.int v45), .val (.int v49), .val (.int (b1 &&& (255 : Int32))), .unset, .unset] d1_174 rfl rfl ?_
              refine Go.iload 178 d1_176 rfl rfl ?_
              refine Go.iload 180 d1_178 rfl rfl ?_
              have J54 : ∀ (v55 : Int32), v55 = (if (b1 &&& (255 : Int32)) < v45 then (0 : Int32) else (if v49 < (b1 &&& (255 : Int32)) then (0 : Int32) else (1 : Int32))) → Go l Z (⟨"com/example/interlace/interlace/csv/Utf8", "sequenceLength", "([BII)I"⟩ : MethodName) prog_18_method_2_code 10 (Option.some Jvm.ClassFile.FieldType.int) ({ frames := 0, cells := 0, slots := 0, locals := 0 } : Room) (QI fun rz h' => rz = (own_len (b0 &&& 255) (b1 &&& 255) (b2 &&& 192) (b3 &&& 192) (e - (0 : Int32))) ∧ h' = h) 0 0 h 195 #[.val (.ref a), .val (.int (0 : Int32)), .val (.int e), .val (.int (b0 &&& (255 : Int32))), .val (.int (3 : Int32)), .val (.int v45), .val (.int v49), .val (.int (b1 &&& (255 : Int32))), .unset, .unset] [.int v55] := by
                intro v55 e56
                refine Go.istore 197 #[.val (.ref a), .val (.int (0 : Int32)), .val (.int e), .val (.int (b0 &&& (255 : Int32))), .val (.int (3 : Int32)), .val (.int v45), .val (.int v49), .val (.int (b1 &&& (255 : Int32))), .val (.int v55), .unset] d1_195 rfl rfl ?_
                refine Go.iload_n 198 d1_197 rfl rfl ?_
                refine Go.iconst 199 (2) d1_198 (by decide) rfl ?_
                refine Go.iadd 200 d1_199 rfl ?_
                refine Go.istore 202 #[.val (.ref a), .val (.int (0 : Int32)), .val (.int e), .val (.int (b0 &&& (255 : Int32))), .val (.int (3 : Int32)), .val (.int v45), .val (.int v49), .val (.int (b1 &&& (255 : Int32))), .val (.int v55), .val (.int ((0 : Int32) + (2 : Int32)))] d1_200 rfl rfl ?_
                refine Go.iload 204 d1_202 rfl rfl ?_
                refine Go.iload_n 205 d1_204 rfl rfl ?_
                refine Go.iload 207 d1_205 rfl rfl ?_
                refine Go.iadd 208 d1_207 rfl ?_
                refine Go.icmp_ge 241 211 d1_208 (by decide) (by decide) rfl (fun c => absurd c (by decide)) (fun _ => ?_)
                refine Go.iload 213 d1_211 rfl rfl ?_
                refine Go.aload_n 214 d1_213 rfl rfl rfl ?_
                refine Go.iload 216 d1_214 rfl rfl ?_
                refine Go.baload (x := b2) (2) 217 d1_216 fa0 (by decide) (by decide) r2 rfl ?_
                refine Go.sipush 220 (192) d1_217 (by decide) rfl ?_
                refine Go.iand 221 d1_220 rfl ?_
                refine Go.sipush 224 (128) d1_221 (by decide) rfl ?_
                have J59 : ∀ (v60 : Int32), v60 = (if (b2 &&& (192 : Int32)) = (128 : Int32) then (1 : Int32) else (0 : Int32)) → Go l Z (⟨"com/example/interlace/interlace/csv/Utf8", "sequenceLength", "([BII)I"⟩ : MethodName) prog_18_method_2_code 10 (Option.some Jvm.ClassFile.FieldType.int) ({ frames := 0, cells := 0, slots := 0, locals := 0 } : Room) (QI fun rz h' => rz = (own_len (b0 &&& 255) (b1 &&& 255) (b2 &&& 192) (b3 &&& 192) (e - (0 : Int32))) ∧ h' = h) 0 0 h 232 #[.val (.ref a), .val (.int (0 : Int32)), .val (.int e), .val (.int (b0 &&& (255 : Int32))), .val (.int (3 : Int32)), .val (.int v45), .val (.int v49), .val (.int (b1 &&& (255 : Int32))), .val (.int v55), .val (.int ((0 : Int32) + (2 : Int32)))] [.int v60, .int v55] := by
                  intro v60 e61
                  refine Go.iand 233 d1_232 rfl ?_
                  refine Go.istore 235 #[.val (.ref a), .val (.int (0 : Int32)), .val (.int e), .val (.int (b0 &&& (255 : Int32))), .val (.int (3 : Int32)), .val (.int v45), .val (.int v49), .val (.int (b1 &&& (255 : Int32))), .val (.int (v55 &&& v60)), .val (.int ((0 : Int32) + (2 : Int32)))] d1_233 rfl rfl ?_
                  refine Go.iinc 238 (1) #[.val (.ref a), .val (.int (0 : Int32)), .val (.int e), .val (.int (b0 &&& (255 : Int32))), .val (.int (3 : Int32)), .val (.int v45), .val (.int v49), .val (.int (b1 &&& (255 : Int32))), .val (.int (v55 &&& v60)), .val (.int (((0 : Int32) + (2 : Int32)) + (1 : Int32)))] d1_235 (by decide) rfl rfl rfl ?_
                  refine Go.goto 202 d1_238 (by decide) (by decide) ?_
                  refine Go.iload 204 d1_202 rfl rfl ?_
                  refine Go.iload_n 205 d1_204 rfl rfl ?_
                  refine Go.iload 207 d1_205 rfl rfl ?_
                  refine Go.iadd 208 d1_207 rfl ?_
                  refine Go.icmp_ge 241 211 d1_208 (by decide) (by decide) rfl (fun _ => ?_) (fun c => absurd c (by decide))
                  refine Go.iload 243 d1_241 rfl rfl ?_
                  refine Go.if_eq 251 246 d1_243 (by decide) (by decide) rfl (fun c63 => ?_) (fun c63 => ?_)
                  ·
                    refine Go.iconst 252 (0) d1_251 (by decide) rfl ?_
                    refine Go.ireturn d1_252 rfl (by decide) (by decide) ?_
                    refine ⟨?_, rfl⟩
                    rw [own_len_3 c5 c7, if_neg c52]
                    subst_vars
                    rw [if_pos c63]
                  ·
                    refine Go.iload 248 d1_246 rfl rfl ?_
                    refine Go.goto 252 d1_248 (by decide) (by decide) ?_
                    refine Go.ireturn d1_252 rfl (by decide) (by decide) ?_
                    refine ⟨?_, rfl⟩
                    rw [own_len_3 c5 c7, if_neg c52]
                    subst_vars
                    rw [if_neg c63]
                refine Go.icmp_ne 231 227 d1_224 (by decide) (by decide) rfl (fun c64 => ?_) (fun c64 => ?_)
                ·
                  refine Go.iconst 232 (0) d1_231 (by decide) rfl ?_
                  exact (J59 _ (by first | rfl | (simp only [if_neg c64]; done) | simp [c64])).le (by decide) (by decide)
                ·
                  refine Go.iconst 228 (1) d1_227 (by decide) rfl ?_
                  refine Go.goto 232 d1_228 (by decide) (by decide) ?_
                  exact (J59 _ (by first | rfl | (simp only [if_pos c64]; done) | simp [c64])).le (by decide) (by decide)
              refine Go.icmp_lt 194 183 d1_180 (by decide) (by decide) rfl (fun c65 => ?_) (fun c65 => ?_)
              ·
                refine Go.iconst 195 (0) d1_194 (by decide) rfl ?_
                exact (J54 _ (by first | rfl | (simp only [if_pos c65]; done) | simp [c65])).le (by decide) (by decide)
              ·
                refine Go.iload 185 d1_183 rfl rfl ?_
                refine Go.iload 187 d1_185 rfl rfl ?_
                refine Go.icmp_gt 194 190 d1_187 (by decide) (by decide) rfl (fun c66 => ?_) (fun c66 => ?_)
                ·
                  refine Go.iconst 195 (0) d1_194 (by decide) rfl ?_
                  exact (J54 _ (by first | rfl | (simp only [if_neg c65, if_pos c66]; done) | simp [c65, c66])).le (by decide) (by decide)
                ·
                  refine Go.iconst 191 (1) d1_190 (by decide) rfl ?_
                  refine Go.goto 195 d1_191 (by decide) (by decide) ?_
                  exact (J54 _ (by first | rfl | (simp only [if_neg c65, if_neg c66]; done) | simp [c65, c66])).le (by decide) (by decide)
            ·
              refine Go.iconst 164 (0) d1_163 (by decide) rfl ?_
              refine Go.ireturn d1_164 rfl (by decide) (by decide) ?_
              refine ⟨?_, rfl⟩
              rw [own_len_3 c5 c7, if_pos c52]
          refine Go.icmp_ne 89 83 d1_80 (by decide) (by decide) rfl (fun c67 => ?_) (fun c67 => ?_)
          ·
            refine Go.sipush 92 (191) d1_89 (by decide) rfl ?_
            exact (J48 _ (by first | rfl | (simp only [if_neg c67]; done) | simp [c67])).le (by decide) (by decide)
          ·
            refine Go.sipush 86 (159) d1_83 (by decide) rfl ?_
            refine Go.goto 92 d1_86 (by decide) (by decide) ?_
            exact (J48 _ (by first | rfl | (simp only [if_pos c67]; done) | simp [c67])).le (by decide) (by decide)
        refine Go.icmp_ne 71 65 d1_62 (by decide) (by decide) rfl (fun c68 => ?_) (fun c68 => ?_)
        ·
          refine Go.sipush 74 (128) d1_71 (by decide) rfl ?_
          exact (J44 _ (by first | rfl | (simp only [if_neg c68]; done) | simp [c68])).le (by decide) (by decide)
        ·
          refine Go.sipush 68 (160) d1_65 (by decide) rfl ?_
          refine Go.goto 74 d1_68 (by decide) (by decide) ?_
          exact (J44 _ (by first | rfl | (simp only [if_pos c68]; done) | simp [c68])).le (by decide) (by decide)
    ·
      refine Go.iconst 36 (2) d1_35 (by decide) rfl ?_
      refine Go.istore 38 #[.val (.ref a), .val (.int (0 : Int32)), .val (.int e), .val (.int (b0 &&& (255 : Int32))), .val (.int (2 : Int32)), .val (.int (128 : Int32)), .val (.int (191 : Int32)), .unset, .unset, .unset] d1_36 rfl rfl ?_
      refine Go.goto 150 d1_38 (by decide) (by decide) ?_
      refine Go.iload 152 d1_150 rfl rfl ?_
      refine Go.if_eq 163 155 d1_152 (by decide) (by decide) rfl (fun c => absurd c (by decide)) (fun _ => ?_)
      refine Go.iload_n 156 d1_155 rfl rfl ?_
      refine Go.iload_n 157 d1_156 rfl rfl ?_
      refine Go.isub 158 d1_157 rfl ?_
      refine Go.iload 160 d1_158 rfl rfl ?_
      refine Go.icmp_ge 165 163 d1_160 (by decide) (by decide) rfl (fun c70 => ?_) (fun c70 => ?_)
      ·
        refine Go.aload_n 166 d1_165 rfl rfl rfl ?_
        refine Go.iload_n 167 d1_166 rfl rfl ?_
        refine Go.iconst 168 (1) d1_167 (by decide) rfl ?_
        refine Go.iadd 169 d1_168 rfl ?_
        refine Go.baload (x := b1) (1) 170 d1_169 fa0 (by decide) (by decide) r1 rfl ?_
        refine Go.sipush 173 (255) d1_170 (by decide) rfl ?_
        refine Go.iand 174 d1_173 rfl ?_
        refine Go.istore 176 #[.val (.ref a), .val (.int (0 : Int32)), .val (.int e), .val (.int (b0 &&& (255 : Int32))), .val (.int (2 : Int32)), .val (.int (128 : Int32)), .val (.int (191 : Int32)), .val (.int (b1 &&& (255 : Int32))), .unset, .unset] d1_174 rfl rfl ?_
        refine Go.iload 178 d1_176 rfl rfl ?_
        refine Go.iload 180 d1_178 rfl rfl ?_
        have J72 : ∀ (v73 : Int32), v73 = (if (b1 &&& (255 : Int32)) < (128 : Int32) then (0 : Int32) else (if (191 : Int32) < (b1 &&& (255 : Int32)) then (0 : Int32) else (1 : Int32))) → Go l Z (⟨"com/example/interlace/interlace/csv/Utf8", "sequenceLength", "([BII)I"⟩ : MethodName) prog_18_method_2_code 10 (Option.some Jvm.ClassFile.FieldType.int) ({ frames := 0, cells := 0, slots := 0, locals := 0 } : Room) (QI fun rz h' => rz = (own_len (b0 &&& 255) (b1 &&& 255) (b2 &&& 192) (b3 &&& 192) (e - (0 : Int32))) ∧ h' = h) 0 0 h 195 #[.val (.ref a), .val (.int (0 : Int32)), .val (.int e), .val (.int (b0 &&& (255 : Int32))), .val (.int (2 : Int32)), .val (.int (128 : Int32)), .val (.int (191 : Int32)), .val (.int (b1 &&& (255 : Int32))), .unset, .unset] [.int v73] := by
          intro v73 e74
          refine Go.istore 197 #[.val (.ref a), .val (.int (0 : Int32)), .val (.int e), .val (.int (b0 &&& (255 : Int32))), .val (.int (2 : Int32)), .val (.int (128 : Int32)), .val (.int (191 : Int32)), .val (.int (b1 &&& (255 : Int32))), .val (.int v73), .unset] d1_195 rfl rfl ?_
          refine Go.iload_n 198 d1_197 rfl rfl ?_
          refine Go.iconst 199 (2) d1_198 (by decide) rfl ?_
          refine Go.iadd 200 d1_199 rfl ?_
          refine Go.istore 202 #[.val (.ref a), .val (.int (0 : Int32)), .val (.int e), .val (.int (b0 &&& (255 : Int32))), .val (.int (2 : Int32)), .val (.int (128 : Int32)), .val (.int (191 : Int32)), .val (.int (b1 &&& (255 : Int32))), .val (.int v73), .val (.int ((0 : Int32) + (2 : Int32)))] d1_200 rfl rfl ?_
          refine Go.iload 204 d1_202 rfl rfl ?_
          refine Go.iload_n 205 d1_204 rfl rfl ?_
          refine Go.iload 207 d1_205 rfl rfl ?_
          refine Go.iadd 208 d1_207 rfl ?_
          refine Go.icmp_ge 241 211 d1_208 (by decide) (by decide) rfl (fun _ => ?_) (fun c => absurd c (by decide))
          refine Go.iload 243 d1_241 rfl rfl ?_
          refine Go.if_eq 251 246 d1_243 (by decide) (by decide) rfl (fun c76 => ?_) (fun c76 => ?_)
          ·
            refine Go.iconst 252 (0) d1_251 (by decide) rfl ?_
            refine Go.ireturn d1_252 rfl (by decide) (by decide) ?_
            refine ⟨?_, rfl⟩
            rw [own_len_2 c1 c5, if_neg c70]
            subst_vars
            rw [if_pos c76]
          ·
            refine Go.iload 248 d1_246 rfl rfl ?_
            refine Go.goto 252 d1_248 (by decide) (by decide) ?_
            refine Go.ireturn d1_252 rfl (by decide) (by decide) ?_
            refine ⟨?_, rfl⟩
            rw [own_len_2 c1 c5, if_neg c70]
            subst_vars
            rw [if_neg c76]
        refine Go.icmp_lt 194 183 d1_180 (by decide) (by decide) rfl (fun c77 => ?_) (fun c77 => ?_)
        ·
          refine Go.iconst 195 (0) d1_194 (by decide) rfl ?_
          exact (J72 _ (by first | rfl | (simp only [if_pos c77]; done) | simp [c77])).le (by decide) (by decide)
        ·
          refine Go.iload 185 d1_183 rfl rfl ?_
          refine Go.iload 187 d1_185 rfl rfl ?_
          refine Go.icmp_gt 194 190 d1_187 (by decide) (by decide) rfl (fun c78 => ?_) (fun c78 => ?_)
          ·
            refine Go.iconst 195 (0) d1_194 (by decide) rfl ?_
            exact (J72 _ (by first | rfl | (simp only [if_neg c77, if_pos c78]; done) | simp [c77, c78])).le (by decide) (by decide)
          ·
            refine Go.iconst 191 (1) d1_190 (by decide) rfl ?_
            refine Go.goto 195 d1_191 (by decide) (by decide) ?_
            exact (J72 _ (by first | rfl | (simp only [if_neg c77, if_neg c78]; done) | simp [c77, c78])).le (by decide) (by decide)
      ·
        refine Go.iconst 164 (0) d1_163 (by decide) rfl ?_
        refine Go.ireturn d1_164 rfl (by decide) (by decide) ?_
        refine ⟨?_, rfl⟩
        rw [own_len_2 c1 c5, if_pos c70]

theorem ef_k_sl1 (m : MethodId) (x0 : Addr) (x1 : Int32) (x2 : Int32) : entryFrame m #[(.ref x0), (.int x1), (.int x2)] 10 = mkF m 0 #[.val (.ref x0), .val (.int x1), .val (.int x2), .unset, .unset, .unset, .unset, .unset, .unset, .unset] [] := by first | (simp [entryFrame, mkF, argsToLocals, Value.category]; done) | rfl

set_option maxRecDepth 65536 in
set_option maxHeartbeats 40000000 in
theorem k_sl1 {l : Launch} {Z : State} {a0 : Array Value} (hw : ∀ d ∈ tables_1, d.before a0 Z = true) {xs : List Int32} {b0 : Int32} {b1 : Int32} {b2 : Int32} {b3 : Int32} (h : Heap) (hz : Z.heap.size ≤ h.size) (a : Addr) (e : Int32) (fa0 : Ari Z h a .byte xs) (r0 : xs[1]? = some b0) (r1 : xs[2]? = some b1) (r2 : xs[3]? = some b2) (r3 : xs[4]? = some b3)   : Go l Z (⟨"com/example/interlace/interlace/csv/Utf8", "sequenceLength", "([BII)I"⟩ : MethodName) prog_18_method_2_code 10 (Option.some Jvm.ClassFile.FieldType.int) ({ frames := 0, cells := 0, slots := 0, locals := 0 } : Room) (QI fun rz h' => rz = (own_len (b0 &&& 255) (b1 &&& 255) (b2 &&& 192) (b3 &&& 192) (e - (1 : Int32))) ∧ h' = h) 0 0 h 0 #[.val (.ref a), .val (.int (1 : Int32)), .val (.int e), .unset, .unset, .unset, .unset, .unset, .unset, .unset] [] := by
  refine Go.aload_n 1 d1_0 rfl rfl rfl ?_
  refine Go.iload_n 2 d1_1 rfl rfl ?_
  refine Go.baload (x := b0) (1) 3 d1_2 fa0 (by decide) (by decide) r0 rfl ?_
  refine Go.sipush 6 (255) d1_3 (by decide) rfl ?_
  refine Go.iand 7 d1_6 rfl ?_
  refine Go.istore_n 8 #[.val (.ref a), .val (.int (1 : Int32)), .val (.int e), .val (.int (b0 &&& (255 : Int32))), .unset, .unset, .unset, .unset, .unset, .unset] d1_7 rfl rfl ?_
  refine Go.iconst 9 (0) d1_8 (by decide) rfl ?_
  refine Go.istore 11 #[.val (.ref a), .val (.int (1 : Int32)), .val (.int e), .val (.int (b0 &&& (255 : Int32))), .val (.int (0 : Int32)), .unset, .unset, .unset, .unset, .unset] d1_9 rfl rfl ?_
  refine Go.sipush 14 (128) d1_11 (by decide) rfl ?_
  refine Go.istore 16 #[.val (.ref a), .val (.int (1 : Int32)), .val (.int e), .val (.int (b0 &&& (255 : Int32))), .val (.int (0 : Int32)), .val (.int (128 : Int32)), .unset, .unset, .unset, .unset] d1_14 rfl rfl ?_
  refine Go.sipush 19 (191) d1_16 (by decide) rfl ?_
  refine Go.istore 21 #[.val (.ref a), .val (.int (1 : Int32)), .val (.int e), .val (.int (b0 &&& (255 : Int32))), .val (.int (0 : Int32)), .val (.int (128 : Int32)), .val (.int (191 : Int32)), .unset, .unset, .unset] d1_19 rfl rfl ?_
  refine Go.iload_n 22 d1_21 rfl rfl ?_
  refine Go.sipush 25 (194) d1_22 (by decide) rfl ?_
  refine Go.icmp_lt 41 28 d1_25 (by decide) (by decide) rfl (fun c1 => ?_) (fun c1 => ?_)
  ·
    refine Go.iload_n 42 d1_41 rfl rfl ?_
    refine Go.sipush 45 (224) d1_42 (by decide) rfl ?_
    refine Go.icmp_lt 97 48 d1_45 (by decide) (by decide) rfl (fun _ => ?_) (fun c => by exfalso; simp only [own_lt32, own_eq32, own_k0, own_k1, own_k2, own_k3, own_k4, own_k127, own_k128, own_k143, own_k144, own_k159, own_k160, own_k191, own_k192, own_k194, own_k223, own_k224, own_k237, own_k239, own_k240, own_k244, own_k248, own_k2048, own_k55296, own_k57343, own_k65536, own_k1114111] at c c1; omega)
    refine Go.iload_n 98 d1_97 rfl rfl ?_
    refine Go.sipush 101 (240) d1_98 (by decide) rfl ?_
    refine Go.icmp_lt 150 104 d1_101 (by decide) (by decide) rfl (fun _ => ?_) (fun c => by exfalso; simp only [own_lt32, own_eq32, own_k0, own_k1, own_k2, own_k3, own_k4, own_k127, own_k128, own_k143, own_k144, own_k159, own_k160, own_k191, own_k192, own_k194, own_k223, own_k224, own_k237, own_k239, own_k240, own_k244, own_k248, own_k2048, own_k55296, own_k57343, own_k65536, own_k1114111] at c c1; omega)
    refine Go.iload 152 d1_150 rfl rfl ?_
    refine Go.if_eq 163 155 d1_152 (by decide) (by decide) rfl (fun _ => ?_) (fun c => absurd c (by decide))
    refine Go.iconst 164 (0) d1_163 (by decide) rfl ?_
    refine Go.ireturn d1_164 rfl (by decide) (by decide) ?_
    refine ⟨?_, rfl⟩
    exact (own_len_lo c1).symm
  ·
    refine Go.iload_n 29 d1_28 rfl rfl ?_
    refine Go.sipush 32 (223) d1_29 (by decide) rfl ?_
    refine Go.icmp_gt 41 35 d1_32 (by decide) (by decide) rfl (fun c5 => ?_) (fun c5 => ?_)
    ·
      refine Go.iload_n 42 d1_41 rfl rfl ?_
      refine Go.sipush 45 (224) d1_42 (by decide) rfl ?_
      refine Go.icmp_lt 97 48 d1_45 (by decide) (by decide) rfl (fun c => by exfalso; simp only [own_lt32, own_eq32, own_k0, own_k1, own_k2, own_k3, own_k4, own_k127, own_k128, own_k143, own_k144, own_k159, own_k160, own_k191, own_k192, own_k194, own_k223, own_k224, own_k237, own_k239, own_k240, own_k244, own_k248, own_k2048, own_k55296, own_k57343, own_k65536, own_k1114111] at c c1 c5; omega) (fun _ => ?_)
      refine Go.iload_n 49 d1_48 rfl rfl ?_
      refine Go.sipush 52 (239) d1_49 (by decide) rfl ?_
      refine Go.icmp_gt 97 55 d1_52 (by decide) (by decide) rfl (fun c7 => ?_) (fun c7 => ?_)
      ·
        refine Go.iload_n 98 d1_97 rfl rfl ?_
        refine Go.sipush 101 (240) d1_98 (by decide) rfl ?_
        refine Go.icmp_lt 150 104 d1_101 (by decide) (by decide) rfl (fun c => by exfalso; simp only [own_lt32, own_eq32, own_k0, own_k1, own_k2, own_k3, own_k4, own_k127, own_k128, own_k143, own_k144, own_k159, own_k160, own_k191, own_k192, own_k194, own_k223, own_k224, own_k237, own_k239, own_k240, own_k244, own_k248, own_k2048, own_k55296, own_k57343, own_k65536, own_k1114111] at c c1 c5 c7; omega) (fun _ => ?_)
        refine Go.iload_n 105 d1_104 rfl rfl ?_
        refine Go.sipush 108 (244) d1_105 (by decide) rfl ?_
        refine Go.icmp_gt 150 111 d1_108 (by decide) (by decide) rfl (fun c9 => ?_) (fun c9 => ?_)
        ·
          refine Go.iload 152 d1_150 rfl rfl ?_
          refine Go.if_eq 163 155 d1_152 (by decide) (by decide) rfl (fun _ => ?_) (fun c => absurd c (by decide))
          refine Go.iconst 164 (0) d1_163 (by decide) rfl ?_
          refine Go.ireturn d1_164 rfl (by decide) (by decide) ?_
          refine ⟨?_, rfl⟩
          exact (own_len_hi c9).symm
        ·
          refine Go.iconst 112 (4) d1_111 (by decide) rfl ?_
          refine Go.istore 114 #[.val (.ref a), .val (.int (1 : Int32)), .val (.int e), .val (.int (b0 &&& (255 : Int32))), .val (.int (4 : Int32)), .val (.int (128 : Int32)), .val (.int (191 : Int32)), .unset, .unset, .unset] d1_112 rfl rfl ?_
          refine Go.iload_n 115 d1_114 rfl rfl ?_
          refine Go.sipush 118 (240) d1_115 (by decide) rfl ?_
          have J12 : ∀ (v13 : Int32), v13 = (if (b0 &&& (255 : Int32)) = (240 : Int32) then (144 : Int32) else (128 : Int32)) → Go l Z (⟨"com/example/interlace/interlace/csv/Utf8", "sequenceLength", "([BII)I"⟩ : MethodName) prog_18_method_2_code 10 (Option.some Jvm.ClassFile.FieldType.int) ({ frames := 0, cells := 0, slots := 0, locals := 0 } : Room) (QI fun rz h' => rz = (own_len (b0 &&& 255) (b1 &&& 255) (b2 &&& 192) (b3 &&& 192) (e - (1 : Int32))) ∧ h' = h) 0 0 h 130 #[.val (.ref a), .val (.int (1 : Int32)), .val (.int e), .val (.int (b0 &&& (255 : Int32))), .val (.int (4 : Int32)), .val (.int (128 : Int32)), .val (.int (191 : Int32)), .unset, .unset, .unset] [.int v13] := by
            intro v13 e14
            refine Go.istore 132 #[.val (.ref a), .val (.int (1 : Int32)), .val (.int e), .val (.int (b0 &&& (255 : Int32))), .val (.int (4 : Int32)), .val (.int v13), .val (.int (191 : Int32)), .unset, .unset, .unset] d1_130 rfl rfl ?_
            refine Go.iload_n 133 d1_132 rfl rfl ?_
            refine Go.sipush 136 (244) d1_133 (by decide) rfl ?_
            have J16 : ∀ (v17 : Int32), v17 = (if (b0 &&& (255 : Int32)) = (244 : Int32) then (143 : Int32) else (191 : Int32)) → Go l Z (⟨"com/example/interlace/interlace/csv/Utf8", "sequenceLength", "([BII)I"⟩ : MethodName) prog_18_method_2_code 10 (Option.some Jvm.ClassFile.FieldType.int) ({ frames := 0, cells := 0, slots := 0, locals := 0 } : Room) (QI fun rz h' => rz = (own_len (b0 &&& 255) (b1 &&& 255) (b2 &&& 192) (b3 &&& 192) (e - (1 : Int32))) ∧ h' = h) 0 0 h 148 #[.val (.ref a), .val (.int (1 : Int32)), .val (.int e), .val (.int (b0 &&& (255 : Int32))), .val (.int (4 : Int32)), .val (.int v13), .val (.int (191 : Int32)), .unset, .unset, .unset] [.int v17] := by
              intro v17 e18
              refine Go.istore 150 #[.val (.ref a), .val (.int (1 : Int32)), .val (.int e), .val (.int (b0 &&& (255 : Int32))), .val (.int (4 : Int32)), .val (.int v13), .val (.int v17), .unset, .unset, .unset] d1_148 rfl rfl ?_
              refine Go.iload 152 d1_150 rfl rfl ?_
              refine Go.if_eq 163 155 d1_152 (by decide) (by decide) rfl (fun c => absurd c (by decide)) (fun _ => ?_)
              refine Go.iload_n 156 d1_155 rfl rfl ?_
              refine Go.iload_n 157 d1_156 rfl rfl ?_
              refine Go.isub 158 d1_157 rfl ?_
              refine Go.iload 160 d1_158 rfl rfl ?_
              refine Go.icmp_ge 165 163 d1_160 (by decide) (by decide) rfl (fun c20 => ?_) (fun c20 => ?_)
              ·
                refine Go.aload_n 166 d1_165 rfl rfl rfl ?_
                refine Go.iload_n 167 d1_166 rfl rfl ?_
                refine Go.iconst 168 (1) d1_167 (by decide) rfl ?_
                refine Go.iadd 169 d1_168 rfl ?_
                refine Go.baload (x := b1) (2) 170 d1_169 fa0 (by decide) (by decide) r1 rfl ?_
                refine Go.sipush 173 (255) d1_170 (by decide) rfl ?_
                refine Go.iand 174 d1_173 rfl ?_
                refine Go.istore 176 #[.val (.ref a), .val (.int (1 : Int32)), .val (.int e), .val (.int (b0 &&& (255 : Int32))), .val (.int (4 : Int32)), .val (.int v13), .val (.int v17), .val (.int (b1 &&& (255 : Int32))), .unset, .unset] d1_174 rfl rfl ?_
                refine Go.iload 178 d1_176 rfl rfl ?_
                refine Go.iload 180 d1_178 rfl rfl ?_
                have J22 : ∀ (v23 : Int32), v23 = (if (b1 &&& (255 : Int32)) < v13 then (0 : Int32) else (if v17 < (b1 &&& (255 : Int32)) then (0 : Int32) else (1 : Int32))) → Go l Z (⟨"com/example/interlace/interlace/csv/Utf8", "sequenceLength", "([BII)I"⟩ : MethodName) prog_18_method_2_code 10 (Option.some Jvm.ClassFile.FieldType.int) ({ frames := 0, cells := 0, slots := 0, locals := 0 } : Room) (QI fun rz h' => rz = (own_len (b0 &&& 255) (b1 &&& 255) (b2 &&& 192) (b3 &&& 192) (e - (1 : Int32))) ∧ h' = h) 0 0 h 195 #[.val (.ref a), .val (.int (1 : Int32)), .val (.int e), .val (.int (b0 &&& (255 : Int32))), .val (.int (4 : Int32)), .val (.int v13), .val (.int v17), .val (.int (b1 &&& (255 : Int32))), .unset, .unset] [.int v23] := by
                  intro v23 e24
                  refine Go.istore 197 #[.val (.ref a), .val (.int (1 : Int32)), .val (.int e), .val (.int (b0 &&& (255 : Int32))), .val (.int (4 : Int32)), .val (.int v13), .val (.int v17), .val (.int (b1 &&& (255 : Int32))), .val (.int v23), .unset] d1_195 rfl rfl ?_
                  refine Go.iload_n 198 d1_197 rfl rfl ?_
                  refine Go.iconst 199 (2) d1_198 (by decide) rfl ?_
                  refine Go.iadd 200 d1_199 rfl ?_
                  refine Go.istore 202 #[.val (.ref a), .val (.int (1 : Int32)), .val (.int e), .val (.int (b0 &&& (255 : Int32))), .val (.int (4 : Int32)), .val (.int v13), .val (.int v17), .val (.int (b1 &&& (255 : Int32))), .val (.int v23), .val (.int ((1 : Int32) + (2 : Int32)))] d1_200 rfl rfl ?_
                  refine Go.iload 204 d1_202 rfl rfl ?_
                  refine Go.iload_n 205 d1_204 rfl rfl ?_
                  refine Go.iload 207 d1_205 rfl rfl ?_
                  refine Go.iadd 208 d1_207 rfl ?_
                  refine Go.icmp_ge 241 211 d1_208 (by decide) (by decide) rfl (fun c => absurd c (by decide)) (fun _ => ?_)
                  refine Go.iload 213 d1_211 rfl rfl ?_
                  refine Go.aload_n 214 d1_213 rfl rfl rfl ?_
                  refine Go.iload 216 d1_214 rfl rfl ?_
                  refine Go.baload (x := b2) (3) 217 d1_216 fa0 (by decide) (by decide) r2 rfl ?_
                  refine Go.sipush 220 (192) d1_217 (by decide) rfl ?_
                  refine Go.iand 221 d1_220 rfl ?_
                  refine Go.sipush 224 (128) d1_221 (by decide) rfl ?_
                  have J27 : ∀ (v28 : Int32), v28 = (if (b2 &&& (192 : Int32)) = (128 : Int32) then (1 : Int32) else (0 : Int32)) → Go l Z (⟨"com/example/interlace/interlace/csv/Utf8", "sequenceLength", "([BII)I"⟩ : MethodName) prog_18_method_2_code 10 (Option.some Jvm.ClassFile.FieldType.int) ({ frames := 0, cells := 0, slots := 0, locals := 0 } : Room) (QI fun rz h' => rz = (own_len (b0 &&& 255) (b1 &&& 255) (b2 &&& 192) (b3 &&& 192) (e - (1 : Int32))) ∧ h' = h) 0 0 h 232 #[.val (.ref a), .val (.int (1 : Int32)), .val (.int e), .val (.int (b0 &&& (255 : Int32))), .val (.int (4 : Int32)), .val (.int v13), .val (.int v17), .val (.int (b1 &&& (255 : Int32))), .val (.int v23), .val (.int ((1 : Int32) + (2 : Int32)))] [.int v28, .int v23] := by
                    intro v28 e29
                    refine Go.iand 233 d1_232 rfl ?_
                    refine Go.istore 235 #[.val (.ref a), .val (.int (1 : Int32)), .val (.int e), .val (.int (b0 &&& (255 : Int32))), .val (.int (4 : Int32)), .val (.int v13), .val (.int v17), .val (.int (b1 &&& (255 : Int32))), .val (.int (v23 &&& v28)), .val (.int ((1 : Int32) + (2 : Int32)))] d1_233 rfl rfl ?_
                    refine Go.iinc 238 (1) #[.val (.ref a), .val (.int (1 : Int32)), .val (.int e), .val (.int (b0 &&& (255 : Int32))), .val (.int (4 : Int32)), .val (.int v13), .val (.int v17), .val (.int (b1 &&& (255 : Int32))), .val (.int (v23 &&& v28)), .val (.int (((1 : Int32) + (2 : Int32)) + (1 : Int32)))] d1_235 (by decide) rfl rfl rfl ?_
                    refine Go.goto 202 d1_238 (by decide) (by decide) ?_
                    refine Go.iload 204 d1_202 rfl rfl ?_
                    refine Go.iload_n 205 d1_204 rfl rfl ?_
                    refine Go.iload 207 d1_205 rfl rfl ?_
                    refine Go.iadd 208 d1_207 rfl ?_
                    refine Go.icmp_ge 241 211 d1_208 (by decide) (by decide) rfl (fun c => absurd c (by decide)) (fun _ => ?_)
                    refine Go.iload 213 d1_211 rfl rfl ?_
                    refine Go.aload_n 214 d1_213 rfl rfl rfl ?_
                    refine Go.iload 216 d1_214 rfl rfl ?_
                    refine Go.baload (x := b3) (4) 217 d1_216 fa0 (by decide) (by decide) r3 rfl ?_
                    refine Go.sipush 220 (192) d1_217 (by decide) rfl ?_
                    refine Go.iand 221 d1_220 rfl ?_
                    refine Go.sipush 224 (128) d1_221 (by decide) rfl ?_
                    have J32 : ∀ (v33 : Int32), v33 = (if (b3 &&& (192 : Int32)) = (128 : Int32) then (1 : Int32) else (0 : Int32)) → Go l Z (⟨"com/example/interlace/interlace/csv/Utf8", "sequenceLength", "([BII)I"⟩ : MethodName) prog_18_method_2_code 10 (Option.some Jvm.ClassFile.FieldType.int) ({ frames := 0, cells := 0, slots := 0, locals := 0 } : Room) (QI fun rz h' => rz = (own_len (b0 &&& 255) (b1 &&& 255) (b2 &&& 192) (b3 &&& 192) (e - (1 : Int32))) ∧ h' = h) 0 0 h 232 #[.val (.ref a), .val (.int (1 : Int32)), .val (.int e), .val (.int (b0 &&& (255 : Int32))), .val (.int (4 : Int32)), .val (.int v13), .val (.int v17), .val (.int (b1 &&& (255 : Int32))), .val (.int (v23 &&& v28)), .val (.int (((1 : Int32) + (2 : Int32)) + (1 : Int32)))] [.int v33, .int (v23 &&& v28)] := by
                      intro v33 e34
                      refine Go.iand 233 d1_232 rfl ?_
                      refine Go.istore 235 #[.val (.ref a), .val (.int (1 : Int32)), .val (.int e), .val (.int (b0 &&& (255 : Int32))), .val (.int (4 : Int32)), .val (.int v13), .val (.int v17), .val (.int (b1 &&& (255 : Int32))), .val (.int ((v23 &&& v28) &&& v33)), .val (.int (((1 : Int32) + (2 : Int32)) + (1 : Int32)))] d1_233 rfl rfl ?_
                      refine Go.iinc 238 (1) #[.val (.ref a), .val (.int (1 : Int32)), .val (.int e), .val (.int (b0 &&& (255 : Int32))), .val (.int (4 : Int32)), .val (.int v13), .val (.int v17), .val (.int (b1 &&& (255 : Int32))), .val (.int ((v23 &&& v28) &&& v33)), .val (.int ((((1 : Int32) + (2 : Int32)) + (1 : Int32)) + (1 : Int32)))] d1_235 (by decide) rfl rfl rfl ?_
                      refine Go.goto 202 d1_238 (by decide) (by decide) ?_
                      refine Go.iload 204 d1_202 rfl rfl ?_
                      refine Go.iload_n 205 d1_204 rfl rfl ?_
                      refine Go.iload 207 d1_205 rfl rfl ?_
                      refine Go.iadd 208 d1_207 rfl ?_
                      refine Go.icmp_ge 241 211 d1_208 (by decide) (by decide) rfl (fun _ => ?_) (fun c => absurd c (by decide))
                      refine Go.iload 243 d1_241 rfl rfl ?_
                      refine Go.if_eq 251 246 d1_243 (by decide) (by decide) rfl (fun c36 => ?_) (fun c36 => ?_)
                      ·
                        refine Go.iconst 252 (0) d1_251 (by decide) rfl ?_
                        refine Go.ireturn d1_252 rfl (by decide) (by decide) ?_
                        refine ⟨?_, rfl⟩
                        rw [own_len_4 c7 c9, if_neg c20]
                        subst_vars
                        rw [if_pos c36]
                      ·
                        refine Go.iload 248 d1_246 rfl rfl ?_
                        refine Go.goto 252 d1_248 (by decide) (by decide) ?_
                        refine Go.ireturn d1_252 rfl (by decide) (by decide) ?_
                        refine ⟨?_, rfl⟩
                        rw [own_len_4 c7 c9, if_neg c20]
                        subst_vars
                        rw [if_neg c36]
                    refine Go.icmp_ne 231 227 d1_224 (by decide) (by decide) rfl (fun c37 => ?_) (fun c37 => ?_)
                    ·
                      refine Go.iconst 232 (0) d1_231 (by decide) rfl ?_
                      exact (J32 _ (by first | rfl | (simp only [if_neg c37]; done) | simp [c37])).le (by decide) (by decide)
                    ·
                      refine Go.iconst 228 (1) d1_227 (by decide) rfl ?_
                      refine Go.goto 232 d1_228 (by decide) (by decide) ?_
                      exact (J32 _ (by first | rfl | (simp only [if_pos c37]; done) | simp [c37])).le (by decide) (by decide)
                  refine Go.icmp_ne 231 227 d1_224 (by decide) (by decide) rfl (fun c38 => ?_) (fun c38 => ?_)
                  ·
                    refine Go.iconst 232 (0) d1_231 (by decide) rfl ?_
                    exact (J27 _ (by first | rfl | (simp only [if_neg c38]; done) | simp [c38])).le (by decide) (by decide)
                  ·
                    refine Go.iconst 228 (1) d1_227 (by decide) rfl ?_
                    refine Go.goto 232 d1_228 (by decide) (by decide) ?_
                    exact (J27 _ (by first | rfl | (simp only [if_pos c38]; done) | simp [c38])).le (by decide) (by decide)
                refine Go.icmp_lt 194 183 d1_180 (by decide) (by decide) rfl (fun c39 => ?_) (fun c39 => ?_)
                ·
                  refine Go.iconst 195 (0) d1_194 (by decide) rfl ?_
                  exact (J22 _ (by first | rfl | (simp only [if_pos c39]; done) | simp [c39])).le (by decide) (by decide)
                ·
                  refine Go.iload 185 d1_183 rfl rfl ?_
                  refine Go.iload 187 d1_185 rfl rfl ?_
                  refine Go.icmp_gt 194 190 d1_187 (by decide) (by decide) rfl (fun c40 => ?_) (fun c40 => ?_)
                  ·
                    refine Go.iconst 195 (0) d1_194 (by decide) rfl ?_
                    exact (J22 _ (by first | rfl | (simp only [if_neg c39, if_pos c40]; done) | simp [c39, c40])).le (by decide) (by decide)
                  ·
                    refine Go.iconst 191 (1) d1_190 (by decide) rfl ?_
                    refine Go.goto 195 d1_191 (by decide) (by decide) ?_
                    exact (J22 _ (by first | rfl | (simp only [if_neg c39, if_neg c40]; done) | simp [c39, c40])).le (by decide) (by decide)
              ·
                refine Go.iconst 164 (0) d1_163 (by decide) rfl ?_
                refine Go.ireturn d1_164 rfl (by decide) (by decide) ?_
                refine ⟨?_, rfl⟩
                rw [own_len_4 c7 c9, if_pos c20]
            refine Go.icmp_ne 145 139 d1_136 (by decide) (by decide) rfl (fun c41 => ?_) (fun c41 => ?_)
            ·
              refine Go.sipush 148 (191) d1_145 (by decide) rfl ?_
              exact (J16 _ (by first | rfl | (simp only [if_neg c41]; done) | simp [c41])).le (by decide) (by decide)
            ·
              refine Go.sipush 142 (143) d1_139 (by decide) rfl ?_
              refine Go.goto 148 d1_142 (by decide) (by decide) ?_
              exact (J16 _ (by first | rfl | (simp only [if_pos c41]; done) | simp [c41])).le (by decide) (by decide)
          refine Go.icmp_ne 127 121 d1_118 (by decide) (by decide) rfl (fun c42 => ?_) (fun c42 => ?_)
          ·
            refine Go.sipush 130 (128) d1_127 (by decide) rfl ?_
            exact (J12 _ (by first | rfl | (simp only [if_neg c42]; done) | simp [c42])).le (by decide) (by decide)
          ·
            refine Go.sipush 124 (144) d1_121 (by decide) rfl ?_
            refine Go.goto 130 d1_124 (by decide) (by decide) ?_
            exact (J12 _ (by first | rfl | (simp only [if_pos c42]; done) | simp [c42])).le (by decide) (by decide)
      ·
        refine Go.iconst 56 (3) d1_55 (by decide) rfl ?_
        refine Go.istore 58 #[.val (.ref a), .val (.int (1 : Int32)), .val (.int e), .val (.int (b0 &&& (255 : Int32))), .val (.int (3 : Int32)), .val (.int (128 : Int32)), .val (.int (191 : Int32)), .unset, .unset, .unset] d1_56 rfl rfl ?_
        refine Go.iload_n 59 d1_58 rfl rfl ?_
        refine Go.sipush 62 (224) d1_59 (by decide) rfl ?_
        have J44 : ∀ (v45 : Int32), v45 = (if (b0 &&& (255 : Int32)) = (224 : Int32) then (160 : Int32) else (128 : Int32)) → Go l Z (⟨"com/example/interlace/interlace/csv/Utf8", "sequenceLength", "([BII)I"⟩ : MethodName) prog_18_method_2_code 10 (Option.some Jvm.ClassFile.FieldType.int) ({ frames := 0, cells := 0, slots := 0, locals := 0 } : Room) (QI fun rz h' => rz = (own_len (b0 &&& 255) (b1 &&& 255) (b2 &&& 192) (b3 &&& 192) (e - (1 : Int32))) ∧ h' = h) 0 0 h 74 #[.val (.ref a), .val (.int (1 : Int32)), .val (.int e), .val (.int (b0 &&& (255 : Int32))), .val (.int (3 : Int32)), .val (.int (128 : Int32)), .val (.int (191 : Int32)), .unset, .unset, .unset] [.int v45] := by
          intro v45 e46
          refine Go.istore 76 #[.val (.ref a), .val (.int (1 : Int32)), .val (.int e), .val (.int (b0 &&& (255 : Int32))), .val (.int (3 : Int32)), .val (.int v45), .val (.int (191 : Int32)), .unset, .unset, .unset] d1_74 rfl rfl ?_
          refine Go.iload_n 77 d1_76 rfl rfl ?_
          refine Go.sipush 80 (237) d1_77 (by decide) rfl ?_
          have J48 : ∀ (v49 : Int32), v49 = (if (b0 &&& (255 : Int32)) = (237 : Int32) then (159 : Int32) else (191 : Int32)) → Go l Z (⟨"com/example/interlace/interlace/csv/Utf8", "sequenceLength", "([BII)I"⟩ : MethodName) prog_18_method_2_code 10 (Option.some Jvm.ClassFile.FieldType.int) ({ frames := 0, cells := 0, slots := 0, locals := 0 } : Room) (QI fun rz h' => rz = (own_len (b0 &&& 255) (b1 &&& 255) (b2 &&& 192) (b3 &&& 192) (e - (1 : Int32))) ∧ h' = h) 0 0 h 92 #[.val (.ref a), .val (.int (1 : Int32)), .val (.int e), .val (.int (b0 &&& (255 : Int32))), .val (.int (3 : Int32)), .val (.int v45), .val (.int (191 : Int32)), .unset, .unset, .unset] [.int v49] := by
            intro v49 e50
            refine Go.istore 94 #[.val (.ref a), .val (.int (1 : Int32)), .val (.int e), .val (.int (b0 &&& (255 : Int32))), .val (.int (3 : Int32)), .val (.int v45), .val (.int v49), .unset, .unset, .unset] d1_92 rfl rfl ?_
            refine Go.goto 150 d1_94 (by decide) (by decide) ?_
            refine Go.iload 152 d1_150 rfl rfl ?_
            refine Go.if_eq 163 155 d1_152 (by decide) (by decide) rfl (fun c => absurd c (by decide)) (fun _ => ?_)
            refine Go.iload_n 156 d1_155 rfl rfl ?_
            refine Go.iload_n 157 d1_156 rfl rfl ?_
            refine Go.isub 158 d1_157 rfl ?_
            refine Go.iload 160 d1_158 rfl rfl ?_
            refine Go.icmp_ge 165 163 d1_160 (by decide) (by decide) rfl (fun c52 => ?_) (fun c52 => ?_)
            ·
              refine Go.aload_n 166 d1_165 rfl rfl rfl ?_
              refine Go.iload_n 167 d1_166 rfl rfl ?_
              refine Go.iconst 168 (1) d1_167 (by decide) rfl ?_
              refine Go.iadd 169 d1_168 rfl ?_
              refine Go.baload (x := b1) (2) 170 d1_169 fa0 (by decide) (by decide) r1 rfl ?_
              refine Go.sipush 173 (255) d1_170 (by decide) rfl ?_
              refine Go.iand 174 d1_173 rfl ?_
              refine Go.istore 176 #[.val (.ref a), .val (.int (1 : Int32)), .val (.int e), .val (.int (b0 &&& (255 : Int32))), .val (.int (3 : Int32)), .val (.int v45), .val (.int v49), .val (.int (b1 &&& (255 : Int32))), .unset, .unset] d1_174 rfl rfl ?_
              refine Go.iload 178 d1_176 rfl rfl ?_
              refine Go.iload 180 d1_178 rfl rfl ?_
              have J54 : ∀ (v55 : Int32), v55 = (if (b1 &&& (255 : Int32)) < v45 then (0 : Int32) else (if v49 < (b1 &&& (255 : Int32)) then (0 : Int32) else (1 : Int32))) → Go l Z (⟨"com/example/interlace/interlace/csv/Utf8", "sequenceLength", "([BII)I"⟩ : MethodName) prog_18_method_2_code 10 (Option.some Jvm.ClassFile.FieldType.int) ({ frames := 0, cells := 0, slots := 0, locals := 0 } : Room) (QI fun rz h' => rz = (own_len (b0 &&& 255) (b1 &&& 255) (b2 &&& 192) (b3 &&& 192) (e - (1 : Int32))) ∧ h' = h) 0 0 h 195 #[.val (.ref a), .val (.int (1 : Int32)), .val (.int e), .val (.int (b0 &&& (255 : Int32))), .val (.int (3 : Int32)), .val (.int v45), .val (.int v49), .val (.int (b1 &&& (255 : Int32))), .unset, .unset] [.int v55] := by
                intro v55 e56
                refine Go.istore 197 #[.val (.ref a), .val (.int (1 : Int32)), .val (.int e), .val (.int (b0 &&& (255 : Int32))), .val (.int (3 : Int32)), .val (.int v45), .val (.int v49), .val (.int (b1 &&& (255 : Int32))), .val (.int v55), .unset] d1_195 rfl rfl ?_
                refine Go.iload_n 198 d1_197 rfl rfl ?_
                refine Go.iconst 199 (2) d1_198 (by decide) rfl ?_
                refine Go.iadd 200 d1_199 rfl ?_
                refine Go.istore 202 #[.val (.ref a), .val (.int (1 : Int32)), .val (.int e), .val (.int (b0 &&& (255 : Int32))), .val (.int (3 : Int32)), .val (.int v45), .val (.int v49), .val (.int (b1 &&& (255 : Int32))), .val (.int v55), .val (.int ((1 : Int32) + (2 : Int32)))] d1_200 rfl rfl ?_
                refine Go.iload 204 d1_202 rfl rfl ?_
                refine Go.iload_n 205 d1_204 rfl rfl ?_
                refine Go.iload 207 d1_205 rfl rfl ?_
                refine Go.iadd 208 d1_207 rfl ?_
                refine Go.icmp_ge 241 211 d1_208 (by decide) (by decide) rfl (fun c => absurd c (by decide)) (fun _ => ?_)
                refine Go.iload 213 d1_211 rfl rfl ?_
                refine Go.aload_n 214 d1_213 rfl rfl rfl ?_
                refine Go.iload 216 d1_214 rfl rfl ?_
                refine Go.baload (x := b2) (3) 217 d1_216 fa0 (by decide) (by decide) r2 rfl ?_
                refine Go.sipush 220 (192) d1_217 (by decide) rfl ?_
                refine Go.iand 221 d1_220 rfl ?_
                refine Go.sipush 224 (128) d1_221 (by decide) rfl ?_
                have J59 : ∀ (v60 : Int32), v60 = (if (b2 &&& (192 : Int32)) = (128 : Int32) then (1 : Int32) else (0 : Int32)) → Go l Z (⟨"com/example/interlace/interlace/csv/Utf8", "sequenceLength", "([BII)I"⟩ : MethodName) prog_18_method_2_code 10 (Option.some Jvm.ClassFile.FieldType.int) ({ frames := 0, cells := 0, slots := 0, locals := 0 } : Room) (QI fun rz h' => rz = (own_len (b0 &&& 255) (b1 &&& 255) (b2 &&& 192) (b3 &&& 192) (e - (1 : Int32))) ∧ h' = h) 0 0 h 232 #[.val (.ref a), .val (.int (1 : Int32)), .val (.int e), .val (.int (b0 &&& (255 : Int32))), .val (.int (3 : Int32)), .val (.int v45), .val (.int v49), .val (.int (b1 &&& (255 : Int32))), .val (.int v55), .val (.int ((1 : Int32) + (2 : Int32)))] [.int v60, .int v55] := by
                  intro v60 e61
                  refine Go.iand 233 d1_232 rfl ?_
                  refine Go.istore 235 #[.val (.ref a), .val (.int (1 : Int32)), .val (.int e), .val (.int (b0 &&& (255 : Int32))), .val (.int (3 : Int32)), .val (.int v45), .val (.int v49), .val (.int (b1 &&& (255 : Int32))), .val (.int (v55 &&& v60)), .val (.int ((1 : Int32) + (2 : Int32)))] d1_233 rfl rfl ?_
                  refine Go.iinc 238 (1) #[.val (.ref a), .val (.int (1 : Int32)), .val (.int e), .val (.int (b0 &&& (255 : Int32))), .val (.int (3 : Int32)), .val (.int v45), .val (.int v49), .val (.int (b1 &&& (255 : Int32))), .val (.int (v55 &&& v60)), .val (.int (((1 : Int32) + (2 : Int32)) + (1 : Int32)))] d1_235 (by decide) rfl rfl rfl ?_
                  refine Go.goto 202 d1_238 (by decide) (by decide) ?_
                  refine Go.iload 204 d1_202 rfl rfl ?_
                  refine Go.iload_n 205 d1_204 rfl rfl ?_
                  refine Go.iload 207 d1_205 rfl rfl ?_
                  refine Go.iadd 208 d1_207 rfl ?_
                  refine Go.icmp_ge 241 211 d1_208 (by decide) (by decide) rfl (fun _ => ?_) (fun c => absurd c (by decide))
                  refine Go.iload 243 d1_241 rfl rfl ?_
                  refine Go.if_eq 251 246 d1_243 (by decide) (by decide) rfl (fun c63 => ?_) (fun c63 => ?_)
                  ·
                    refine Go.iconst 252 (0) d1_251 (by decide) rfl ?_
                    refine Go.ireturn d1_252 rfl (by decide) (by decide) ?_
                    refine ⟨?_, rfl⟩
                    rw [own_len_3 c5 c7, if_neg c52]
                    subst_vars
                    rw [if_pos c63]
                  ·
                    refine Go.iload 248 d1_246 rfl rfl ?_
                    refine Go.goto 252 d1_248 (by decide) (by decide) ?_
                    refine Go.ireturn d1_252 rfl (by decide) (by decide) ?_
                    refine ⟨?_, rfl⟩
                    rw [own_len_3 c5 c7, if_neg c52]
                    subst_vars
                    rw [if_neg c63]
                refine Go.icmp_ne 231 227 d1_224 (by decide) (by decide) rfl (fun c64 => ?_) (fun c64 => ?_)
                ·
                  refine Go.iconst 232 (0) d1_231 (by decide) rfl ?_
                  exact (J59 _ (by first | rfl | (simp only [if_neg c64]; done) | simp [c64])).le (by decide) (by decide)
                ·
                  refine Go.iconst 228 (1) d1_227 (by decide) rfl ?_
                  refine Go.goto 232 d1_228 (by decide) (by decide) ?_
                  exact (J59 _ (by first | rfl | (simp only [if_pos c64]; done) | simp [c64])).le (by decide) (by decide)
              refine Go.icmp_lt 194 183 d1_180 (by decide) (by decide) rfl (fun c65 => ?_) (fun c65 => ?_)
              ·
                refine Go.iconst 195 (0) d1_194 (by decide) rfl ?_
                exact (J54 _ (by first | rfl | (simp only [if_pos c65]; done) | simp [c65])).le (by decide) (by decide)
              ·
                refine Go.iload 185 d1_183 rfl rfl ?_
                refine Go.iload 187 d1_185 rfl rfl ?_
                refine Go.icmp_gt 194 190 d1_187 (by decide) (by decide) rfl (fun c66 => ?_) (fun c66 => ?_)
                ·
                  refine Go.iconst 195 (0) d1_194 (by decide) rfl ?_
                  exact (J54 _ (by first | rfl | (simp only [if_neg c65, if_pos c66]; done) | simp [c65, c66])).le (by decide) (by decide)
                ·
                  refine Go.iconst 191 (1) d1_190 (by decide) rfl ?_
                  refine Go.goto 195 d1_191 (by decide) (by decide) ?_
                  exact (J54 _ (by first | rfl | (simp only [if_neg c65, if_neg c66]; done) | simp [c65, c66])).le (by decide) (by decide)
            ·
              refine Go.iconst 164 (0) d1_163 (by decide) rfl ?_
              refine Go.ireturn d1_164 rfl (by decide) (by decide) ?_
              refine ⟨?_, rfl⟩
              rw [own_len_3 c5 c7, if_pos c52]
          refine Go.icmp_ne 89 83 d1_80 (by decide) (by decide) rfl (fun c67 => ?_) (fun c67 => ?_)
          ·
            refine Go.sipush 92 (191) d1_89 (by decide) rfl ?_
            exact (J48 _ (by first | rfl | (simp only [if_neg c67]; done) | simp [c67])).le (by decide) (by decide)
          ·
            refine Go.sipush 86 (159) d1_83 (by decide) rfl ?_
            refine Go.goto 92 d1_86 (by decide) (by decide) ?_
            exact (J48 _ (by first | rfl | (simp only [if_pos c67]; done) | simp [c67])).le (by decide) (by decide)
        refine Go.icmp_ne 71 65 d1_62 (by decide) (by decide) rfl (fun c68 => ?_) (fun c68 => ?_)
        ·
          refine Go.sipush 74 (128) d1_71 (by decide) rfl ?_
          exact (J44 _ (by first | rfl | (simp only [if_neg c68]; done) | simp [c68])).le (by decide) (by decide)
        ·
          refine Go.sipush 68 (160) d1_65 (by decide) rfl ?_
          refine Go.goto 74 d1_68 (by decide) (by decide) ?_
          exact (J44 _ (by first | rfl | (simp only [if_pos c68]; done) | simp [c68])).le (by decide) (by decide)
    ·
      refine Go.iconst 36 (2) d1_35 (by decide) rfl ?_
      refine Go.istore 38 #[.val (.ref a), .val (.int (1 : Int32)), .val (.int e), .val (.int (b0 &&& (255 : Int32))), .val (.int (2 : Int32)), .val (.int (128 : Int32)), .val (.int (191 : Int32)), .unset, .unset, .unset] d1_36 rfl rfl ?_
      refine Go.goto 150 d1_38 (by decide) (by decide) ?_
      refine Go.iload 152 d1_150 rfl rfl ?_
      refine Go.if_eq 163 155 d1_152 (by decide) (by decide) rfl (fun c => absurd c (by decide)) (fun _ => ?_)
      refine Go.iload_n 156 d1_155 rfl rfl ?_
      refine Go.iload_n 157 d1_156 rfl rfl ?_
      refine Go.isub 158 d1_157 rfl ?_
      refine Go.iload 160 d1_158 rfl rfl ?_
      refine Go.icmp_ge 165 163 d1_160 (by decide) (by decide) rfl (fun c70 => ?_) (fun c70 => ?_)
      ·
        refine Go.aload_n 166 d1_165 rfl rfl rfl ?_
        refine Go.iload_n 167 d1_166 rfl rfl ?_
        refine Go.iconst 168 (1) d1_167 (by decide) rfl ?_
        refine Go.iadd 169 d1_168 rfl ?_
        refine Go.baload (x := b1) (2) 170 d1_169 fa0 (by decide) (by decide) r1 rfl ?_
        refine Go.sipush 173 (255) d1_170 (by decide) rfl ?_
        refine Go.iand 174 d1_173 rfl ?_
        refine Go.istore 176 #[.val (.ref a), .val (.int (1 : Int32)), .val (.int e), .val (.int (b0 &&& (255 : Int32))), .val (.int (2 : Int32)), .val (.int (128 : Int32)), .val (.int (191 : Int32)), .val (.int (b1 &&& (255 : Int32))), .unset, .unset] d1_174 rfl rfl ?_
        refine Go.iload 178 d1_176 rfl rfl ?_
        refine Go.iload 180 d1_178 rfl rfl ?_
        have J72 : ∀ (v73 : Int32), v73 = (if (b1 &&& (255 : Int32)) < (128 : Int32) then (0 : Int32) else (if (191 : Int32) < (b1 &&& (255 : Int32)) then (0 : Int32) else (1 : Int32))) → Go l Z (⟨"com/example/interlace/interlace/csv/Utf8", "sequenceLength", "([BII)I"⟩ : MethodName) prog_18_method_2_code 10 (Option.some Jvm.ClassFile.FieldType.int) ({ frames := 0, cells := 0, slots := 0, locals := 0 } : Room) (QI fun rz h' => rz = (own_len (b0 &&& 255) (b1 &&& 255) (b2 &&& 192) (b3 &&& 192) (e - (1 : Int32))) ∧ h' = h) 0 0 h 195 #[.val (.ref a), .val (.int (1 : Int32)), .val (.int e), .val (.int (b0 &&& (255 : Int32))), .val (.int (2 : Int32)), .val (.int (128 : Int32)), .val (.int (191 : Int32)), .val (.int (b1 &&& (255 : Int32))), .unset, .unset] [.int v73] := by
          intro v73 e74
          refine Go.istore 197 #[.val (.ref a), .val (.int (1 : Int32)), .val (.int e), .val (.int (b0 &&& (255 : Int32))), .val (.int (2 : Int32)), .val (.int (128 : Int32)), .val (.int (191 : Int32)), .val (.int (b1 &&& (255 : Int32))), .val (.int v73), .unset] d1_195 rfl rfl ?_
          refine Go.iload_n 198 d1_197 rfl rfl ?_
          refine Go.iconst 199 (2) d1_198 (by decide) rfl ?_
          refine Go.iadd 200 d1_199 rfl ?_
          refine Go.istore 202 #[.val (.ref a), .val (.int (1 : Int32)), .val (.int e), .val (.int (b0 &&& (255 : Int32))), .val (.int (2 : Int32)), .val (.int (128 : Int32)), .val (.int (191 : Int32)), .val (.int (b1 &&& (255 : Int32))), .val (.int v73), .val (.int ((1 : Int32) + (2 : Int32)))] d1_200 rfl rfl ?_
          refine Go.iload 204 d1_202 rfl rfl ?_
          refine Go.iload_n 205 d1_204 rfl rfl ?_
          refine Go.iload 207 d1_205 rfl rfl ?_
          refine Go.iadd 208 d1_207 rfl ?_
          refine Go.icmp_ge 241 211 d1_208 (by decide) (by decide) rfl (fun _ => ?_) (fun c => absurd c (by decide))
          refine Go.iload 243 d1_241 rfl rfl ?_
          refine Go.if_eq 251 246 d1_243 (by decide) (by decide) rfl (fun c76 => ?_) (fun c76 => ?_)
          ·
            refine Go.iconst 252 (0) d1_251 (by decide) rfl ?_
            refine Go.ireturn d1_252 rfl (by decide) (by decide) ?_
            refine ⟨?_, rfl⟩
            rw [own_len_2 c1 c5, if_neg c70]
            subst_vars
            rw [if_pos c76]
          ·
            refine Go.iload 248 d1_246 rfl rfl ?_
            refine Go.goto 252 d1_248 (by decide) (by decide) ?_
            refine Go.ireturn d1_252 rfl (by decide) (by decide) ?_
            refine ⟨?_, rfl⟩
            rw [own_len_2 c1 c5, if_neg c70]
            subst_vars
            rw [if_neg c76]
        refine Go.icmp_lt 194 183 d1_180 (by decide) (by decide) rfl (fun c77 => ?_) (fun c77 => ?_)
        ·
          refine Go.iconst 195 (0) d1_194 (by decide) rfl ?_
          exact (J72 _ (by first | rfl | (simp only [if_pos c77]; done) | simp [c77])).le (by decide) (by decide)
        ·
          refine Go.iload 185 d1_183 rfl rfl ?_
          refine Go.iload 187 d1_185 rfl rfl ?_
          refine Go.icmp_gt 194 190 d1_187 (by decide) (by decide) rfl (fun c78 => ?_) (fun c78 => ?_)
          ·
            refine Go.iconst 195 (0) d1_194 (by decide) rfl ?_
            exact (J72 _ (by first | rfl | (simp only [if_neg c77, if_pos c78]; done) | simp [c77, c78])).le (by decide) (by decide)
          ·
            refine Go.iconst 191 (1) d1_190 (by decide) rfl ?_
            refine Go.goto 195 d1_191 (by decide) (by decide) ?_
            exact (J72 _ (by first | rfl | (simp only [if_neg c77, if_neg c78]; done) | simp [c77, c78])).le (by decide) (by decide)
      ·
        refine Go.iconst 164 (0) d1_163 (by decide) rfl ?_
        refine Go.ireturn d1_164 rfl (by decide) (by decide) ?_
        refine ⟨?_, rfl⟩
        rw [own_len_2 c1 c5, if_pos c70]

theorem d3_0 : decode method_3_code 0 = .ok (.iload_n 0, 1) := by decide +kernel
theorem d3_1 : decode method_3_code 1 = .ok (.sipush 192, 3) := by decide +kernel
theorem d3_4 : decode method_3_code 4 = .ok (.iand, 1) := by decide +kernel
theorem d3_5 : decode method_3_code 5 = .ok (.sipush 128, 3) := by decide +kernel
theorem d3_8 : decode method_3_code 8 = .ok (.if_icmp .ne 7, 3) := by decide +kernel
theorem d3_11 : decode method_3_code 11 = .ok (.iconst 1, 1) := by decide +kernel
theorem d3_12 : decode method_3_code 12 = .ok (.goto 4, 3) := by decide +kernel
theorem d3_15 : decode method_3_code 15 = .ok (.iconst 0, 1) := by decide +kernel
theorem d3_16 : decode method_3_code 16 = .ok (.ireturn, 1) := by decide +kernel

theorem pd3 : parseMethodDescriptor "(I)Z" = some ⟨[.int], some .boolean⟩ := by decide +kernel
theorem pl3 : plainFor (⟨"com/example/interlace/interlace/csv/Utf8SequenceLengthPinLaw", "cont", "(I)Z"⟩ : MethodName) = true := by first | exact plainFor_of_name (by first | (simp [plainName, overriddenIn]; done) | decide +kernel) | decide +kernel

theorem ef_k_cont (m : MethodId) (x0 : Int32) : entryFrame m #[(.int x0)] 1 = mkF m 0 #[.val (.int x0)] [] := by first | (simp [entryFrame, mkF, argsToLocals, Value.category]; done) | rfl

set_option maxRecDepth 65536 in
set_option maxHeartbeats 40000000 in
theorem k_cont {l : Launch} {Z : State} {a0 : Array Value} (hw : ∀ d ∈ tables_1, d.before a0 Z = true)  (h : Heap) (hz : Z.heap.size ≤ h.size) (x : Int32)     : Go l Z (⟨"com/example/interlace/interlace/csv/Utf8SequenceLengthPinLaw", "cont", "(I)Z"⟩ : MethodName) method_3_code 1 (Option.some Jvm.ClassFile.FieldType.boolean) ({ frames := 0, cells := 0, slots := 0, locals := 0 } : Room) (QI fun rz h' => rz = (own_cont x) ∧ h' = h) 0 0 h 0 #[.val (.int x)] [] := by
  refine Go.iload_n 1 d3_0 rfl rfl ?_
  refine Go.sipush 4 (192) d3_1 (by decide) rfl ?_
  refine Go.iand 5 d3_4 rfl ?_
  refine Go.sipush 8 (128) d3_5 (by decide) rfl ?_
  refine Go.icmp_ne 15 11 d3_8 (by decide) (by decide) rfl (fun c1 => ?_) (fun c1 => ?_)
  ·
    refine Go.iconst 16 (0) d3_15 (by decide) rfl ?_
    refine Go.nreturn (t := .boolean) (z' := (0 : Int32)) d3_16 rfl (by simp) (by decide) (by decide) (by decide) ?_
    exact ⟨by simp [own_cont, *], rfl⟩
  ·
    refine Go.iconst 12 (1) d3_11 (by decide) rfl ?_
    refine Go.goto 16 d3_12 (by decide) (by decide) ?_
    refine Go.nreturn (t := .boolean) (z' := (1 : Int32)) d3_16 rfl (by simp) (by decide) (by decide) (by decide) ?_
    exact ⟨by simp [own_cont, *], rfl⟩

theorem d2_0 : decode method_4_code 0 = .ok (.iload_n 0, 1) := by decide +kernel
theorem d2_1 : decode method_4_code 1 = .ok (.sipush 192, 3) := by decide +kernel
theorem d2_4 : decode method_4_code 4 = .ok (.if_icmp .ge 9, 3) := by decide +kernel
theorem d2_7 : decode method_4_code 7 = .ok (.iconst 0, 1) := by decide +kernel
theorem d2_8 : decode method_4_code 8 = .ok (.istore 5, 2) := by decide +kernel
theorem d2_10 : decode method_4_code 10 = .ok (.goto 45, 3) := by decide +kernel
theorem d2_13 : decode method_4_code 13 = .ok (.iload_n 0, 1) := by decide +kernel
theorem d2_14 : decode method_4_code 14 = .ok (.sipush 224, 3) := by decide +kernel
theorem d2_17 : decode method_4_code 17 = .ok (.if_icmp .ge 9, 3) := by decide +kernel
theorem d2_20 : decode method_4_code 20 = .ok (.iconst 2, 1) := by decide +kernel
theorem d2_21 : decode method_4_code 21 = .ok (.istore 5, 2) := by decide +kernel
theorem d2_23 : decode method_4_code 23 = .ok (.goto 32, 3) := by decide +kernel
theorem d2_26 : decode method_4_code 26 = .ok (.iload_n 0, 1) := by decide +kernel
theorem d2_27 : decode method_4_code 27 = .ok (.sipush 240, 3) := by decide +kernel
theorem d2_30 : decode method_4_code 30 = .ok (.if_icmp .ge 9, 3) := by decide +kernel
theorem d2_33 : decode method_4_code 33 = .ok (.iconst 3, 1) := by decide +kernel
theorem d2_34 : decode method_4_code 34 = .ok (.istore 5, 2) := by decide +kernel
theorem d2_36 : decode method_4_code 36 = .ok (.goto 19, 3) := by decide +kernel
theorem d2_39 : decode method_4_code 39 = .ok (.iload_n 0, 1) := by decide +kernel
theorem d2_40 : decode method_4_code 40 = .ok (.sipush 248, 3) := by decide +kernel
theorem d2_43 : decode method_4_code 43 = .ok (.if_icmp .ge 9, 3) := by decide +kernel
theorem d2_46 : decode method_4_code 46 = .ok (.iconst 4, 1) := by decide +kernel
theorem d2_47 : decode method_4_code 47 = .ok (.istore 5, 2) := by decide +kernel
theorem d2_49 : decode method_4_code 49 = .ok (.goto 6, 3) := by decide +kernel
theorem d2_52 : decode method_4_code 52 = .ok (.iconst 0, 1) := by decide +kernel
theorem d2_53 : decode method_4_code 53 = .ok (.istore 5, 2) := by decide +kernel
theorem d2_55 : decode method_4_code 55 = .ok (.iload 5, 2) := by decide +kernel
theorem d2_57 : decode method_4_code 57 = .ok (.ifCond .eq 10, 3) := by decide +kernel
theorem d2_60 : decode method_4_code 60 = .ok (.iload 4, 2) := by decide +kernel
theorem d2_62 : decode method_4_code 62 = .ok (.iload 5, 2) := by decide +kernel
theorem d2_64 : decode method_4_code 64 = .ok (.if_icmp .ge 5, 3) := by decide +kernel
theorem d2_67 : decode method_4_code 67 = .ok (.iconst 0, 1) := by decide +kernel
theorem d2_68 : decode method_4_code 68 = .ok (.ireturn, 1) := by decide +kernel
theorem d2_69 : decode method_4_code 69 = .ok (.iload_n 1, 1) := by decide +kernel
theorem d2_70 : decode method_4_code 70 = .ok (.invokestatic 19, 3) := by decide +kernel
theorem d2_73 : decode method_4_code 73 = .ok (.ifCond .ne 5, 3) := by decide +kernel
theorem d2_76 : decode method_4_code 76 = .ok (.iconst 0, 1) := by decide +kernel
theorem d2_77 : decode method_4_code 77 = .ok (.ireturn, 1) := by decide +kernel
theorem d2_78 : decode method_4_code 78 = .ok (.iload 5, 2) := by decide +kernel
theorem d2_80 : decode method_4_code 80 = .ok (.iconst 2, 1) := by decide +kernel
theorem d2_81 : decode method_4_code 81 = .ok (.if_icmp .ne 31, 3) := by decide +kernel
theorem d2_84 : decode method_4_code 84 = .ok (.iload_n 0, 1) := by decide +kernel
theorem d2_85 : decode method_4_code 85 = .ok (.bipush 31, 2) := by decide +kernel
theorem d2_87 : decode method_4_code 87 = .ok (.iand, 1) := by decide +kernel
theorem d2_88 : decode method_4_code 88 = .ok (.bipush 6, 2) := by decide +kernel
theorem d2_90 : decode method_4_code 90 = .ok (.ishl, 1) := by decide +kernel
theorem d2_91 : decode method_4_code 91 = .ok (.iload_n 1, 1) := by decide +kernel
theorem d2_92 : decode method_4_code 92 = .ok (.bipush 63, 2) := by decide +kernel
theorem d2_94 : decode method_4_code 94 = .ok (.iand, 1) := by decide +kernel
theorem d2_95 : decode method_4_code 95 = .ok (.ior, 1) := by decide +kernel
theorem d2_96 : decode method_4_code 96 = .ok (.istore 6, 2) := by decide +kernel
theorem d2_98 : decode method_4_code 98 = .ok (.iload 6, 2) := by decide +kernel
theorem d2_100 : decode method_4_code 100 = .ok (.sipush 128, 3) := by decide +kernel
theorem d2_103 : decode method_4_code 103 = .ok (.if_icmp .lt 7, 3) := by decide +kernel
theorem d2_106 : decode method_4_code 106 = .ok (.iconst 2, 1) := by decide +kernel
theorem d2_107 : decode method_4_code 107 = .ok (.goto 4, 3) := by decide +kernel
theorem d2_110 : decode method_4_code 110 = .ok (.iconst 0, 1) := by decide +kernel
theorem d2_111 : decode method_4_code 111 = .ok (.ireturn, 1) := by decide +kernel
theorem d2_112 : decode method_4_code 112 = .ok (.iload_n 2, 1) := by decide +kernel
theorem d2_113 : decode method_4_code 113 = .ok (.invokestatic 19, 3) := by decide +kernel
theorem d2_116 : decode method_4_code 116 = .ok (.ifCond .ne 5, 3) := by decide +kernel
theorem d2_119 : decode method_4_code 119 = .ok (.iconst 0, 1) := by decide +kernel
theorem d2_120 : decode method_4_code 120 = .ok (.ireturn, 1) := by decide +kernel
theorem d2_121 : decode method_4_code 121 = .ok (.iload 5, 2) := by decide +kernel
theorem d2_123 : decode method_4_code 123 = .ok (.iconst 3, 1) := by decide +kernel
theorem d2_124 : decode method_4_code 124 = .ok (.if_icmp .ne 53, 3) := by decide +kernel
theorem d2_127 : decode method_4_code 127 = .ok (.iload_n 0, 1) := by decide +kernel
theorem d2_128 : decode method_4_code 128 = .ok (.bipush 15, 2) := by decide +kernel
theorem d2_130 : decode method_4_code 130 = .ok (.iand, 1) := by decide +kernel
theorem d2_131 : decode method_4_code 131 = .ok (.bipush 12, 2) := by decide +kernel
theorem d2_133 : decode method_4_code 133 = .ok (.ishl, 1) := by decide +kernel
theorem d2_134 : decode method_4_code 134 = .ok (.iload_n 1, 1) := by decide +kernel
theorem d2_135 : decode method_4_code 135 = .ok (.bipush 63, 2) := by decide +kernel
theorem d2_137 : decode method_4_code 137 = .ok (.iand, 1) := by decide +kernel
theorem d2_138 : decode method_4_code 138 = .ok (.bipush 6, 2) := by decide +kernel
theorem d2_140 : decode method_4_code 140 = .ok (.ishl, 1) := by decide +kernel
theorem d2_141 : decode method_4_code 141 = .ok (.ior, 1) := by decide +kernel
theorem d2_142 : decode method_4_code 142 = .ok (.iload_n 2, 1) := by decide +kernel
theorem d2_143 : decode method_4_code 143 = .ok (.bipush 63, 2) := by decide +kernel
theorem d2_145 : decode method_4_code 145 = .ok (.iand, 1) := by decide +kernel
theorem d2_146 : decode method_4_code 146 = .ok (.ior, 1) := by decide +kernel
theorem d2_147 : decode method_4_code 147 = .ok (.istore 6, 2) := by decide +kernel
theorem d2_149 : decode method_4_code 149 = .ok (.iload 6, 2) := by decide +kernel
theorem d2_151 : decode method_4_code 151 = .ok (.sipush 2048, 3) := by decide +kernel
theorem d2_154 : decode method_4_code 154 = .ok (.if_icmp .lt 21, 3) := by decide +kernel
theorem d2_157 : decode method_4_code 157 = .ok (.iload 6, 2) := by decide +kernel
theorem d2_159 : decode method_4_code 159 = .ok (.ldc 23, 2) := by decide +kernel
theorem d2_161 : decode method_4_code 161 = .ok (.if_icmp .lt 10, 3) := by decide +kernel
theorem d2_164 : decode method_4_code 164 = .ok (.iload 6, 2) := by decide +kernel
theorem d2_166 : decode method_4_code 166 = .ok (.ldc 24, 2) := by decide +kernel
theorem d2_168 : decode method_4_code 168 = .ok (.if_icmp .le 7, 3) := by decide +kernel
theorem d2_171 : decode method_4_code 171 = .ok (.iconst 3, 1) := by decide +kernel
theorem d2_172 : decode method_4_code 172 = .ok (.goto 4, 3) := by decide +kernel
theorem d2_175 : decode method_4_code 175 = .ok (.iconst 0, 1) := by decide +kernel
theorem d2_176 : decode method_4_code 176 = .ok (.ireturn, 1) := by decide +kernel
theorem d2_177 : decode method_4_code 177 = .ok (.iload_n 3, 1) := by decide +kernel
theorem d2_178 : decode method_4_code 178 = .ok (.invokestatic 19, 3) := by decide +kernel
theorem d2_181 : decode method_4_code 181 = .ok (.ifCond .ne 5, 3) := by decide +kernel
theorem d2_184 : decode method_4_code 184 = .ok (.iconst 0, 1) := by decide +kernel
theorem d2_185 : decode method_4_code 185 = .ok (.ireturn, 1) := by decide +kernel
theorem d2_186 : decode method_4_code 186 = .ok (.iload_n 0, 1) := by decide +kernel
theorem d2_187 : decode method_4_code 187 = .ok (.bipush 7, 2) := by decide +kernel
theorem d2_189 : decode method_4_code 189 = .ok (.iand, 1) := by decide +kernel
theorem d2_190 : decode method_4_code 190 = .ok (.bipush 18, 2) := by decide +kernel
theorem d2_192 : decode method_4_code 192 = .ok (.ishl, 1) := by decide +kernel
theorem d2_193 : decode method_4_code 193 = .ok (.iload_n 1, 1) := by decide +kernel
theorem d2_194 : decode method_4_code 194 = .ok (.bipush 63, 2) := by decide +kernel
theorem d2_196 : decode method_4_code 196 = .ok (.iand, 1) := by decide +kernel
theorem d2_197 : decode method_4_code 197 = .ok (.bipush 12, 2) := by decide +kernel
theorem d2_199 : decode method_4_code 199 = .ok (.ishl, 1) := by decide +kernel
theorem d2_200 : decode method_4_code 200 = .ok (.ior, 1) := by decide +kernel
theorem d2_201 : decode method_4_code 201 = .ok (.iload_n 2, 1) := by decide +kernel
theorem d2_202 : decode method_4_code 202 = .ok (.bipush 63, 2) := by decide +kernel
theorem d2_204 : decode method_4_code 204 = .ok (.iand, 1) := by decide +kernel
theorem d2_205 : decode method_4_code 205 = .ok (.bipush 6, 2) := by decide +kernel
theorem d2_207 : decode method_4_code 207 = .ok (.ishl, 1) := by decide +kernel
theorem d2_208 : decode method_4_code 208 = .ok (.ior, 1) := by decide +kernel
theorem d2_209 : decode method_4_code 209 = .ok (.iload_n 3, 1) := by decide +kernel
theorem d2_210 : decode method_4_code 210 = .ok (.bipush 63, 2) := by decide +kernel
theorem d2_212 : decode method_4_code 212 = .ok (.iand, 1) := by decide +kernel
theorem d2_213 : decode method_4_code 213 = .ok (.ior, 1) := by decide +kernel
theorem d2_214 : decode method_4_code 214 = .ok (.istore 6, 2) := by decide +kernel
theorem d2_216 : decode method_4_code 216 = .ok (.iload 6, 2) := by decide +kernel
theorem d2_218 : decode method_4_code 218 = .ok (.ldc 25, 2) := by decide +kernel
theorem d2_220 : decode method_4_code 220 = .ok (.if_icmp .lt 14, 3) := by decide +kernel
theorem d2_223 : decode method_4_code 223 = .ok (.iload 6, 2) := by decide +kernel
theorem d2_225 : decode method_4_code 225 = .ok (.ldc 26, 2) := by decide +kernel
theorem d2_227 : decode method_4_code 227 = .ok (.if_icmp .gt 7, 3) := by decide +kernel
theorem d2_230 : decode method_4_code 230 = .ok (.iconst 4, 1) := by decide +kernel
theorem d2_231 : decode method_4_code 231 = .ok (.goto 4, 3) := by decide +kernel
theorem d2_234 : decode method_4_code 234 = .ok (.iconst 0, 1) := by decide +kernel
theorem d2_235 : decode method_4_code 235 = .ok (.ireturn, 1) := by decide +kernel

theorem pd2 : parseMethodDescriptor "(IIIII)I" = some ⟨[.int, .int, .int, .int, .int], some .int⟩ := by decide +kernel
theorem pl2 : plainFor (⟨"com/example/interlace/interlace/csv/Utf8SequenceLengthPinLaw", "expected", "(IIIII)I"⟩ : MethodName) = true := by first | exact plainFor_of_name (by first | (simp [plainName, overriddenIn]; done) | decide +kernel) | decide +kernel

theorem ef_k_exp (m : MethodId) (x0 : Int32) (x1 : Int32) (x2 : Int32) (x3 : Int32) (x4 : Int32) : entryFrame m #[(.int x0), (.int x1), (.int x2), (.int x3), (.int x4)] 7 = mkF m 0 #[.val (.int x0), .val (.int x1), .val (.int x2), .val (.int x3), .val (.int x4), .unset, .unset] [] := by first | (simp [entryFrame, mkF, argsToLocals, Value.category]; done) | rfl

set_option maxRecDepth 65536 in
set_option maxHeartbeats 40000000 in
theorem k_exp {l : Launch} {Z : State} {a0 : Array Value} (hw : ∀ d ∈ tables_1, d.before a0 Z = true)  (h : Heap) (hz : Z.heap.size ≤ h.size) (p0 : Int32) (p1 : Int32) (p2 : Int32) (p3 : Int32) (pv : Int32)     : Go l Z (⟨"com/example/interlace/interlace/csv/Utf8SequenceLengthPinLaw", "expected", "(IIIII)I"⟩ : MethodName) method_4_code 7 (Option.some Jvm.ClassFile.FieldType.int) ({ frames := 1, cells := 0, slots := 0, locals := 32 } : Room) (QI fun rz h' => rz = (own_expd p0 p1 p2 p3 pv) ∧ h' = h) 0 0 h 0 #[.val (.int p0), .val (.int p1), .val (.int p2), .val (.int p3), .val (.int pv), .unset, .unset] [] := by
  refine Go.iload_n 1 d2_0 rfl rfl ?_
  refine Go.sipush 4 (192) d2_1 (by decide) rfl ?_
  refine Go.icmp_ge 13 7 d2_4 (by decide) (by decide) rfl (fun c1 => ?_) (fun c1 => ?_)
  ·
    refine Go.iload_n 14 d2_13 rfl rfl ?_
    refine Go.sipush 17 (224) d2_14 (by decide) rfl ?_
    refine Go.icmp_ge 26 20 d2_17 (by decide) (by decide) rfl (fun c2 => ?_) (fun c2 => ?_)
    ·
      refine Go.iload_n 27 d2_26 rfl rfl ?_
      refine Go.sipush 30 (240) d2_27 (by decide) rfl ?_
      refine Go.icmp_ge 39 33 d2_30 (by decide) (by decide) rfl (fun c3 => ?_) (fun c3 => ?_)
      ·
        refine Go.iload_n 40 d2_39 rfl rfl ?_
        refine Go.sipush 43 (248) d2_40 (by decide) rfl ?_
        refine Go.icmp_ge 52 46 d2_43 (by decide) (by decide) rfl (fun c4 => ?_) (fun c4 => ?_)
        ·
          refine Go.iconst 53 (0) d2_52 (by decide) rfl ?_
          refine Go.istore 55 #[.val (.int p0), .val (.int p1), .val (.int p2), .val (.int p3), .val (.int pv), .val (.int (0 : Int32)), .unset] d2_53 rfl rfl ?_
          refine Go.iload 57 d2_55 rfl rfl ?_
          refine Go.if_eq 67 60 d2_57 (by decide) (by decide) rfl (fun _ => ?_) (fun c => absurd c (by decide))
          refine Go.iconst 68 (0) d2_67 (by decide) rfl ?_
          refine Go.ireturn d2_68 rfl (by decide) (by decide) ?_
          refine ⟨?_, rfl⟩
          simp only [own_expd, own_e2, own_e3, own_e4, own_cp2, own_cp3, own_cp4, c1, c2, c3, c4, not_true_eq_false, not_false_eq_true, and_true, true_and, and_false, false_and, or_true, true_or, or_false, false_or, if_true, if_false]
        ·
          refine Go.iconst 47 (4) d2_46 (by decide) rfl ?_
          refine Go.istore 49 #[.val (.int p0), .val (.int p1), .val (.int p2), .val (.int p3), .val (.int pv), .val (.int (4 : Int32)), .unset] d2_47 rfl rfl ?_
          refine Go.goto 55 d2_49 (by decide) (by decide) ?_
          refine Go.iload 57 d2_55 rfl rfl ?_
          refine Go.if_eq 67 60 d2_57 (by decide) (by decide) rfl (fun c => absurd c (by decide)) (fun _ => ?_)
          refine Go.iload 62 d2_60 rfl rfl ?_
          refine Go.iload 64 d2_62 rfl rfl ?_
          refine Go.icmp_ge 69 67 d2_64 (by decide) (by decide) rfl (fun c7 => ?_) (fun c7 => ?_)
          ·
            refine Go.iload_n 70 d2_69 rfl rfl ?_
            refine Go.callSIp [.int p1] [] 73 d2_70 (tw9 hw) (tw10 hw) (tw7 hw) (tw11 hw) pl3 (by decide) (lenOf pd3 rfl) rfl (fun m => ef_k_cont m p1) _ (k_cont hw h hz p1) 0 rfl (Nat.le_of_eq rfl) (by decide) (by decide) (by decide) (by decide) rfl ?_
            refine Go.if_ne 78 76 d2_73 (by decide) (by decide) rfl (fun c11 => ?_) (fun c11 => ?_)
            ·
              refine Go.iload 80 d2_78 rfl rfl ?_
              refine Go.iconst 81 (2) d2_80 (by decide) rfl ?_
              refine Go.icmp_ne 112 84 d2_81 (by decide) (by decide) rfl (fun _ => ?_) (fun c => absurd c (by decide))
              refine Go.iload_n 113 d2_112 rfl rfl ?_
              refine Go.callSIp [.int p2] [] 116 d2_113 (tw9 hw) (tw10 hw) (tw7 hw) (tw11 hw) pl3 (by decide) (lenOf pd3 rfl) rfl (fun m => ef_k_cont m p2) _ (k_cont hw h hz p2) 0 rfl (Nat.le_of_eq rfl) (by decide) (by decide) (by decide) (by decide) rfl ?_
              refine Go.if_ne 121 119 d2_116 (by decide) (by decide) rfl (fun c16 => ?_) (fun c16 => ?_)
              ·
                refine Go.iload 123 d2_121 rfl rfl ?_
                refine Go.iconst 124 (3) d2_123 (by decide) rfl ?_
                refine Go.icmp_ne 177 127 d2_124 (by decide) (by decide) rfl (fun _ => ?_) (fun c => absurd c (by decide))
                refine Go.iload_n 178 d2_177 rfl rfl ?_
                refine Go.callSIp [.int p3] [] 181 d2_178 (tw9 hw) (tw10 hw) (tw7 hw) (tw11 hw) pl3 (by decide) (lenOf pd3 rfl) rfl (fun m => ef_k_cont m p3) _ (k_cont hw h hz p3) 0 rfl (Nat.le_of_eq rfl) (by decide) (by decide) (by decide) (by decide) rfl ?_
                refine Go.if_ne 186 184 d2_181 (by decide) (by decide) rfl (fun c21 => ?_) (fun c21 => ?_)
                ·
                  refine Go.iload_n 187 d2_186 rfl rfl ?_
                  refine Go.bipush 189 (7) d2_187 (by decide) rfl ?_
                  refine Go.iand 190 d2_189 rfl ?_
                  refine Go.bipush 192 (18) d2_190 (by decide) rfl ?_
                  refine Go.ishl 193 d2_192 rfl ?_
                  refine Go.iload_n 194 d2_193 rfl rfl ?_
                  refine Go.bipush 196 (63) d2_194 (by decide) rfl ?_
                  refine Go.iand 197 d2_196 rfl ?_
                  refine Go.bipush 199 (12) d2_197 (by decide) rfl ?_
                  refine Go.ishl 200 d2_199 rfl ?_
                  refine Go.ior 201 d2_200 rfl ?_
                  refine Go.iload_n 202 d2_201 rfl rfl ?_
                  refine Go.bipush 204 (63) d2_202 (by decide) rfl ?_
                  refine Go.iand 205 d2_204 rfl ?_
                  refine Go.bipush 207 (6) d2_205 (by decide) rfl ?_
                  refine Go.ishl 208 d2_207 rfl ?_
                  refine Go.ior 209 d2_208 rfl ?_
                  refine Go.iload_n 210 d2_209 rfl rfl ?_
                  refine Go.bipush 212 (63) d2_210 (by decide) rfl ?_
                  refine Go.iand 213 d2_212 rfl ?_
                  refine Go.ior 214 d2_213 rfl ?_
                  refine Go.istore 216 #[.val (.int p0), .val (.int p1), .val (.int p2), .val (.int p3), .val (.int pv), .val (.int (4 : Int32)), .val (.int (((((p0 &&& (7 : Int32)) <<< ((18 : Int32) &&& 31)) ||| ((p1 &&& (63 : Int32)) <<< ((12 : Int32) &&& 31))) ||| ((p2 &&& (63 : Int32)) <<< ((6 : Int32) &&& 31))) ||| (p3 &&& (63 : Int32))))] d2_214 rfl rfl ?_
                  refine Go.iload 218 d2_216 rfl rfl ?_
                  refine Go.ldc 220 d2_218 (tw14 hw) rfl ?_
                  refine Go.icmp_lt 234 223 d2_220 (by decide) (by decide) rfl (fun c22 => ?_) (fun c22 => ?_)
                  ·
                    refine Go.iconst 235 (0) d2_234 (by decide) rfl ?_
                    refine Go.ireturn d2_235 rfl (by decide) (by decide) ?_
                    refine ⟨?_, rfl⟩
                    simp only [own_expd, own_e2, own_e3, own_e4, own_cp2, own_cp3, own_cp4, c1, c2, c3, c4, c7, c11, c16, c21, c22, not_true_eq_false, not_false_eq_true, and_true, true_and, and_false, false_and, or_true, true_or, or_false, false_or, if_true, if_false]
                  ·
                    refine Go.iload 225 d2_223 rfl rfl ?_
                    refine Go.ldc 227 d2_225 (tw15 hw) rfl ?_
                    refine Go.icmp_gt 234 230 d2_227 (by decide) (by decide) rfl (fun c23 => ?_) (fun c23 => ?_)
                    ·
                      refine Go.iconst 235 (0) d2_234 (by decide) rfl ?_
                      refine Go.ireturn d2_235 rfl (by decide) (by decide) ?_
                      refine ⟨?_, rfl⟩
                      simp only [own_expd, own_e2, own_e3, own_e4, own_cp2, own_cp3, own_cp4, c1, c2, c3, c4, c7, c11, c16, c21, c22, c23, not_true_eq_false, not_false_eq_true, and_true, true_and, and_false, false_and, or_true, true_or, or_false, false_or, if_true, if_false]
                    ·
                      refine Go.iconst 231 (4) d2_230 (by decide) rfl ?_
                      refine Go.goto 235 d2_231 (by decide) (by decide) ?_
                      refine Go.ireturn d2_235 rfl (by decide) (by decide) ?_
                      refine ⟨?_, rfl⟩
                      simp only [own_expd, own_e2, own_e3, own_e4, own_cp2, own_cp3, own_cp4, c1, c2, c3, c4, c7, c11, c16, c21, c22, c23, not_true_eq_false, not_false_eq_true, and_true, true_and, and_false, false_and, or_true, true_or, or_false, false_or, if_true, if_false]
                ·
                  refine Go.iconst 185 (0) d2_184 (by decide) rfl ?_
                  refine Go.ireturn d2_185 rfl (by decide) (by decide) ?_
                  refine ⟨?_, rfl⟩
                  simp only [own_expd, own_e2, own_e3, own_e4, own_cp2, own_cp3, own_cp4, c1, c2, c3, c4, c7, c11, c16, eq_true c21, not_true_eq_false, not_false_eq_true, and_true, true_and, and_false, false_and, or_true, true_or, or_false, false_or, if_true, if_false]
              ·
                refine Go.iconst 120 (0) d2_119 (by decide) rfl ?_
                refine Go.ireturn d2_120 rfl (by decide) (by decide) ?_
                refine ⟨?_, rfl⟩
                simp only [own_expd, own_e2, own_e3, own_e4, own_cp2, own_cp3, own_cp4, c1, c2, c3, c4, c7, c11, eq_true c16, not_true_eq_false, not_false_eq_true, and_true, true_and, and_false, false_and, or_true, true_or, or_false, false_or, if_true, if_false]
            ·
              refine Go.iconst 77 (0) d2_76 (by decide) rfl ?_
              refine Go.ireturn d2_77 rfl (by decide) (by decide) ?_
              refine ⟨?_, rfl⟩
              simp only [own_expd, own_e2, own_e3, own_e4, own_cp2, own_cp3, own_cp4, c1, c2, c3, c4, c7, eq_true c11, not_true_eq_false, not_false_eq_true, and_true, true_and, and_false, false_and, or_true, true_or, or_false, false_or, if_true, if_false]
          ·
            refine Go.iconst 68 (0) d2_67 (by decide) rfl ?_
            refine Go.ireturn d2_68 rfl (by decide) (by decide) ?_
            refine ⟨?_, rfl⟩
            simp only [own_expd, own_e2, own_e3, own_e4, own_cp2, own_cp3, own_cp4, c1, c2, c3, c4, c7, not_true_eq_false, not_false_eq_true, and_true, true_and, and_false, false_and, or_true, true_or, or_false, false_or, if_true, if_false]
      ·
        refine Go.iconst 34 (3) d2_33 (by decide) rfl ?_
        refine Go.istore 36 #[.val (.int p0), .val (.int p1), .val (.int p2), .val (.int p3), .val (.int pv), .val (.int (3 : Int32)), .unset] d2_34 rfl rfl ?_
        refine Go.goto 55 d2_36 (by decide) (by decide) ?_
        refine Go.iload 57 d2_55 rfl rfl ?_
        refine Go.if_eq 67 60 d2_57 (by decide) (by decide) rfl (fun c => absurd c (by decide)) (fun _ => ?_)
        refine Go.iload 62 d2_60 rfl rfl ?_
        refine Go.iload 64 d2_62 rfl rfl ?_
        refine Go.icmp_ge 69 67 d2_64 (by decide) (by decide) rfl (fun c25 => ?_) (fun c25 => ?_)
        ·
          refine Go.iload_n 70 d2_69 rfl rfl ?_
          refine Go.callSIp [.int p1] [] 73 d2_70 (tw9 hw) (tw10 hw) (tw7 hw) (tw11 hw) pl3 (by decide) (lenOf pd3 rfl) rfl (fun m => ef_k_cont m p1) _ (k_cont hw h hz p1) 0 rfl (Nat.le_of_eq rfl) (by decide) (by decide) (by decide) (by decide) rfl ?_
          refine Go.if_ne 78 76 d2_73 (by decide) (by decide) rfl (fun c29 => ?_) (fun c29 => ?_)
          ·
            refine Go.iload 80 d2_78 rfl rfl ?_
            refine Go.iconst 81 (2) d2_80 (by decide) rfl ?_
            refine Go.icmp_ne 112 84 d2_81 (by decide) (by decide) rfl (fun _ => ?_) (fun c => absurd c (by decide))
            refine Go.iload_n 113 d2_112 rfl rfl ?_
            refine Go.callSIp [.int p2] [] 116 d2_113 (tw9 hw) (tw10 hw) (tw7 hw) (tw11 hw) pl3 (by decide) (lenOf pd3 rfl) rfl (fun m => ef_k_cont m p2) _ (k_cont hw h hz p2) 0 rfl (Nat.le_of_eq rfl) (by decide) (by decide) (by decide) (by decide) rfl ?_
            refine Go.if_ne 121 119 d2_116 (by decide) (by decide) rfl (fun c34 => ?_) (fun c34 => ?_)
            ·
              refine Go.iload 123 d2_121 rfl rfl ?_
              refine Go.iconst 124 (3) d2_123 (by decide) rfl ?_
              refine Go.icmp_ne 177 127 d2_124 (by decide) (by decide) rfl (fun c => absurd c (by decide)) (fun _ => ?_)
              refine Go.iload_n 128 d2_127 rfl rfl ?_
              refine Go.bipush 130 (15) d2_128 (by decide) rfl ?_
              refine Go.iand 131 d2_130 rfl ?_
              refine Go.bipush 133 (12) d2_131 (by decide) rfl ?_
              refine Go.ishl 134 d2_133 rfl ?_
              refine Go.iload_n 135 d2_134 rfl rfl ?_
              refine Go.bipush 137 (63) d2_135 (by decide) rfl ?_
              refine Go.iand 138 d2_137 rfl ?_
              refine Go.bipush 140 (6) d2_138 (by decide) rfl ?_
              refine Go.ishl 141 d2_140 rfl ?_
              refine Go.ior 142 d2_141 rfl ?_
              refine Go.iload_n 143 d2_142 rfl rfl ?_
              refine Go.bipush 145 (63) d2_143 (by decide) rfl ?_
              refine Go.iand 146 d2_145 rfl ?_
              refine Go.ior 147 d2_146 rfl ?_
              refine Go.istore 149 #[.val (.int p0), .val (.int p1), .val (.int p2), .val (.int p3), .val (.int pv), .val (.int (3 : Int32)), .val (.int ((((p0 &&& (15 : Int32)) <<< ((12 : Int32) &&& 31)) ||| ((p1 &&& (63 : Int32)) <<< ((6 : Int32) &&& 31))) ||| (p2 &&& (63 : Int32))))] d2_147 rfl rfl ?_
              refine Go.iload 151 d2_149 rfl rfl ?_
              refine Go.sipush 154 (2048) d2_151 (by decide) rfl ?_
              refine Go.icmp_lt 175 157 d2_154 (by decide) (by decide) rfl (fun c36 => ?_) (fun c36 => ?_)
              ·
                refine Go.iconst 176 (0) d2_175 (by decide) rfl ?_
                refine Go.ireturn d2_176 rfl (by decide) (by decide) ?_
                refine ⟨?_, rfl⟩
                simp only [own_expd, own_e2, own_e3, own_e4, own_cp2, own_cp3, own_cp4, c1, c2, c3, c25, c29, c34, c36, not_true_eq_false, not_false_eq_true, and_true, true_and, and_false, false_and, or_true, true_or, or_false, false_or, if_true, if_false]
              ·
                refine Go.iload 159 d2_157 rfl rfl ?_
                refine Go.ldc 161 d2_159 (tw12 hw) rfl ?_
                refine Go.icmp_lt 171 164 d2_161 (by decide) (by decide) rfl (fun c37 => ?_) (fun c37 => ?_)
                ·
                  refine Go.iconst 172 (3) d2_171 (by decide) rfl ?_
                  refine Go.goto 176 d2_172 (by decide) (by decide) ?_
                  refine Go.ireturn d2_176 rfl (by decide) (by decide) ?_
                  refine ⟨?_, rfl⟩
                  simp only [own_expd, own_e2, own_e3, own_e4, own_cp2, own_cp3, own_cp4, c1, c2, c3, c25, c29, c34, c36, c37, not_true_eq_false, not_false_eq_true, and_true, true_and, and_false, false_and, or_true, true_or, or_false, false_or, if_true, if_false]
                ·
                  refine Go.iload 166 d2_164 rfl rfl ?_
                  refine Go.ldc 168 d2_166 (tw13 hw) rfl ?_
                  refine Go.icmp_le 175 171 d2_168 (by decide) (by decide) rfl (fun c38 => ?_) (fun c38 => ?_)
                  ·
                    refine Go.iconst 176 (0) d2_175 (by decide) rfl ?_
                    refine Go.ireturn d2_176 rfl (by decide) (by decide) ?_
                    refine ⟨?_, rfl⟩
                    simp only [own_expd, own_e2, own_e3, own_e4, own_cp2, own_cp3, own_cp4, c1, c2, c3, c25, c29, c34, c36, c37, c38, not_true_eq_false, not_false_eq_true, and_true, true_and, and_false, false_and, or_true, true_or, or_false, false_or, if_true, if_false]
                  ·
                    refine Go.iconst 172 (3) d2_171 (by decide) rfl ?_
                    refine Go.goto 176 d2_172 (by decide) (by decide) ?_
                    refine Go.ireturn d2_176 rfl (by decide) (by decide) ?_
                    refine ⟨?_, rfl⟩
                    simp only [own_expd, own_e2, own_e3, own_e4, own_cp2, own_cp3, own_cp4, c1, c2, c3, c25, c29, c34, c36, c37, c38, not_true_eq_false, not_false_eq_true, and_true, true_and, and_false, false_and, or_true, true_or, or_false, false_or, if_true, if_false]
            ·
              refine Go.iconst 120 (0) d2_119 (by decide) rfl ?_
              refine Go.ireturn d2_120 rfl (by decide) (by decide) ?_
              refine ⟨?_, rfl⟩
              simp only [own_expd, own_e2, own_e3, own_e4, own_cp2, own_cp3, own_cp4, c1, c2, c3, c25, c29, eq_true c34, not_true_eq_false, not_false_eq_true, and_true, true_and, and_false, false_and, or_true, true_or, or_false, false_or, if_true, if_false]
          ·
            refine Go.iconst 77 (0) d2_76 (by decide) rfl ?_
            refine Go.ireturn d2_77 rfl (by decide) (by decide) ?_
            refine ⟨?_, rfl⟩
            simp only [own_expd, own_e2, own_e3, own_e4, own_cp2, own_cp3, own_cp4, c1, c2, c3, c25, eq_true c29, not_true_eq_false, not_false_eq_true, and_true, true_and, and_false, false_and, or_true, true_or, or_false, false_or, if_true, if_false]
        ·
          refine Go.iconst 68 (0) d2_67 (by decide) rfl ?_
          refine Go.ireturn d2_68 rfl (by decide) (by decide) ?_
          refine ⟨?_, rfl⟩
          simp only [own_expd, own_e2, own_e3, own_e4, own_cp2, own_cp3, own_cp4, c1, c2, c3, c25, not_true_eq_false, not_false_eq_true, and_true, true_and, and_false, false_and, or_true, true_or, or_false, false_or, if_true, if_false]
    ·
      refine Go.iconst 21 (2) d2_20 (by decide) rfl ?_
      refine Go.istore 23 #[.val (.int p0), .val (.int p1), .val (.int p2), .val (.int p3), .val (.int pv), .val (.int (2 : Int32)), .unset] d2_21 rfl rfl ?_
      refine Go.goto 55 d2_23 (by decide) (by decide) ?_
      refine Go.iload 57 d2_55 rfl rfl ?_
      refine Go.if_eq 67 60 d2_57 (by decide) (by decide) rfl (fun c => absurd c (by decide)) (fun _ => ?_)
      refine Go.iload 62 d2_60 rfl rfl ?_
      refine Go.iload 64 d2_62 rfl rfl ?_
      refine Go.icmp_ge 69 67 d2_64 (by decide) (by decide) rfl (fun c40 => ?_) (fun c40 => ?_)
      ·
        refine Go.iload_n 70 d2_69 rfl rfl ?_
        refine Go.callSIp [.int p1] [] 73 d2_70 (tw9 hw) (tw10 hw) (tw7 hw) (tw11 hw) pl3 (by decide) (lenOf pd3 rfl) rfl (fun m => ef_k_cont m p1) _ (k_cont hw h hz p1) 0 rfl (Nat.le_of_eq rfl) (by decide) (by decide) (by decide) (by decide) rfl ?_
        refine Go.if_ne 78 76 d2_73 (by decide) (by decide) rfl (fun c44 => ?_) (fun c44 => ?_)
        ·
          refine Go.iload 80 d2_78 rfl rfl ?_
          refine Go.iconst 81 (2) d2_80 (by decide) rfl ?_
          refine Go.icmp_ne 112 84 d2_81 (by decide) (by decide) rfl (fun c => absurd c (by decide)) (fun _ => ?_)
          refine Go.iload_n 85 d2_84 rfl rfl ?_
          refine Go.bipush 87 (31) d2_85 (by decide) rfl ?_
          refine Go.iand 88 d2_87 rfl ?_
          refine Go.bipush 90 (6) d2_88 (by decide) rfl ?_
          refine Go.ishl 91 d2_90 rfl ?_
          refine Go.iload_n 92 d2_91 rfl rfl ?_
          refine Go.bipush 94 (63) d2_92 (by decide) rfl ?_
          refine Go.iand 95 d2_94 rfl ?_
          refine Go.ior 96 d2_95 rfl ?_
          refine Go.istore 98 #[.val (.int p0), .val (.int p1), .val (.int p2), .val (.int p3), .val (.int pv), .val (.int (2 : Int32)), .val (.int (((p0 &&& (31 : Int32)) <<< ((6 : Int32) &&& 31)) ||| (p1 &&& (63 : Int32))))] d2_96 rfl rfl ?_
          refine Go.iload 100 d2_98 rfl rfl ?_
          refine Go.sipush 103 (128) d2_100 (by decide) rfl ?_
          refine Go.icmp_lt 110 106 d2_103 (by decide) (by decide) rfl (fun c46 => ?_) (fun c46 => ?_)
          ·
            refine Go.iconst 111 (0) d2_110 (by decide) rfl ?_
            refine Go.ireturn d2_111 rfl (by decide) (by decide) ?_
            refine ⟨?_, rfl⟩
            simp only [own_expd, own_e2, own_e3, own_e4, own_cp2, own_cp3, own_cp4, c1, c2, c40, c44, c46, not_true_eq_false, not_false_eq_true, and_true, true_and, and_false, false_and, or_true, true_or, or_false, false_or, if_true, if_false]
          ·
            refine Go.iconst 107 (2) d2_106 (by decide) rfl ?_
            refine Go.goto 111 d2_107 (by decide) (by decide) ?_
            refine Go.ireturn d2_111 rfl (by decide) (by decide) ?_
            refine ⟨?_, rfl⟩
            simp only [own_expd, own_e2, own_e3, own_e4, own_cp2, own_cp3, own_cp4, c1, c2, c40, c44, c46, not_true_eq_false, not_false_eq_true, and_true, true_and, and_false, false_and, or_true, true_or, or_false, false_or, if_true, if_false]
        ·
          refine Go.iconst 77 (0) d2_76 (by decide) rfl ?_
          refine Go.ireturn d2_77 rfl (by decide) (by decide) ?_
          refine ⟨?_, rfl⟩
          simp only [own_expd, own_e2, own_e3, own_e4, own_cp2, own_cp3, own_cp4, c1, c2, c40, eq_true c44, not_true_eq_false, not_false_eq_true, and_true, true_and, and_false, false_and, or_true, true_or, or_false, false_or, if_true, if_false]
      ·
        refine Go.iconst 68 (0) d2_67 (by decide) rfl ?_
        refine Go.ireturn d2_68 rfl (by decide) (by decide) ?_
        refine ⟨?_, rfl⟩
        simp only [own_expd, own_e2, own_e3, own_e4, own_cp2, own_cp3, own_cp4, c1, c2, c40, not_true_eq_false, not_false_eq_true, and_true, true_and, and_false, false_and, or_true, true_or, or_false, false_or, if_true, if_false]
  ·
    refine Go.iconst 8 (0) d2_7 (by decide) rfl ?_
    refine Go.istore 10 #[.val (.int p0), .val (.int p1), .val (.int p2), .val (.int p3), .val (.int pv), .val (.int (0 : Int32)), .unset] d2_8 rfl rfl ?_
    refine Go.goto 55 d2_10 (by decide) (by decide) ?_
    refine Go.iload 57 d2_55 rfl rfl ?_
    refine Go.if_eq 67 60 d2_57 (by decide) (by decide) rfl (fun _ => ?_) (fun c => absurd c (by decide))
    refine Go.iconst 68 (0) d2_67 (by decide) rfl ?_
    refine Go.ireturn d2_68 rfl (by decide) (by decide) ?_
    refine ⟨?_, rfl⟩
    simp only [own_expd, own_e2, own_e3, own_e4, own_cp2, own_cp3, own_cp4, c1, not_true_eq_false, not_false_eq_true, and_true, true_and, and_false, false_and, or_true, true_or, or_false, false_or, if_true, if_false]

theorem ef_law0 (m : MethodId) (x0 : Int32) (x1 : Int32) (x2 : Int32) (x3 : Int32) (x4 : Int32) : entryFrame m #[(.int x0), (.int x1), (.int x2), (.int x3), (.int x4)] maxLocals = mkF m 0 #[.val (.int x0), .val (.int x1), .val (.int x2), .val (.int x3), .val (.int x4), .unset, .unset, .unset, .unset, .unset, .unset, .unset, .unset] [] := by first | (simp [entryFrame, mkF, argsToLocals, Value.category, maxLocals]; done) | rfl

set_option maxRecDepth 65536 in
set_option maxHeartbeats 40000000 in
theorem law0 {l : Launch} {Z : State} {a0 : Array Value} (hw : ∀ d ∈ tables_1, d.before a0 Z = true)  (h : Heap) (hz : Z.heap.size ≤ h.size) (i0 : Int32) (i1 : Int32) (i2 : Int32) (i3 : Int32) (i4 : Int32)     : Go l Z x code maxLocals ret room_1 (QI fun z h' => z = 1) 0 0 h 0 #[.val (.int i0), .val (.int i1), .val (.int i2), .val (.int i3), .val (.int i4), .unset, .unset, .unset, .unset, .unset, .unset, .unset, .unset] [] := by
  refine Go.iload_n 1 at_0 rfl rfl ?_
  refine Go.sipush 4 (255) at_1 (by decide) rfl ?_
  refine Go.iand 5 at_4 rfl ?_
  refine Go.nameI (fun v1 e2 => ?_)
  refine Go.istore 7 #[.val (.int i0), .val (.int i1), .val (.int i2), .val (.int i3), .val (.int i4), .val (.int v1), .unset, .unset, .unset, .unset, .unset, .unset, .unset] at_5 rfl rfl ?_
  refine Go.iload_n 8 at_7 rfl rfl ?_
  refine Go.sipush 11 (255) at_8 (by decide) rfl ?_
  refine Go.iand 12 at_11 rfl ?_
  refine Go.nameI (fun v3 e4 => ?_)
  refine Go.istore 14 #[.val (.int i0), .val (.int i1), .val (.int i2), .val (.int i3), .val (.int i4), .val (.int v1), .val (.int v3), .unset, .unset, .unset, .unset, .unset, .unset] at_12 rfl rfl ?_
  refine Go.iload_n 15 at_14 rfl rfl ?_
  refine Go.sipush 18 (255) at_15 (by decide) rfl ?_
  refine Go.iand 19 at_18 rfl ?_
  refine Go.nameI (fun v5 e6 => ?_)
  refine Go.istore 21 #[.val (.int i0), .val (.int i1), .val (.int i2), .val (.int i3), .val (.int i4), .val (.int v1), .val (.int v3), .val (.int v5), .unset, .unset, .unset, .unset, .unset] at_19 rfl rfl ?_
  refine Go.iload_n 22 at_21 rfl rfl ?_
  refine Go.sipush 25 (255) at_22 (by decide) rfl ?_
  refine Go.iand 26 at_25 rfl ?_
  refine Go.nameI (fun v7 e8 => ?_)
  refine Go.istore 28 #[.val (.int i0), .val (.int i1), .val (.int i2), .val (.int i3), .val (.int i4), .val (.int v1), .val (.int v3), .val (.int v5), .val (.int v7), .unset, .unset, .unset, .unset] at_26 rfl rfl ?_
  refine Go.iload 30 at_28 rfl rfl ?_
  refine Go.bipush 32 (7) at_30 (by decide) rfl ?_
  refine Go.iand 33 at_32 rfl ?_
  refine Go.iconst 34 (5) at_33 (by decide) rfl ?_
  refine Go.irem 35 at_34 (by decide) rfl ?_
  refine Go.nameI (fun v9 e10 => ?_)
  refine Go.istore 37 #[.val (.int i0), .val (.int i1), .val (.int i2), .val (.int i3), .val (.int i4), .val (.int v1), .val (.int v3), .val (.int v5), .val (.int v7), .val (.int v9), .unset, .unset, .unset] at_35 rfl rfl ?_
  refine Go.iload 39 at_37 rfl rfl ?_
  refine Go.iconst 40 (3) at_39 (by decide) rfl ?_
  refine Go.iushr 41 at_40 rfl ?_
  refine Go.iconst 42 (1) at_41 (by decide) rfl ?_
  refine Go.iand 43 at_42 rfl ?_
  refine Go.nameI (fun v11 e12 => ?_)
  refine Go.istore 45 #[.val (.int i0), .val (.int i1), .val (.int i2), .val (.int i3), .val (.int i4), .val (.int v1), .val (.int v3), .val (.int v5), .val (.int v7), .val (.int v9), .val (.int v11), .unset, .unset] at_43 rfl rfl ?_
  rcases own_two e12 with hs12 | hs12
  ·
    subst hs12
    refine Go.bipush 47 (6) at_45 (by decide) rfl ?_
    refine Go.newI (cap := 6) (xs := [0, 0, 0, 0, 0, 0]) 49 at_47 (tw0 hw) rfl (by decide) (by decide) (by decide) rfl (by decide) (by decide) rfl (fun a14 h15 q16 E17 A18 => ?_)
    have ge19 : Z.heap.size ≤ a14 := (Eq.symm q16) ▸ hz
    have zs20 : Z.heap.size ≤ h15.size := Nat.le_trans hz E17.1
    refine Go.astore 51 #[.val (.int i0), .val (.int i1), .val (.int i2), .val (.int i3), .val (.int i4), .val (.int v1), .val (.int v3), .val (.int v5), .val (.int v7), .val (.int v9), .val (.int (0 : Int32)), .val (.ref a14), .unset] at_49 rfl rfl rfl ?_
    refine Go.aload 53 at_51 rfl rfl rfl ?_
    refine Go.iload 55 at_53 rfl rfl ?_
    refine Go.iload 57 at_55 rfl rfl ?_
    refine Go.i2b 58 at_57 rfl ?_
    refine Go.nameI (fun v21 e22 => ?_)
    refine Go.bastore (0) ([(nar .byte v21), 0, 0, 0, 0, 0]) 59 at_58 A18 (by decide) (by decide) (by decide : (0 : Nat) < 6) rfl ge19 rfl (fun h23 W24 A25 => ?_)
    have zs26 : Z.heap.size ≤ h23.size := W24.size ▸ zs20
    refine Go.aload 61 at_59 rfl rfl rfl ?_
    refine Go.iload 63 at_61 rfl rfl ?_
    refine Go.iconst 64 (1) at_63 (by decide) rfl ?_
    refine Go.iadd 65 at_64 rfl ?_
    refine Go.iload 67 at_65 rfl rfl ?_
    refine Go.i2b 68 at_67 rfl ?_
    refine Go.nameI (fun v27 e28 => ?_)
    refine Go.bastore (1) ([(nar .byte v21), (nar .byte v27), 0, 0, 0, 0]) 69 at_68 A25 (by decide) (by decide) (by decide : (1 : Nat) < 6) rfl ge19 rfl (fun h29 W30 A31 => ?_)
    have zs32 : Z.heap.size ≤ h29.size := W30.size ▸ zs26
    refine Go.aload 71 at_69 rfl rfl rfl ?_
    refine Go.iload 73 at_71 rfl rfl ?_
    refine Go.iconst 74 (2) at_73 (by decide) rfl ?_
    refine Go.iadd 75 at_74 rfl ?_
    refine Go.iload 77 at_75 rfl rfl ?_
    refine Go.i2b 78 at_77 rfl ?_
    refine Go.nameI (fun v33 e34 => ?_)
    refine Go.bastore (2) ([(nar .byte v21), (nar .byte v27), (nar .byte v33), 0, 0, 0]) 79 at_78 A31 (by decide) (by decide) (by decide : (2 : Nat) < 6) rfl ge19 rfl (fun h35 W36 A37 => ?_)
    have zs38 : Z.heap.size ≤ h35.size := W36.size ▸ zs32
    refine Go.aload 81 at_79 rfl rfl rfl ?_
    refine Go.iload 83 at_81 rfl rfl ?_
    refine Go.iconst 84 (3) at_83 (by decide) rfl ?_
    refine Go.iadd 85 at_84 rfl ?_
    refine Go.iload 87 at_85 rfl rfl ?_
    refine Go.i2b 88 at_87 rfl ?_
    refine Go.nameI (fun v39 e40 => ?_)
    refine Go.bastore (3) ([(nar .byte v21), (nar .byte v27), (nar .byte v33), (nar .byte v39), 0, 0]) 89 at_88 A37 (by decide) (by decide) (by decide : (3 : Nat) < 6) rfl ge19 rfl (fun h41 W42 A43 => ?_)
    have zs44 : Z.heap.size ≤ h41.size := W42.size ▸ zs38
    refine Go.aload 91 at_89 rfl rfl rfl ?_
    refine Go.iload 93 at_91 rfl rfl ?_
    refine Go.iload 95 at_93 rfl rfl ?_
    refine Go.iload 97 at_95 rfl rfl ?_
    refine Go.iadd 98 at_97 rfl ?_
    refine Go.callSIp [.ref a14, .int (0 : Int32), .int ((0 : Int32) + v9)] [] 101 at_98 (tw1 hw) (tw2 hw) (tw3 hw) (tw4 hw) pl1 (by decide) (lenOf pd1 rfl) rfl (fun m => ef_k_sl0 m a14 (0 : Int32) ((0 : Int32) + v9)) _ (k_sl0 (b0 := (nar .byte v21)) (b1 := (nar .byte v27)) (b2 := (nar .byte v33)) (b3 := (nar .byte v39)) hw h41 zs44 a14 (((0 : Int32) + v9)) A43 rfl rfl rfl rfl) 0 rfl (Nat.le_of_eq rfl) (by decide) (by decide) (by decide) (by decide) rfl ?_
    refine Go.nameI (fun v48 e49 => ?_)
    refine Go.istore 103 #[.val (.int i0), .val (.int i1), .val (.int i2), .val (.int i3), .val (.int i4), .val (.int v1), .val (.int v3), .val (.int v5), .val (.int v7), .val (.int v9), .val (.int (0 : Int32)), .val (.ref a14), .val (.int v48)] at_101 rfl rfl ?_
    refine Go.iload 105 at_103 rfl rfl ?_
    refine Go.iload 107 at_105 rfl rfl ?_
    refine Go.iload 109 at_107 rfl rfl ?_
    refine Go.iload 111 at_109 rfl rfl ?_
    refine Go.iload 113 at_111 rfl rfl ?_
    refine Go.iload 115 at_113 rfl rfl ?_
    refine Go.callSIp [.int v1, .int v3, .int v5, .int v7, .int v9] [.int v48] 118 at_115 (tw5 hw) (tw6 hw) (tw7 hw) (tw8 hw) pl2 (by decide) (lenOf pd2 rfl) rfl (fun m => ef_k_exp m v1 v3 v5 v7 v9) _ (k_exp hw h41 zs44 v1 v3 v5 v7 v9) 1 rfl (Nat.le_of_eq rfl) (by decide) (by decide) (by decide) (by decide) rfl ?_
    refine Go.icmp_ne 125 121 at_118 (by decide) (by decide) rfl (fun c53 => ?_) (fun c53 => ?_)
    ·
      refine Go.iconst 126 (0) at_125 (by decide) rfl ?_
      refine Go.nreturn (t := .boolean) (z' := (0 : Int32)) at_126 rfl (by simp) (by decide) (by decide) (by decide) ?_
      exfalso
      have e9 := c53
      have w9 := own_joint (av := v9) e2 e4 e6 e8 own_sub0
      apply e9
      rw [← w9]
      subst_vars
      rfl
    ·
      refine Go.iconst 122 (1) at_121 (by decide) rfl ?_
      refine Go.goto 126 at_122 (by decide) (by decide) ?_
      refine Go.nreturn (t := .boolean) (z' := (1 : Int32)) at_126 rfl (by simp) (by decide) (by decide) (by decide) ?_
      rfl
  ·
    subst hs12
    refine Go.bipush 47 (6) at_45 (by decide) rfl ?_
    refine Go.newI (cap := 6) (xs := [0, 0, 0, 0, 0, 0]) 49 at_47 (tw0 hw) rfl (by decide) (by decide) (by decide) rfl (by decide) (by decide) rfl (fun a54 h55 q56 E57 A58 => ?_)
    have ge59 : Z.heap.size ≤ a54 := (Eq.symm q56) ▸ hz
    have zs60 : Z.heap.size ≤ h55.size := Nat.le_trans hz E57.1
    refine Go.astore 51 #[.val (.int i0), .val (.int i1), .val (.int i2), .val (.int i3), .val (.int i4), .val (.int v1), .val (.int v3), .val (.int v5), .val (.int v7), .val (.int v9), .val (.int (1 : Int32)), .val (.ref a54), .unset] at_49 rfl rfl rfl ?_
    refine Go.aload 53 at_51 rfl rfl rfl ?_
    refine Go.iload 55 at_53 rfl rfl ?_
    refine Go.iload 57 at_55 rfl rfl ?_
    refine Go.i2b 58 at_57 rfl ?_
    refine Go.nameI (fun v61 e62 => ?_)
    refine Go.bastore (1) ([0, (nar .byte v61), 0, 0, 0, 0]) 59 at_58 A58 (by decide) (by decide) (by decide : (1 : Nat) < 6) rfl ge59 rfl (fun h63 W64 A65 => ?_)
    have zs66 : Z.heap.size ≤ h63.size := W64.size ▸ zs60
    refine Go.aload 61 at_59 rfl rfl rfl ?_
    refine Go.iload 63 at_61 rfl rfl ?_
    refine Go.iconst 64 (1) at_63 (by decide) rfl ?_
    refine Go.iadd 65 at_64 rfl ?_
    refine Go.iload 67 at_65 rfl rfl ?_
    refine Go.i2b 68 at_67 rfl ?_
    refine Go.nameI (fun v67 e68 => ?_)
    refine Go.bastore (2) ([0, (nar .byte v61), (nar .byte v67), 0, 0, 0]) 69 at_68 A65 (by decide) (by decide) (by decide : (2 : Nat) < 6) rfl ge59 rfl (fun h69 W70 A71 => ?_)
    have zs72 : Z.heap.size ≤ h69.size := W70.size ▸ zs66
    refine Go.aload 71 at_69 rfl rfl rfl ?_
    refine Go.iload 73 at_71 rfl rfl ?_
    refine Go.iconst 74 (2) at_73 (by decide) rfl ?_
    refine Go.iadd 75 at_74 rfl ?_
    refine Go.iload 77 at_75 rfl rfl ?_
    refine Go.i2b 78 at_77 rfl ?_
    refine Go.nameI (fun v73 e74 => ?_)
    refine Go.bastore (3) ([0, (nar .byte v61), (nar .byte v67), (nar .byte v73), 0, 0]) 79 at_78 A71 (by decide) (by decide) (by decide : (3 : Nat) < 6) rfl ge59 rfl (fun h75 W76 A77 => ?_)
    have zs78 : Z.heap.size ≤ h75.size := W76.size ▸ zs72
    refine Go.aload 81 at_79 rfl rfl rfl ?_
    refine Go.iload 83 at_81 rfl rfl ?_
    refine Go.iconst 84 (3) at_83 (by decide) rfl ?_
    refine Go.iadd 85 at_84 rfl ?_
    refine Go.iload 87 at_85 rfl rfl ?_
    refine Go.i2b 88 at_87 rfl ?_
    refine Go.nameI (fun v79 e80 => ?_)
    refine Go.bastore (4) ([0, (nar .byte v61), (nar .byte v67), (nar .byte v73), (nar .byte v79), 0]) 89 at_88 A77 (by decide) (by decide) (by decide : (4 : Nat) < 6) rfl ge59 rfl (fun h81 W82 A83 => ?_)
    have zs84 : Z.heap.size ≤ h81.size := W82.size ▸ zs78
    refine Go.aload 91 at_89 rfl rfl rfl ?_
    refine Go.iload 93 at_91 rfl rfl ?_
    refine Go.iload 95 at_93 rfl rfl ?_
    refine Go.iload 97 at_95 rfl rfl ?_
    refine Go.iadd 98 at_97 rfl ?_
    refine Go.callSIp [.ref a54, .int (1 : Int32), .int ((1 : Int32) + v9)] [] 101 at_98 (tw1 hw) (tw2 hw) (tw3 hw) (tw4 hw) pl1 (by decide) (lenOf pd1 rfl) rfl (fun m => ef_k_sl1 m a54 (1 : Int32) ((1 : Int32) + v9)) _ (k_sl1 (b0 := (nar .byte v61)) (b1 := (nar .byte v67)) (b2 := (nar .byte v73)) (b3 := (nar .byte v79)) hw h81 zs84 a54 (((1 : Int32) + v9)) A83 rfl rfl rfl rfl) 0 rfl (Nat.le_of_eq rfl) (by decide) (by decide) (by decide) (by decide) rfl ?_
    refine Go.nameI (fun v88 e89 => ?_)
    refine Go.istore 103 #[.val (.int i0), .val (.int i1), .val (.int i2), .val (.int i3), .val (.int i4), .val (.int v1), .val (.int v3), .val (.int v5), .val (.int v7), .val (.int v9), .val (.int (1 : Int32)), .val (.ref a54), .val (.int v88)] at_101 rfl rfl ?_
    refine Go.iload 105 at_103 rfl rfl ?_
    refine Go.iload 107 at_105 rfl rfl ?_
    refine Go.iload 109 at_107 rfl rfl ?_
    refine Go.iload 111 at_109 rfl rfl ?_
    refine Go.iload 113 at_111 rfl rfl ?_
    refine Go.iload 115 at_113 rfl rfl ?_
    refine Go.callSIp [.int v1, .int v3, .int v5, .int v7, .int v9] [.int v88] 118 at_115 (tw5 hw) (tw6 hw) (tw7 hw) (tw8 hw) pl2 (by decide) (lenOf pd2 rfl) rfl (fun m => ef_k_exp m v1 v3 v5 v7 v9) _ (k_exp hw h81 zs84 v1 v3 v5 v7 v9) 1 rfl (Nat.le_of_eq rfl) (by decide) (by decide) (by decide) (by decide) rfl ?_
    refine Go.icmp_ne 125 121 at_118 (by decide) (by decide) rfl (fun c93 => ?_) (fun c93 => ?_)
    ·
      refine Go.iconst 126 (0) at_125 (by decide) rfl ?_
      refine Go.nreturn (t := .boolean) (z' := (0 : Int32)) at_126 rfl (by simp) (by decide) (by decide) (by decide) ?_
      exfalso
      have e9 := c93
      have w9 := own_joint (av := v9) e2 e4 e6 e8 own_sub1
      apply e9
      rw [← w9]
      subst_vars
      rfl
    ·
      refine Go.iconst 122 (1) at_121 (by decide) rfl ?_
      refine Go.goto 126 at_122 (by decide) (by decide) ?_
      refine Go.nreturn (t := .boolean) (z' := (1 : Int32)) at_126 rfl (by simp) (by decide) (by decide) (by decide) ?_
      rfl
set_option maxRecDepth 65536 in
set_option maxHeartbeats 40000000 in
theorem comes_1 {Post : Tables → Env → Array Value → State → Outcome → State → Prop} (hpost : ∀ tb e args s v u, (limb_1_1.after args s (.returned v) u = true ∧ limb_1_2.after args s (.returned v) u = true ∧ True) → FrameEnd s (.returned v) u (Jvm.fieldLocs frame_1_writes args s ++ Jvm.arrayLocs frame_1_arrays args s ++ Jvm.staticLocs frame_1_statics s) 16 128 → Post tb e args s (.returned v) u) :
    ArmFor flags0 classFile x code maxLocals ret World_1 tables_1 room_1 Calls_1 rest_1 Pre_1 Post := by
  intro l hfl _ _ p e ha hc hk s m args below hf hA hF happ hP
  obtain ⟨hcalls, hrest, hpre⟩ := hP
  obtain ⟨-, -, -, hnamed, -, -, -, hat⟩ := (Spec.applies_iff hf).mp happ
  obtain ⟨hg, hn⟩ := and_e (Cond.before_iff.mp (show (Jvm.Cond.and given_1 narrow_1).before args s = true from hpre))
  obtain ⟨h1, g0⟩ := and_e hg
  obtain ⟨w0, w1, w2, w3, w4, rfl⟩ : ∃ w0 w1 w2 w3 w4 : Value, args = #[w0, w1, w2, w3, w4] := by
    have hs : args.size = 5 := by simpa [Cond.value, given_1] using h1
    obtain ⟨L⟩ := args
    match L, hs with
    | [w0, w1, w2, w3, w4], _ => exact ⟨w0, w1, w2, w3, w4, rfl⟩
  have hw := fun d (hd : d ∈ tables_1) => atoms_spec (ws := Jvm.Cond.code x code maxLocals ret :: tables_1) hat d (List.mem_cons_of_mem _ hd)
  obtain ⟨b0, g1⟩ := and_e g0
  obtain ⟨i0, ei0⟩ := is_v b0
  obtain rfl : w0 = (.int i0) := Option.some.inj ei0
  obtain ⟨b1, g2⟩ := and_e g1
  obtain ⟨i1, ei1⟩ := is_v b1
  obtain rfl : w1 = (.int i1) := Option.some.inj ei1
  obtain ⟨b2, g3⟩ := and_e g2
  obtain ⟨i2, ei2⟩ := is_v b2
  obtain rfl : w2 = (.int i2) := Option.some.inj ei2
  obtain ⟨b3, g4⟩ := and_e g3
  obtain ⟨i3, ei3⟩ := is_v b3
  obtain rfl : w3 = (.int i3) := Option.some.inj ei3
  have b4 := g4
  obtain ⟨i4, ei4⟩ := is_v b4
  obtain rfl : w4 = (.int i4) := Option.some.inj ei4
  have G := law0 (l := l) hw s.heap (Nat.le_refl _) i0 i1 i2 i3 i4
  obtain ⟨n, o, h1, h2, h3, _, L, rfl, ⟨⟨z, rfl, rfl⟩, N⟩, hq⟩ := Go.met (as' := #[.int i0, .int i1, .int i2, .int i3, .int i4]) (plainFor_of_name pnx) (fun m => ef_law0 m i0 i1 i2 i3 i4) G tables_1 p e ha hc hk s m _ below hf ((Spec.applies_iff_loose hf).mp happ).1 ⟨rfl, State.Warmed39.refl s, rfl⟩ trivial
  refine ⟨n, _, h1, h2, h3, hpost _ _ _ _ _ _ ⟨Cond.after_iff.mpr rfl, Cond.after_iff.mpr (eq_i res_at (Term.int_eval (1)) rfl), trivial⟩ ⟨hq.1, hq.2.1, (hq.2.2.sift fun y hy => Or.inr (N y hy)).mono (by decide) (by decide)⟩⟩
theorem main_1_1 : Claimed_1_1 := comes_1 fun _ _ _ _ _ _ h hF => ⟨h.1, hF⟩
theorem main_1_2 : Claimed_1_2 := comes_1 fun _ _ _ _ _ _ h hF => ⟨h.2.1, hF⟩
end Jvm.Pilot.@@N@@
namespace Jvm.Pilot.@@N@@
open Jvm Jvm.ClassFile Sem Op Lib Jvm.Free Jvm.Stand Jvm.Pilot.@@N@@.Jvm.D
/-! MADE BY PROGRAM (witnessworld.py) out of the Statement's table words and the real class files: 9 classes; the members and pool entries that the words name. The judged class is class 1, her method 1. -/
namespace start1
open Jvm.ClassFile
def u (s : String) : CpInfo := .utf8 (stringToUtf16 s)
/-- a pool by its gaps: so many unusable entries, then the entry; so many at the end -/
def gap : Nat → List CpInfo → List CpInfo
  | 0, r => r
  | n + 1, r => .unusable :: gap n r
def poolList (es : List (Nat × CpInfo)) (last : Nat) : List CpInfo := es.foldr (fun e r => gap e.1 (e.2 :: r)) (gap last [])
def pool (es : List (Nat × CpInfo)) (last : Nat) : Array CpInfo := ⟨poolList es last⟩
def fileOf (pool : Array CpInfo) (this : Nat) (attrs : Array Attribute := #[]) (ms : Array MethodInfo := #[]) (fl : Nat := 33) (sup : Nat := 0) (ifs : Array Nat := #[]) (fds : Array FieldInfo := #[]) : ClassFile where
  minorVersion := 0
  majorVersion := 65
  constantPool := pool
  accessFlags := fl
  thisClass := this
  superClass := sup
  interfaces := ifs
  fields := fds
  methods := ms
  attributes := attrs
def plain (name : String) (sup : Option ClassId) : Class where
  name := name
  kind := .ordinary
  loader := none
  accessFlags := 33
  super := sup
  interfaces := #[]
  cf := none
  fields := #[]
  methods := #[]
  instanceTypes := #[]
  staticTypes := #[]
  resolved := #[]
  callSites := []
  init := .initialized
  statics := none
  mirror := none

def pool0 : Array CpInfo := pool [(5, u "<init>"), (0, u "()V"), (1, .class_ 10), (1, u "java/lang/Object")] 113

def k0m0 : Method := { name := "<init>", desc := "()V", sig := { parameters := [], returnType := none }, accessFlags := 1, code := none }
/-- java/lang/Object -/
def k0 : Class := { plain "java/lang/Object" none with
  accessFlags := 33
  interfaces := #[]
  cf := some (fileOf pool0 8 #[] #[{ accessFlags := 1, nameIndex := 5, descriptorIndex := 6, attributes := #[] }] 33 0 #[] #[])
  fields := #[]
  methods := #[k0m0]
  instanceTypes := #[]
  staticTypes := #[]
  resolved := Array.replicate 124 none
  statics := none }

def pool1 : Array CpInfo := pool [(2, .class_ 4), (1, u "java/lang/Object"), (0, u "<init>"), (0, u "()V"), (0, .methodref 8 9), (0, .class_ 10), (0, .nameAndType 11 12), (0, u "com/example/interlace/interlace/csv/Utf8"), (0, u "sequenceLength"), (0, u "([BII)I"), (0, .methodref 14 15), (0, .class_ 16), (0, .nameAndType 17 18), (0, u "com/example/interlace/interlace/csv/Utf8SequenceLengthPinLaw"), (0, u "expected"), (0, u "(IIIII)I"), (0, .methodref 14 20), (0, .nameAndType 21 22), (0, u "cont"), (0, u "(I)Z"), (0, .integer 55296), (0, .integer 57343), (0, .integer 65536), (0, .integer 1114111), (2, u "law"), (0, u "(IIIII)Z")] 5

def k1m0 : Method := { name := "<init>", desc := "()V", sig := { parameters := [], returnType := none }, accessFlags := 1, code := none }
def k1c1 : Code := { maxStack := 6, maxLocals := 13, code := code, exceptionTable := #[], attributes := #[] }
def k1m1 : Method := { name := "law", desc := "(IIIII)Z", sig := { parameters := [.int, .int, .int, .int, .int], returnType := some .boolean }, accessFlags := 9, code := some k1c1 }
def k1c2 : Code := { maxStack := 2, maxLocals := 1, code := method_3_code, exceptionTable := #[], attributes := #[] }
def k1m2 : Method := { name := "cont", desc := "(I)Z", sig := { parameters := [.int], returnType := some .boolean }, accessFlags := 10, code := some k1c2 }
def k1c3 : Code := { maxStack := 3, maxLocals := 7, code := method_4_code, exceptionTable := #[], attributes := #[] }
def k1m3 : Method := { name := "expected", desc := "(IIIII)I", sig := { parameters := [.int, .int, .int, .int, .int], returnType := some .int }, accessFlags := 10, code := some k1c3 }
/-- com/example/interlace/interlace/csv/Utf8SequenceLengthPinLaw -/
def k1 : Class := { plain "com/example/interlace/interlace/csv/Utf8SequenceLengthPinLaw" (some 0) with
  accessFlags := 49
  interfaces := #[]
  cf := some (fileOf pool1 14 #[] #[{ accessFlags := 1, nameIndex := 5, descriptorIndex := 6, attributes := #[] }, { accessFlags := 9, nameIndex := 29, descriptorIndex := 30, attributes := #[] }, { accessFlags := 10, nameIndex := 21, descriptorIndex := 22, attributes := #[] }, { accessFlags := 10, nameIndex := 17, descriptorIndex := 18, attributes := #[] }] 49 2 #[] #[])
  fields := #[]
  methods := #[k1m0, k1m1, k1m2, k1m3]
  instanceTypes := #[]
  staticTypes := #[]
  resolved := Array.replicate 36 none
  statics := none }

def pool2 : Array CpInfo := pool [(2, .class_ 4), (1, u "java/lang/Object"), (0, u "<init>"), (0, u "()V"), (0, .class_ 8), (0, u "com/example/interlace/interlace/csv/Utf8"), (2, u "sequenceLength"), (0, u "([BII)I")] 5

def k2m0 : Method := { name := "<init>", desc := "()V", sig := { parameters := [], returnType := none }, accessFlags := 2, code := none }
def k2c1 : Code := { maxStack := 3, maxLocals := 10, code := prog_18_method_2_code, exceptionTable := #[], attributes := #[] }
def k2m1 : Method := { name := "sequenceLength", desc := "([BII)I", sig := { parameters := [(.array .byte), .int, .int], returnType := some .int }, accessFlags := 8, code := some k2c1 }
/-- com/example/interlace/interlace/csv/Utf8 -/
def k2 : Class := { plain "com/example/interlace/interlace/csv/Utf8" (some 0) with
  accessFlags := 48
  interfaces := #[]
  cf := some (fileOf pool2 7 #[] #[{ accessFlags := 2, nameIndex := 5, descriptorIndex := 6, attributes := #[] }, { accessFlags := 8, nameIndex := 11, descriptorIndex := 12, attributes := #[] }] 48 2 #[] #[])
  fields := #[]
  methods := #[k2m0, k2m1]
  instanceTypes := #[]
  staticTypes := #[]
  resolved := Array.replicate 18 none
  statics := none }

def pool3 : Array CpInfo := pool [(1, u "java/lang/Cloneable"), (0, .class_ 1), (0, u "java/lang/Object"), (0, .class_ 3)] 3

/-- java/lang/Cloneable -/
def k3 : Class := { plain "java/lang/Cloneable" (some 0) with
  accessFlags := 1537
  interfaces := #[]
  cf := some (fileOf pool3 2 #[] #[] 1537 4 #[] #[])
  fields := #[]
  methods := #[]
  instanceTypes := #[]
  staticTypes := #[]
  resolved := Array.replicate 8 none
  statics := none }

def pool4 : Array CpInfo := pool [(1, u "java/io/Serializable"), (0, .class_ 1), (0, u "java/lang/Object"), (0, .class_ 3)] 3

/-- java/io/Serializable -/
def k4 : Class := { plain "java/io/Serializable" (some 0) with
  accessFlags := 1537
  interfaces := #[]
  cf := some (fileOf pool4 2 #[] #[] 1537 4 #[] #[])
  fields := #[]
  methods := #[]
  instanceTypes := #[]
  staticTypes := #[]
  resolved := Array.replicate 8 none
  statics := none }

/-- the primitive byte -/
def k5 : Class := { plain "byte" none with kind := .primitive 'B', accessFlags := 0x411 }
/-- [B -/
def k6 : Class := { plain "[B" (some 0) with kind := .array 5 .byte, interfaces := #[3, 4], accessFlags := 1041 }

/-- the primitive int -/
def k7 : Class := { plain "int" none with kind := .primitive 'I', accessFlags := 0x411 }
/-- [I -/
def k8 : Class := { plain "[I" (some 0) with kind := .array 7 .int, interfaces := #[3, 4], accessFlags := 1041 }

def heap : Heap := #[]
def classes : Array Class := #[k0, k1, k2, k3, k4, k5, k6, k7, k8]
def interned : List (Array UInt16 × Addr) := []
def slotsUsed : Nat := 0
def theMethod : MethodId := ⟨1, 1⟩
def args0 : Array Value := #[.int 5, .int 6, .int 7, .int 3, .int 3]
def aboutOver (below : List Frame) : State where
  vm := { classes := classes, interned := interned.toArray }
  heap := heap
  slotsUsed := slotsUsed
  threads := #[{ frames := .invoking theMethod args0 :: below }]
def below0 : List Frame := [.native { method := ⟨0, 0⟩, args := #[] }]
def about1 : State := aboutOver below0
def p0 : Program := .bare "" "" ""
def e0 : Env := launch0.env 0 0 0
theorem w_frames : about1.frames = Frame.invoking theMethod args0 :: below0 := rfl
set_option maxRecDepth 65536 in
theorem w_args : argsFit about1.vm theMethod args0 = true := by decide +kernel
set_option maxRecDepth 65536 in
theorem w_heap : heapFits about1 = true := by decide +kernel
set_option maxRecDepth 65536 in
theorem w_runnable : about1.curStatus? = some .runnable := by decide +kernel
set_option maxRecDepth 65536 in
theorem w_alone : about1.alone = true := by decide +kernel
set_option maxRecDepth 65536 in
theorem w_named : about1.methodNamed? x = some theMethod := by decide +kernel
set_option maxRecDepth 65536 in
theorem w_hears : about1.hears theMethod below0 = true := by decide +kernel
set_option maxRecDepth 65536 in
theorem w_ripe : about1.ripe theMethod args0 below0 = true := by decide +kernel
theorem w_running : about1.status = .running := rfl
set_option maxRecDepth 65536 in
theorem w_room : about1.hasRoom e0.platform room_1 = true :=
  launch0.hasRoom_least _ room_1 (by decide +kernel) (by decide +kernel) (by decide +kernel) (by decide +kernel) (by decide +kernel) (by decide +kernel)
theorem allAtoms_all (ts : List Jvm.Cond) (a : Array Jvm.Value) (st : Jvm.State) : (allAtoms ts).before a st = ts.all (fun c => c.before a st) := by
  induction ts with
  | nil => rfl
  | cons c t ih =>
    show (Jvm.Cond.and c (allAtoms t)).before a st = _
    rw [Jvm.Cond.before_and, ih, List.all_cons]
def words1 : List Jvm.Cond := Jvm.Cond.code x code maxLocals ret :: tables_1
/-- a 'code' word, met by the world's own term for the bytes: nothing is compared byte by byte -/
theorem code_word {y : MethodName} {bytes : ByteArray} {mx : Nat} {rt : Option FieldType} {a : Array Value} {s : State} {m : MethodId} {meth : Method} {c : Code} (h1 : s.methodNamed? y = some m) (h2 : s.vm.method? m = some meth) (h3 : meth.code = some c) (h4 : c.code = bytes)
    (h5 : (c.maxLocals == mx && c.exceptionTable.isEmpty && decide (c.maxStack ≤ mostOperands) && decide (meth.sig.returnType = rt) && !meth.locks && decide (parseMethodDescriptor y.desc = some meth.sig)) = true) : (Jvm.Cond.code y bytes mx rt).before a s = true := by
  simp only [Bool.and_eq_true, beq_iff_eq, Bool.not_eq_true', decide_eq_true_eq] at h5
  obtain ⟨⟨⟨⟨⟨g1, g2⟩, g3⟩, g4⟩, g5⟩, g6⟩ := h5
  simp [Cond.before, Cond.holds, Cond.value, h1, h2, h3, h4, g1, g2, g3, g4, g5, g6]
def isCode : Jvm.Cond → Bool
  | .code _ _ _ _ => true
  | _ => false
theorem all_split {L : List Jvm.Cond} {P : Jvm.Cond → Bool} (h1 : L.all (fun c => isCode c || P c) = true) (h2 : ∀ c ∈ L.filter isCode, P c = true) : L.all P = true := by
  refine List.all_eq_true.mpr fun c hc => ?_
  have h := List.all_eq_true.mp h1 c hc
  rcases Bool.eq_false_or_eq_true (isCode c) with hi | hi
  · exact h2 c (List.mem_filter.mpr ⟨hc, hi⟩)
  · simpa [hi] using h
set_option maxRecDepth 65536 in
theorem w_c0 : (Jvm.Cond.code x code maxLocals ret).before args0 about1 = true := code_word (m := ⟨1, 1⟩) (meth := k1m1) (c := k1c1) (by decide +kernel) rfl rfl rfl (by decide +kernel)
set_option maxRecDepth 65536 in
theorem w_c1 : (Jvm.Cond.code ({ cls := "com/example/interlace/interlace/csv/Utf8", name := "sequenceLength", desc := "([BII)I" } : Jvm.MethodName) prog_18_method_2_code (10 : Nat) (Option.some Jvm.ClassFile.FieldType.int)).before args0 about1 = true := code_word (m := ⟨2, 1⟩) (meth := k2m1) (c := k2c1) (by decide +kernel) rfl rfl rfl (by decide +kernel)
set_option maxRecDepth 65536 in
theorem w_c2 : (Jvm.Cond.code ({ cls := "com/example/interlace/interlace/csv/Utf8SequenceLengthPinLaw", name := "expected", desc := "(IIIII)I" } : Jvm.MethodName) method_4_code (7 : Nat) (Option.some Jvm.ClassFile.FieldType.int)).before args0 about1 = true := code_word (m := ⟨1, 3⟩) (meth := k1m3) (c := k1c3) (by decide +kernel) rfl rfl rfl (by decide +kernel)
set_option maxRecDepth 65536 in
theorem w_c3 : (Jvm.Cond.code ({ cls := "com/example/interlace/interlace/csv/Utf8SequenceLengthPinLaw", name := "cont", desc := "(I)Z" } : Jvm.MethodName) method_3_code (1 : Nat) (Option.some Jvm.ClassFile.FieldType.boolean)).before args0 about1 = true := code_word (m := ⟨1, 2⟩) (meth := k1m2) (c := k1c2) (by decide +kernel) rfl rfl rfl (by decide +kernel)
def codes1 : List Jvm.Cond := [Jvm.Cond.code x code maxLocals ret, Jvm.Cond.code ({ cls := "com/example/interlace/interlace/csv/Utf8", name := "sequenceLength", desc := "([BII)I" } : Jvm.MethodName) prog_18_method_2_code (10 : Nat) (Option.some Jvm.ClassFile.FieldType.int), Jvm.Cond.code ({ cls := "com/example/interlace/interlace/csv/Utf8SequenceLengthPinLaw", name := "expected", desc := "(IIIII)I" } : Jvm.MethodName) method_4_code (7 : Nat) (Option.some Jvm.ClassFile.FieldType.int), Jvm.Cond.code ({ cls := "com/example/interlace/interlace/csv/Utf8SequenceLengthPinLaw", name := "cont", desc := "(I)Z" } : Jvm.MethodName) method_3_code (1 : Nat) (Option.some Jvm.ClassFile.FieldType.boolean)]
set_option maxRecDepth 65536 in
theorem codes_eq : words1.filter isCode = codes1 := rfl
theorem w_codes : ∀ c ∈ words1.filter isCode, c.before args0 about1 = true := by
  rw [codes_eq]
  intro c hc
  simp only [codes1, List.mem_cons, List.not_mem_nil, or_false] at hc
  rcases hc with rfl | rfl | rfl | rfl
  · exact w_c0
  · exact w_c1
  · exact w_c2
  · exact w_c3
set_option maxRecDepth 65536 in
theorem w_t1 : words1.all (fun c => isCode c || c.before args0 about1) = true := by decide +kernel
theorem w_tables : (allAtoms (Jvm.Cond.code x code maxLocals ret :: tables_1)).before args0 about1 = true := by
  rw [allAtoms_all]
  show words1.all (fun c => c.before args0 about1) = true
  refine all_split ?_ w_codes
  rw [w_t1]
set_option maxRecDepth 65536 in
theorem w_case : (Jvm.Cond.and given_1 narrow_1).before args0 about1 = true := by decide +kernel
theorem w_applies : (headSpec (Jvm.Cond.code x code maxLocals ret :: tables_1) room_1).applies x e0.platform about1 = true :=
  (Spec.applies_iff w_frames).mpr ⟨w_running, w_runnable, w_alone, w_named, w_hears, w_ripe, w_room, w_tables⟩
theorem atStart : AtStart classFile x code maxLocals ret World_1 tables_1 room_1 Calls_1 rest_1 Pre_1 launch0 p0 e0 about1 theMethod args0 below0 :=
  ⟨lists_1, trivial, launch0.admits_env _ _ _, launch0.least_env, fairChoices_fair.cas, fairChoices_fair.clock, w_frames, w_args, w_heap, w_applies, trivial, trivial, w_case⟩
end start1
theorem witness_1 : WitnessClaimed_1 := ⟨start1.p0, start1.e0, start1.about1, start1.theMethod, start1.args0, start1.below0, start1.atStart⟩
end Jvm.Pilot.@@N@@
