import JvmDerived
import JvmDerived.Pilot.@@N@@Statement
import JvmDerived.Pilot.@@N@@Code
set_option linter.unusedVariables false
set_option linter.unusedSimpArgs false
namespace Jvm.Own
open Jvm Jvm.ClassFile Sem Op Lib Jvm.Free Jvm.Stand Jvm.LawKit Jvm.RoadKit
/-- where the run stands: nothing older than n0 is written, the heap is h -/
def Sd (p : Program) (l : Launch) (e : Env) (R : Room) (s : State) (m : MethodId) (args : Array Value) (below : List Frame) (meth : Method) (c : Code) (n0 : Nat) (T : State) (h : Heap) (cells slots : Nat) : Prop :=
  ∃ locs, Stand p l e R s m args below meth c T locs cells slots ∧ Fr n0 locs ∧ T.heap = h
/-- what a walk knows throughout -/
def Wk (p : Program) (l : Launch) (e : Env) (R : Room) (s : State) (m : MethodId) (args : Array Value) (below : List Frame) (meth : Method) (c : Code) (n0 : Nat) (Z : State) (own nm : String) (bc : ByteArray) (ml : Nat) (rt : Option FieldType) (Q : Option Value → Heap → Prop) (G : State → Prop) : Prop :=
  (∀ S S' : State, (∀ t, Steps p.tables e below S' t → Steps p.tables e below S t) → G S' → G S) ∧
  p.tables.exec = Jvm.exec ∧ c.code = bc ∧ c.maxLocals = ml ∧ Z.Warmed39 s.vm ∧ s.vm.findClass own = some m.cls ∧ meth.sig.returnType = rt ∧ meth.name = nm ∧
  (∀ (T : State) (h : Heap) (cells slots : Nat) (v : Option Value), Sd p l e R s m args below meth c n0 T h cells slots → cells ≤ R.cells → slots ≤ R.slots → (meth.sig.returnType = none → v = none) → Q v h →
    ∀ S : State, (∀ fs : List Frame, (∀ (f : JFrame) (acts : List Action), f.method = m → f.locked = none → f.entered = [] → (doReturn e (T.setTop f) acts v).1 = T.setFrames fs) → Steps p.tables e below S (T.setFrames fs)) → G S)
/-- a body's contract -/
abbrev Met (l : Launch) (Z : State) (x : MethodName) (bc : ByteArray) (ml : Nat) (rt : Option FieldType) (ws : List Jvm.Cond) (rm : Room) (av : Array Value) (h : Heap) (n0 : Nat) (Q : Option Value → Heap → Prop) : Prop :=
  MetFree l x (head1 (Jvm.Cond.code x bc ml rt :: ws) rm) (fun a U => a = av ∧ Z.Warmed39 U.vm ∧ U.heap = h) (fun _ _ _ _ _ => True) (fun _ U o U' => ∃ v L, o = .returned v ∧ (Q v U'.heap ∧ Fr n0 L) ∧ FrameEnd U o U' L rm.cells rm.slots)
def RI (P : Int32 → Heap → Prop) (v : Option Value) (h : Heap) : Prop := ∃ r, v = some (.int r) ∧ P r h
def RR (P : Value → Heap → Prop) (v : Option Value) (h : Heap) : Prop := ∃ r, v = some r ∧ P r h
def RV (P : Heap → Prop) (v : Option Value) (h : Heap) : Prop := v = none ∧ P h
section Law
variable {p : Program} {l : Launch} {e : Env} {R : Room} {s : State} {m : MethodId} {args : Array Value} {below : List Frame} {meth : Method} {c : Code} {n0 : Nat} {T : State} {h : Heap} {cells slots : Nat} {Z : State} {a0 : Array Value} {own nm : String} {bc : ByteArray} {ml : Nat} {rt : Option FieldType} {Q : Option Value → Heap → Prop} {G : State → Prop}
variable {pc : Nat} {ls : Array Slot} {st : List Value}
theorem start {x : MethodName} {ws : List Jvm.Cond} {rm : Room} {av : Array Value} (hpl : plainFor x = true) (hef : ∀ m, entryFrame m av ml = mkF m 0 ls [])
    (body : ∀ (p : Program) (e : Env) (s : State) (m : MethodId) (below : List Frame) (meth : Method) (c : Code) (T : State) (G : State → Prop), Wk p l e rm s m av below meth c n0 Z x.cls x.name bc ml rt Q G → Sd p l e rm s m av below meth c n0 T h 0 0 → G (T.setTop (mkF m 0 ls []))) :
    Met l Z x bc ml rt ws rm av h n0 Q := by
  refine MetFree.of_bodySF hpl hisR ?_
  intro p e s m args below meth c s₁ Bd hml0 hP hK
  obtain ⟨rfl, hZ, hh⟩ := hP
  have X0 : Stand p l e rm s m args below meth c s₁ [] 0 0 := Stand.of_body Bd
  have e0 : s₁.heap = h := by rw [← hh, Bd.state]; rfl
  rw [hef m]
  refine body p e s m below meth c s₁ (fun S => ∃ s₂ o, Steps p.tables e below S s₂ ∧ s₂.status = .running ∧ Ended s₂ below o ∧ ∃ v L, o = .returned v ∧ (Q v s₂.heap ∧ Fr n0 L) ∧ FrameEnd s o s₂ L rm.cells rm.slots)
    ⟨fun S S' hs hg => ?_, Bd.exec, Bd.bytes, hml0, hZ, findClass_of_methodNamed Bd.named, Bd.returns, (name_of_methodNamed Bd.named Bd.method).1, ?_⟩ ⟨[], X0, Fr.nil n0, e0⟩
  · obtain ⟨s2, o, h1, h2⟩ := hg
    exact ⟨s2, o, hs _ h1, h2⟩
  · intro T h cells slots v ⟨locs, X, N, eT⟩ hc hl hv hQ S hS
    obtain ⟨fs, hr, hrun, hended, hW, hsame⟩ := X.leave (v := v) hv Bd.notSynchronized
    subst eT
    exact ⟨_, _, hS fs hr, hrun, hended, v, locs, rfl, ⟨hQ, N⟩, ⟨_, rfl⟩, hW, hsame.mono hc hl⟩
theorem Sd.mono {cells' slots' : Nat} (X : Sd p l e R s m args below meth c n0 T h cells slots) (hc : cells ≤ cells') (hl : slots ≤ slots') : Sd p l e R s m args below meth c n0 T h cells' slots' := by
  obtain ⟨locs, X, N, eT⟩ := X
  exact ⟨locs, { X with same := X.same.mono hc hl }, N, eT⟩

theorem aloadN (w : Wk p l e R s m args below meth c n0 Z own nm bc ml rt Q G) (X : Sd p l e R s m args below meth c n0 T h cells slots) {k : Fin 4} {v : Value} (hd : decode bc pc = .ok (.aload_n k, 1)) (pc' : Nat) (hp : pc + 1 = pc') (hl : ls[k.val]? = some (.val v)) (hv : v.isRef = true) (k : G (T.setTop (mkF m pc' ls (v :: st)))) : G (T.setTop (mkF m pc ls st)) := by
  obtain ⟨locs, Y, -, -⟩ := X
  subst hp
  exact w.1 _ _ (fun t q => XS.aloadN Y.here w.2.1 rfl (hb w.2.2.1 hd) hl hv q) k
theorem aload (w : Wk p l e R s m args below meth c n0 Z own nm bc ml rt Q G) (X : Sd p l e R s m args below meth c n0 T h cells slots) {k : Nat} {v : Value} (hd : decode bc pc = .ok (.aload k, 2)) (pc' : Nat) (hp : pc + 2 = pc') (hl : ls[k]? = some (.val v)) (hv : v.isRef = true) (k : G (T.setTop (mkF m pc' ls (v :: st)))) : G (T.setTop (mkF m pc ls st)) := by
  obtain ⟨locs, Y, -, -⟩ := X
  subst hp
  exact w.1 _ _ (fun t q => XS.aload Y.here w.2.1 rfl (hb w.2.2.1 hd) hl hv q) k
theorem iloadN (w : Wk p l e R s m args below meth c n0 Z own nm bc ml rt Q G) (X : Sd p l e R s m args below meth c n0 T h cells slots) {k : Fin 4} {v : Int32} (hd : decode bc pc = .ok (.iload_n k, 1)) (pc' : Nat) (hp : pc + 1 = pc') (hl : ls[k.val]? = some (.val (.int v))) (k : G (T.setTop (mkF m pc' ls (.int v :: st)))) : G (T.setTop (mkF m pc ls st)) := by
  obtain ⟨locs, Y, -, -⟩ := X
  subst hp
  exact w.1 _ _ (fun t q => XS.iloadN Y.here w.2.1 rfl (hb w.2.2.1 hd) hl q) k
theorem iload (w : Wk p l e R s m args below meth c n0 Z own nm bc ml rt Q G) (X : Sd p l e R s m args below meth c n0 T h cells slots) {k : Nat} {v : Int32} (hd : decode bc pc = .ok (.iload k, 2)) (pc' : Nat) (hp : pc + 2 = pc') (hl : ls[k]? = some (.val (.int v))) (k : G (T.setTop (mkF m pc' ls (.int v :: st)))) : G (T.setTop (mkF m pc ls st)) := by
  obtain ⟨locs, Y, -, -⟩ := X
  subst hp
  exact w.1 _ _ (fun t q => XS.iload Y.here w.2.1 rfl (hb w.2.2.1 hd) hl q) k
theorem istoreN (w : Wk p l e R s m args below meth c n0 Z own nm bc ml rt Q G) (X : Sd p l e R s m args below meth c n0 T h cells slots) {k : Fin 4} {x : Int32} (z : Int32) (hd : decode bc pc = .ok (.istore_n k, 1)) (pc' : Nat) (hp : pc + 1 = pc') (hz : z = x) (l' : Array Slot) (hl : storeLocals ls k.val (.int z) = some l') (k : G (T.setTop (mkF m pc' l' st))) : G (T.setTop (mkF m pc ls (.int x :: st))) := by
  obtain ⟨locs, Y, -, -⟩ := X
  subst hp
  subst hz
  exact w.1 _ _ (fun t q => XS.istoreN Y.here w.2.1 rfl (hb w.2.2.1 hd) rfl hl q) k
theorem istore (w : Wk p l e R s m args below meth c n0 Z own nm bc ml rt Q G) (X : Sd p l e R s m args below meth c n0 T h cells slots) {k : Nat} {x : Int32} (z : Int32) (hd : decode bc pc = .ok (.istore k, 2)) (pc' : Nat) (hp : pc + 2 = pc') (hz : z = x) (l' : Array Slot) (hl : storeLocals ls k (.int z) = some l') (k : G (T.setTop (mkF m pc' l' st))) : G (T.setTop (mkF m pc ls (.int x :: st))) := by
  obtain ⟨locs, Y, -, -⟩ := X
  subst hp
  subst hz
  exact w.1 _ _ (fun t q => XS.istore Y.here w.2.1 rfl (hb w.2.2.1 hd) rfl hl q) k
theorem astoreN (w : Wk p l e R s m args below meth c n0 Z own nm bc ml rt Q G) (X : Sd p l e R s m args below meth c n0 T h cells slots) {k : Fin 4} {x : Value} (hd : decode bc pc = .ok (.astore_n k, 1)) (pc' : Nat) (hp : pc + 1 = pc') (hv : x.isRef = true) (l' : Array Slot) (hl : storeLocals ls k.val x = some l') (k : G (T.setTop (mkF m pc' l' st))) : G (T.setTop (mkF m pc ls (x :: st))) := by
  obtain ⟨locs, Y, -, -⟩ := X
  subst hp
  exact w.1 _ _ (fun t q => XS.astoreN Y.here w.2.1 rfl (hb w.2.2.1 hd) rfl hv hl q) k
theorem astore (w : Wk p l e R s m args below meth c n0 Z own nm bc ml rt Q G) (X : Sd p l e R s m args below meth c n0 T h cells slots) {k : Nat} {x : Value} (hd : decode bc pc = .ok (.astore k, 2)) (pc' : Nat) (hp : pc + 2 = pc') (hv : x.isRef = true) (l' : Array Slot) (hl : storeLocals ls k x = some l') (k : G (T.setTop (mkF m pc' l' st))) : G (T.setTop (mkF m pc ls (x :: st))) := by
  obtain ⟨locs, Y, -, -⟩ := X
  subst hp
  exact w.1 _ _ (fun t q => XS.astore Y.here w.2.1 rfl (hb w.2.2.1 hd) rfl hv hl q) k
theorem iconst (w : Wk p l e R s m args below meth c n0 Z own nm bc ml rt Q G) (X : Sd p l e R s m args below meth c n0 T h cells slots) {i : Int} (v : Int32) (hd : decode bc pc = .ok (.iconst i, 1)) (pc' : Nat) (hp : pc + 1 = pc') (hv : Int32.ofInt i = v) (k : G (T.setTop (mkF m pc' ls (.int v :: st)))) : G (T.setTop (mkF m pc ls st)) := by
  obtain ⟨locs, Y, -, -⟩ := X
  subst hp
  subst hv
  exact w.1 _ _ (fun t q => XS.iconst Y.here w.2.1 rfl (hb w.2.2.1 hd) q) k
theorem bipush (w : Wk p l e R s m args below meth c n0 Z own nm bc ml rt Q G) (X : Sd p l e R s m args below meth c n0 T h cells slots) {i : Int} (v : Int32) (hd : decode bc pc = .ok (.bipush i, 2)) (pc' : Nat) (hp : pc + 2 = pc') (hv : (Int8.ofInt i).toInt32 = v) (k : G (T.setTop (mkF m pc' ls (.int v :: st)))) : G (T.setTop (mkF m pc ls st)) := by
  obtain ⟨locs, Y, -, -⟩ := X
  subst hp
  subst hv
  exact w.1 _ _ (fun t q => XS.bipush Y.here w.2.1 rfl (hb w.2.2.1 hd) q) k
theorem sipush (w : Wk p l e R s m args below meth c n0 Z own nm bc ml rt Q G) (X : Sd p l e R s m args below meth c n0 T h cells slots) {i : Int} (v : Int32) (hd : decode bc pc = .ok (.sipush i, 3)) (pc' : Nat) (hp : pc + 3 = pc') (hv : (Int16.ofInt i).toInt32 = v) (k : G (T.setTop (mkF m pc' ls (.int v :: st)))) : G (T.setTop (mkF m pc ls st)) := by
  obtain ⟨locs, Y, -, -⟩ := X
  subst hp
  subst hv
  exact w.1 _ _ (fun t q => XS.sipush Y.here w.2.1 rfl (hb w.2.2.1 hd) q) k
theorem iadd (w : Wk p l e R s m args below meth c n0 Z own nm bc ml rt Q G) (X : Sd p l e R s m args below meth c n0 T h cells slots) {x y : Int32} (z : Int32) (hd : decode bc pc = .ok (.iadd, 1)) (pc' : Nat) (hp : pc + 1 = pc') (hz : z = x + y) (k : G (T.setTop (mkF m pc' ls (.int z :: st)))) : G (T.setTop (mkF m pc ls (.int y :: .int x :: st))) := by
  obtain ⟨locs, Y, -, -⟩ := X
  subst hp
  subst hz
  exact w.1 _ _ (fun t q => XS.iadd Y.here w.2.1 rfl (hb w.2.2.1 hd) rfl q) k
theorem isub (w : Wk p l e R s m args below meth c n0 Z own nm bc ml rt Q G) (X : Sd p l e R s m args below meth c n0 T h cells slots) {x y : Int32} (z : Int32) (hd : decode bc pc = .ok (.isub, 1)) (pc' : Nat) (hp : pc + 1 = pc') (hz : z = x - y) (k : G (T.setTop (mkF m pc' ls (.int z :: st)))) : G (T.setTop (mkF m pc ls (.int y :: .int x :: st))) := by
  obtain ⟨locs, Y, -, -⟩ := X
  subst hp
  subst hz
  exact w.1 _ _ (fun t q => XS.isub Y.here w.2.1 rfl (hb w.2.2.1 hd) rfl q) k
theorem iand (w : Wk p l e R s m args below meth c n0 Z own nm bc ml rt Q G) (X : Sd p l e R s m args below meth c n0 T h cells slots) {x y : Int32} (z : Int32) (hd : decode bc pc = .ok (.iand, 1)) (pc' : Nat) (hp : pc + 1 = pc') (hz : z = x &&& y) (k : G (T.setTop (mkF m pc' ls (.int z :: st)))) : G (T.setTop (mkF m pc ls (.int y :: .int x :: st))) := by
  obtain ⟨locs, Y, -, -⟩ := X
  subst hp
  subst hz
  exact w.1 _ _ (fun t q => XS.iand Y.here w.2.1 rfl (hb w.2.2.1 hd) rfl q) k
theorem ishr (w : Wk p l e R s m args below meth c n0 Z own nm bc ml rt Q G) (X : Sd p l e R s m args below meth c n0 T h cells slots) {x y : Int32} (z : Int32) (hd : decode bc pc = .ok (.ishr, 1)) (pc' : Nat) (hp : pc + 1 = pc') (hz : z = x >>> (y &&& 31)) (k : G (T.setTop (mkF m pc' ls (.int z :: st)))) : G (T.setTop (mkF m pc ls (.int y :: .int x :: st))) := by
  obtain ⟨locs, Y, -, -⟩ := X
  subst hp
  subst hz
  exact w.1 _ _ (fun t q => XS.ishr Y.here w.2.1 rfl (hb w.2.2.1 hd) rfl q) k
theorem iushr (w : Wk p l e R s m args below meth c n0 Z own nm bc ml rt Q G) (X : Sd p l e R s m args below meth c n0 T h cells slots) {x y : Int32} (z : Int32) (hd : decode bc pc = .ok (.iushr, 1)) (pc' : Nat) (hp : pc + 1 = pc') (hz : z = (x.toUInt32 >>> (y &&& 31).toUInt32).toInt32) (k : G (T.setTop (mkF m pc' ls (.int z :: st)))) : G (T.setTop (mkF m pc ls (.int y :: .int x :: st))) := by
  obtain ⟨locs, Y, -, -⟩ := X
  subst hp
  subst hz
  exact w.1 _ _ (fun t q => XS.iushr Y.here w.2.1 rfl (hb w.2.2.1 hd) rfl q) k
theorem irem (w : Wk p l e R s m args below meth c n0 Z own nm bc ml rt Q G) (X : Sd p l e R s m args below meth c n0 T h cells slots) {x y : Int32} (z : Int32) (hd : decode bc pc = .ok (.irem, 1)) (pc' : Nat) (hp : pc + 1 = pc') (hz : z = x % y) (hy : y ≠ 0) (k : G (T.setTop (mkF m pc' ls (.int z :: st)))) : G (T.setTop (mkF m pc ls (.int y :: .int x :: st))) := by
  obtain ⟨locs, Y, -, -⟩ := X
  subst hp
  subst hz
  exact w.1 _ _ (fun t q => Jvm.RoadKit.iremM Y w.2.1 rfl (hb w.2.2.1 hd) rfl hy q) k
theorem i2b (w : Wk p l e R s m args below meth c n0 Z own nm bc ml rt Q G) (X : Sd p l e R s m args below meth c n0 T h cells slots) {x : Int32} (z : Int32) (hd : decode bc pc = .ok (.i2b, 1)) (pc' : Nat) (hp : pc + 1 = pc') (hz : z = x.toInt8.toInt32) (k : G (T.setTop (mkF m pc' ls (.int z :: st)))) : G (T.setTop (mkF m pc ls (.int x :: st))) := by
  obtain ⟨locs, Y, -, -⟩ := X
  subst hp
  subst hz
  exact w.1 _ _ (fun t q => XS.i2b Y.here w.2.1 rfl (hb w.2.2.1 hd) rfl q) k
theorem i2c (w : Wk p l e R s m args below meth c n0 Z own nm bc ml rt Q G) (X : Sd p l e R s m args below meth c n0 T h cells slots) {x : Int32} (z : Int32) (hd : decode bc pc = .ok (.i2c, 1)) (pc' : Nat) (hp : pc + 1 = pc') (hz : z = x.toUInt32.toUInt16.toUInt32.toInt32) (k : G (T.setTop (mkF m pc' ls (.int z :: st)))) : G (T.setTop (mkF m pc ls (.int x :: st))) := by
  obtain ⟨locs, Y, -, -⟩ := X
  subst hp
  subst hz
  exact w.1 _ _ (fun t q => XS.i2c Y.here w.2.1 rfl (hb w.2.2.1 hd) rfl q) k
theorem dup (w : Wk p l e R s m args below meth c n0 Z own nm bc ml rt Q G) (X : Sd p l e R s m args below meth c n0 T h cells slots) {x : Value} (hd : decode bc pc = .ok (.dup, 1)) (pc' : Nat) (hp : pc + 1 = pc') (hx : x.category = 1) (k : G (T.setTop (mkF m pc' ls (x :: x :: st)))) : G (T.setTop (mkF m pc ls (x :: st))) := by
  obtain ⟨locs, Y, -, -⟩ := X
  subst hp
  exact w.1 _ _ (fun t q => XS.dup Y.here w.2.1 rfl (hb w.2.2.1 hd) rfl hx q) k
theorem popV (w : Wk p l e R s m args below meth c n0 Z own nm bc ml rt Q G) (X : Sd p l e R s m args below meth c n0 T h cells slots) {x : Value} (hd : decode bc pc = .ok (.pop, 1)) (pc' : Nat) (hp : pc + 1 = pc') (hx : x.category = 1) (k : G (T.setTop (mkF m pc' ls st))) : G (T.setTop (mkF m pc ls (x :: st))) := by
  obtain ⟨locs, Y, -, -⟩ := X
  subst hp
  exact w.1 _ _ (fun t q => XS.pop Y.here w.2.1 rfl (hb w.2.2.1 hd) rfl hx q) k
theorem iinc (w : Wk p l e R s m args below meth c n0 Z own nm bc ml rt Q G) (X : Sd p l e R s m args below meth c n0 T h cells slots) {k : Nat} {i : Int} {x : Int32} (z : Int32) (hd : decode bc pc = .ok (.iinc k i, 3)) (pc' : Nat) (hp : pc + 3 = pc') (hl : ls[k]? = some (.val (.int x))) (hz : z = x + Int32.ofInt i) (l' : Array Slot) (hl' : storeLocals ls k (.int z) = some l') (k : G (T.setTop (mkF m pc' l' st))) : G (T.setTop (mkF m pc ls st)) := by
  obtain ⟨locs, Y, -, -⟩ := X
  subst hp
  subst hz
  exact w.1 _ _ (fun t q => XS.iinc Y.here w.2.1 rfl (hb w.2.2.1 hd) hl hl' q) k
theorem goto (w : Wk p l e R s m args below meth c n0 Z own nm bc ml rt Q G) (X : Sd p l e R s m args below meth c n0 T h cells slots) {o : Int} (hd : decode bc pc = .ok (.goto o, 3)) (pc' : Nat) (ho : 0 ≤ (pc : Int) + o) (hp : ((pc : Int) + o).toNat = pc') (k : G (T.setTop (mkF m pc' ls st))) : G (T.setTop (mkF m pc ls st)) := by
  obtain ⟨locs, Y, -, -⟩ := X
  exact w.1 _ _ (fun t q => XS.goto Y.here w.2.1 rfl (pc0 := pc) (pc' := pc') rfl (hb w.2.2.1 hd) ho hp q) k
theorem ldcI (w : Wk p l e R s m args below meth c n0 Z own nm bc ml rt Q G) (X : Sd p l e R s m args below meth c n0 T h cells slots) {i : Nat} {v : Int32} (wc : (Cond.constant own i v).before a0 Z = true) (hd : decode bc pc = .ok (.ldc i, 2)) (pc' : Nat) (hp : pc + 2 = pc') (k : G (T.setTop (mkF m pc' ls (.int v :: st)))) : G (T.setTop (mkF m pc ls st)) := by
  obtain ⟨locs, Y, -, -⟩ := X
  subst hp
  exact w.1 _ _ (Y.ldcInt w.2.1 w.2.2.2.2.2.1 (mvT w.2.2.2.2.1 wc) (g := mkF m pc ls st) rfl (hb w.2.2.1 hd)) k
theorem icmp_lt (w : Wk p l e R s m args below meth c n0 Z own nm bc ml rt Q G) (X : Sd p l e R s m args below meth c n0 T h cells slots) {x y : Int32} {o : Int} (hd : decode bc pc = .ok (.if_icmp .lt o, 3)) (pT pF : Nat) (ho : 0 ≤ (pc : Int) + o) (hp : ((pc : Int) + o).toNat = pT) (hq : pc + 3 = pF) (k1 : x < y → G (T.setTop (mkF m pT ls st))) (k2 : ¬ x < y → G (T.setTop (mkF m pF ls st))) : G (T.setTop (mkF m pc ls (.int y :: .int x :: st))) := by
  obtain ⟨locs, Y, -, -⟩ := X
  subst hq
  by_cases q : x < y
  · exact w.1 _ _ (fun t z => XS.icmpYes Y.here w.2.1 rfl (pc0 := pc) (pc' := pT) rfl (hb w.2.2.1 hd) rfl (tlt q).1 ho hp z) (k1 q)
  · exact w.1 _ _ (fun t z => XS.icmpNo Y.here w.2.1 rfl (hb w.2.2.1 hd) rfl (flt q).1 z) (k2 q)
theorem if_lt (w : Wk p l e R s m args below meth c n0 Z own nm bc ml rt Q G) (X : Sd p l e R s m args below meth c n0 T h cells slots) {x : Int32} {o : Int} (hd : decode bc pc = .ok (.ifCond .lt o, 3)) (pT pF : Nat) (ho : 0 ≤ (pc : Int) + o) (hp : ((pc : Int) + o).toNat = pT) (hq : pc + 3 = pF) (k1 : x < 0 → G (T.setTop (mkF m pT ls st))) (k2 : ¬ x < 0 → G (T.setTop (mkF m pF ls st))) : G (T.setTop (mkF m pc ls (.int x :: st))) := by
  obtain ⟨locs, Y, -, -⟩ := X
  subst hq
  by_cases q : x < 0
  · exact w.1 _ _ (fun t z => XS.ifYes Y.here w.2.1 rfl (pc0 := pc) (pc' := pT) rfl (hb w.2.2.1 hd) rfl ((if0 _ _).trans (tlt q).1) ho hp z) (k1 q)
  · exact w.1 _ _ (fun t z => XS.ifNo Y.here w.2.1 rfl (hb w.2.2.1 hd) rfl ((if0 _ _).trans (flt q).1) z) (k2 q)
theorem icmp_ge (w : Wk p l e R s m args below meth c n0 Z own nm bc ml rt Q G) (X : Sd p l e R s m args below meth c n0 T h cells slots) {x y : Int32} {o : Int} (hd : decode bc pc = .ok (.if_icmp .ge o, 3)) (pT pF : Nat) (ho : 0 ≤ (pc : Int) + o) (hp : ((pc : Int) + o).toNat = pT) (hq : pc + 3 = pF) (k1 : ¬ x < y → G (T.setTop (mkF m pT ls st))) (k2 : x < y → G (T.setTop (mkF m pF ls st))) : G (T.setTop (mkF m pc ls (.int y :: .int x :: st))) := by
  obtain ⟨locs, Y, -, -⟩ := X
  subst hq
  by_cases q : x < y
  · exact w.1 _ _ (fun t z => XS.icmpNo Y.here w.2.1 rfl (hb w.2.2.1 hd) rfl (tlt q).2.1 z) (k2 q)
  · exact w.1 _ _ (fun t z => XS.icmpYes Y.here w.2.1 rfl (pc0 := pc) (pc' := pT) rfl (hb w.2.2.1 hd) rfl (flt q).2.1 ho hp z) (k1 q)
theorem icmp_gt (w : Wk p l e R s m args below meth c n0 Z own nm bc ml rt Q G) (X : Sd p l e R s m args below meth c n0 T h cells slots) {x y : Int32} {o : Int} (hd : decode bc pc = .ok (.if_icmp .gt o, 3)) (pT pF : Nat) (ho : 0 ≤ (pc : Int) + o) (hp : ((pc : Int) + o).toNat = pT) (hq : pc + 3 = pF) (k1 : y < x → G (T.setTop (mkF m pT ls st))) (k2 : ¬ y < x → G (T.setTop (mkF m pF ls st))) : G (T.setTop (mkF m pc ls (.int y :: .int x :: st))) := by
  obtain ⟨locs, Y, -, -⟩ := X
  subst hq
  by_cases q : y < x
  · exact w.1 _ _ (fun t z => XS.icmpYes Y.here w.2.1 rfl (pc0 := pc) (pc' := pT) rfl (hb w.2.2.1 hd) rfl (tlt q).2.2.1 ho hp z) (k1 q)
  · exact w.1 _ _ (fun t z => XS.icmpNo Y.here w.2.1 rfl (hb w.2.2.1 hd) rfl (flt q).2.2.1 z) (k2 q)
theorem icmp_le (w : Wk p l e R s m args below meth c n0 Z own nm bc ml rt Q G) (X : Sd p l e R s m args below meth c n0 T h cells slots) {x y : Int32} {o : Int} (hd : decode bc pc = .ok (.if_icmp .le o, 3)) (pT pF : Nat) (ho : 0 ≤ (pc : Int) + o) (hp : ((pc : Int) + o).toNat = pT) (hq : pc + 3 = pF) (k1 : ¬ y < x → G (T.setTop (mkF m pT ls st))) (k2 : y < x → G (T.setTop (mkF m pF ls st))) : G (T.setTop (mkF m pc ls (.int y :: .int x :: st))) := by
  obtain ⟨locs, Y, -, -⟩ := X
  subst hq
  by_cases q : y < x
  · exact w.1 _ _ (fun t z => XS.icmpNo Y.here w.2.1 rfl (hb w.2.2.1 hd) rfl (tlt q).2.2.2 z) (k2 q)
  · exact w.1 _ _ (fun t z => XS.icmpYes Y.here w.2.1 rfl (pc0 := pc) (pc' := pT) rfl (hb w.2.2.1 hd) rfl (flt q).2.2.2 ho hp z) (k1 q)
theorem icmp_eq (w : Wk p l e R s m args below meth c n0 Z own nm bc ml rt Q G) (X : Sd p l e R s m args below meth c n0 T h cells slots) {x y : Int32} {o : Int} (hd : decode bc pc = .ok (.if_icmp .eq o, 3)) (pT pF : Nat) (ho : 0 ≤ (pc : Int) + o) (hp : ((pc : Int) + o).toNat = pT) (hq : pc + 3 = pF) (k1 : x = y → G (T.setTop (mkF m pT ls st))) (k2 : ¬ x = y → G (T.setTop (mkF m pF ls st))) : G (T.setTop (mkF m pc ls (.int y :: .int x :: st))) := by
  obtain ⟨locs, Y, -, -⟩ := X
  subst hq
  by_cases q : x = y
  · exact w.1 _ _ (fun t z => XS.icmpYes Y.here w.2.1 rfl (pc0 := pc) (pc' := pT) rfl (hb w.2.2.1 hd) rfl (teq q).1 ho hp z) (k1 q)
  · exact w.1 _ _ (fun t z => XS.icmpNo Y.here w.2.1 rfl (hb w.2.2.1 hd) rfl (feq q).1 z) (k2 q)
theorem if_eq (w : Wk p l e R s m args below meth c n0 Z own nm bc ml rt Q G) (X : Sd p l e R s m args below meth c n0 T h cells slots) {x : Int32} {o : Int} (hd : decode bc pc = .ok (.ifCond .eq o, 3)) (pT pF : Nat) (ho : 0 ≤ (pc : Int) + o) (hp : ((pc : Int) + o).toNat = pT) (hq : pc + 3 = pF) (k1 : x = 0 → G (T.setTop (mkF m pT ls st))) (k2 : ¬ x = 0 → G (T.setTop (mkF m pF ls st))) : G (T.setTop (mkF m pc ls (.int x :: st))) := by
  obtain ⟨locs, Y, -, -⟩ := X
  subst hq
  by_cases q : x = 0
  · exact w.1 _ _ (fun t z => XS.ifYes Y.here w.2.1 rfl (pc0 := pc) (pc' := pT) rfl (hb w.2.2.1 hd) rfl ((if0 _ _).trans (teq q).1) ho hp z) (k1 q)
  · exact w.1 _ _ (fun t z => XS.ifNo Y.here w.2.1 rfl (hb w.2.2.1 hd) rfl ((if0 _ _).trans (feq q).1) z) (k2 q)
theorem icmp_ne (w : Wk p l e R s m args below meth c n0 Z own nm bc ml rt Q G) (X : Sd p l e R s m args below meth c n0 T h cells slots) {x y : Int32} {o : Int} (hd : decode bc pc = .ok (.if_icmp .ne o, 3)) (pT pF : Nat) (ho : 0 ≤ (pc : Int) + o) (hp : ((pc : Int) + o).toNat = pT) (hq : pc + 3 = pF) (k1 : ¬ x = y → G (T.setTop (mkF m pT ls st))) (k2 : x = y → G (T.setTop (mkF m pF ls st))) : G (T.setTop (mkF m pc ls (.int y :: .int x :: st))) := by
  obtain ⟨locs, Y, -, -⟩ := X
  subst hq
  by_cases q : x = y
  · exact w.1 _ _ (fun t z => XS.icmpNo Y.here w.2.1 rfl (hb w.2.2.1 hd) rfl (teq q).2 z) (k2 q)
  · exact w.1 _ _ (fun t z => XS.icmpYes Y.here w.2.1 rfl (pc0 := pc) (pc' := pT) rfl (hb w.2.2.1 hd) rfl (feq q).2 ho hp z) (k1 q)
theorem if_ne (w : Wk p l e R s m args below meth c n0 Z own nm bc ml rt Q G) (X : Sd p l e R s m args below meth c n0 T h cells slots) {x : Int32} {o : Int} (hd : decode bc pc = .ok (.ifCond .ne o, 3)) (pT pF : Nat) (ho : 0 ≤ (pc : Int) + o) (hp : ((pc : Int) + o).toNat = pT) (hq : pc + 3 = pF) (k1 : ¬ x = 0 → G (T.setTop (mkF m pT ls st))) (k2 : x = 0 → G (T.setTop (mkF m pF ls st))) : G (T.setTop (mkF m pc ls (.int x :: st))) := by
  obtain ⟨locs, Y, -, -⟩ := X
  subst hq
  by_cases q : x = 0
  · exact w.1 _ _ (fun t z => XS.ifNo Y.here w.2.1 rfl (hb w.2.2.1 hd) rfl ((if0 _ _).trans (teq q).2) z) (k2 q)
  · exact w.1 _ _ (fun t z => XS.ifYes Y.here w.2.1 rfl (pc0 := pc) (pc' := pT) rfl (hb w.2.2.1 hd) rfl ((if0 _ _).trans (feq q).2) ho hp z) (k1 q)
theorem retI (w : Wk p l e R s m args below meth c n0 Z own nm bc ml rt Q G) (X : Sd p l e R s m args below meth c n0 T h cells slots) {z : Int32} (hrt : rt = some .int) (hd : decode bc pc = .ok (.ireturn, 1)) (hc : cells ≤ R.cells) (hl : slots ≤ R.slots) (k : Q (some (.int z)) h) : G (T.setTop (mkF m pc ls (.int z :: st))) := by
  have hr : meth.sig.returnType = some .int := w.2.2.2.2.2.2.1.trans hrt
  refine w.2.2.2.2.2.2.2.2 T h cells slots (some (.int z)) X hc hl (fun q => by rw [hr] at q; cases q) k _ (fun fs hfs => ?_)
  obtain ⟨locs, Y, -, -⟩ := X
  exact retOut Y w.2.1 hr rfl (Or.inl ⟨rfl, Or.inl rfl, z, rfl⟩) (hb w.2.2.1 hd) hfs
theorem retN (w : Wk p l e R s m args below meth c n0 Z own nm bc ml rt Q G) (X : Sd p l e R s m args below meth c n0 T h cells slots) {z : Int32} {t : FieldType} (hrt : rt = some t) (ht : t = .boolean ∨ t = .byte ∨ t = .char ∨ t = .short) (hd : decode bc pc = .ok (.ireturn, 1)) (hc : cells ≤ R.cells) (hl : slots ≤ R.slots) (k : Q (some (.int (nar t z))) h) : G (T.setTop (mkF m pc ls (.int z :: st))) := by
  have hr : meth.sig.returnType = some t := w.2.2.2.2.2.2.1.trans hrt
  refine w.2.2.2.2.2.2.2.2 T h cells slots (some (.int (nar t z))) X hc hl (fun q => by rw [hr] at q; cases q) k _ (fun fs hfs => ?_)
  obtain ⟨locs, Y, -, -⟩ := X
  exact Jvm.RoadKit.retN Y w.2.1 hr ht (hb w.2.2.1 hd) hfs
theorem retA (w : Wk p l e R s m args below meth c n0 Z own nm bc ml rt Q G) (X : Sd p l e R s m args below meth c n0 T h cells slots) {z : Value} {t : FieldType} (hrt : rt = some t) (ht : t.isReference = true) (hz : z.isRef = true) (hd : decode bc pc = .ok (.areturn, 1)) (hc : cells ≤ R.cells) (hl : slots ≤ R.slots) (k : Q (some z) h) : G (T.setTop (mkF m pc ls (z :: st))) := by
  have hr : meth.sig.returnType = some t := w.2.2.2.2.2.2.1.trans hrt
  refine w.2.2.2.2.2.2.2.2 T h cells slots (some z) X hc hl (fun q => by rw [hr] at q; cases q) k _ (fun fs hfs => ?_)
  obtain ⟨locs, Y, -, -⟩ := X
  refine retOut Y w.2.1 hr ?_ (Or.inr (Or.inr (Or.inr (Or.inr ⟨rfl, ht, hz⟩)))) (hb w.2.2.1 hd) hfs
  rcases ref_cases hz with rfl | ⟨a, rfl⟩ <;> cases t <;> first | rfl | (cases ht; done)
theorem retV (w : Wk p l e R s m args below meth c n0 Z own nm bc ml rt Q G) (X : Sd p l e R s m args below meth c n0 T h cells slots) (hrt : rt = none) (hd : decode bc pc = .ok (.return_, 1)) (hc : cells ≤ R.cells) (hl : slots ≤ R.slots) (k : Q none h) : G (T.setTop (mkF m pc ls [])) := by
  have hr : meth.sig.returnType = none := w.2.2.2.2.2.2.1.trans hrt
  refine w.2.2.2.2.2.2.2.2 T h cells slots none X hc hl (fun _ => rfl) k _ (fun fs hfs => ?_)
  obtain ⟨locs, Y, -, -⟩ := X
  exact Y.returnOut w.2.1 hr (hb w.2.2.1 hd) hfs
theorem getfield (w : Wk p l e R s m args below meth c n0 Z own nm bc ml rt Q G) (X : Sd p l e R s m args below meth c n0 T h cells slots) {R0 O n d : String} {i : Nat} {a : Addr} {v : Value} (wl : (Cond.fieldLink own i R0 n d).before a0 Z = true) (via : Via Z R0 O n d) (F : Fld Z h a O n d v) (hd : decode bc pc = .ok (.getfield i, 3)) (pc' : Nat) (hp : pc + 3 = pc') (k : ∀ T' : State, Sd p l e R s m args below meth c n0 T' h cells slots → G (T'.setTop (mkF m pc' ls (v :: st)))) : G (T.setTop (mkF m pc ls (.ref a :: st))) := by
  obtain ⟨locs, Y, N, eT⟩ := X
  subst hp
  obtain ⟨T', Y', e', q⟩ := getF Y w.2.1 w.2.2.2.2.1 (host := "") w.2.2.2.2.2.1 (Or.inl wl) via eT F (g := mkF m pc ls (.ref a :: st)) rfl rfl (hb w.2.2.1 hd)
  exact w.1 _ _ q (k T' ⟨locs, Y', N, e'⟩)
theorem getstatic (w : Wk p l e R s m args below meth c n0 Z own nm bc ml rt Q G) (X : Sd p l e R s m args below meth c n0 T h cells slots) {R0 O n d : String} {i : Nat} {v : Value} (wl : (Cond.fieldLink own i R0 n d).before a0 Z = true) (via : Via Z R0 O n d) (F : Sta Z h O n d v) (hd : decode bc pc = .ok (.getstatic i, 3)) (pc' : Nat) (hp : pc + 3 = pc') (k : ∀ T' : State, Sd p l e R s m args below meth c n0 T' h cells slots → G (T'.setTop (mkF m pc' ls (v :: st)))) : G (T.setTop (mkF m pc ls st)) := by
  obtain ⟨locs, Y, N, eT⟩ := X
  subst hp
  obtain ⟨T', Y', e', q⟩ := getS2 (host := "") Y w.2.1 w.2.2.2.2.1 w.2.2.2.2.2.1 (Or.inl wl) via eT F (g := mkF m pc ls st) rfl (hb w.2.2.1 hd)
  exact w.1 _ _ q (k T' ⟨locs, Y', N, e'⟩)
theorem checkcast (w : Wk p l e R s m args below meth c n0 Z own nm bc ml rt Q G) (X : Sd p l e R s m args below meth c n0 T h cells slots) {K : String} {i : Nat} {a : Addr} (wl : (Cond.classLink own i K).before a0 Z = true) (F : Ins Z h a K true) (hd : decode bc pc = .ok (.checkcast i, 3)) (pc' : Nat) (hp : pc + 3 = pc') (k : ∀ T' : State, Sd p l e R s m args below meth c n0 T' h cells slots → G (T'.setTop (mkF m pc' ls (.ref a :: st)))) : G (T.setTop (mkF m pc ls (.ref a :: st))) := by
  obtain ⟨locs, Y, N, eT⟩ := X
  subst hp
  obtain ⟨T', Y', e', q⟩ := castY Y w.2.1 w.2.2.2.2.1 w.2.2.2.2.2.1 wl eT F (g := mkF m pc ls (.ref a :: st)) rfl rfl (hb w.2.2.1 hd)
  exact w.1 _ _ q (k T' ⟨locs, Y', N, e'⟩)
theorem putfield (w : Wk p l e R s m args below meth c n0 Z own nm bc ml rt Q G) (X : Sd p l e R s m args below meth c n0 T h cells slots) {R0 O n d C : String} {i kk : Nat} {ty : FieldType} {a : Addr} {v old : Value} (wl : (Cond.fieldLink own i R0 n d).before a0 Z = true) (via : Via Z R0 O n d) (F : Fld Z h a O n d old) (E : Exa Z h a C) (L : (Cond.lays C O n d).before a0 Z = true ∨ ((Cond.laysFinal C O n d).before a0 Z = true ∧ own = O ∧ nm = "<init>")) (wi : (Cond.instantiable C kk).before a0 Z = true) (hty : parseFieldDescriptor d = some ty) (hn : narrow ty v = v) (hf : fits ty v = true) (ha : n0 ≤ a) (hd : decode bc pc = .ok (.putfield i, 3)) (pc' : Nat) (hp : pc + 3 = pc')
    (k : ∀ (T' : State) (h' : Heap), Sd p l e R s m args below meth c n0 T' h' cells slots → Wr h h' a (Jvm.RoadKit.slotOf Z O n d) v → G (T'.setTop (mkF m pc' ls st))) : G (T.setTop (mkF m pc ls (v :: .ref a :: st))) := by
  obtain ⟨locs, Y, N, eT⟩ := X
  subst hp
  obtain ⟨T', h', Y', e', W', q⟩ := putF Y w.2.1 w.2.2.2.2.1 (host := "") w.2.2.2.2.2.1 (Or.inl wl) via eT F E (L.imp id fun z => ⟨z.1, z.2.1, w.2.2.2.2.2.2.2.1.trans z.2.2⟩) wi hty hn hf (g := mkF m pc ls (v :: .ref a :: st)) rfl rfl (hb w.2.2.1 hd)
  exact w.1 _ _ q (k T' h' ⟨_, Y', Fr.snoc Y' N ha, e'⟩ W')
theorem putfieldN (w : Wk p l e R s m args below meth c n0 Z own nm bc ml rt Q G) (X : Sd p l e R s m args below meth c n0 T h cells slots) {R0 O n d C : String} {i kk : Nat} {ty : FieldType} {a : Addr} {v v' old : Value} (wl : (Cond.fieldLink own i R0 n d).before a0 Z = true) (via : Via Z R0 O n d) (F : Fld Z h a O n d old) (E : Exa Z h a C) (L : (Cond.lays C O n d).before a0 Z = true ∨ ((Cond.laysFinal C O n d).before a0 Z = true ∧ own = O ∧ nm = "<init>")) (wi : (Cond.instantiable C kk).before a0 Z = true) (hty : parseFieldDescriptor d = some ty) (hn : narrow ty v = v') (hf : fits ty v' = true) (ha : n0 ≤ a) (hd : decode bc pc = .ok (.putfield i, 3)) (pc' : Nat) (hp : pc + 3 = pc')
    (k : ∀ (T' : State) (h' : Heap), Sd p l e R s m args below meth c n0 T' h' cells slots → Wr h h' a (Jvm.RoadKit.slotOf Z O n d) v' → G (T'.setTop (mkF m pc' ls st))) : G (T.setTop (mkF m pc ls (v :: .ref a :: st))) := by
  obtain ⟨locs, Y, N, eT⟩ := X
  subst hp
  obtain ⟨T', h', Y', e', W', q⟩ := putFN Y w.2.1 w.2.2.2.2.1 w.2.2.2.2.2.1 wl via eT F E (L.imp id fun z => ⟨z.1, z.2.1, w.2.2.2.2.2.2.2.1.trans z.2.2⟩) wi hty hn hf (g := mkF m pc ls (v :: .ref a :: st)) rfl rfl (hb w.2.2.1 hd)
  exact w.1 _ _ q (k T' h' ⟨_, Y', Fr.snoc Y' N ha, e'⟩ W')
theorem new (w : Wk p l e R s m args below meth c n0 Z own nm bc ml rt Q G) (X : Sd p l e R s m args below meth c n0 T h cells slots) {C : String} {i n : Nat} (wl : (Cond.classLink own i C).before a0 Z = true) (wi : (Cond.instantiable C n).before a0 Z = true) (wz : (Cond.initialized C).before a0 Z = true) (hd : decode bc pc = .ok (.new i, 3)) (pc' : Nat) (hp : pc + 3 = pc') (hc : cells + 1 ≤ R.cells) (hl : slots + n ≤ R.slots)
    (k : ∀ (T' : State) (h' : Heap) (a : Addr), Sd p l e R s m args below meth c n0 T' h' (cells + 1) (slots + n) → a = h.size → Ext h h' → Exa Z h' a C → (∀ {O nm d : String} {ty : FieldType}, Laid Z a0 C O nm d → parseFieldDescriptor d = some ty → Fld Z h' a O nm d (defaultValue ty)) → G (T'.setTop (mkF m pc' ls (.ref a :: st)))) : G (T.setTop (mkF m pc ls st)) := by
  obtain ⟨locs, Y, N, eT⟩ := X
  subst hp
  obtain ⟨T', h', Y', e', E', A', D', -, q⟩ := newO Y w.2.1 w.2.2.2.2.1 w.2.2.2.2.2.1 wl wi wz eT (g := mkF m pc ls st) rfl (hb w.2.2.1 hd) hc hl
  exact w.1 _ _ q (k T' h' _ ⟨locs, Y', N, e'⟩ rfl E' A' D')
theorem initObj (w : Wk p l e R s m args below meth c n0 Z own nm bc ml rt Q G) (X : Sd p l e R s m args below meth c n0 T h cells slots) {i : Nat} {a : Addr} (w1 : (Cond.methodLink own i Lib.objectInit).before a0 Z = true) (w2 : (Cond.instanceMethod Lib.objectInit).before a0 Z = true) (w3 : (Cond.code Lib.objectInit ⟨#[0xb1]⟩ 1 none).before a0 Z = true) (hd : decode bc pc = .ok (.invokespecial i, 3)) (pc' : Nat) (hp : pc + 3 = pc') (hsz : ls.size = ml) (hf : 1 ≤ R.frames) (Wd : Nat) (hW : (st.map fun v => v.category).sum ≤ Wd) (hl : Wd + 12 ≤ R.locals)
    (k : ∀ T' : State, Sd p l e R s m args below meth c n0 T' h cells slots → G (T'.setTop (mkF m pc' ls st))) : G (T.setTop (mkF m pc ls (.ref a :: st))) := by
  obtain ⟨locs, Y, N, eT⟩ := X
  subst hp
  obtain ⟨T', Y', e', q⟩ := initO Y w.2.1 w.2.2.2.2.1 w.2.2.2.2.2.1 w1 w2 w3 eT (g := mkF m pc ls (.ref a :: st)) rfl (hsz.trans w.2.2.2.1.symm) rfl (hb w.2.2.1 hd) hf (W := Wd) (by show 2 * 0 + _ ≤ _; omega) hl
  exact w.1 _ _ q (k T' ⟨locs, Y', N, e'⟩)
theorem callS (w : Wk p l e R s m args below meth c n0 Z own nm bc ml rt Q G) (X : Sd p l e R s m args below meth c n0 T h cells slots) {y : MethodName} {ybc : ByteArray} {yml : Nat} {yrt : Option FieldType} {rm : Room} {i : Nat} {sk : List Value} {Qy : Option Value → Heap → Prop} (av : List Value) (w1 : (Cond.methodLink own i y).before a0 Z = true) (w2 : (Cond.static y).before a0 Z = true) (w3 : (Cond.initialized y.cls).before a0 Z = true) (w4 : (Cond.code y ybc yml yrt).before a0 Z = true) (hy : y.cls ≠ "java/lang/invoke/MethodHandle" ∧ y.cls ≠ "java/lang/invoke/VarHandle") (hM : Met l Z y ybc yml yrt [] rm av.toArray h n0 Qy) (hd : decode bc pc = .ok (.invokestatic i, 3)) (pc' : Nat) (hp : pc + 3 = pc') (Wd : Nat) (hfr : rm.frames + 1 ≤ R.frames) (hlo : Wd + (yml + 11) + rm.locals ≤ R.locals) (hlen : ∀ sig, parseMethodDescriptor y.desc = some sig → av.length = sig.parameters.length) (hst : sk = av.reverse ++ st) (hW : (st.map fun v => v.category).sum ≤ Wd) (hsz : ls.size = ml) (hc : cells + rm.cells ≤ R.cells) (hs : slots + rm.slots ≤ R.slots) (k : ∀ (v : Option Value) (T' : State) (h' : Heap), Sd p l e R s m args below meth c n0 T' h' (cells + rm.cells) (slots + rm.slots) → Qy v h' → G (T'.setTop (mkF m pc' ls (v.toList ++ st)))) : G (T.setTop (mkF m pc ls sk)) := by
  obtain ⟨locs, Y, N, eT⟩ := X
  subst hp hst
  have hZ := w.2.2.2.2.1
  obtain ⟨v, _, ⟨T', L', k', n'⟩, -, Y', ⟨Lc, ⟨hQ, NL⟩, l1, y1, z1⟩, q⟩ := Jvm.LawKit.callS Y w.2.1 (y := y) w.2.2.2.2.2.1 (mvT hZ w1) (mvT hZ w2) (mvT hZ w3) (mvT hZ w4) hy (backOf (W := Wd) (Q := fun v h' L => Qy v h' ∧ Fr n0 L) hM hZ w4 w3 hfr hlo) (g := mkF m pc ls (av.reverse ++ st)) rfl (hsz.trans w.2.2.2.1.symm) (argsL := av) (rest := st) hlen rfl (by show 2 * 0 + _ ≤ _; omega) (hb w.2.2.1 hd) (fun _ _ => ⟨rfl, eT, hc, hs⟩)
  dsimp only [Pt.U, Pt.locs, Pt.cells, Pt.slots] at Y' l1 y1 z1 q hQ
  subst l1 y1 z1
  exact w.1 _ _ q (k v T' _ ⟨_, Y', Fr.app N NL, rfl⟩ hQ)
theorem callN (w : Wk p l e R s m args below meth c n0 Z own nm bc ml rt Q G) (X : Sd p l e R s m args below meth c n0 T h cells slots) {y : MethodName} {ybc : ByteArray} {yml : Nat} {rm : Room} {i : Nat} {sk : List Value} {Qy : Option Value → Heap → Prop} {a : Addr} (av : List Value) (w1 : (Cond.methodLink own i y).before a0 Z = true) (w2 : (Cond.instanceMethod y).before a0 Z = true) (w3 : (Cond.initialized y.cls).before a0 Z = true) (w4 : (Cond.code y ybc yml none).before a0 Z = true) (hi : y.name = "<init>") (hy : y.cls ≠ "java/lang/invoke/MethodHandle" ∧ y.cls ≠ "java/lang/invoke/VarHandle") (hM : Met l Z y ybc yml none [] rm (.ref a :: av).toArray h n0 Qy) (hd : decode bc pc = .ok (.invokespecial i, 3)) (pc' : Nat) (hp : pc + 3 = pc') (Wd : Nat) (hfr : rm.frames + 1 ≤ R.frames) (hlo : Wd + (yml + 11) + rm.locals ≤ R.locals) (hlen : ∀ sig, parseMethodDescriptor y.desc = some sig → av.length = sig.parameters.length) (hst : sk = av.reverse ++ .ref a :: st) (hW : (st.map fun v => v.category).sum ≤ Wd) (hsz : ls.size = ml) (hc : cells + rm.cells ≤ R.cells) (hs : slots + rm.slots ≤ R.slots) (k : ∀ (v : Option Value) (T' : State) (h' : Heap), Sd p l e R s m args below meth c n0 T' h' (cells + rm.cells) (slots + rm.slots) → Qy v h' → G (T'.setTop (mkF m pc' ls (v.toList ++ st)))) : G (T.setTop (mkF m pc ls sk)) := by
  obtain ⟨locs, Y, N, eT⟩ := X
  subst hp hst
  have hZ := w.2.2.2.2.1
  obtain ⟨v, _, ⟨T', L', k', n'⟩, -, Y', ⟨Lc, ⟨hQ, NL⟩, l1, y1, z1⟩, q⟩ := Y.specialBack w.2.1 (y := y) hi w.2.2.2.2.2.1 (mvT hZ w1) (mvT hZ w2) (mvT hZ w4) hy (backOf (W := Wd) (Q := fun v h' L => Qy v h' ∧ Fr n0 L) hM hZ w4 w3 hfr hlo) (g := mkF m pc ls (av.reverse ++ .ref a :: st)) rfl (hsz.trans w.2.2.2.1.symm) (Steps.refl _) (a := a) (argsL := av) (rest := st) hlen rfl (by show 2 * 0 + _ ≤ _; omega) (hb w.2.2.1 hd) (fun _ _ => ⟨rfl, eT, hc, hs⟩)
  dsimp only [Pt.U, Pt.locs, Pt.cells, Pt.slots] at Y' l1 y1 z1 q hQ
  subst l1 y1 z1
  exact w.1 _ _ (fun t z => q.trans z) (k v T' _ ⟨_, Y', Fr.app N NL, rfl⟩ hQ)
theorem callV (w : Wk p l e R s m args below meth c n0 Z own nm bc ml rt Q G) (X : Sd p l e R s m args below meth c n0 T h cells slots) {y z : MethodName} {ybc : ByteArray} {yml : Nat} {yrt : Option FieldType} {rm : Room} {i : Nat} {sk : List Value} {Qy : Option Value → Heap → Prop} {C : String} {a : Addr} (av : List Value) (w1 : (Cond.methodLink own i y).before a0 Z = true) (w2 : (Cond.declares y).before a0 Z = true) (hnf : NotFace s y) (w5 : (Cond.selects C y z).before a0 Z = true) (w6 : (Cond.instanceMethod z).before a0 Z = true) (w3 : (Cond.initialized z.cls).before a0 Z = true) (w4 : (Cond.code z ybc yml yrt).before a0 Z = true) (hy : y.cls ≠ "java/lang/invoke/MethodHandle" ∧ y.cls ≠ "java/lang/invoke/VarHandle") (E : Exa Z h a C) (hM : Met l Z z ybc yml yrt [] rm (.ref a :: av).toArray h n0 Qy) (hd : decode bc pc = .ok (.invokevirtual i, 3)) (pc' : Nat) (hp : pc + 3 = pc') (Wd : Nat) (hfr : rm.frames + 1 ≤ R.frames) (hlo : Wd + (yml + 11) + rm.locals ≤ R.locals) (hlen : ∀ sig, parseMethodDescriptor y.desc = some sig → av.length = sig.parameters.length) (hst : sk = av.reverse ++ .ref a :: st) (hW : (st.map fun v => v.category).sum ≤ Wd) (hsz : ls.size = ml) (hc : cells + rm.cells ≤ R.cells) (hs : slots + rm.slots ≤ R.slots) (k : ∀ (v : Option Value) (T' : State) (h' : Heap), Sd p l e R s m args below meth c n0 T' h' (cells + rm.cells) (slots + rm.slots) → Qy v h' → G (T'.setTop (mkF m pc' ls (v.toList ++ st)))) : G (T.setTop (mkF m pc ls sk)) := by
  obtain ⟨locs, Y, N, eT⟩ := X
  subst hp hst
  have hZ := w.2.2.2.2.1
  obtain ⟨cq, kq, qa, qb, qc⟩ := isOf hZ eT E
  obtain ⟨v, _, ⟨T', L', k', n'⟩, -, Y', ⟨Lc, ⟨hQ, NL⟩, l1, y1, z1⟩, q⟩ := Y.virtualBack w.2.1 (y := y) (z := z) w.2.2.2.2.2.1 (mvT hZ w1) (mvT hZ w2) hnf (mvT hZ w5) (mvT hZ w6) hy (backOf (W := Wd) (Q := fun v h' L => Qy v h' ∧ Fr n0 L) hM hZ w4 w3 hfr hlo) qa qc (g := mkF m pc ls (av.reverse ++ .ref a :: st)) rfl (hsz.trans w.2.2.2.1.symm) (Steps.refl _) (argsL := av) (rest := st) hlen rfl (by show 2 * 0 + _ ≤ _; omega) (hb w.2.2.1 hd) (fun _ _ => ⟨rfl, eT, hc, hs⟩)
  dsimp only [Pt.U, Pt.locs, Pt.cells, Pt.slots] at Y' l1 y1 z1 q hQ
  subst l1 y1 z1
  exact w.1 _ _ (fun t z => q.trans z) (k v T' _ ⟨_, Y', Fr.app N NL, rfl⟩ hQ)
theorem callSI (w : Wk p l e R s m args below meth c n0 Z own nm bc ml rt Q G) (X : Sd p l e R s m args below meth c n0 T h cells slots) {y : MethodName} {ybc : ByteArray} {yml : Nat} {yrt : Option FieldType} {rm : Room} {i : Nat} {sk : List Value} {P : Int32 → Heap → Prop}  (av : List Value) (w1 : (Cond.methodLink own i y).before a0 Z = true) (w2 : (Cond.static y).before a0 Z = true) (w3 : (Cond.initialized y.cls).before a0 Z = true) (w4 : (Cond.code y ybc yml yrt).before a0 Z = true) (hy : y.cls ≠ "java/lang/invoke/MethodHandle" ∧ y.cls ≠ "java/lang/invoke/VarHandle") (hM : Met l Z y ybc yml yrt [] rm av.toArray h n0 (RI P)) (hd : decode bc pc = .ok (.invokestatic i, 3)) (pc' : Nat) (hp : pc + 3 = pc') (Wd : Nat) (hfr : rm.frames + 1 ≤ R.frames) (hlo : Wd + (yml + 11) + rm.locals ≤ R.locals) (hlen : ∀ sig, parseMethodDescriptor y.desc = some sig → av.length = sig.parameters.length) (hst : sk = av.reverse ++ st) (hW : (st.map fun v => v.category).sum ≤ Wd) (hsz : ls.size = ml) (hc : cells + rm.cells ≤ R.cells) (hs : slots + rm.slots ≤ R.slots) (k : ∀ (r : Int32) (T' : State) (h' : Heap), Sd p l e R s m args below meth c n0 T' h' (cells + rm.cells) (slots + rm.slots) → P r h' → G (T'.setTop (mkF m pc' ls (.int r :: st)))) : G (T.setTop (mkF m pc ls sk)) := by
  refine callS w X av w1 w2 w3 w4 hy hM hd pc' hp Wd hfr hlo hlen hst hW hsz hc hs (fun v T' h' Y hq => ?_)
  obtain ⟨r, rfl, hr⟩ := hq
  exact k r T' h' Y hr
theorem callSPI (w : Wk p l e R s m args below meth c n0 Z own nm bc ml rt Q G) (X : Sd p l e R s m args below meth c n0 T h cells slots) {y : MethodName} {ybc : ByteArray} {yml : Nat} {yrt : Option FieldType} {rm : Room} {i : Nat} {sk : List Value} {P : Int32 → Prop}  (av : List Value) (w1 : (Cond.methodLink own i y).before a0 Z = true) (w2 : (Cond.static y).before a0 Z = true) (w3 : (Cond.initialized y.cls).before a0 Z = true) (w4 : (Cond.code y ybc yml yrt).before a0 Z = true) (hy : y.cls ≠ "java/lang/invoke/MethodHandle" ∧ y.cls ≠ "java/lang/invoke/VarHandle") (hM : Met l Z y ybc yml yrt [] rm av.toArray h n0 (RI fun r h' => h' = h ∧ P r)) (hd : decode bc pc = .ok (.invokestatic i, 3)) (pc' : Nat) (hp : pc + 3 = pc') (Wd : Nat) (hfr : rm.frames + 1 ≤ R.frames) (hlo : Wd + (yml + 11) + rm.locals ≤ R.locals) (hlen : ∀ sig, parseMethodDescriptor y.desc = some sig → av.length = sig.parameters.length) (hst : sk = av.reverse ++ st) (hW : (st.map fun v => v.category).sum ≤ Wd) (hsz : ls.size = ml) (hc : cells + rm.cells ≤ R.cells) (hs : slots + rm.slots ≤ R.slots) (k : ∀ (r : Int32) (T' : State), Sd p l e R s m args below meth c n0 T' h (cells + rm.cells) (slots + rm.slots) → P r → G (T'.setTop (mkF m pc' ls (.int r :: st)))) : G (T.setTop (mkF m pc ls sk)) := by
  refine callSI w X av w1 w2 w3 w4 hy hM hd pc' hp Wd hfr hlo hlen hst hW hsz hc hs (fun r T' h' Y hq => ?_)
  obtain ⟨q, hr⟩ := hq
  subst q
  exact k r T' Y hr
theorem callSR (w : Wk p l e R s m args below meth c n0 Z own nm bc ml rt Q G) (X : Sd p l e R s m args below meth c n0 T h cells slots) {y : MethodName} {ybc : ByteArray} {yml : Nat} {yrt : Option FieldType} {rm : Room} {i : Nat} {sk : List Value} {P : Value → Heap → Prop}  (av : List Value) (w1 : (Cond.methodLink own i y).before a0 Z = true) (w2 : (Cond.static y).before a0 Z = true) (w3 : (Cond.initialized y.cls).before a0 Z = true) (w4 : (Cond.code y ybc yml yrt).before a0 Z = true) (hy : y.cls ≠ "java/lang/invoke/MethodHandle" ∧ y.cls ≠ "java/lang/invoke/VarHandle") (hM : Met l Z y ybc yml yrt [] rm av.toArray h n0 (RR P)) (hd : decode bc pc = .ok (.invokestatic i, 3)) (pc' : Nat) (hp : pc + 3 = pc') (Wd : Nat) (hfr : rm.frames + 1 ≤ R.frames) (hlo : Wd + (yml + 11) + rm.locals ≤ R.locals) (hlen : ∀ sig, parseMethodDescriptor y.desc = some sig → av.length = sig.parameters.length) (hst : sk = av.reverse ++ st) (hW : (st.map fun v => v.category).sum ≤ Wd) (hsz : ls.size = ml) (hc : cells + rm.cells ≤ R.cells) (hs : slots + rm.slots ≤ R.slots) (k : ∀ (r : Value) (T' : State) (h' : Heap), Sd p l e R s m args below meth c n0 T' h' (cells + rm.cells) (slots + rm.slots) → P r h' → G (T'.setTop (mkF m pc' ls (r :: st)))) : G (T.setTop (mkF m pc ls sk)) := by
  refine callS w X av w1 w2 w3 w4 hy hM hd pc' hp Wd hfr hlo hlen hst hW hsz hc hs (fun v T' h' Y hq => ?_)
  obtain ⟨r, rfl, hr⟩ := hq
  exact k r T' h' Y hr
theorem callSV (w : Wk p l e R s m args below meth c n0 Z own nm bc ml rt Q G) (X : Sd p l e R s m args below meth c n0 T h cells slots) {y : MethodName} {ybc : ByteArray} {yml : Nat} {yrt : Option FieldType} {rm : Room} {i : Nat} {sk : List Value} {P : Heap → Prop}  (av : List Value) (w1 : (Cond.methodLink own i y).before a0 Z = true) (w2 : (Cond.static y).before a0 Z = true) (w3 : (Cond.initialized y.cls).before a0 Z = true) (w4 : (Cond.code y ybc yml yrt).before a0 Z = true) (hy : y.cls ≠ "java/lang/invoke/MethodHandle" ∧ y.cls ≠ "java/lang/invoke/VarHandle") (hM : Met l Z y ybc yml yrt [] rm av.toArray h n0 (RV P)) (hd : decode bc pc = .ok (.invokestatic i, 3)) (pc' : Nat) (hp : pc + 3 = pc') (Wd : Nat) (hfr : rm.frames + 1 ≤ R.frames) (hlo : Wd + (yml + 11) + rm.locals ≤ R.locals) (hlen : ∀ sig, parseMethodDescriptor y.desc = some sig → av.length = sig.parameters.length) (hst : sk = av.reverse ++ st) (hW : (st.map fun v => v.category).sum ≤ Wd) (hsz : ls.size = ml) (hc : cells + rm.cells ≤ R.cells) (hs : slots + rm.slots ≤ R.slots) (k : ∀  (T' : State) (h' : Heap), Sd p l e R s m args below meth c n0 T' h' (cells + rm.cells) (slots + rm.slots) → P h' → G (T'.setTop (mkF m pc' ls (st)))) : G (T.setTop (mkF m pc ls sk)) := by
  refine callS w X av w1 w2 w3 w4 hy hM hd pc' hp Wd hfr hlo hlen hst hW hsz hc hs (fun v T' h' Y hq => ?_)
  obtain ⟨rfl, hr⟩ := hq
  exact k T' h' Y hr
theorem callSPV (w : Wk p l e R s m args below meth c n0 Z own nm bc ml rt Q G) (X : Sd p l e R s m args below meth c n0 T h cells slots) {y : MethodName} {ybc : ByteArray} {yml : Nat} {yrt : Option FieldType} {rm : Room} {i : Nat} {sk : List Value}  (av : List Value) (w1 : (Cond.methodLink own i y).before a0 Z = true) (w2 : (Cond.static y).before a0 Z = true) (w3 : (Cond.initialized y.cls).before a0 Z = true) (w4 : (Cond.code y ybc yml yrt).before a0 Z = true) (hy : y.cls ≠ "java/lang/invoke/MethodHandle" ∧ y.cls ≠ "java/lang/invoke/VarHandle") (hM : Met l Z y ybc yml yrt [] rm av.toArray h n0 (RV fun h' => h' = h)) (hd : decode bc pc = .ok (.invokestatic i, 3)) (pc' : Nat) (hp : pc + 3 = pc') (Wd : Nat) (hfr : rm.frames + 1 ≤ R.frames) (hlo : Wd + (yml + 11) + rm.locals ≤ R.locals) (hlen : ∀ sig, parseMethodDescriptor y.desc = some sig → av.length = sig.parameters.length) (hst : sk = av.reverse ++ st) (hW : (st.map fun v => v.category).sum ≤ Wd) (hsz : ls.size = ml) (hc : cells + rm.cells ≤ R.cells) (hs : slots + rm.slots ≤ R.slots) (k : ∀ (T' : State), Sd p l e R s m args below meth c n0 T' h (cells + rm.cells) (slots + rm.slots) → G (T'.setTop (mkF m pc' ls st))) : G (T.setTop (mkF m pc ls sk)) := by
  refine callSV w X av w1 w2 w3 w4 hy hM hd pc' hp Wd hfr hlo hlen hst hW hsz hc hs (fun T' h' Y hq => ?_)
  subst hq
  exact k T' Y
theorem callNV (w : Wk p l e R s m args below meth c n0 Z own nm bc ml rt Q G) (X : Sd p l e R s m args below meth c n0 T h cells slots) {y : MethodName} {ybc : ByteArray} {yml : Nat} {rm : Room} {i : Nat} {sk : List Value} {P : Heap → Prop} {a : Addr} (av : List Value) (w1 : (Cond.methodLink own i y).before a0 Z = true) (w2 : (Cond.instanceMethod y).before a0 Z = true) (w3 : (Cond.initialized y.cls).before a0 Z = true) (w4 : (Cond.code y ybc yml none).before a0 Z = true) (hi : y.name = "<init>") (hy : y.cls ≠ "java/lang/invoke/MethodHandle" ∧ y.cls ≠ "java/lang/invoke/VarHandle") (hM : Met l Z y ybc yml none [] rm (.ref a :: av).toArray h n0 (RV P)) (hd : decode bc pc = .ok (.invokespecial i, 3)) (pc' : Nat) (hp : pc + 3 = pc') (Wd : Nat) (hfr : rm.frames + 1 ≤ R.frames) (hlo : Wd + (yml + 11) + rm.locals ≤ R.locals) (hlen : ∀ sig, parseMethodDescriptor y.desc = some sig → av.length = sig.parameters.length) (hst : sk = av.reverse ++ .ref a :: st) (hW : (st.map fun v => v.category).sum ≤ Wd) (hsz : ls.size = ml) (hc : cells + rm.cells ≤ R.cells) (hs : slots + rm.slots ≤ R.slots) (k : ∀  (T' : State) (h' : Heap), Sd p l e R s m args below meth c n0 T' h' (cells + rm.cells) (slots + rm.slots) → P h' → G (T'.setTop (mkF m pc' ls (st)))) : G (T.setTop (mkF m pc ls sk)) := by
  refine callN w X av w1 w2 w3 w4 hi hy hM hd pc' hp Wd hfr hlo hlen hst hW hsz hc hs (fun v T' h' Y hq => ?_)
  obtain ⟨rfl, hr⟩ := hq
  exact k T' h' Y hr
theorem callNPV (w : Wk p l e R s m args below meth c n0 Z own nm bc ml rt Q G) (X : Sd p l e R s m args below meth c n0 T h cells slots) {y : MethodName} {ybc : ByteArray} {yml : Nat} {rm : Room} {i : Nat} {sk : List Value} {a : Addr} (av : List Value) (w1 : (Cond.methodLink own i y).before a0 Z = true) (w2 : (Cond.instanceMethod y).before a0 Z = true) (w3 : (Cond.initialized y.cls).before a0 Z = true) (w4 : (Cond.code y ybc yml none).before a0 Z = true) (hi : y.name = "<init>") (hy : y.cls ≠ "java/lang/invoke/MethodHandle" ∧ y.cls ≠ "java/lang/invoke/VarHandle") (hM : Met l Z y ybc yml none [] rm (.ref a :: av).toArray h n0 (RV fun h' => h' = h)) (hd : decode bc pc = .ok (.invokespecial i, 3)) (pc' : Nat) (hp : pc + 3 = pc') (Wd : Nat) (hfr : rm.frames + 1 ≤ R.frames) (hlo : Wd + (yml + 11) + rm.locals ≤ R.locals) (hlen : ∀ sig, parseMethodDescriptor y.desc = some sig → av.length = sig.parameters.length) (hst : sk = av.reverse ++ .ref a :: st) (hW : (st.map fun v => v.category).sum ≤ Wd) (hsz : ls.size = ml) (hc : cells + rm.cells ≤ R.cells) (hs : slots + rm.slots ≤ R.slots) (k : ∀ (T' : State), Sd p l e R s m args below meth c n0 T' h (cells + rm.cells) (slots + rm.slots) → G (T'.setTop (mkF m pc' ls st))) : G (T.setTop (mkF m pc ls sk)) := by
  refine callNV w X av w1 w2 w3 w4 hi hy hM hd pc' hp Wd hfr hlo hlen hst hW hsz hc hs (fun T' h' Y hq => ?_)
  subst hq
  exact k T' Y
theorem callVI (w : Wk p l e R s m args below meth c n0 Z own nm bc ml rt Q G) (X : Sd p l e R s m args below meth c n0 T h cells slots) {y z : MethodName} {ybc : ByteArray} {yml : Nat} {yrt : Option FieldType} {rm : Room} {i : Nat} {sk : List Value} {P : Int32 → Heap → Prop} {a : Addr} {C : String} (av : List Value) (w1 : (Cond.methodLink own i y).before a0 Z = true) (w2 : (Cond.declares y).before a0 Z = true) (hnf : NotFace s y) (w5 : (Cond.selects C y z).before a0 Z = true) (w6 : (Cond.instanceMethod z).before a0 Z = true) (w3 : (Cond.initialized z.cls).before a0 Z = true) (w4 : (Cond.code z ybc yml yrt).before a0 Z = true) (hy : y.cls ≠ "java/lang/invoke/MethodHandle" ∧ y.cls ≠ "java/lang/invoke/VarHandle") (E : Exa Z h a C) (hM : Met l Z z ybc yml yrt [] rm (.ref a :: av).toArray h n0 (RI P)) (hd : decode bc pc = .ok (.invokevirtual i, 3)) (pc' : Nat) (hp : pc + 3 = pc') (Wd : Nat) (hfr : rm.frames + 1 ≤ R.frames) (hlo : Wd + (yml + 11) + rm.locals ≤ R.locals) (hlen : ∀ sig, parseMethodDescriptor y.desc = some sig → av.length = sig.parameters.length) (hst : sk = av.reverse ++ .ref a :: st) (hW : (st.map fun v => v.category).sum ≤ Wd) (hsz : ls.size = ml) (hc : cells + rm.cells ≤ R.cells) (hs : slots + rm.slots ≤ R.slots) (k : ∀ (r : Int32) (T' : State) (h' : Heap), Sd p l e R s m args below meth c n0 T' h' (cells + rm.cells) (slots + rm.slots) → P r h' → G (T'.setTop (mkF m pc' ls (.int r :: st)))) : G (T.setTop (mkF m pc ls sk)) := by
  refine callV w X av w1 w2 hnf w5 w6 w3 w4 hy E hM hd pc' hp Wd hfr hlo hlen hst hW hsz hc hs (fun v T' h' Y hq => ?_)
  obtain ⟨r, rfl, hr⟩ := hq
  exact k r T' h' Y hr
theorem callVPI (w : Wk p l e R s m args below meth c n0 Z own nm bc ml rt Q G) (X : Sd p l e R s m args below meth c n0 T h cells slots) {y z : MethodName} {ybc : ByteArray} {yml : Nat} {yrt : Option FieldType} {rm : Room} {i : Nat} {sk : List Value} {P : Int32 → Prop} {a : Addr} {C : String} (av : List Value) (w1 : (Cond.methodLink own i y).before a0 Z = true) (w2 : (Cond.declares y).before a0 Z = true) (hnf : NotFace s y) (w5 : (Cond.selects C y z).before a0 Z = true) (w6 : (Cond.instanceMethod z).before a0 Z = true) (w3 : (Cond.initialized z.cls).before a0 Z = true) (w4 : (Cond.code z ybc yml yrt).before a0 Z = true) (hy : y.cls ≠ "java/lang/invoke/MethodHandle" ∧ y.cls ≠ "java/lang/invoke/VarHandle") (E : Exa Z h a C) (hM : Met l Z z ybc yml yrt [] rm (.ref a :: av).toArray h n0 (RI fun r h' => h' = h ∧ P r)) (hd : decode bc pc = .ok (.invokevirtual i, 3)) (pc' : Nat) (hp : pc + 3 = pc') (Wd : Nat) (hfr : rm.frames + 1 ≤ R.frames) (hlo : Wd + (yml + 11) + rm.locals ≤ R.locals) (hlen : ∀ sig, parseMethodDescriptor y.desc = some sig → av.length = sig.parameters.length) (hst : sk = av.reverse ++ .ref a :: st) (hW : (st.map fun v => v.category).sum ≤ Wd) (hsz : ls.size = ml) (hc : cells + rm.cells ≤ R.cells) (hs : slots + rm.slots ≤ R.slots) (k : ∀ (r : Int32) (T' : State), Sd p l e R s m args below meth c n0 T' h (cells + rm.cells) (slots + rm.slots) → P r → G (T'.setTop (mkF m pc' ls (.int r :: st)))) : G (T.setTop (mkF m pc ls sk)) := by
  refine callVI w X av w1 w2 hnf w5 w6 w3 w4 hy E hM hd pc' hp Wd hfr hlo hlen hst hW hsz hc hs (fun r T' h' Y hq => ?_)
  obtain ⟨q, hr⟩ := hq
  subst q
  exact k r T' Y hr
end Law
/-! numbers, for omega -/
theorem k_mask (x m : Int32) (k : Nat) (P : Int) (hk : k ≤ 31) (hm : m.toBitVec.toNat = 2 ^ k - 1) (hP : ((2 ^ k : Nat) : Int) = P) : (x &&& m).toInt = x.toInt % P := by rw [c_mask x m k hk hm, hP]
/-- an array of ints, bytes or chars with these elements -/
def PA (Z : State) (h : Heap) (a : Addr) (ty : FieldType) (bs : List Int32) : Prop :=
  ∃ c : Cell, Arr Z h a c ty ∧ c.slots.size = bs.length ∧ bs.length < 2147483648 ∧ (∀ i, i < bs.length → c.slots[i]? = some (.int (bs.getD i 0))) ∧ ∀ x ∈ bs, fits ty (.int x) = true
section Arrays
variable {p : Program} {l : Launch} {e : Env} {R : Room} {s : State} {m : MethodId} {args : Array Value} {below : List Frame} {meth : Method} {c : Code} {n0 : Nat} {T : State} {h h' : Heap} {cells slots : Nat} {Z : State} {a0 : Array Value} {own nm : String} {bc : ByteArray} {ml : Nat} {rt : Option FieldType} {Q : Option Value → Heap → Prop} {G : State → Prop}
variable {pc : Nat} {ls : Array Slot} {st : List Value} {a b : Addr} {ty : FieldType} {bs : List Int32} {j : Int32} {v : Value} {sl : Nat} {ws : List Addr}
theorem PA.lt (F : PA Z h a ty bs) : a < h.size := by obtain ⟨c, A, -⟩ := F; exact A.lt
theorem PA.ext (F : PA Z h a ty bs) (E : Ext h h') : PA Z h' a ty bs := by obtain ⟨c, A, r⟩ := F; exact ⟨c, A.ext E, r⟩
theorem PA.other (F : PA Z h b ty bs) (W : Wr h h' a sl v) (q : b ≠ a) : PA Z h' b ty bs := by obtain ⟨c, A, r⟩ := F; exact ⟨c, A.other W q, r⟩
theorem PA.keep (F : PA Z h a ty bs) (K : Keep h h' ws) (q : a ∉ ws) : PA Z h' a ty bs := by obtain ⟨c, A, r⟩ := F; exact ⟨c, ⟨K.2.1 a c A.1 q, A.2⟩, r⟩
theorem PA.fit (F : PA Z h a ty bs) : ∀ x ∈ bs, fits ty (.int x) = true := by obtain ⟨c, A, r⟩ := F; exact r.2.2.2
theorem PA.new {cA : ClassId} {n : Int32} (ty : FieldType) (hty : defaultValue ty = .int 0) (hf : fits ty (.int 0) = true) (k : Nat) (A : Arr Z h a (newA cA ty n) ty) (hn : n.toNatClampNeg = k) : PA Z h a ty (List.replicate k 0) := by
  refine ⟨_, A, by rw [sz_new, hn, List.length_replicate], ?_, fun i hi => ?_, fun x hx => ?_⟩
  · rw [List.length_replicate, ← hn]; have := Int32.toInt_lt n; simp only [Int32.toNatClampNeg]; omega
  · rw [List.length_replicate] at hi
    simp [newA, hn, hi, hty, List.getD_eq_getElem?_getD]
  · rw [List.eq_of_mem_replicate hx]; exact hf
theorem PA.inb {c : Cell} (hlen : c.slots.size = bs.length) (h1 : ¬ j < 0) (h2 : j.toNatClampNeg < bs.length) : ¬ (j < 0 ∨ c.slots.size ≤ j.toNatClampNeg) := fun q => q.elim h1 fun z => absurd h2 (Nat.not_lt.mpr (hlen ▸ z))

theorem baload (w : Wk p l e R s m args below meth c n0 Z own nm bc ml rt Q G) (X : Sd p l e R s m args below meth c n0 T h cells slots) (F : PA Z h a .byte bs) (h1 : ¬ j < 0) (i : Nat) (hi : j.toNatClampNeg = i) (h2 : i < bs.length) (hd : decode bc pc = .ok (.baload, 1)) (pc' : Nat) (hp : pc + 1 = pc') (z : Int32) (hz : z = bs.getD i 0) (k : G (T.setTop (mkF m pc' ls (.int z :: st)))) : G (T.setTop (mkF m pc ls (.int j :: .ref a :: st))) := by
  obtain ⟨locs, Y, N, eT⟩ := X
  subst hp hz hi
  obtain ⟨cl, A, hl, -, hg, -⟩ := F
  exact w.1 _ _ (fun t q => Y.baloadBytes w.2.1 (j := j) (v := .int (bs.getD j.toNatClampNeg 0)) (by rw [eT]; exact A.1) (State.isArrayOf_alike w.2.2.2.2.1.alike A.2.1) A.2.2 (PA.inb hl h1 h2) (hg _ h2) (g := mkF m pc ls (.int j :: .ref a :: st)) rfl rfl (hb w.2.2.1 hd) t q) k
theorem bastore (w : Wk p l e R s m args below meth c n0 Z own nm bc ml rt Q G) (X : Sd p l e R s m args below meth c n0 T h cells slots) {x : Int32} (F : PA Z h a .byte bs) (h1 : ¬ j < 0) (i : Nat) (hi : j.toNatClampNeg = i) (h2 : i < bs.length) (ha : n0 ≤ a) (hd : decode bc pc = .ok (.bastore, 1)) (pc' : Nat) (hp : pc + 1 = pc') (z : Int32) (hz : z = (nar .byte x))
    (k : ∀ (T' : State) (h' : Heap), Sd p l e R s m args below meth c n0 T' h' cells slots → Wr h h' a i (.int z) → PA Z h' a .byte (bs.set i z) → G (T'.setTop (mkF m pc' ls st))) : G (T.setTop (mkF m pc ls (.int x :: .int j :: .ref a :: st))) := by
  obtain ⟨locs, Y, N, eT⟩ := X
  subst hp hz hi
  obtain ⟨cl, A, hl, hl2, hg, hf⟩ := F
  obtain ⟨T', h', Y', e', W', q⟩ := stB Y w.2.1 w.2.2.2.2.1 eT A (j := j) (PA.inb hl h1 h2) (g := mkF m pc ls (.int x :: .int j :: .ref a :: st)) rfl rfl (hb w.2.2.1 hd)
  refine w.1 _ _ q (k T' h' ⟨_, Y', Fr.snoc Y' N ha, e'⟩ W' ⟨_, A.same W', by rw [sz_set, List.length_set]; exact hl, by rw [List.length_set]; exact hl2, fun i hi => ?_, fun y hy => ?_⟩)
  · rw [List.length_set] at hi
    by_cases u : j.toNatClampNeg = i
    · subst u; simp [Cell.setSlot, hl, hi, List.getD_eq_getElem?_getD]
    · have := hg i hi
      simp only [Cell.setSlot, List.getD_eq_getElem?_getD] at this ⊢
      rw [Array.getElem?_setIfInBounds_ne u, List.getElem?_set_ne u]; exact this
  · rcases List.mem_or_eq_of_mem_set hy with y1 | rfl
    · exact hf y y1
    · exact (fits_nar_byte x)
theorem arraylength (w : Wk p l e R s m args below meth c n0 Z own nm bc ml rt Q G) (X : Sd p l e R s m args below meth c n0 T h cells slots) (F : PA Z h a ty bs) (hd : decode bc pc = .ok (.arraylength, 1)) (pc' : Nat) (hp : pc + 1 = pc') (z : Int32) (hz : z = Int32.ofNat bs.length) (k : G (T.setTop (mkF m pc' ls (.int z :: st)))) : G (T.setTop (mkF m pc ls (.ref a :: st))) := by
  obtain ⟨locs, Y, N, eT⟩ := X
  subst hp hz
  obtain ⟨cl, A, hl, -, -⟩ := F
  refine w.1 _ _ (fun t q => Y.arraylength w.2.1 (by rw [eT]; exact A.1) (State.isArrayOf_alike w.2.2.2.2.1.alike A.2.1) (g := mkF m pc ls (.ref a :: st)) rfl rfl (hb w.2.2.1 hd) t ?_) k
  rw [hl]; exact q
end Arrays
/-- an array of longs whose elements are known -/
def PJ (Z : State) (h : Heap) (a : Addr) (bs : List Int64) : Prop :=
  ∃ c : Cell, Arr Z h a c .long ∧ c.slots.size = bs.length ∧ ∀ i, i < bs.length → c.slots[i]? = some (.long (bs.getD i 0))
/-- an array of one reference -/
def RA (Z : State) (h : Heap) (a x : Addr) : Prop := ∃ (c : Cell) (ty : FieldType), Arr Z h a c ty ∧ ty.isReference = true ∧ c.slots.size = 1 ∧ c.slots[0]? = some (.ref x)
section Arrays2
variable {p : Program} {l : Launch} {e : Env} {R : Room} {s : State} {m : MethodId} {args : Array Value} {below : List Frame} {meth : Method} {c : Code} {n0 : Nat} {T : State} {h h' : Heap} {cells slots : Nat} {Z : State} {a0 : Array Value} {own nm : String} {bc : ByteArray} {ml : Nat} {rt : Option FieldType} {Q : Option Value → Heap → Prop} {G : State → Prop}
variable {pc : Nat} {ls : Array Slot} {st : List Value} {a b x : Addr} {ty : FieldType} {bs : List Int64} {j : Int32} {v : Value} {sl : Nat} {ws : List Addr}
theorem PJ.lt (F : PJ Z h a bs) : a < h.size := by obtain ⟨c, A, -⟩ := F; exact A.lt
theorem PJ.ext (F : PJ Z h a bs) (E : Ext h h') : PJ Z h' a bs := by obtain ⟨c, A, r⟩ := F; exact ⟨c, A.ext E, r⟩
theorem PJ.other (F : PJ Z h b bs) (W : Wr h h' a sl v) (q : b ≠ a) : PJ Z h' b bs := by obtain ⟨c, A, r⟩ := F; exact ⟨c, A.other W q, r⟩
theorem PJ.keep (F : PJ Z h a bs) (K : Keep h h' ws) (q : a ∉ ws) : PJ Z h' a bs := by obtain ⟨c, A, r⟩ := F; exact ⟨c, ⟨K.2.1 a c A.1 q, A.2⟩, r⟩
theorem PJ.new {cA : ClassId} {n : Int32} (k : Nat) (A : Arr Z h a (newA cA .long n) .long) (hn : n.toNatClampNeg = k) : PJ Z h a (List.replicate k 0) := by
  refine ⟨_, A, by rw [sz_new, hn, List.length_replicate], fun i hi => ?_⟩
  rw [List.length_replicate] at hi
  simp [newA, hn, hi, defaultValue, List.getD_eq_getElem?_getD]
theorem RA.lt (F : RA Z h a x) : a < h.size := by obtain ⟨c, ty, A, -⟩ := F; exact A.lt
theorem RA.ext (F : RA Z h a x) (E : Ext h h') : RA Z h' a x := by obtain ⟨c, ty, A, r⟩ := F; exact ⟨c, ty, A.ext E, r⟩
theorem RA.other (F : RA Z h b x) (W : Wr h h' a sl v) (q : b ≠ a) : RA Z h' b x := by obtain ⟨c, ty, A, r⟩ := F; exact ⟨c, ty, A.other W q, r⟩
theorem RA.keep (F : RA Z h a x) (K : Keep h h' ws) (q : a ∉ ws) : RA Z h' a x := by obtain ⟨c, ty, A, r⟩ := F; exact ⟨c, ty, ⟨K.2.1 a c A.1 q, A.2⟩, r⟩
theorem PJ.inb {c : Cell} (hlen : c.slots.size = bs.length) (h1 : ¬ j < 0) (h2 : j.toNatClampNeg < bs.length) : ¬ (j < 0 ∨ c.slots.size ≤ j.toNatClampNeg) := fun q => q.elim h1 fun z => absurd h2 (Nat.not_lt.mpr (hlen ▸ z))
theorem newarrE (w : Wk p l e R s m args below meth c n0 Z own nm bc ml rt Q G) (X : Sd p l e R s m args below meth c n0 T h cells slots) {aty : ArrayType} {n : Int32} {ad : String} (had : "[" ++ (newarray.typeOf aty).toString = ad) (wa : (Cond.arrayClass (newarray.typeOf aty)).before a0 Z = true) (hd : decode bc pc = .ok (.newarray aty, 2)) (pc' : Nat) (hp : pc + 2 = pc') (hn : ¬ n < 0) (cap : Nat) (hcap : n.toNatClampNeg ≤ cap) (hb' : cap * 8 ≤ 536870912) (hc : cells + 1 ≤ R.cells) (hl : slots + cap ≤ R.slots)
    (k : ∀ (T' : State) (h' : Heap) (a : Addr) (cA : ClassId), Sd p l e R s m args below meth c n0 T' h' (cells + 1) (slots + cap) → a = h.size → Ext h h' → Arr Z h' a (newA cA (newarray.typeOf aty) n) (newarray.typeOf aty) → Exa Z h' a ad → G (T'.setTop (mkF m pc' ls (.ref a :: st)))) : G (T.setTop (mkF m pc ls (.int n :: st))) := by
  obtain ⟨locs, Y, N, eT⟩ := X
  subst hp
  obtain ⟨T', h', cA, Y', e', E', A', EE, q⟩ := newPE Y w.2.1 w.2.2.2.2.1 wa eT (g := mkF m pc ls (.int n :: st)) rfl (hb w.2.2.1 hd) rfl hn hcap hb' hc hl had
  exact w.1 _ _ q (k T' h' _ cA ⟨locs, Y', N, e'⟩ rfl E' A' EE)
theorem cloneB (w : Wk p l e R s m args below meth c n0 Z own nm bc ml rt Q G) (X : Sd p l e R s m args below meth c n0 T h cells slots) {ad : String} {i : Nat} {ty : FieldType} {bs : List Int32} (w1 : (Cond.methodLink own i ⟨ad, "clone", "()Ljava/lang/Object;"⟩).before a0 Z = true) (w2 : (Cond.sameMethod ad "java/lang/Object" "clone" "()Ljava/lang/Object;").before a0 Z = true) (w3 : (Cond.native ⟨"java/lang/Object", "clone", "()Ljava/lang/Object;"⟩).before a0 Z = true)
    (w4 : (Cond.instanceMethod ⟨"java/lang/Object", "clone", "()Ljava/lang/Object;"⟩).before a0 Z = true) (w5 : (Cond.selects ad ⟨ad, "clone", "()Ljava/lang/Object;"⟩ ⟨"java/lang/Object", "clone", "()Ljava/lang/Object;"⟩).before a0 Z = true) (w6 : (Cond.castable ad "java/lang/Cloneable").before a0 Z = true) (F : PA Z h a ty bs) (E : Exa Z h a ad) (hd : decode bc pc = .ok (.invokevirtual i, 3)) (pc' : Nat) (hp : pc + 3 = pc') (hsz : ls.size = ml) (hf : 1 ≤ R.frames) (Wd : Nat) (hW : (st.map fun v => v.category).sum ≤ Wd) (hlo : Wd + 14 ≤ R.locals) (cap : Nat) (hcap : bs.length ≤ cap) (hc : cells + 1 ≤ R.cells) (hl : slots + cap ≤ R.slots)
    (k : ∀ (T' : State) (h' : Heap) (b : Addr), Sd p l e R s m args below meth c n0 T' h' (cells + 1) (slots + cap) → b = h.size → Ext h h' → PA Z h' b ty bs → Exa Z h' b ad → G (T'.setTop (mkF m pc' ls (.ref b :: st)))) : G (T.setTop (mkF m pc ls (.ref a :: st))) := by
  obtain ⟨locs, Y, N, eT⟩ := X
  subst hp
  obtain ⟨cl, A, hlen, hl2, hg, hfit⟩ := F
  have FC : FitC Z cl := fitC_of A fun i hi v hv => by
    rw [hg i (by omega)] at hv
    cases hv
    have hi' : i < bs.length := by omega
    exact hfit _ (by rw [List.getD_eq_getElem?_getD, List.getElem?_eq_getElem hi']; exact List.getElem_mem hi')
  obtain ⟨T', h', Y', e', ex, A', E', q⟩ := cloneA Y w.2.1 w.2.2.2.2.1 w.2.2.2.2.2.1 w1 w2 w3 w4 w5 w6 eT A E FC (g := mkF m pc ls (.ref a :: st)) rfl (hsz.trans w.2.2.2.1.symm) rfl (hb w.2.2.1 hd) hf (W := Wd) (by show 2 * 0 + _ ≤ _; omega) hlo (by rw [hlen]; exact hcap) hc hl
  exact w.1 _ _ q (k T' h' _ ⟨locs, Y', N, e'⟩ rfl ex ⟨cloneOf cl, A', hlen, hl2, hg, hfit⟩ E')
end Arrays2
/-- a walk that may load constants: the heap has not shrunk below k0 -/
def QW (k0 : Nat) (Q : Option Value → Heap → Prop) : Option Value → Heap → Prop := fun v h => k0 ≤ h.size ∧ Q v h
/-- what such a walk knows of its true start -/
def WkS (p : Program) (l : Launch) (e : Env) (R : Room) (s0 : State) (m : MethodId) (args : Array Value) (below : List Frame) (meth : Method) (c : Code) (n0 : Nat) (Z : State) (own nm : String) (bc : ByteArray) (ml : Nat) (rt : Option FieldType) (Q : Option Value → Heap → Prop) (G : State → Prop) : Prop :=
  (∀ S S' : State, (∀ t, Steps p.tables e below S' t → Steps p.tables e below S t) → G S' → G S) ∧
  p.tables.exec = Jvm.exec ∧ c.code = bc ∧ c.maxLocals = ml ∧ meth.sig.returnType = rt ∧ meth.name = nm ∧
  (∀ (vm0 : Vm) (k0 : Nat) (T : State) (h : Heap) (cells slots : Nat) (v : Option Value), s0.Since vm0 k0 → k0 ≤ h.size → Sd p l e R (s0.setVm vm0) m args below meth c n0 T h cells slots → cells ≤ R.cells → slots ≤ R.slots → (meth.sig.returnType = none → v = none) → Q v h →
    ∀ S : State, (∀ fs : List Frame, (∀ (f : JFrame) (acts : List Action), f.method = m → f.locked = none → f.entered = [] → (doReturn e (T.setTop f) acts v).1 = T.setFrames fs) → Steps p.tables e below S (T.setFrames fs)) → G S)
section Wide
variable {p : Program} {l : Launch} {e : Env} {R : Room} {s s0 : State} {m : MethodId} {args : Array Value} {below : List Frame} {meth : Method} {c : Code} {n0 k0 : Nat} {T : State} {h : Heap} {cells slots : Nat} {Z : State} {a0 : Array Value} {own nm : String} {bc : ByteArray} {ml : Nat} {rt : Option FieldType} {Q : Option Value → Heap → Prop} {G : State → Prop}
variable {pc : Nat} {ls : Array Slot} {st : List Value}
theorem WkS.wk {vm0 : Vm} (ws : WkS p l e R s0 m args below meth c n0 Z own nm bc ml rt Q G) (hS : s0.Since vm0 k0) (hZ : Z.Warmed39 vm0) (ho : vm0.findClass own = some m.cls) : Wk p l e R (s0.setVm vm0) m args below meth c n0 Z own nm bc ml rt (QW k0 Q) G := by
  obtain ⟨h1, h2, h3, h4, h5, h6, h7⟩ := ws
  exact ⟨h1, h2, h3, h4, hZ, ho, h5, h6, fun T h cells slots v X hc hl hv hQ S hs => h7 vm0 k0 T h cells slots v hS hQ.1 X hc hl hv hQ.2 S hs⟩
end Wide
/-- a walk that reads constants: .. and the constants held stand -/
def QH (Z : State) (EL : List (String × Nat)) (s0 : State) (h0 : Heap) (u : State) (k0 : Nat) (Q : Option Value → Heap → Prop) : Option Value → Heap → Prop := fun v h => k0 ≤ h.size ∧ CHr Z EL s0.vm h0 u.vm h ∧ Q v h
def WkH (p : Program) (l : Launch) (e : Env) (R : Room) (s0 : State) (m : MethodId) (args : Array Value) (below : List Frame) (meth : Method) (c : Code) (n0 : Nat) (Z : State) (own nm : String) (bc : ByteArray) (ml : Nat) (rt : Option FieldType) (EL : List (String × Nat)) (h0 : Heap) (Q : Option Value → Heap → Prop) (G : State → Prop) : Prop :=
  (∀ S S' : State, (∀ t, Steps p.tables e below S' t → Steps p.tables e below S t) → G S' → G S) ∧
  p.tables.exec = Jvm.exec ∧ c.code = bc ∧ c.maxLocals = ml ∧ meth.sig.returnType = rt ∧ meth.name = nm ∧
  (∀ (vm0 : Vm) (k0 : Nat) (T : State) (h : Heap) (cells slots : Nat) (v : Option Value), s0.Since vm0 k0 → Z.Warmed39 vm0 → k0 ≤ h.size → CHr Z EL s0.vm h0 vm0 h → Sd p l e R (s0.setVm vm0) m args below meth c n0 T h cells slots → cells ≤ R.cells → slots ≤ R.slots → (meth.sig.returnType = none → v = none) → Q v h →
    ∀ S : State, (∀ fs : List Frame, (∀ (f : JFrame) (acts : List Action), f.method = m → f.locked = none → f.entered = [] → (doReturn e (T.setTop f) acts v).1 = T.setFrames fs) → Steps p.tables e below S (T.setFrames fs)) → G S)
def IvH (p : Program) (l : Launch) (e : Env) (R : Room) (s0 : State) (m : MethodId) (args : Array Value) (below : List Frame) (meth : Method) (c : Code) (n0 : Nat) (Z : State) (own nm : String) (bc : ByteArray) (ml : Nat) (rt : Option FieldType) (EL : List (String × Nat)) (h0 : Heap) (Q : Option Value → Heap → Prop) (G : State → Prop) (u : State) (k0 : Nat) : Prop :=
  WkH p l e R s0 m args below meth c n0 Z own nm bc ml rt EL h0 Q G ∧ ∃ vm0 : Vm, u = s0.setVm vm0 ∧ s0.Since vm0 k0 ∧ Z.Warmed39 vm0 ∧ vm0.findClass own = some m.cls
abbrev MetH (EL : List (String × Nat)) (l : Launch) (Z : State) (x : MethodName) (bc : ByteArray) (ml : Nat) (rt : Option FieldType) (ws : List Jvm.Cond) (rm : Room) (av : Array Value) (h : Heap) (n0 : Nat) (Q : Option Value → Heap → Prop) : Prop :=
  MetFree l x (head1 (Jvm.Cond.code x bc ml rt :: ws) rm) (fun a U => a = av ∧ Z.Warmed39 U.vm ∧ U.heap = h ∧ CHv Z EL U.vm h) (fun _ _ _ _ _ => True) (fun _ U o U' => ∃ v L, o = .returned v ∧ (Q v U'.heap ∧ Fr n0 L) ∧ CHr Z EL U.vm U.heap U'.vm U'.heap ∧ ReturnedEndW U o U' L rm.cells rm.slots)
section Held
variable {p : Program} {l : Launch} {e : Env} {R : Room} {s s0 : State} {m : MethodId} {args : Array Value} {below : List Frame} {meth : Method} {c : Code} {n0 k0 : Nat} {T : State} {h h0 : Heap} {cells slots : Nat} {Z : State} {a0 : Array Value} {own nm : String} {bc : ByteArray} {ml : Nat} {rt : Option FieldType} {EL : List (String × Nat)} {Q : Option Value → Heap → Prop} {G : State → Prop}
variable {pc : Nat} {ls : Array Slot} {st : List Value}
theorem WkH.wk {vm0 : Vm} (ws : WkH p l e R s0 m args below meth c n0 Z own nm bc ml rt EL h0 Q G) (hS : s0.Since vm0 k0) (hZ : Z.Warmed39 vm0) (ho : vm0.findClass own = some m.cls) : Wk p l e R (s0.setVm vm0) m args below meth c n0 Z own nm bc ml rt (QH Z EL s0 h0 (s0.setVm vm0) k0 Q) G := by
  obtain ⟨h1, h2, h3, h4, h5, h6, h7⟩ := ws
  exact ⟨h1, h2, h3, h4, hZ, ho, h5, h6, fun T h cells slots v X hc hl hv hQ S hs => h7 vm0 k0 T h cells slots v hS hZ hQ.1 hQ.2.1 X hc hl hv hQ.2.2 S hs⟩
theorem startH {x : MethodName} {ws : List Jvm.Cond} {rm : Room} {av : Array Value} (hEL : EW Z a0 EL) (hpl : plainFor x = true) (hef : ∀ m, entryFrame m av ml = mkF m 0 ls [])
    (body : ∀ (p : Program) (e : Env) (s0 : State) (m : MethodId) (below : List Frame) (meth : Method) (c : Code) (T : State) (G : State → Prop) (s : State) (k0 : Nat), Wk p l e rm s m av below meth c n0 Z x.cls x.name bc ml rt (QH Z EL s0 h s k0 Q) G → Sd p l e rm s m av below meth c n0 T h 0 0 → IvH p l e rm s0 m av below meth c n0 Z x.cls x.name bc ml rt EL h Q G s k0 → k0 ≤ h.size → CHr Z EL s0.vm h s.vm h → G (T.setTop (mkF m 0 ls []))) :
    MetH EL l Z x bc ml rt ws rm av h n0 Q := by
  refine MetFree.of_bodySF hpl hisR ?_
  intro p e s m args below meth c s₁ Bd hml0 hP hK
  obtain ⟨rfl, hZ, hh, hC⟩ := hP
  have X0 : Stand p l e rm s m args below meth c s₁ [] 0 0 := Stand.of_body Bd
  have e0 : s₁.heap = h := by rw [← hh, Bd.state]; rfl
  have ho := findClass_of_methodNamed Bd.named
  rw [hef m]
  have W0 : WkH p l e rm s m args below meth c n0 Z x.cls x.name bc ml rt EL h Q (fun S => ∃ s₂ o, Steps p.tables e below S s₂ ∧ s₂.status = .running ∧ Ended s₂ below o ∧ ∃ v L, o = .returned v ∧ (Q v s₂.heap ∧ Fr n0 L) ∧ CHr Z EL s.vm s.heap s₂.vm s₂.heap ∧ ReturnedEndW s o s₂ L rm.cells rm.slots) := by
    refine ⟨fun S S' hs hg => ?_, Bd.exec, Bd.bytes, hml0, Bd.returns, (name_of_methodNamed Bd.named Bd.method).1, ?_⟩
    · obtain ⟨s2, o, h1, h2⟩ := hg
      exact ⟨s2, o, hs _ h1, h2⟩
    · intro vm0 k0 T h1 cells slots v hS hZ2 hk hC2 ⟨locs, X, N, eT⟩ hc hl hv hQ S hS2
      subst eT
      obtain ⟨fs, hr, hrun, hended, hW⟩ := X.leaveW hS hk (v := v) hv Bd.notSynchronized
      have hE := CHv.at X hZ2 hEL hC2.1
      exact ⟨_, _, hS2 fs hr, hrun, hended, v, locs, rfl, ⟨hQ, N⟩, by rw [hh]; exact hC2.trans hE, hW.1, hW.2.1, hW.2.2.1, hW.2.2.2.mono hc hl⟩
  have hS0 : s.Since s.vm 0 := (State.WarmedH.refl s).since 0
  exact body p e s m below meth c s₁ _ s 0 (W0.wk (vm0 := s.vm) hS0 hZ ho) ⟨[], X0, Fr.nil n0, e0⟩ ⟨W0, s.vm, rfl, hS0, hZ, ho⟩ (Nat.zero_le _) (CHr.refl hC)
theorem PA.ofArv {b : Addr} {k : ClassId} {ty : FieldType} {z : Int32} {bs : List Int32} (A : Arv Z h b k ty z (bs.map Value.int) (.int 0)) (hz : z.toNatClampNeg = bs.length) : PA Z h b ty bs := by
  obtain ⟨c, A, -, S, -, H, F⟩ := A
  have gd : ∀ i : Nat, (bs.map Value.int).getD i (.int 0) = .int (bs.getD i 0) := fun i => by
    simp only [List.getD_eq_getElem?_getD, List.getElem?_map]; cases bs[i]? <;> rfl
  have S' : c.slots.size = bs.length := S.trans hz
  refine ⟨c, A, S', ?_, fun i hi => by rw [H i (by omega), gd], fun x hx => ?_⟩
  · rw [← hz]; have := Int32.toInt_lt z; simp only [Int32.toNatClampNeg]; omega
  · obtain ⟨i, hi, rfl⟩ := List.mem_iff_getElem.mp hx
    have := F i (by omega)
    rw [gd] at this
    simpa [List.getD_eq_getElem?_getD, hi] using this
theorem Sta.keepN {h' : Heap} {ws : List Addr} {C n d : String} {w : Value} (F : Sta Z h C n d w) (K : Keep h h' ws) (q : ∀ x ∈ ws, ∀ cl : Cell, h[x]? = some cl → cl.vm.isStatics = false) : Sta Z h' C n d w := by
  obtain ⟨cf, i, k, f, st, cell, h1, h2, h3, h4, h5, h6, r⟩ := F
  refine ⟨cf, i, k, f, st, cell, h1, h2, h3, h4, K.2.1 _ _ h5 (fun hm => ?_), h6, r⟩
  rw [q _ hm _ h5] at h6
  cases h6
theorem Exa.nost {x : Addr} {C : String} (E : Exa Z h x C) : ∀ cl : Cell, h[x]? = some cl → cl.vm.isStatics = false := fun cl hc => by
  obtain ⟨cell, k, e1, -, -, e2, -⟩ := E
  cases e1.symm.trans hc
  exact e2
theorem ldcHt (w : Wk p l e R s m args below meth c n0 Z own nm bc ml rt (QH Z EL s0 h0 s k0 Q) G) (X : Sd p l e R s m args below meth c n0 T h cells slots) (ws : IvH p l e R s0 m args below meth c n0 Z own nm bc ml rt EL h0 Q G s k0) (zk : k0 ≤ h.size) (hC : CHr Z EL s0.vm h0 s.vm h) {text : String} {i : Nat} (hEL : EW Z a0 EL) (hmem : (own, i) ∈ EL) (wl : (Cond.stringLink own i text).before a0 Z = true) (wS : ∀ a ∈ Bundle.stringAtoms, a.before a0 Z = true) (bs : List Int32) (ht : (∀ c ∈ text.toList, c.toNat < 256) ∧ text.toList.map (fun c => Value.int (Jvm.Lit.byteI c.toNat.toUInt16)) = bs.map Value.int) (z : Int32) (hz : ¬ z < 0) (hzl : z.toNatClampNeg = bs.length) (hd : decode bc pc = .ok (.ldc i, 2)) (pc' : Nat) (hp : pc + 2 = pc') (n : Nat) (hn : 4 * text.toList.length ≤ n) (hbig : n ≤ 536870912) (hc : cells + 2 ≤ R.cells) (hl : slots + (n + 4) ≤ R.slots)
    (k : ∀ (s : State) (k0 : Nat) (T' : State) (h' : Heap) (a b : Addr), Wk p l e R s m args below meth c n0 Z own nm bc ml rt (QH Z EL s0 h0 s k0 Q) G → Sd p l e R s m args below meth c n0 T' h' (cells + 2) (slots + (n + 4)) → IvH p l e R s0 m args below meth c n0 Z own nm bc ml rt EL h0 Q G s k0 → k0 ≤ h'.size → CHr Z EL s0.vm h0 s.vm h' → Ext h h' → Exa Z h' a "java/lang/String" → Fld Z h' a "java/lang/String" "coder" "B" (.int 0) → Fld Z h' a "java/lang/String" "value" "[B" (.ref b) → PA Z h' b .byte bs → (∀ x, Safe Z EL s.vm h' x → x ≠ a ∧ x ≠ b) → G (T'.setTop (mkF m pc' ls (.ref a :: st)))) : G (T.setTop (mkF m pc ls st)) := by
  obtain ⟨hws, vm0, rfl, hS, hZ, ho⟩ := ws
  obtain ⟨locs, Y, N, eT⟩ := X
  subst hp
  obtain ⟨a, T', h', k1, b, kk, Y', e', E', hS', hk', hZ', ho', g1, g2, g3, g4, -, -, g5, -, g6, q⟩ := ldcCH Y w.2.1 hZ ho wl wS eT hS zk hEL hmem hC.1 ht hz (by rw [List.length_map]; exact hzl) (g := mkF m pc ls st) rfl (hb w.2.2.1 hd) hn hbig hc hl
  exact w.1 _ _ q (k _ k1 T' h' a b (hws.wk hS' hZ' ho') ⟨locs, Y', N, e'⟩ ⟨hws, T'.vm, rfl, hS', hZ', ho'⟩ hk' (hC.trans g5) E' g1 g2 g3 (PA.ofArv g4 hzl) g6)
theorem callSH (w : Wk p l e R s m args below meth c n0 Z own nm bc ml rt (QH Z EL s0 h0 s k0 Q) G) (X : Sd p l e R s m args below meth c n0 T h cells slots) (ws : IvH p l e R s0 m args below meth c n0 Z own nm bc ml rt EL h0 Q G s k0) (zk : k0 ≤ h.size) (hC : CHr Z EL s0.vm h0 s.vm h) (hEL : EW Z a0 EL) {y : MethodName} {ybc : ByteArray} {yml : Nat} {yrt : Option FieldType} {rm : Room} {i : Nat} {sk : List Value} {Qy : Option Value → Heap → Prop} (av : List Value) (w1 : (Cond.methodLink own i y).before a0 Z = true) (w2 : (Cond.static y).before a0 Z = true) (w3 : (Cond.initialized y.cls).before a0 Z = true) (w4 : (Cond.code y ybc yml yrt).before a0 Z = true) (hy : y.cls ≠ "java/lang/invoke/MethodHandle" ∧ y.cls ≠ "java/lang/invoke/VarHandle") (hM : MetH EL l Z y ybc yml yrt [] rm av.toArray h n0 Qy) (hd : decode bc pc = .ok (.invokestatic i, 3)) (pc' : Nat) (hp : pc + 3 = pc') (Wd : Nat) (hfr : rm.frames + 1 ≤ R.frames) (hlo : Wd + (yml + 11) + rm.locals ≤ R.locals) (hlen : ∀ sig, parseMethodDescriptor y.desc = some sig → av.length = sig.parameters.length) (hst : sk = av.reverse ++ st) (hW : (st.map fun v => v.category).sum ≤ Wd) (hsz : ls.size = ml) (hc : cells + rm.cells ≤ R.cells) (hs : slots + rm.slots ≤ R.slots) (k : ∀ (s : State) (k0 : Nat) (v : Option Value) (T' : State) (h' : Heap), Wk p l e R s m args below meth c n0 Z own nm bc ml rt (QH Z EL s0 h0 s k0 Q) G → Sd p l e R s m args below meth c n0 T' h' (cells + rm.cells) (slots + rm.slots) → IvH p l e R s0 m args below meth c n0 Z own nm bc ml rt EL h0 Q G s k0 → k0 ≤ h'.size → CHr Z EL s0.vm h0 s.vm h' → Qy v h' → G (T'.setTop (mkF m pc' ls (v.toList ++ st)))) : G (T.setTop (mkF m pc ls sk)) := by
  obtain ⟨hws, vm0, rfl, hS, hZ, ho⟩ := ws
  obtain ⟨locs, Y, N, eT⟩ := X
  subst hp hst
  obtain ⟨v, _, ⟨T', L', k', n'⟩, -, Y', hS2, hg2, ⟨Lc, ⟨hQ, NL⟩, l1, y1, z1, c1⟩, q⟩ := callSS Y w.2.1 (y := y) ho (mvT hZ w1) (mvT hZ w2) (mvT hZ w3) (mvT hZ w4) hy (backOfSH (W := Wd) (Q := fun v h' L => Qy v h' ∧ Fr n0 L) hM hZ w4 w3 hfr hlo hEL hC.1) (g := mkF m pc ls (av.reverse ++ st)) rfl (hsz.trans w.2.2.2.1.symm) (argsL := av) (rest := st) hlen rfl (by show 2 * 0 + _ ≤ _; omega) (hb w.2.2.1 hd) (fun _ _ => ⟨rfl, eT, hc, hs⟩)
  dsimp only [Pt.U, Pt.locs, Pt.cells, Pt.slots] at Y' l1 y1 z1 q hQ hS2 hg2 c1
  subst l1 y1 z1
  obtain ⟨Y2, hS', hZ', ho'⟩ := rebS hS (Nat.le_trans zk (Nat.le_of_eq (by rw [eT]))) Y' hS2 hg2 hZ ho
  exact w.1 _ _ (fun t z => q.trans z) (k _ _ v T' _ (hws.wk hS' hZ' ho') ⟨_, Y2, Fr.app N NL, rfl⟩ ⟨hws, T'.vm, rfl, hS', hZ', ho'⟩ (Nat.le_refl _) (hC.trans c1) hQ)
theorem callVH (w : Wk p l e R s m args below meth c n0 Z own nm bc ml rt (QH Z EL s0 h0 s k0 Q) G) (X : Sd p l e R s m args below meth c n0 T h cells slots) (ws : IvH p l e R s0 m args below meth c n0 Z own nm bc ml rt EL h0 Q G s k0) (zk : k0 ≤ h.size) (hC : CHr Z EL s0.vm h0 s.vm h) (hEL : EW Z a0 EL) {y z : MethodName} {ybc : ByteArray} {yml : Nat} {yrt : Option FieldType} {rm : Room} {i : Nat} {sk : List Value} {Qy : Option Value → Heap → Prop} {C : String} {a : Addr} (av : List Value) (w1 : (Cond.methodLink own i y).before a0 Z = true) (w2 : (Cond.declares y).before a0 Z = true) (hnf : NotFace s y) (w5 : (Cond.selects C y z).before a0 Z = true) (w6 : (Cond.instanceMethod z).before a0 Z = true) (w3 : (Cond.initialized z.cls).before a0 Z = true) (w4 : (Cond.code z ybc yml yrt).before a0 Z = true) (hy : y.cls ≠ "java/lang/invoke/MethodHandle" ∧ y.cls ≠ "java/lang/invoke/VarHandle") (E : Exa Z h a C) (hM : MetH EL l Z z ybc yml yrt [] rm (.ref a :: av).toArray h n0 Qy) (hd : decode bc pc = .ok (.invokevirtual i, 3)) (pc' : Nat) (hp : pc + 3 = pc') (Wd : Nat) (hfr : rm.frames + 1 ≤ R.frames) (hlo : Wd + (yml + 11) + rm.locals ≤ R.locals) (hlen : ∀ sig, parseMethodDescriptor y.desc = some sig → av.length = sig.parameters.length) (hst : sk = av.reverse ++ .ref a :: st) (hW : (st.map fun v => v.category).sum ≤ Wd) (hsz : ls.size = ml) (hc : cells + rm.cells ≤ R.cells) (hs : slots + rm.slots ≤ R.slots) (k : ∀ (s : State) (k0 : Nat) (v : Option Value) (T' : State) (h' : Heap), Wk p l e R s m args below meth c n0 Z own nm bc ml rt (QH Z EL s0 h0 s k0 Q) G → Sd p l e R s m args below meth c n0 T' h' (cells + rm.cells) (slots + rm.slots) → IvH p l e R s0 m args below meth c n0 Z own nm bc ml rt EL h0 Q G s k0 → k0 ≤ h'.size → CHr Z EL s0.vm h0 s.vm h' → Qy v h' → G (T'.setTop (mkF m pc' ls (v.toList ++ st)))) : G (T.setTop (mkF m pc ls sk)) := by
  obtain ⟨hws, vm0, rfl, hS, hZ, ho⟩ := ws
  obtain ⟨locs, Y, N, eT⟩ := X
  subst hp hst
  obtain ⟨cq, kq, qa, qb, qc⟩ := isOf (s := s0.setVm vm0) hZ eT E
  obtain ⟨v, _, ⟨T', L', k', n'⟩, -, Y', hS2, hg2, ⟨Lc, ⟨hQ, NL⟩, l1, y1, z1, c1⟩, q⟩ := Y.virtualBackS w.2.1 (y := y) (z := z) ho (mvT hZ w1) (mvT hZ w2) hnf (mvT hZ w5) (mvT hZ w6) hy (backOfSH (W := Wd) (Q := fun v h' L => Qy v h' ∧ Fr n0 L) hM hZ w4 w3 hfr hlo hEL hC.1) qa qc (g := mkF m pc ls (av.reverse ++ .ref a :: st)) rfl (hsz.trans w.2.2.2.1.symm) (Steps.refl _) (argsL := av) (rest := st) hlen rfl (by show 2 * 0 + _ ≤ _; omega) (hb w.2.2.1 hd) (fun _ _ => ⟨rfl, eT, hc, hs⟩)
  dsimp only [Pt.U, Pt.locs, Pt.cells, Pt.slots] at Y' l1 y1 z1 q hQ hS2 hg2 c1
  subst l1 y1 z1
  obtain ⟨Y2, hS', hZ', ho'⟩ := rebS hS (Nat.le_trans zk (Nat.le_of_eq (by rw [eT]))) Y' hS2 hg2 hZ ho
  exact w.1 _ _ (fun t z => q.trans z) (k _ _ v T' _ (hws.wk hS' hZ' ho') ⟨_, Y2, Fr.app N NL, rfl⟩ ⟨hws, T'.vm, rfl, hS', hZ', ho'⟩ (Nat.le_refl _) (hC.trans c1) hQ)
end Held
end Jvm.Own
namespace Jvm.Pilot.@@N@@
open Jvm Jvm.ClassFile Sem Op Lib Jvm.Free Jvm.Stand Jvm.LawKit Jvm.RoadKit Jvm.Own Bundle Jvm.Pilot.@@N@@.Jvm.D
/-- the sign at a place of a Latin-1 string -/
def own_ch (bs : List Int32) (i : Nat) : Int32 := nar .char (((bs.getD i 0) &&& 255).toUInt32.toUInt16.toUInt32.toInt32)
theorem own_shr0 (x : Int32) : x >>> ((0 : Int32) &&& 31) = x := by
  rw [show ((0 : Int32) &&& 31) = 0 from rfl]
  apply Int32.toBitVec_inj.mp
  rw [Int32.toBitVec_shiftRight]
  simp
theorem own_nar_ch (bs : List Int32) (i : Nat) : nar .char (own_ch bs i) = own_ch bs i := by
  unfold own_ch nar
  simp only [UInt32.toUInt32_toInt32, UInt16.toUInt16_toUInt32]
def own_sp1 (v : Int32) : Int32 := if v = 32 ∨ v = 9 then 1 else 0
def own_sp2 (v : Int32) : Int32 := if v = 32 ∨ v = 9 ∨ v = 13 then 1 else 0
def own_dg (v : Int32) : Int32 := if v < 48 ∨ 57 < v then 0 else 1
def own_cp (v : Int32) : Int32 := if v < 65 ∨ 90 < v then 0 else 1
def own_lw (v : Int32) : Int32 := if v < 97 ∨ 122 < v then 0 else 1
def own_lt (v : Int32) : Int32 := if own_cp v = 0 ∧ own_lw v = 0 then 0 else 1
def own_ct (v : Int32) : Int32 := if v &&& 192 = 128 then 1 else 0
def own_pad (i k : Int32) : Int32 := if i < 8 - k then 10 else 32
def own_ev1 (e b : Int32) : Int32 := if e = 1 then 1 else b
def own_ev2 (e b : Int32) : Int32 := if e = 2 then 1 else b
def own_cs (o bl pb wd ww : Int32) : Int32 := if ¬ o = 0 ∧ (bl = 0 ∨ ¬ pb = 0) ∧ 60 < wd + 1 + ww then 1 else 0
theorem own_i (j : Nat) (h : j ≤ 40) : (Int32.ofNat j).toInt = j := Int32.toInt_ofNat_of_lt (by omega)
theorem own_s (j : Nat) : Int32.ofNat j + (1 : Int32) = Int32.ofNat (j + 1) := by rw [Int32.ofNat_add]; rfl
theorem own_ix (j : Nat) (h : j ≤ 40) : ¬ Int32.ofNat j < 0 ∧ (Int32.ofNat j).toNatClampNeg = j := by
  have e := own_i j h
  refine ⟨?_, ?_⟩
  · rw [Int32.lt_iff_toInt_lt, e]
    have : (0 : Int32).toInt = 0 := rfl
    omega
  · simp only [Int32.toNatClampNeg, e]; rfl
theorem own_lt12 {j : Nat} (h : j < 12) : Int32.ofNat j < 12 := by
  rw [Int32.lt_iff_toInt_lt, own_i j (by omega)]
  have : (12 : Int32).toInt = 12 := rfl
  omega
theorem own_ltN {j : Nat} (h : j ≤ 40) (hc : Int32.ofNat j < 12) : j < 12 := by
  rw [Int32.lt_iff_toInt_lt, own_i j h] at hc
  have : (12 : Int32).toInt = 12 := rfl
  omega
theorem own_lt19 {j : Nat} (h : j ≤ 40) (hc : Int32.ofNat j < 19) : j < 19 := by
  rw [Int32.lt_iff_toInt_lt, own_i j h] at hc
  have : (19 : Int32).toInt = 19 := rfl
  omega
theorem own_nlt12 {j : Nat} (h : j ≤ 12) (hc : ¬ Int32.ofNat j < 12) : j = 12 := by
  rw [Int32.lt_iff_toInt_lt, own_i j (by omega)] at hc
  have : (12 : Int32).toInt = 12 := rfl
  omega
theorem own_stop {bs : List Int32} {kk j : Nat} {x r : Int32} (hpad : ∀ i, 8 - kk ≤ i → i < 8 → bs.getD i 0 = 32) (hj : 8 - kk ≤ j ∧ j ≤ 8) (hx : x = bs.getD j 0) (hr : r = own_sp1 x) (hc : r = 0) : j = 8 := by
  rcases (by omega : j < 8 ∨ j = 8) with q | q
  · rw [hr, hx, hpad j hj.1 q] at hc
    exact absurd hc (by decide)
  · exact q
theorem own_more {bs : List Int32} {kk j : Nat} {x r : Int32} (h8 : own_sp1 (bs.getD 8 0) = 0) (hj : 8 - kk ≤ j ∧ j ≤ 8) (hx : x = bs.getD j 0) (hr : r = own_sp1 x) (hc : ¬ r = 0) : j < 8 := by
  rcases (by omega : j < 8 ∨ j = 8) with q | rfl
  · exact q
  · exact absurd (hr.trans ((congrArg own_sp1 hx).trans h8)) hc
theorem own_nb {x : Int32} (h : fits .byte (.int x) = true) : nar .byte x = x := by
  simp only [fits, Bool.and_eq_true, decide_eq_true_eq, Int32.le_iff_toInt_le, show (-128 : Int32).toInt = -128 from by decide, show (127 : Int32).toInt = 127 from by decide] at h
  apply Int32.toInt_inj.mp
  have := c_i2b x
  show (x.toInt8.toInt32).toInt = x.toInt
  omega
theorem own_gm {bs : List Int32} {i : Nat} (h : i < bs.length) : bs.getD i 0 ∈ bs := by
  rw [List.getD_eq_getElem?_getD, List.getElem?_eq_getElem h]; exact List.getElem_mem h
theorem own_hct {bs : List Int32} {kk : Nat} (hpad : ∀ i, 8 - kk ≤ i → i < 8 → bs.getD i 0 = 32) (a8 : ¬ bs.getD 8 0 = 9 ∧ own_ct (bs.getD 8 0) = 0) (a9 : ¬ bs.getD 9 0 = 9 ∧ own_ct (bs.getD 9 0) = 0) (a10 : ¬ bs.getD 10 0 = 9 ∧ own_ct (bs.getD 10 0) = 0) (a11 : ¬ bs.getD 11 0 = 9 ∧ own_ct (bs.getD 11 0) = 0) : ∀ i, 8 - kk ≤ i → i < 12 → ¬ bs.getD i 0 = 9 ∧ own_ct (bs.getD i 0) = 0 := by
  intro i h1 h2
  rcases (by omega : i < 8 ∨ i = 8 ∨ i = 9 ∨ i = 10 ∨ i = 11) with q | rfl | rfl | rfl | rfl
  · rw [hpad i h1 q]; decide
  · exact a8
  · exact a9
  · exact a10
  · exact a11
def own_ok (v : Int32) : Prop := ¬ v = 0 ∧ ¬ v < 0 ∧ v < 128
theorem own_sq {v : Int32} (h : own_ok v) : ¬ (v &&& 255) = 0 ∧ (v &&& 255) < 128 := by
  obtain ⟨h1, h2, h3⟩ := h
  have e := k_mask v 255 8 256 (by decide) (by decide) (by decide)
  have e0 : (0 : Int32).toInt = 0 := rfl
  have e1 : (128 : Int32).toInt = 128 := rfl
  rw [Int32.lt_iff_toInt_lt] at h2 h3
  rw [← Int32.toInt_inj] at h1
  rw [Int32.lt_iff_toInt_lt, ← Int32.toInt_inj]
  omega
theorem own_19 : ∀ j, j < 19 → ¬ ((19 : Int32) - Int32.ofNat j < 1) := by decide +kernel
theorem own_padb (i k : Int32) : own_pad i k = nar .byte (own_pad i k) := by unfold own_pad; split <;> rfl
theorem own_okp (i k : Int32) : own_ok (own_pad i k) := by unfold own_pad; split <;> exact ⟨by decide, by decide, by decide⟩
theorem own_padv : ∀ kk, kk < 9 → ∀ j, j < 8 → 8 - kk ≤ j → own_pad (Int32.ofNat j) (Int32.ofNat kk) = 32 := by decide +kernel
theorem own_8k : ∀ kk, kk < 9 → (8 : Int32) - Int32.ofNat kk = Int32.ofNat (8 - kk) := by decide +kernel
theorem own_4k : ∀ kk, kk < 9 → Int32.ofNat kk + (4 : Int32) = Int32.ofNat (4 + kk) := by decide +kernel
theorem own_kk (v : Int32) : ∃ kk : Nat, kk ≤ 8 ∧ ((v &&& (2147483647 : Int32)) % (9 : Int32)) = Int32.ofNat kk := by
  have e := k_mask v (2147483647 : Int32) 31 2147483648 (by decide) (by decide) (by decide)
  have f := (c_irem (v &&& (2147483647 : Int32)) (9 : Int32) 9 (by decide)).1 (by omega)
  refine ⟨((v &&& (2147483647 : Int32)) % (9 : Int32)).toInt.toNat, by omega, Int32.toInt_inj.mp ?_⟩
  rw [own_i _ (by omega)]
  omega
theorem own_cs_0a {o bl pb wd ww : Int32} (h : o = 0) : own_cs o bl pb wd ww = 0 := if_neg fun q => q.1 h
theorem own_cs_0b {o bl pb wd ww : Int32} (h1 : ¬ bl = 0) (h2 : pb = 0) : own_cs o bl pb wd ww = 0 := if_neg fun q => q.2.1.elim h1 fun z => z h2
theorem own_cs_0c {o bl pb wd ww : Int32} (h : ¬ 60 < wd + 1 + ww) : own_cs o bl pb wd ww = 0 := if_neg fun q => h q.2.2
theorem own_cs_1a {o bl pb wd ww : Int32} (h1 : ¬ o = 0) (h2 : bl = 0) (h3 : 60 < wd + 1 + ww) : own_cs o bl pb wd ww = 1 := if_pos ⟨h1, .inl h2, h3⟩
theorem own_cs_1b {o bl pb wd ww : Int32} (h1 : ¬ o = 0) (h2 : ¬ pb = 0) (h3 : 60 < wd + 1 + ww) : own_cs o bl pb wd ww = 1 := if_pos ⟨h1, .inr h2, h3⟩
theorem own_h8 {u0 u1 u2 u3 op : Int32} (hU : (u0 = (97 : Int32) ∧ u1 = (98 : Int32) ∧ u2 = (99 : Int32) ∧ u3 = (44 : Int32) ∧ op = (1 : Int32)) ∨ (u0 = (120 : Int32) ∧ u1 = (32 : Int32) ∧ u2 = (97 : Int32) ∧ u3 = (98 : Int32) ∧ op = (1 : Int32)) ∨ (u0 = (120 : Int32) ∧ u1 = (32 : Int32) ∧ u2 = (65 : Int32) ∧ u3 = (98 : Int32) ∧ op = (0 : Int32)) ∨ (u0 = (97 : Int32) ∧ u1 = (98 : Int32) ∧ u2 = (99 : Int32) ∧ u3 = (46 : Int32) ∧ op = (0 : Int32)) ∨ (u0 = (59 : Int32) ∧ u1 = (32 : Int32) ∧ u2 = (111 : Int32) ∧ u3 = (114 : Int32) ∧ op = (0 : Int32)) ∨ (u0 = (120 : Int32) ∧ u1 = (32 : Int32) ∧ u2 = (111 : Int32) ∧ u3 = (114 : Int32) ∧ op = (1 : Int32)) ∨ (u0 = (97 : Int32) ∧ u1 = (46 : Int32) ∧ u2 = (98 : Int32) ∧ u3 = (99 : Int32) ∧ op = (0 : Int32)) ∨ (u0 = (65 : Int32) ∧ u1 = (66 : Int32) ∧ u2 = (67 : Int32) ∧ u3 = (68 : Int32) ∧ op = (0 : Int32))) : own_sp1 u0 = 0 := by
  rcases hU with ⟨rfl, rfl, rfl, rfl, rfl⟩ | ⟨rfl, rfl, rfl, rfl, rfl⟩ | ⟨rfl, rfl, rfl, rfl, rfl⟩ | ⟨rfl, rfl, rfl, rfl, rfl⟩ | ⟨rfl, rfl, rfl, rfl, rfl⟩ | ⟨rfl, rfl, rfl, rfl, rfl⟩ | ⟨rfl, rfl, rfl, rfl, rfl⟩ | ⟨rfl, rfl, rfl, rfl, rfl⟩ <;> decide
theorem own_op1 {u0 u1 u2 u3 op : Int32} (hU : (u0 = (97 : Int32) ∧ u1 = (98 : Int32) ∧ u2 = (99 : Int32) ∧ u3 = (44 : Int32) ∧ op = (1 : Int32)) ∨ (u0 = (120 : Int32) ∧ u1 = (32 : Int32) ∧ u2 = (97 : Int32) ∧ u3 = (98 : Int32) ∧ op = (1 : Int32)) ∨ (u0 = (120 : Int32) ∧ u1 = (32 : Int32) ∧ u2 = (65 : Int32) ∧ u3 = (98 : Int32) ∧ op = (0 : Int32)) ∨ (u0 = (97 : Int32) ∧ u1 = (98 : Int32) ∧ u2 = (99 : Int32) ∧ u3 = (46 : Int32) ∧ op = (0 : Int32)) ∨ (u0 = (59 : Int32) ∧ u1 = (32 : Int32) ∧ u2 = (111 : Int32) ∧ u3 = (114 : Int32) ∧ op = (0 : Int32)) ∨ (u0 = (120 : Int32) ∧ u1 = (32 : Int32) ∧ u2 = (111 : Int32) ∧ u3 = (114 : Int32) ∧ op = (1 : Int32)) ∨ (u0 = (97 : Int32) ∧ u1 = (46 : Int32) ∧ u2 = (98 : Int32) ∧ u3 = (99 : Int32) ∧ op = (0 : Int32)) ∨ (u0 = (65 : Int32) ∧ u1 = (66 : Int32) ∧ u2 = (67 : Int32) ∧ u3 = (68 : Int32) ∧ op = (0 : Int32))) : (op &&& 1) = op := by
  rcases hU with ⟨rfl, rfl, rfl, rfl, rfl⟩ | ⟨rfl, rfl, rfl, rfl, rfl⟩ | ⟨rfl, rfl, rfl, rfl, rfl⟩ | ⟨rfl, rfl, rfl, rfl, rfl⟩ | ⟨rfl, rfl, rfl, rfl, rfl⟩ | ⟨rfl, rfl, rfl, rfl, rfl⟩ | ⟨rfl, rfl, rfl, rfl, rfl⟩ | ⟨rfl, rfl, rfl, rfl, rfl⟩ <;> decide
theorem own_h9 {u0 u1 u2 u3 op : Int32} (hU : (u0 = (97 : Int32) ∧ u1 = (98 : Int32) ∧ u2 = (99 : Int32) ∧ u3 = (44 : Int32) ∧ op = (1 : Int32)) ∨ (u0 = (120 : Int32) ∧ u1 = (32 : Int32) ∧ u2 = (97 : Int32) ∧ u3 = (98 : Int32) ∧ op = (1 : Int32)) ∨ (u0 = (120 : Int32) ∧ u1 = (32 : Int32) ∧ u2 = (65 : Int32) ∧ u3 = (98 : Int32) ∧ op = (0 : Int32)) ∨ (u0 = (97 : Int32) ∧ u1 = (98 : Int32) ∧ u2 = (99 : Int32) ∧ u3 = (46 : Int32) ∧ op = (0 : Int32)) ∨ (u0 = (59 : Int32) ∧ u1 = (32 : Int32) ∧ u2 = (111 : Int32) ∧ u3 = (114 : Int32) ∧ op = (0 : Int32)) ∨ (u0 = (120 : Int32) ∧ u1 = (32 : Int32) ∧ u2 = (111 : Int32) ∧ u3 = (114 : Int32) ∧ op = (1 : Int32)) ∨ (u0 = (97 : Int32) ∧ u1 = (46 : Int32) ∧ u2 = (98 : Int32) ∧ u3 = (99 : Int32) ∧ op = (0 : Int32)) ∨ (u0 = (65 : Int32) ∧ u1 = (66 : Int32) ∧ u2 = (67 : Int32) ∧ u3 = (68 : Int32) ∧ op = (0 : Int32))) : (¬ u0 = 9 ∧ own_ct u0 = 0) ∧ (¬ u1 = 9 ∧ own_ct u1 = 0) ∧ (¬ u2 = 9 ∧ own_ct u2 = 0) ∧ (¬ u3 = 9 ∧ own_ct u3 = 0) := by
  rcases hU with ⟨rfl, rfl, rfl, rfl, rfl⟩ | ⟨rfl, rfl, rfl, rfl, rfl⟩ | ⟨rfl, rfl, rfl, rfl, rfl⟩ | ⟨rfl, rfl, rfl, rfl, rfl⟩ | ⟨rfl, rfl, rfl, rfl, rfl⟩ | ⟨rfl, rfl, rfl, rfl, rfl⟩ | ⟨rfl, rfl, rfl, rfl, rfl⟩ | ⟨rfl, rfl, rfl, rfl, rfl⟩ <;> decide
theorem own_chu {u0 u1 u2 u3 op : Int32} (hU : (u0 = (97 : Int32) ∧ u1 = (98 : Int32) ∧ u2 = (99 : Int32) ∧ u3 = (44 : Int32) ∧ op = (1 : Int32)) ∨ (u0 = (120 : Int32) ∧ u1 = (32 : Int32) ∧ u2 = (97 : Int32) ∧ u3 = (98 : Int32) ∧ op = (1 : Int32)) ∨ (u0 = (120 : Int32) ∧ u1 = (32 : Int32) ∧ u2 = (65 : Int32) ∧ u3 = (98 : Int32) ∧ op = (0 : Int32)) ∨ (u0 = (97 : Int32) ∧ u1 = (98 : Int32) ∧ u2 = (99 : Int32) ∧ u3 = (46 : Int32) ∧ op = (0 : Int32)) ∨ (u0 = (59 : Int32) ∧ u1 = (32 : Int32) ∧ u2 = (111 : Int32) ∧ u3 = (114 : Int32) ∧ op = (0 : Int32)) ∨ (u0 = (120 : Int32) ∧ u1 = (32 : Int32) ∧ u2 = (111 : Int32) ∧ u3 = (114 : Int32) ∧ op = (1 : Int32)) ∨ (u0 = (97 : Int32) ∧ u1 = (46 : Int32) ∧ u2 = (98 : Int32) ∧ u3 = (99 : Int32) ∧ op = (0 : Int32)) ∨ (u0 = (65 : Int32) ∧ u1 = (66 : Int32) ∧ u2 = (67 : Int32) ∧ u3 = (68 : Int32) ∧ op = (0 : Int32))) : u0 = nar .byte ((own_ch [u0, u1, u2, u3] 0).toInt8.toInt32) ∧ u1 = nar .byte ((own_ch [u0, u1, u2, u3] 1).toInt8.toInt32) ∧ u2 = nar .byte ((own_ch [u0, u1, u2, u3] 2).toInt8.toInt32) ∧ u3 = nar .byte ((own_ch [u0, u1, u2, u3] 3).toInt8.toInt32) := by
  rcases hU with ⟨rfl, rfl, rfl, rfl, rfl⟩ | ⟨rfl, rfl, rfl, rfl, rfl⟩ | ⟨rfl, rfl, rfl, rfl, rfl⟩ | ⟨rfl, rfl, rfl, rfl, rfl⟩ | ⟨rfl, rfl, rfl, rfl, rfl⟩ | ⟨rfl, rfl, rfl, rfl, rfl⟩ | ⟨rfl, rfl, rfl, rfl, rfl⟩ | ⟨rfl, rfl, rfl, rfl, rfl⟩ <;> decide
theorem own_oku {u0 u1 u2 u3 op : Int32} (hU : (u0 = (97 : Int32) ∧ u1 = (98 : Int32) ∧ u2 = (99 : Int32) ∧ u3 = (44 : Int32) ∧ op = (1 : Int32)) ∨ (u0 = (120 : Int32) ∧ u1 = (32 : Int32) ∧ u2 = (97 : Int32) ∧ u3 = (98 : Int32) ∧ op = (1 : Int32)) ∨ (u0 = (120 : Int32) ∧ u1 = (32 : Int32) ∧ u2 = (65 : Int32) ∧ u3 = (98 : Int32) ∧ op = (0 : Int32)) ∨ (u0 = (97 : Int32) ∧ u1 = (98 : Int32) ∧ u2 = (99 : Int32) ∧ u3 = (46 : Int32) ∧ op = (0 : Int32)) ∨ (u0 = (59 : Int32) ∧ u1 = (32 : Int32) ∧ u2 = (111 : Int32) ∧ u3 = (114 : Int32) ∧ op = (0 : Int32)) ∨ (u0 = (120 : Int32) ∧ u1 = (32 : Int32) ∧ u2 = (111 : Int32) ∧ u3 = (114 : Int32) ∧ op = (1 : Int32)) ∨ (u0 = (97 : Int32) ∧ u1 = (46 : Int32) ∧ u2 = (98 : Int32) ∧ u3 = (99 : Int32) ∧ op = (0 : Int32)) ∨ (u0 = (65 : Int32) ∧ u1 = (66 : Int32) ∧ u2 = (67 : Int32) ∧ u3 = (68 : Int32) ∧ op = (0 : Int32))) : own_ok u0 ∧ own_ok u1 ∧ own_ok u2 ∧ own_ok u3 := by
  unfold own_ok
  rcases hU with ⟨rfl, rfl, rfl, rfl, rfl⟩ | ⟨rfl, rfl, rfl, rfl, rfl⟩ | ⟨rfl, rfl, rfl, rfl, rfl⟩ | ⟨rfl, rfl, rfl, rfl, rfl⟩ | ⟨rfl, rfl, rfl, rfl, rfl⟩ | ⟨rfl, rfl, rfl, rfl, rfl⟩ | ⟨rfl, rfl, rfl, rfl, rfl⟩ | ⟨rfl, rfl, rfl, rfl, rfl⟩ <;> decide
theorem own_hall (p0 p1 p2 p3 p4 p5 p6 p7 u0 u1 u2 u3 : Int32) (hz0 : own_ok p0) (hz1 : own_ok p1) (hz2 : own_ok p2) (hz3 : own_ok p3) (hz4 : own_ok p4) (hz5 : own_ok p5) (hz6 : own_ok p6) (hz7 : own_ok p7) (hz8 : own_ok u0) (hz9 : own_ok u1) (hz10 : own_ok u2) (hz11 : own_ok u3) : ∀ i, i < 19 → own_ok ([p0, p1, p2, p3, p4, p5, p6, p7, u0, u1, u2, u3, (10 : Int32), (60 : Int32), (10 : Int32), (45 : Int32), (45 : Int32), (10 : Int32), (32 : Int32)].getD i 0) := fun i hi => match i, hi with
  | 0, _ => hz0
  | 1, _ => hz1
  | 2, _ => hz2
  | 3, _ => hz3
  | 4, _ => hz4
  | 5, _ => hz5
  | 6, _ => hz6
  | 7, _ => hz7
  | 8, _ => hz8
  | 9, _ => hz9
  | 10, _ => hz10
  | 11, _ => hz11
  | 12, _ => (show own_ok (10 : Int32) from ⟨by decide, by decide, by decide⟩)
  | 13, _ => (show own_ok (60 : Int32) from ⟨by decide, by decide, by decide⟩)
  | 14, _ => (show own_ok (10 : Int32) from ⟨by decide, by decide, by decide⟩)
  | 15, _ => (show own_ok (45 : Int32) from ⟨by decide, by decide, by decide⟩)
  | 16, _ => (show own_ok (45 : Int32) from ⟨by decide, by decide, by decide⟩)
  | 17, _ => (show own_ok (10 : Int32) from ⟨by decide, by decide, by decide⟩)
  | 18, _ => (show own_ok (32 : Int32) from ⟨by decide, by decide, by decide⟩)
  | n + 19, hi => absurd hi (by omega)
theorem own_hpad (kk : Nat) (hkk : kk ≤ 8) (k p0 p1 p2 p3 p4 p5 p6 p7 u0 u1 u2 u3 : Int32) (hk : k = Int32.ofNat kk) (hz0 : p0 = own_pad (0 : Int32) k) (hz1 : p1 = own_pad (1 : Int32) k) (hz2 : p2 = own_pad (2 : Int32) k) (hz3 : p3 = own_pad (3 : Int32) k) (hz4 : p4 = own_pad (4 : Int32) k) (hz5 : p5 = own_pad (5 : Int32) k) (hz6 : p6 = own_pad (6 : Int32) k) (hz7 : p7 = own_pad (7 : Int32) k) : ∀ i, 8 - kk ≤ i → i < 8 → [p0, p1, p2, p3, p4, p5, p6, p7, u0, u1, u2, u3, (10 : Int32), (60 : Int32), (10 : Int32), (45 : Int32), (45 : Int32), (10 : Int32), (32 : Int32)].getD i 0 = 32 := fun i q1 q2 => match i, q1, q2 with
  | 0, q1, _ => (show p0 = 32 from by rw [hz0, hk]; exact own_padv kk (by omega) 0 (by decide) q1)
  | 1, q1, _ => (show p1 = 32 from by rw [hz1, hk]; exact own_padv kk (by omega) 1 (by decide) q1)
  | 2, q1, _ => (show p2 = 32 from by rw [hz2, hk]; exact own_padv kk (by omega) 2 (by decide) q1)
  | 3, q1, _ => (show p3 = 32 from by rw [hz3, hk]; exact own_padv kk (by omega) 3 (by decide) q1)
  | 4, q1, _ => (show p4 = 32 from by rw [hz4, hk]; exact own_padv kk (by omega) 4 (by decide) q1)
  | 5, q1, _ => (show p5 = 32 from by rw [hz5, hk]; exact own_padv kk (by omega) 5 (by decide) q1)
  | 6, q1, _ => (show p6 = 32 from by rw [hz6, hk]; exact own_padv kk (by omega) 6 (by decide) q1)
  | 7, q1, _ => (show p7 = 32 from by rw [hz7, hk]; exact own_padv kk (by omega) 7 (by decide) q1)
  | n + 8, _, q2 => absurd q2 (by omega)
theorem wd0 {a0 : Array Value} {Z : State} (hw : ∀ d ∈ tables_1, d.before a0 Z = true) : ((Jvm.Cond.constant "com/example/clauseline/clauseline/LineWrapContinuesSentencePinLaw" (7 : Nat) (2147483647 : Int32))).before a0 Z = true := hw _ (List.mem_of_getElem? (i := 0) rfl)
theorem wd1 {a0 : Array Value} {Z : State} (hw : ∀ d ∈ tables_1, d.before a0 Z = true) : ((Jvm.Cond.constant "com/example/clauseline/clauseline/LineWrapContinuesSentencePinLaw" (8 : Nat) (1073741823 : Int32))).before a0 Z = true := hw _ (List.mem_of_getElem? (i := 1) rfl)
theorem wd2 {a0 : Array Value} {Z : State} (hw : ∀ d ∈ tables_1, d.before a0 Z = true) : ((Jvm.Cond.stringLink "com/example/clauseline/clauseline/LineWrapContinuesSentencePinLaw" (15 : Nat) "abc.")).before a0 Z = true := hw _ (List.mem_of_getElem? (i := 2) rfl)
theorem wd3 {a0 : Array Value} {Z : State} (hw : ∀ d ∈ tables_1, d.before a0 Z = true) : ((Jvm.Cond.initialized "java/lang/String")).before a0 Z = true := hw _ (List.mem_of_getElem? (i := 3) rfl)
theorem wd4 {a0 : Array Value} {Z : State} (hw : ∀ d ∈ tables_1, d.before a0 Z = true) : ((Jvm.Cond.instantiable "java/lang/String" (4 : Nat))).before a0 Z = true := hw _ (List.mem_of_getElem? (i := 4) rfl)
theorem wd5 {a0 : Array Value} {Z : State} (hw : ∀ d ∈ tables_1, d.before a0 Z = true) : ((Jvm.Cond.arrayClass Jvm.ClassFile.FieldType.byte)).before a0 Z = true := hw _ (List.mem_of_getElem? (i := 5) rfl)
theorem wd6 {a0 : Array Value} {Z : State} (hw : ∀ d ∈ tables_1, d.before a0 Z = true) : ((Jvm.Cond.laysFinal "java/lang/String" "java/lang/String" "value" "[B")).before a0 Z = true := hw _ (List.mem_of_getElem? (i := 6) rfl)
theorem wd7 {a0 : Array Value} {Z : State} (hw : ∀ d ∈ tables_1, d.before a0 Z = true) : ((Jvm.Cond.laysFinal "java/lang/String" "java/lang/String" "coder" "B")).before a0 Z = true := hw _ (List.mem_of_getElem? (i := 7) rfl)
theorem wd8 {a0 : Array Value} {Z : State} (hw : ∀ d ∈ tables_1, d.before a0 Z = true) : ((Jvm.Cond.soleField "java/lang/String" "value")).before a0 Z = true := hw _ (List.mem_of_getElem? (i := 8) rfl)
theorem wd9 {a0 : Array Value} {Z : State} (hw : ∀ d ∈ tables_1, d.before a0 Z = true) : ((Jvm.Cond.soleField "java/lang/String" "coder")).before a0 Z = true := hw _ (List.mem_of_getElem? (i := 9) rfl)
theorem wd10 {a0 : Array Value} {Z : State} (hw : ∀ d ∈ tables_1, d.before a0 Z = true) : ((Jvm.Cond.methodLink "com/example/clauseline/clauseline/LineWrapContinuesSentencePinLaw" (25 : Nat) ({ cls := "com/example/clauseline/clauseline/LineWrapContinuesSentencePinLaw", name := "pad", desc := "(II)B" } : Jvm.MethodName))).before a0 Z = true := hw _ (List.mem_of_getElem? (i := 10) rfl)
theorem wd11 {a0 : Array Value} {Z : State} (hw : ∀ d ∈ tables_1, d.before a0 Z = true) : ((Jvm.Cond.static ({ cls := "com/example/clauseline/clauseline/LineWrapContinuesSentencePinLaw", name := "pad", desc := "(II)B" } : Jvm.MethodName))).before a0 Z = true := hw _ (List.mem_of_getElem? (i := 11) rfl)
theorem wd12 {a0 : Array Value} {Z : State} (hw : ∀ d ∈ tables_1, d.before a0 Z = true) : ((Jvm.Cond.initialized "com/example/clauseline/clauseline/LineWrapContinuesSentencePinLaw")).before a0 Z = true := hw _ (List.mem_of_getElem? (i := 12) rfl)
theorem wd13 {a0 : Array Value} {Z : State} (hw : ∀ d ∈ tables_1, d.before a0 Z = true) : ((Jvm.Cond.code ({ cls := "com/example/clauseline/clauseline/LineWrapContinuesSentencePinLaw", name := "pad", desc := "(II)B" } : Jvm.MethodName) method_4_code (2 : Nat) (Option.some Jvm.ClassFile.FieldType.byte))).before a0 Z = true := hw _ (List.mem_of_getElem? (i := 13) rfl)
theorem wd14 {a0 : Array Value} {Z : State} (hw : ∀ d ∈ tables_1, d.before a0 Z = true) : ((Jvm.Cond.methodLink "com/example/clauseline/clauseline/LineWrapContinuesSentencePinLaw" (31 : Nat) ({ cls := "java/lang/String", name := "charAt", desc := "(I)C" } : Jvm.MethodName))).before a0 Z = true := hw _ (List.mem_of_getElem? (i := 14) rfl)
theorem wd15 {a0 : Array Value} {Z : State} (hw : ∀ d ∈ tables_1, d.before a0 Z = true) : ((Jvm.Cond.declares ({ cls := "java/lang/String", name := "charAt", desc := "(I)C" } : Jvm.MethodName))).before a0 Z = true := hw _ (List.mem_of_getElem? (i := 15) rfl)
theorem wd16 {a0 : Array Value} {Z : State} (hw : ∀ d ∈ tables_1, d.before a0 Z = true) : ((Jvm.Cond.instanceMethod ({ cls := "java/lang/String", name := "charAt", desc := "(I)C" } : Jvm.MethodName))).before a0 Z = true := hw _ (List.mem_of_getElem? (i := 16) rfl)
theorem wd17 {a0 : Array Value} {Z : State} (hw : ∀ d ∈ tables_1, d.before a0 Z = true) : ((Jvm.Cond.selects "java/lang/String" ({ cls := "java/lang/String", name := "charAt", desc := "(I)C" } : Jvm.MethodName) ({ cls := "java/lang/String", name := "charAt", desc := "(I)C" } : Jvm.MethodName))).before a0 Z = true := hw _ (List.mem_of_getElem? (i := 17) rfl)
theorem wd18 {a0 : Array Value} {Z : State} (hw : ∀ d ∈ tables_1, d.before a0 Z = true) : ((Jvm.Cond.code ({ cls := "java/lang/String", name := "charAt", desc := "(I)C" } : Jvm.MethodName) jdk_42_method_56_code (2 : Nat) (Option.some Jvm.ClassFile.FieldType.char))).before a0 Z = true := hw _ (List.mem_of_getElem? (i := 18) rfl)
theorem wd19 {a0 : Array Value} {Z : State} (hw : ∀ d ∈ tables_1, d.before a0 Z = true) : ((Jvm.Cond.methodLink "java/lang/String" (492 : Nat) ({ cls := "java/lang/String", name := "isLatin1", desc := "()Z" } : Jvm.MethodName))).before a0 Z = true := hw _ (List.mem_of_getElem? (i := 19) rfl)
theorem wd20 {a0 : Array Value} {Z : State} (hw : ∀ d ∈ tables_1, d.before a0 Z = true) : ((Jvm.Cond.declares ({ cls := "java/lang/String", name := "isLatin1", desc := "()Z" } : Jvm.MethodName))).before a0 Z = true := hw _ (List.mem_of_getElem? (i := 20) rfl)
theorem wd21 {a0 : Array Value} {Z : State} (hw : ∀ d ∈ tables_1, d.before a0 Z = true) : ((Jvm.Cond.instanceMethod ({ cls := "java/lang/String", name := "isLatin1", desc := "()Z" } : Jvm.MethodName))).before a0 Z = true := hw _ (List.mem_of_getElem? (i := 21) rfl)
theorem wd22 {a0 : Array Value} {Z : State} (hw : ∀ d ∈ tables_1, d.before a0 Z = true) : ((Jvm.Cond.selects "java/lang/String" ({ cls := "java/lang/String", name := "isLatin1", desc := "()Z" } : Jvm.MethodName) ({ cls := "java/lang/String", name := "isLatin1", desc := "()Z" } : Jvm.MethodName))).before a0 Z = true := hw _ (List.mem_of_getElem? (i := 22) rfl)
theorem wd23 {a0 : Array Value} {Z : State} (hw : ∀ d ∈ tables_1, d.before a0 Z = true) : ((Jvm.Cond.code ({ cls := "java/lang/String", name := "isLatin1", desc := "()Z" } : Jvm.MethodName) jdk_42_method_154_code (1 : Nat) (Option.some Jvm.ClassFile.FieldType.boolean))).before a0 Z = true := hw _ (List.mem_of_getElem? (i := 23) rfl)
theorem wd24 {a0 : Array Value} {Z : State} (hw : ∀ d ∈ tables_1, d.before a0 Z = true) : ((Jvm.Cond.fieldLink "java/lang/String" (38 : Nat) "java/lang/String" "COMPACT_STRINGS" "Z")).before a0 Z = true := hw _ (List.mem_of_getElem? (i := 24) rfl)
theorem wd25 {a0 : Array Value} {Z : State} (hw : ∀ d ∈ tables_1, d.before a0 Z = true) : ((Jvm.Cond.fieldLink "java/lang/String" (15 : Nat) "java/lang/String" "coder" "B")).before a0 Z = true := hw _ (List.mem_of_getElem? (i := 25) rfl)
theorem wd26 {a0 : Array Value} {Z : State} (hw : ∀ d ∈ tables_1, d.before a0 Z = true) : ((Jvm.Cond.fieldLink "java/lang/String" (9 : Nat) "java/lang/String" "value" "[B")).before a0 Z = true := hw _ (List.mem_of_getElem? (i := 26) rfl)
theorem wd27 {a0 : Array Value} {Z : State} (hw : ∀ d ∈ tables_1, d.before a0 Z = true) : ((Jvm.Cond.methodLink "java/lang/String" (495 : Nat) ({ cls := "java/lang/StringLatin1", name := "charAt", desc := "([BI)C" } : Jvm.MethodName))).before a0 Z = true := hw _ (List.mem_of_getElem? (i := 27) rfl)
theorem wd28 {a0 : Array Value} {Z : State} (hw : ∀ d ∈ tables_1, d.before a0 Z = true) : ((Jvm.Cond.static ({ cls := "java/lang/StringLatin1", name := "charAt", desc := "([BI)C" } : Jvm.MethodName))).before a0 Z = true := hw _ (List.mem_of_getElem? (i := 28) rfl)
theorem wd29 {a0 : Array Value} {Z : State} (hw : ∀ d ∈ tables_1, d.before a0 Z = true) : ((Jvm.Cond.initialized "java/lang/StringLatin1")).before a0 Z = true := hw _ (List.mem_of_getElem? (i := 29) rfl)
theorem wd30 {a0 : Array Value} {Z : State} (hw : ∀ d ∈ tables_1, d.before a0 Z = true) : ((Jvm.Cond.code ({ cls := "java/lang/StringLatin1", name := "charAt", desc := "([BI)C" } : Jvm.MethodName) jdk_43_method_2_code (2 : Nat) (Option.some Jvm.ClassFile.FieldType.char))).before a0 Z = true := hw _ (List.mem_of_getElem? (i := 30) rfl)
theorem wd31 {a0 : Array Value} {Z : State} (hw : ∀ d ∈ tables_1, d.before a0 Z = true) : ((Jvm.Cond.methodLink "java/lang/StringLatin1" (9 : Nat) ({ cls := "java/lang/String", name := "checkIndex", desc := "(II)V" } : Jvm.MethodName))).before a0 Z = true := hw _ (List.mem_of_getElem? (i := 31) rfl)
theorem wd32 {a0 : Array Value} {Z : State} (hw : ∀ d ∈ tables_1, d.before a0 Z = true) : ((Jvm.Cond.static ({ cls := "java/lang/String", name := "checkIndex", desc := "(II)V" } : Jvm.MethodName))).before a0 Z = true := hw _ (List.mem_of_getElem? (i := 32) rfl)
theorem wd33 {a0 : Array Value} {Z : State} (hw : ∀ d ∈ tables_1, d.before a0 Z = true) : ((Jvm.Cond.code ({ cls := "java/lang/String", name := "checkIndex", desc := "(II)V" } : Jvm.MethodName) jdk_42_method_155_code (2 : Nat) (Option.none : Option Jvm.ClassFile.FieldType))).before a0 Z = true := hw _ (List.mem_of_getElem? (i := 33) rfl)
theorem wd34 {a0 : Array Value} {Z : State} (hw : ∀ d ∈ tables_1, d.before a0 Z = true) : ((Jvm.Cond.fieldLink "java/lang/String" (1053 : Nat) "jdk/internal/util/Preconditions" "SIOOBE_FORMATTER" "Ljava/util/function/BiFunction;")).before a0 Z = true := hw _ (List.mem_of_getElem? (i := 34) rfl)
theorem wd35 {a0 : Array Value} {Z : State} (hw : ∀ d ∈ tables_1, d.before a0 Z = true) : ((Jvm.Cond.initialized "jdk/internal/util/Preconditions")).before a0 Z = true := hw _ (List.mem_of_getElem? (i := 35) rfl)
theorem wd36 {a0 : Array Value} {Z : State} (hw : ∀ d ∈ tables_1, d.before a0 Z = true) : ((Jvm.Cond.methodLink "java/lang/String" (1059 : Nat) ({ cls := "jdk/internal/util/Preconditions", name := "checkIndex", desc := "(IILjava/util/function/BiFunction;)I" } : Jvm.MethodName))).before a0 Z = true := hw _ (List.mem_of_getElem? (i := 36) rfl)
theorem wd37 {a0 : Array Value} {Z : State} (hw : ∀ d ∈ tables_1, d.before a0 Z = true) : ((Jvm.Cond.static ({ cls := "jdk/internal/util/Preconditions", name := "checkIndex", desc := "(IILjava/util/function/BiFunction;)I" } : Jvm.MethodName))).before a0 Z = true := hw _ (List.mem_of_getElem? (i := 37) rfl)
theorem wd38 {a0 : Array Value} {Z : State} (hw : ∀ d ∈ tables_1, d.before a0 Z = true) : ((Jvm.Cond.code ({ cls := "jdk/internal/util/Preconditions", name := "checkIndex", desc := "(IILjava/util/function/BiFunction;)I" } : Jvm.MethodName) jdk_41_method_11_code (3 : Nat) (Option.some Jvm.ClassFile.FieldType.int))).before a0 Z = true := hw _ (List.mem_of_getElem? (i := 38) rfl)
theorem wd39 {a0 : Array Value} {Z : State} (hw : ∀ d ∈ tables_1, d.before a0 Z = true) : ((Jvm.Cond.methodLink "com/example/clauseline/clauseline/LineWrapContinuesSentencePinLaw" (37 : Nat) ({ cls := "com/example/clauseline/clauseline/ContractText", name := "of", desc := "([B)Lcom/example/clauseline/clauseline/ContractText;" } : Jvm.MethodName))).before a0 Z = true := hw _ (List.mem_of_getElem? (i := 39) rfl)
theorem wd40 {a0 : Array Value} {Z : State} (hw : ∀ d ∈ tables_1, d.before a0 Z = true) : ((Jvm.Cond.static ({ cls := "com/example/clauseline/clauseline/ContractText", name := "of", desc := "([B)Lcom/example/clauseline/clauseline/ContractText;" } : Jvm.MethodName))).before a0 Z = true := hw _ (List.mem_of_getElem? (i := 40) rfl)
theorem wd41 {a0 : Array Value} {Z : State} (hw : ∀ d ∈ tables_1, d.before a0 Z = true) : ((Jvm.Cond.initialized "com/example/clauseline/clauseline/ContractText")).before a0 Z = true := hw _ (List.mem_of_getElem? (i := 41) rfl)
theorem wd42 {a0 : Array Value} {Z : State} (hw : ∀ d ∈ tables_1, d.before a0 Z = true) : ((Jvm.Cond.code ({ cls := "com/example/clauseline/clauseline/ContractText", name := "of", desc := "([B)Lcom/example/clauseline/clauseline/ContractText;" } : Jvm.MethodName) prog_22_method_6_code (3 : Nat) (Option.some (Jvm.ClassFile.FieldType.object "com/example/clauseline/clauseline/ContractText")))).before a0 Z = true := hw _ (List.mem_of_getElem? (i := 42) rfl)
theorem wd43 {a0 : Array Value} {Z : State} (hw : ∀ d ∈ tables_1, d.before a0 Z = true) : ((Jvm.Cond.methodLink "com/example/clauseline/clauseline/ContractText" (131 : Nat) ({ cls := "[B", name := "clone", desc := "()Ljava/lang/Object;" } : Jvm.MethodName))).before a0 Z = true := hw _ (List.mem_of_getElem? (i := 43) rfl)
theorem wd44 {a0 : Array Value} {Z : State} (hw : ∀ d ∈ tables_1, d.before a0 Z = true) : ((Jvm.Cond.sameMethod "[B" "java/lang/Object" "clone" "()Ljava/lang/Object;")).before a0 Z = true := hw _ (List.mem_of_getElem? (i := 44) rfl)
theorem wd46 {a0 : Array Value} {Z : State} (hw : ∀ d ∈ tables_1, d.before a0 Z = true) : ((Jvm.Cond.instanceMethod ({ cls := "java/lang/Object", name := "clone", desc := "()Ljava/lang/Object;" } : Jvm.MethodName))).before a0 Z = true := hw _ (List.mem_of_getElem? (i := 46) rfl)
theorem wd47 {a0 : Array Value} {Z : State} (hw : ∀ d ∈ tables_1, d.before a0 Z = true) : ((Jvm.Cond.selects "[B" ({ cls := "[B", name := "clone", desc := "()Ljava/lang/Object;" } : Jvm.MethodName) ({ cls := "java/lang/Object", name := "clone", desc := "()Ljava/lang/Object;" } : Jvm.MethodName))).before a0 Z = true := hw _ (List.mem_of_getElem? (i := 47) rfl)
theorem wd48 {a0 : Array Value} {Z : State} (hw : ∀ d ∈ tables_1, d.before a0 Z = true) : ((Jvm.Cond.native ({ cls := "java/lang/Object", name := "clone", desc := "()Ljava/lang/Object;" } : Jvm.MethodName))).before a0 Z = true := hw _ (List.mem_of_getElem? (i := 48) rfl)
theorem wd49 {a0 : Array Value} {Z : State} (hw : ∀ d ∈ tables_1, d.before a0 Z = true) : ((Jvm.Cond.castable "[B" "java/lang/Cloneable")).before a0 Z = true := hw _ (List.mem_of_getElem? (i := 49) rfl)
theorem wd50 {a0 : Array Value} {Z : State} (hw : ∀ d ∈ tables_1, d.before a0 Z = true) : ((Jvm.Cond.classLink "com/example/clauseline/clauseline/ContractText" (132 : Nat) "[B")).before a0 Z = true := hw _ (List.mem_of_getElem? (i := 50) rfl)
theorem wd52 {a0 : Array Value} {Z : State} (hw : ∀ d ∈ tables_1, d.before a0 Z = true) : ((Jvm.Cond.methodLink "com/example/clauseline/clauseline/ContractText" (97 : Nat) ({ cls := "com/example/clauseline/clauseline/ContractText", name := "firstBadByte", desc := "([BI)I" } : Jvm.MethodName))).before a0 Z = true := hw _ (List.mem_of_getElem? (i := 52) rfl)
theorem wd53 {a0 : Array Value} {Z : State} (hw : ∀ d ∈ tables_1, d.before a0 Z = true) : ((Jvm.Cond.static ({ cls := "com/example/clauseline/clauseline/ContractText", name := "firstBadByte", desc := "([BI)I" } : Jvm.MethodName))).before a0 Z = true := hw _ (List.mem_of_getElem? (i := 53) rfl)
theorem wd54 {a0 : Array Value} {Z : State} (hw : ∀ d ∈ tables_1, d.before a0 Z = true) : ((Jvm.Cond.code ({ cls := "com/example/clauseline/clauseline/ContractText", name := "firstBadByte", desc := "([BI)I" } : Jvm.MethodName) prog_22_method_42_code (5 : Nat) (Option.some Jvm.ClassFile.FieldType.int))).before a0 Z = true := hw _ (List.mem_of_getElem? (i := 54) rfl)
theorem wd55 {a0 : Array Value} {Z : State} (hw : ∀ d ∈ tables_1, d.before a0 Z = true) : ((Jvm.Cond.methodLink "com/example/clauseline/clauseline/ContractText" (255 : Nat) ({ cls := "com/example/clauseline/clauseline/ContractText", name := "sequenceLength", desc := "(I)I" } : Jvm.MethodName))).before a0 Z = true := hw _ (List.mem_of_getElem? (i := 55) rfl)
theorem wd56 {a0 : Array Value} {Z : State} (hw : ∀ d ∈ tables_1, d.before a0 Z = true) : ((Jvm.Cond.static ({ cls := "com/example/clauseline/clauseline/ContractText", name := "sequenceLength", desc := "(I)I" } : Jvm.MethodName))).before a0 Z = true := hw _ (List.mem_of_getElem? (i := 56) rfl)
theorem wd57 {a0 : Array Value} {Z : State} (hw : ∀ d ∈ tables_1, d.before a0 Z = true) : ((Jvm.Cond.code ({ cls := "com/example/clauseline/clauseline/ContractText", name := "sequenceLength", desc := "(I)I" } : Jvm.MethodName) prog_22_method_44_code (1 : Nat) (Option.some Jvm.ClassFile.FieldType.int))).before a0 Z = true := hw _ (List.mem_of_getElem? (i := 57) rfl)
theorem wd58 {a0 : Array Value} {Z : State} (hw : ∀ d ∈ tables_1, d.before a0 Z = true) : ((Jvm.Cond.classLink "com/example/clauseline/clauseline/ContractText" (10 : Nat) "com/example/clauseline/clauseline/ContractText")).before a0 Z = true := hw _ (List.mem_of_getElem? (i := 58) rfl)
theorem wd59 {a0 : Array Value} {Z : State} (hw : ∀ d ∈ tables_1, d.before a0 Z = true) : ((Jvm.Cond.instantiable "com/example/clauseline/clauseline/ContractText" (1 : Nat))).before a0 Z = true := hw _ (List.mem_of_getElem? (i := 59) rfl)
theorem wd60 {a0 : Array Value} {Z : State} (hw : ∀ d ∈ tables_1, d.before a0 Z = true) : ((Jvm.Cond.methodLink "com/example/clauseline/clauseline/ContractText" (64 : Nat) ({ cls := "com/example/clauseline/clauseline/ContractText", name := "<init>", desc := "([B)V" } : Jvm.MethodName))).before a0 Z = true := hw _ (List.mem_of_getElem? (i := 60) rfl)
theorem wd61 {a0 : Array Value} {Z : State} (hw : ∀ d ∈ tables_1, d.before a0 Z = true) : ((Jvm.Cond.instanceMethod ({ cls := "com/example/clauseline/clauseline/ContractText", name := "<init>", desc := "([B)V" } : Jvm.MethodName))).before a0 Z = true := hw _ (List.mem_of_getElem? (i := 61) rfl)
theorem wd62 {a0 : Array Value} {Z : State} (hw : ∀ d ∈ tables_1, d.before a0 Z = true) : ((Jvm.Cond.code ({ cls := "com/example/clauseline/clauseline/ContractText", name := "<init>", desc := "([B)V" } : Jvm.MethodName) prog_22_method_1_code (2 : Nat) (Option.none : Option Jvm.ClassFile.FieldType))).before a0 Z = true := hw _ (List.mem_of_getElem? (i := 62) rfl)
theorem wd63 {a0 : Array Value} {Z : State} (hw : ∀ d ∈ tables_1, d.before a0 Z = true) : ((Jvm.Cond.methodLink "com/example/clauseline/clauseline/ContractText" (3 : Nat) ({ cls := "java/lang/Object", name := "<init>", desc := "()V" } : Jvm.MethodName))).before a0 Z = true := hw _ (List.mem_of_getElem? (i := 63) rfl)
theorem wd64 {a0 : Array Value} {Z : State} (hw : ∀ d ∈ tables_1, d.before a0 Z = true) : ((Jvm.Cond.instanceMethod ({ cls := "java/lang/Object", name := "<init>", desc := "()V" } : Jvm.MethodName))).before a0 Z = true := hw _ (List.mem_of_getElem? (i := 64) rfl)
theorem wd65 {a0 : Array Value} {Z : State} (hw : ∀ d ∈ tables_1, d.before a0 Z = true) : ((Jvm.Cond.code ({ cls := "java/lang/Object", name := "<init>", desc := "()V" } : Jvm.MethodName) object_method_1_code (1 : Nat) (Option.none : Option Jvm.ClassFile.FieldType))).before a0 Z = true := hw _ (List.mem_of_getElem? (i := 65) rfl)
theorem wd66 {a0 : Array Value} {Z : State} (hw : ∀ d ∈ tables_1, d.before a0 Z = true) : ((Jvm.Cond.fieldLink "com/example/clauseline/clauseline/ContractText" (9 : Nat) "com/example/clauseline/clauseline/ContractText" "bytes" "[B")).before a0 Z = true := hw _ (List.mem_of_getElem? (i := 66) rfl)
theorem wd67 {a0 : Array Value} {Z : State} (hw : ∀ d ∈ tables_1, d.before a0 Z = true) : ((Jvm.Cond.laysFinal "com/example/clauseline/clauseline/ContractText" "com/example/clauseline/clauseline/ContractText" "bytes" "[B")).before a0 Z = true := hw _ (List.mem_of_getElem? (i := 67) rfl)
theorem wd68 {a0 : Array Value} {Z : State} (hw : ∀ d ∈ tables_1, d.before a0 Z = true) : ((Jvm.Cond.classLink "com/example/clauseline/clauseline/LineWrapContinuesSentencePinLaw" (43 : Nat) "com/example/clauseline/clauseline/LineWrap")).before a0 Z = true := hw _ (List.mem_of_getElem? (i := 68) rfl)
theorem wd69 {a0 : Array Value} {Z : State} (hw : ∀ d ∈ tables_1, d.before a0 Z = true) : ((Jvm.Cond.instantiable "com/example/clauseline/clauseline/LineWrap" (5 : Nat))).before a0 Z = true := hw _ (List.mem_of_getElem? (i := 69) rfl)
theorem wd70 {a0 : Array Value} {Z : State} (hw : ∀ d ∈ tables_1, d.before a0 Z = true) : ((Jvm.Cond.initialized "com/example/clauseline/clauseline/LineWrap")).before a0 Z = true := hw _ (List.mem_of_getElem? (i := 70) rfl)
theorem wd71 {a0 : Array Value} {Z : State} (hw : ∀ d ∈ tables_1, d.before a0 Z = true) : ((Jvm.Cond.methodLink "com/example/clauseline/clauseline/LineWrapContinuesSentencePinLaw" (45 : Nat) ({ cls := "com/example/clauseline/clauseline/LineWrap", name := "<init>", desc := "()V" } : Jvm.MethodName))).before a0 Z = true := hw _ (List.mem_of_getElem? (i := 71) rfl)
theorem wd72 {a0 : Array Value} {Z : State} (hw : ∀ d ∈ tables_1, d.before a0 Z = true) : ((Jvm.Cond.instanceMethod ({ cls := "com/example/clauseline/clauseline/LineWrap", name := "<init>", desc := "()V" } : Jvm.MethodName))).before a0 Z = true := hw _ (List.mem_of_getElem? (i := 72) rfl)
theorem wd73 {a0 : Array Value} {Z : State} (hw : ∀ d ∈ tables_1, d.before a0 Z = true) : ((Jvm.Cond.code ({ cls := "com/example/clauseline/clauseline/LineWrap", name := "<init>", desc := "()V" } : Jvm.MethodName) prog_47_method_1_code (1 : Nat) (Option.none : Option Jvm.ClassFile.FieldType))).before a0 Z = true := hw _ (List.mem_of_getElem? (i := 73) rfl)
theorem wd74 {a0 : Array Value} {Z : State} (hw : ∀ d ∈ tables_1, d.before a0 Z = true) : ((Jvm.Cond.methodLink "com/example/clauseline/clauseline/LineWrap" (1 : Nat) ({ cls := "java/lang/Object", name := "<init>", desc := "()V" } : Jvm.MethodName))).before a0 Z = true := hw _ (List.mem_of_getElem? (i := 74) rfl)
theorem wd75 {a0 : Array Value} {Z : State} (hw : ∀ d ∈ tables_1, d.before a0 Z = true) : ((Jvm.Cond.methodLink "com/example/clauseline/clauseline/LineWrapContinuesSentencePinLaw" (46 : Nat) ({ cls := "com/example/clauseline/clauseline/LineWrapContinuesSentencePinLaw", name := "event", desc := "(Lcom/example/clauseline/clauseline/LineWrap;Lcom/example/clauseline/clauseline/ContractText;I)V" } : Jvm.MethodName))).before a0 Z = true := hw _ (List.mem_of_getElem? (i := 75) rfl)
theorem wd76 {a0 : Array Value} {Z : State} (hw : ∀ d ∈ tables_1, d.before a0 Z = true) : ((Jvm.Cond.static ({ cls := "com/example/clauseline/clauseline/LineWrapContinuesSentencePinLaw", name := "event", desc := "(Lcom/example/clauseline/clauseline/LineWrap;Lcom/example/clauseline/clauseline/ContractText;I)V" } : Jvm.MethodName))).before a0 Z = true := hw _ (List.mem_of_getElem? (i := 76) rfl)
theorem wd77 {a0 : Array Value} {Z : State} (hw : ∀ d ∈ tables_1, d.before a0 Z = true) : ((Jvm.Cond.code ({ cls := "com/example/clauseline/clauseline/LineWrapContinuesSentencePinLaw", name := "event", desc := "(Lcom/example/clauseline/clauseline/LineWrap;Lcom/example/clauseline/clauseline/ContractText;I)V" } : Jvm.MethodName) method_3_code (3 : Nat) (Option.none : Option Jvm.ClassFile.FieldType))).before a0 Z = true := hw _ (List.mem_of_getElem? (i := 77) rfl)
theorem wd78 {a0 : Array Value} {Z : State} (hw : ∀ d ∈ tables_1, d.before a0 Z = true) : ((Jvm.Cond.methodLink "com/example/clauseline/clauseline/LineWrapContinuesSentencePinLaw" (50 : Nat) ({ cls := "com/example/clauseline/clauseline/LineWrap", name := "add", desc := "(Lcom/example/clauseline/clauseline/ContractText;II)Z" } : Jvm.MethodName))).before a0 Z = true := hw _ (List.mem_of_getElem? (i := 78) rfl)
theorem wd79 {a0 : Array Value} {Z : State} (hw : ∀ d ∈ tables_1, d.before a0 Z = true) : ((Jvm.Cond.declares ({ cls := "com/example/clauseline/clauseline/LineWrap", name := "add", desc := "(Lcom/example/clauseline/clauseline/ContractText;II)Z" } : Jvm.MethodName))).before a0 Z = true := hw _ (List.mem_of_getElem? (i := 79) rfl)
theorem wd80 {a0 : Array Value} {Z : State} (hw : ∀ d ∈ tables_1, d.before a0 Z = true) : ((Jvm.Cond.instanceMethod ({ cls := "com/example/clauseline/clauseline/LineWrap", name := "add", desc := "(Lcom/example/clauseline/clauseline/ContractText;II)Z" } : Jvm.MethodName))).before a0 Z = true := hw _ (List.mem_of_getElem? (i := 80) rfl)
theorem wd81 {a0 : Array Value} {Z : State} (hw : ∀ d ∈ tables_1, d.before a0 Z = true) : ((Jvm.Cond.selects "com/example/clauseline/clauseline/LineWrap" ({ cls := "com/example/clauseline/clauseline/LineWrap", name := "add", desc := "(Lcom/example/clauseline/clauseline/ContractText;II)Z" } : Jvm.MethodName) ({ cls := "com/example/clauseline/clauseline/LineWrap", name := "add", desc := "(Lcom/example/clauseline/clauseline/ContractText;II)Z" } : Jvm.MethodName))).before a0 Z = true := hw _ (List.mem_of_getElem? (i := 81) rfl)
theorem wd82 {a0 : Array Value} {Z : State} (hw : ∀ d ∈ tables_1, d.before a0 Z = true) : ((Jvm.Cond.code ({ cls := "com/example/clauseline/clauseline/LineWrap", name := "add", desc := "(Lcom/example/clauseline/clauseline/ContractText;II)Z" } : Jvm.MethodName) prog_47_method_4_code (6 : Nat) (Option.some Jvm.ClassFile.FieldType.boolean))).before a0 Z = true := hw _ (List.mem_of_getElem? (i := 82) rfl)
theorem wd83 {a0 : Array Value} {Z : State} (hw : ∀ d ∈ tables_1, d.before a0 Z = true) : ((Jvm.Cond.methodLink "com/example/clauseline/clauseline/LineWrap" (26 : Nat) ({ cls := "com/example/clauseline/clauseline/ContractText", name := "skipSpaces", desc := "(II)I" } : Jvm.MethodName))).before a0 Z = true := hw _ (List.mem_of_getElem? (i := 83) rfl)
theorem wd84 {a0 : Array Value} {Z : State} (hw : ∀ d ∈ tables_1, d.before a0 Z = true) : ((Jvm.Cond.declares ({ cls := "com/example/clauseline/clauseline/ContractText", name := "skipSpaces", desc := "(II)I" } : Jvm.MethodName))).before a0 Z = true := hw _ (List.mem_of_getElem? (i := 84) rfl)
theorem wd85 {a0 : Array Value} {Z : State} (hw : ∀ d ∈ tables_1, d.before a0 Z = true) : ((Jvm.Cond.instanceMethod ({ cls := "com/example/clauseline/clauseline/ContractText", name := "skipSpaces", desc := "(II)I" } : Jvm.MethodName))).before a0 Z = true := hw _ (List.mem_of_getElem? (i := 85) rfl)
theorem wd86 {a0 : Array Value} {Z : State} (hw : ∀ d ∈ tables_1, d.before a0 Z = true) : ((Jvm.Cond.selects "com/example/clauseline/clauseline/ContractText" ({ cls := "com/example/clauseline/clauseline/ContractText", name := "skipSpaces", desc := "(II)I" } : Jvm.MethodName) ({ cls := "com/example/clauseline/clauseline/ContractText", name := "skipSpaces", desc := "(II)I" } : Jvm.MethodName))).before a0 Z = true := hw _ (List.mem_of_getElem? (i := 86) rfl)
theorem wd87 {a0 : Array Value} {Z : State} (hw : ∀ d ∈ tables_1, d.before a0 Z = true) : ((Jvm.Cond.code ({ cls := "com/example/clauseline/clauseline/ContractText", name := "skipSpaces", desc := "(II)I" } : Jvm.MethodName) prog_22_method_20_code (4 : Nat) (Option.some Jvm.ClassFile.FieldType.int))).before a0 Z = true := hw _ (List.mem_of_getElem? (i := 87) rfl)
theorem wd88 {a0 : Array Value} {Z : State} (hw : ∀ d ∈ tables_1, d.before a0 Z = true) : ((Jvm.Cond.methodLink "com/example/clauseline/clauseline/ContractText" (141 : Nat) ({ cls := "com/example/clauseline/clauseline/ContractText", name := "isSpace", desc := "(B)Z" } : Jvm.MethodName))).before a0 Z = true := hw _ (List.mem_of_getElem? (i := 88) rfl)
theorem wd89 {a0 : Array Value} {Z : State} (hw : ∀ d ∈ tables_1, d.before a0 Z = true) : ((Jvm.Cond.static ({ cls := "com/example/clauseline/clauseline/ContractText", name := "isSpace", desc := "(B)Z" } : Jvm.MethodName))).before a0 Z = true := hw _ (List.mem_of_getElem? (i := 89) rfl)
theorem wd90 {a0 : Array Value} {Z : State} (hw : ∀ d ∈ tables_1, d.before a0 Z = true) : ((Jvm.Cond.code ({ cls := "com/example/clauseline/clauseline/ContractText", name := "isSpace", desc := "(B)Z" } : Jvm.MethodName) prog_22_method_46_code (1 : Nat) (Option.some Jvm.ClassFile.FieldType.boolean))).before a0 Z = true := hw _ (List.mem_of_getElem? (i := 90) rfl)
theorem wd91 {a0 : Array Value} {Z : State} (hw : ∀ d ∈ tables_1, d.before a0 Z = true) : ((Jvm.Cond.methodLink "com/example/clauseline/clauseline/LineWrap" (32 : Nat) ({ cls := "com/example/clauseline/clauseline/LineWrap", name := "textEnd", desc := "(Lcom/example/clauseline/clauseline/ContractText;II)I" } : Jvm.MethodName))).before a0 Z = true := hw _ (List.mem_of_getElem? (i := 91) rfl)
theorem wd92 {a0 : Array Value} {Z : State} (hw : ∀ d ∈ tables_1, d.before a0 Z = true) : ((Jvm.Cond.static ({ cls := "com/example/clauseline/clauseline/LineWrap", name := "textEnd", desc := "(Lcom/example/clauseline/clauseline/ContractText;II)I" } : Jvm.MethodName))).before a0 Z = true := hw _ (List.mem_of_getElem? (i := 92) rfl)
theorem wd93 {a0 : Array Value} {Z : State} (hw : ∀ d ∈ tables_1, d.before a0 Z = true) : ((Jvm.Cond.code ({ cls := "com/example/clauseline/clauseline/LineWrap", name := "textEnd", desc := "(Lcom/example/clauseline/clauseline/ContractText;II)I" } : Jvm.MethodName) prog_47_method_14_code (4 : Nat) (Option.some Jvm.ClassFile.FieldType.int))).before a0 Z = true := hw _ (List.mem_of_getElem? (i := 93) rfl)
theorem wd94 {a0 : Array Value} {Z : State} (hw : ∀ d ∈ tables_1, d.before a0 Z = true) : ((Jvm.Cond.fieldLink "com/example/clauseline/clauseline/LineWrap" (13 : Nat) "com/example/clauseline/clauseline/LineWrap" "blank" "Z")).before a0 Z = true := hw _ (List.mem_of_getElem? (i := 94) rfl)
theorem wd95 {a0 : Array Value} {Z : State} (hw : ∀ d ∈ tables_1, d.before a0 Z = true) : ((Jvm.Cond.lays "com/example/clauseline/clauseline/LineWrap" "com/example/clauseline/clauseline/LineWrap" "blank" "Z")).before a0 Z = true := hw _ (List.mem_of_getElem? (i := 95) rfl)
theorem wd96 {a0 : Array Value} {Z : State} (hw : ∀ d ∈ tables_1, d.before a0 Z = true) : ((Jvm.Cond.methodLink "com/example/clauseline/clauseline/LineWrapContinuesSentencePinLaw" (54 : Nat) ({ cls := "com/example/clauseline/clauseline/LineWrap", name := "continuesSentence", desc := "(I)Z" } : Jvm.MethodName))).before a0 Z = true := hw _ (List.mem_of_getElem? (i := 96) rfl)
theorem wd97 {a0 : Array Value} {Z : State} (hw : ∀ d ∈ tables_1, d.before a0 Z = true) : ((Jvm.Cond.declares ({ cls := "com/example/clauseline/clauseline/LineWrap", name := "continuesSentence", desc := "(I)Z" } : Jvm.MethodName))).before a0 Z = true := hw _ (List.mem_of_getElem? (i := 97) rfl)
theorem wd98 {a0 : Array Value} {Z : State} (hw : ∀ d ∈ tables_1, d.before a0 Z = true) : ((Jvm.Cond.instanceMethod ({ cls := "com/example/clauseline/clauseline/LineWrap", name := "continuesSentence", desc := "(I)Z" } : Jvm.MethodName))).before a0 Z = true := hw _ (List.mem_of_getElem? (i := 98) rfl)
theorem wd99 {a0 : Array Value} {Z : State} (hw : ∀ d ∈ tables_1, d.before a0 Z = true) : ((Jvm.Cond.selects "com/example/clauseline/clauseline/LineWrap" ({ cls := "com/example/clauseline/clauseline/LineWrap", name := "continuesSentence", desc := "(I)Z" } : Jvm.MethodName) ({ cls := "com/example/clauseline/clauseline/LineWrap", name := "continuesSentence", desc := "(I)Z" } : Jvm.MethodName))).before a0 Z = true := hw _ (List.mem_of_getElem? (i := 99) rfl)
theorem wd100 {a0 : Array Value} {Z : State} (hw : ∀ d ∈ tables_1, d.before a0 Z = true) : ((Jvm.Cond.code ({ cls := "com/example/clauseline/clauseline/LineWrap", name := "continuesSentence", desc := "(I)Z" } : Jvm.MethodName) prog_47_method_2_code (2 : Nat) (Option.some Jvm.ClassFile.FieldType.boolean))).before a0 Z = true := hw _ (List.mem_of_getElem? (i := 100) rfl)
theorem wd101 {a0 : Array Value} {Z : State} (hw : ∀ d ∈ tables_1, d.before a0 Z = true) : ((Jvm.Cond.fieldLink "com/example/clauseline/clauseline/LineWrap" (7 : Nat) "com/example/clauseline/clauseline/LineWrap" "open" "Z")).before a0 Z = true := hw _ (List.mem_of_getElem? (i := 101) rfl)
theorem wd102 {a0 : Array Value} {Z : State} (hw : ∀ d ∈ tables_1, d.before a0 Z = true) : ((Jvm.Cond.lays "com/example/clauseline/clauseline/LineWrap" "com/example/clauseline/clauseline/LineWrap" "open" "Z")).before a0 Z = true := hw _ (List.mem_of_getElem? (i := 102) rfl)
theorem wd103 {a0 : Array Value} {Z : State} (hw : ∀ d ∈ tables_1, d.before a0 Z = true) : ((Jvm.Cond.methodLink "com/example/clauseline/clauseline/LineWrap" (47 : Nat) ({ cls := "com/example/clauseline/clauseline/ContractText", name := "byteAt", desc := "(I)B" } : Jvm.MethodName))).before a0 Z = true := hw _ (List.mem_of_getElem? (i := 103) rfl)
theorem wd104 {a0 : Array Value} {Z : State} (hw : ∀ d ∈ tables_1, d.before a0 Z = true) : ((Jvm.Cond.declares ({ cls := "com/example/clauseline/clauseline/ContractText", name := "byteAt", desc := "(I)B" } : Jvm.MethodName))).before a0 Z = true := hw _ (List.mem_of_getElem? (i := 104) rfl)
theorem wd105 {a0 : Array Value} {Z : State} (hw : ∀ d ∈ tables_1, d.before a0 Z = true) : ((Jvm.Cond.instanceMethod ({ cls := "com/example/clauseline/clauseline/ContractText", name := "byteAt", desc := "(I)B" } : Jvm.MethodName))).before a0 Z = true := hw _ (List.mem_of_getElem? (i := 105) rfl)
theorem wd106 {a0 : Array Value} {Z : State} (hw : ∀ d ∈ tables_1, d.before a0 Z = true) : ((Jvm.Cond.selects "com/example/clauseline/clauseline/ContractText" ({ cls := "com/example/clauseline/clauseline/ContractText", name := "byteAt", desc := "(I)B" } : Jvm.MethodName) ({ cls := "com/example/clauseline/clauseline/ContractText", name := "byteAt", desc := "(I)B" } : Jvm.MethodName))).before a0 Z = true := hw _ (List.mem_of_getElem? (i := 106) rfl)
theorem wd107 {a0 : Array Value} {Z : State} (hw : ∀ d ∈ tables_1, d.before a0 Z = true) : ((Jvm.Cond.code ({ cls := "com/example/clauseline/clauseline/ContractText", name := "byteAt", desc := "(I)B" } : Jvm.MethodName) prog_22_method_8_code (2 : Nat) (Option.some Jvm.ClassFile.FieldType.byte))).before a0 Z = true := hw _ (List.mem_of_getElem? (i := 107) rfl)
theorem wd108 {a0 : Array Value} {Z : State} (hw : ∀ d ∈ tables_1, d.before a0 Z = true) : ((Jvm.Cond.methodLink "com/example/clauseline/clauseline/LineWrap" (132 : Nat) ({ cls := "com/example/clauseline/clauseline/LineWrap", name := "isSpace", desc := "(B)Z" } : Jvm.MethodName))).before a0 Z = true := hw _ (List.mem_of_getElem? (i := 108) rfl)
theorem wd109 {a0 : Array Value} {Z : State} (hw : ∀ d ∈ tables_1, d.before a0 Z = true) : ((Jvm.Cond.static ({ cls := "com/example/clauseline/clauseline/LineWrap", name := "isSpace", desc := "(B)Z" } : Jvm.MethodName))).before a0 Z = true := hw _ (List.mem_of_getElem? (i := 109) rfl)
theorem wd110 {a0 : Array Value} {Z : State} (hw : ∀ d ∈ tables_1, d.before a0 Z = true) : ((Jvm.Cond.code ({ cls := "com/example/clauseline/clauseline/LineWrap", name := "isSpace", desc := "(B)Z" } : Jvm.MethodName) prog_47_method_22_code (1 : Nat) (Option.some Jvm.ClassFile.FieldType.boolean))).before a0 Z = true := hw _ (List.mem_of_getElem? (i := 110) rfl)
theorem wd111 {a0 : Array Value} {Z : State} (hw : ∀ d ∈ tables_1, d.before a0 Z = true) : ((Jvm.Cond.methodLink "com/example/clauseline/clauseline/LineWrap" (36 : Nat) ({ cls := "com/example/clauseline/clauseline/LineWrap", name := "isPageBreak", desc := "(Lcom/example/clauseline/clauseline/ContractText;III)Z" } : Jvm.MethodName))).before a0 Z = true := hw _ (List.mem_of_getElem? (i := 111) rfl)
theorem wd112 {a0 : Array Value} {Z : State} (hw : ∀ d ∈ tables_1, d.before a0 Z = true) : ((Jvm.Cond.static ({ cls := "com/example/clauseline/clauseline/LineWrap", name := "isPageBreak", desc := "(Lcom/example/clauseline/clauseline/ContractText;III)Z" } : Jvm.MethodName))).before a0 Z = true := hw _ (List.mem_of_getElem? (i := 112) rfl)
theorem wd113 {a0 : Array Value} {Z : State} (hw : ∀ d ∈ tables_1, d.before a0 Z = true) : ((Jvm.Cond.code ({ cls := "com/example/clauseline/clauseline/LineWrap", name := "isPageBreak", desc := "(Lcom/example/clauseline/clauseline/ContractText;III)Z" } : Jvm.MethodName) prog_47_method_15_code (4 : Nat) (Option.some Jvm.ClassFile.FieldType.boolean))).before a0 Z = true := hw _ (List.mem_of_getElem? (i := 113) rfl)
theorem wd114 {a0 : Array Value} {Z : State} (hw : ∀ d ∈ tables_1, d.before a0 Z = true) : ((Jvm.Cond.methodLink "com/example/clauseline/clauseline/LineWrap" (135 : Nat) ({ cls := "com/example/clauseline/clauseline/LineWrap", name := "isMark", desc := "(Lcom/example/clauseline/clauseline/ContractText;II)Z" } : Jvm.MethodName))).before a0 Z = true := hw _ (List.mem_of_getElem? (i := 114) rfl)
theorem wd115 {a0 : Array Value} {Z : State} (hw : ∀ d ∈ tables_1, d.before a0 Z = true) : ((Jvm.Cond.static ({ cls := "com/example/clauseline/clauseline/LineWrap", name := "isMark", desc := "(Lcom/example/clauseline/clauseline/ContractText;II)Z" } : Jvm.MethodName))).before a0 Z = true := hw _ (List.mem_of_getElem? (i := 115) rfl)
theorem wd116 {a0 : Array Value} {Z : State} (hw : ∀ d ∈ tables_1, d.before a0 Z = true) : ((Jvm.Cond.code ({ cls := "com/example/clauseline/clauseline/LineWrap", name := "isMark", desc := "(Lcom/example/clauseline/clauseline/ContractText;II)Z" } : Jvm.MethodName) prog_47_method_18_code (4 : Nat) (Option.some Jvm.ClassFile.FieldType.boolean))).before a0 Z = true := hw _ (List.mem_of_getElem? (i := 116) rfl)
theorem wd117 {a0 : Array Value} {Z : State} (hw : ∀ d ∈ tables_1, d.before a0 Z = true) : ((Jvm.Cond.fieldLink "com/example/clauseline/clauseline/LineWrap" (16 : Nat) "com/example/clauseline/clauseline/LineWrap" "pageBreak" "Z")).before a0 Z = true := hw _ (List.mem_of_getElem? (i := 117) rfl)
theorem wd118 {a0 : Array Value} {Z : State} (hw : ∀ d ∈ tables_1, d.before a0 Z = true) : ((Jvm.Cond.lays "com/example/clauseline/clauseline/LineWrap" "com/example/clauseline/clauseline/LineWrap" "pageBreak" "Z")).before a0 Z = true := hw _ (List.mem_of_getElem? (i := 118) rfl)
theorem wd119 {a0 : Array Value} {Z : State} (hw : ∀ d ∈ tables_1, d.before a0 Z = true) : ((Jvm.Cond.stringLink "com/example/clauseline/clauseline/LineWrapContinuesSentencePinLaw" (23 : Nat) "ABCD")).before a0 Z = true := hw _ (List.mem_of_getElem? (i := 119) rfl)
theorem wd120 {a0 : Array Value} {Z : State} (hw : ∀ d ∈ tables_1, d.before a0 Z = true) : ((Jvm.Cond.methodLink "com/example/clauseline/clauseline/LineWrap" (138 : Nat) ({ cls := "com/example/clauseline/clauseline/LineWrap", name := "isFooter", desc := "(Lcom/example/clauseline/clauseline/ContractText;II)Z" } : Jvm.MethodName))).before a0 Z = true := hw _ (List.mem_of_getElem? (i := 120) rfl)
theorem wd121 {a0 : Array Value} {Z : State} (hw : ∀ d ∈ tables_1, d.before a0 Z = true) : ((Jvm.Cond.static ({ cls := "com/example/clauseline/clauseline/LineWrap", name := "isFooter", desc := "(Lcom/example/clauseline/clauseline/ContractText;II)Z" } : Jvm.MethodName))).before a0 Z = true := hw _ (List.mem_of_getElem? (i := 121) rfl)
theorem wd122 {a0 : Array Value} {Z : State} (hw : ∀ d ∈ tables_1, d.before a0 Z = true) : ((Jvm.Cond.code ({ cls := "com/example/clauseline/clauseline/LineWrap", name := "isFooter", desc := "(Lcom/example/clauseline/clauseline/ContractText;II)Z" } : Jvm.MethodName) prog_47_method_16_code (7 : Nat) (Option.some Jvm.ClassFile.FieldType.boolean))).before a0 Z = true := hw _ (List.mem_of_getElem? (i := 122) rfl)
theorem wd123 {a0 : Array Value} {Z : State} (hw : ∀ d ∈ tables_1, d.before a0 Z = true) : ((Jvm.Cond.methodLink "com/example/clauseline/clauseline/LineWrap" (141 : Nat) ({ cls := "com/example/clauseline/clauseline/ContractText", name := "digitsEnd", desc := "(II)I" } : Jvm.MethodName))).before a0 Z = true := hw _ (List.mem_of_getElem? (i := 123) rfl)
theorem wd124 {a0 : Array Value} {Z : State} (hw : ∀ d ∈ tables_1, d.before a0 Z = true) : ((Jvm.Cond.declares ({ cls := "com/example/clauseline/clauseline/ContractText", name := "digitsEnd", desc := "(II)I" } : Jvm.MethodName))).before a0 Z = true := hw _ (List.mem_of_getElem? (i := 124) rfl)
theorem wd125 {a0 : Array Value} {Z : State} (hw : ∀ d ∈ tables_1, d.before a0 Z = true) : ((Jvm.Cond.instanceMethod ({ cls := "com/example/clauseline/clauseline/ContractText", name := "digitsEnd", desc := "(II)I" } : Jvm.MethodName))).before a0 Z = true := hw _ (List.mem_of_getElem? (i := 125) rfl)
theorem wd126 {a0 : Array Value} {Z : State} (hw : ∀ d ∈ tables_1, d.before a0 Z = true) : ((Jvm.Cond.selects "com/example/clauseline/clauseline/ContractText" ({ cls := "com/example/clauseline/clauseline/ContractText", name := "digitsEnd", desc := "(II)I" } : Jvm.MethodName) ({ cls := "com/example/clauseline/clauseline/ContractText", name := "digitsEnd", desc := "(II)I" } : Jvm.MethodName))).before a0 Z = true := hw _ (List.mem_of_getElem? (i := 126) rfl)
theorem wd127 {a0 : Array Value} {Z : State} (hw : ∀ d ∈ tables_1, d.before a0 Z = true) : ((Jvm.Cond.code ({ cls := "com/example/clauseline/clauseline/ContractText", name := "digitsEnd", desc := "(II)I" } : Jvm.MethodName) prog_22_method_22_code (4 : Nat) (Option.some Jvm.ClassFile.FieldType.int))).before a0 Z = true := hw _ (List.mem_of_getElem? (i := 127) rfl)
theorem wd128 {a0 : Array Value} {Z : State} (hw : ∀ d ∈ tables_1, d.before a0 Z = true) : ((Jvm.Cond.methodLink "com/example/clauseline/clauseline/ContractText" (158 : Nat) ({ cls := "com/example/clauseline/clauseline/ContractText", name := "isDigit", desc := "(B)Z" } : Jvm.MethodName))).before a0 Z = true := hw _ (List.mem_of_getElem? (i := 128) rfl)
theorem wd129 {a0 : Array Value} {Z : State} (hw : ∀ d ∈ tables_1, d.before a0 Z = true) : ((Jvm.Cond.static ({ cls := "com/example/clauseline/clauseline/ContractText", name := "isDigit", desc := "(B)Z" } : Jvm.MethodName))).before a0 Z = true := hw _ (List.mem_of_getElem? (i := 129) rfl)
theorem wd130 {a0 : Array Value} {Z : State} (hw : ∀ d ∈ tables_1, d.before a0 Z = true) : ((Jvm.Cond.code ({ cls := "com/example/clauseline/clauseline/ContractText", name := "isDigit", desc := "(B)Z" } : Jvm.MethodName) prog_22_method_52_code (1 : Nat) (Option.some Jvm.ClassFile.FieldType.boolean))).before a0 Z = true := hw _ (List.mem_of_getElem? (i := 130) rfl)
theorem wd131 {a0 : Array Value} {Z : State} (hw : ∀ d ∈ tables_1, d.before a0 Z = true) : ((Jvm.Cond.stringLink "com/example/clauseline/clauseline/LineWrap" (147 : Nat) "ISDA")).before a0 Z = true := hw _ (List.mem_of_getElem? (i := 131) rfl)
theorem wd132 {a0 : Array Value} {Z : State} (hw : ∀ d ∈ tables_1, d.before a0 Z = true) : ((Jvm.Cond.methodLink "com/example/clauseline/clauseline/LineWrap" (149 : Nat) ({ cls := "com/example/clauseline/clauseline/ContractText", name := "startsWith", desc := "(IILjava/lang/String;)Z" } : Jvm.MethodName))).before a0 Z = true := hw _ (List.mem_of_getElem? (i := 132) rfl)
theorem wd133 {a0 : Array Value} {Z : State} (hw : ∀ d ∈ tables_1, d.before a0 Z = true) : ((Jvm.Cond.declares ({ cls := "com/example/clauseline/clauseline/ContractText", name := "startsWith", desc := "(IILjava/lang/String;)Z" } : Jvm.MethodName))).before a0 Z = true := hw _ (List.mem_of_getElem? (i := 133) rfl)
theorem wd134 {a0 : Array Value} {Z : State} (hw : ∀ d ∈ tables_1, d.before a0 Z = true) : ((Jvm.Cond.instanceMethod ({ cls := "com/example/clauseline/clauseline/ContractText", name := "startsWith", desc := "(IILjava/lang/String;)Z" } : Jvm.MethodName))).before a0 Z = true := hw _ (List.mem_of_getElem? (i := 134) rfl)
theorem wd135 {a0 : Array Value} {Z : State} (hw : ∀ d ∈ tables_1, d.before a0 Z = true) : ((Jvm.Cond.selects "com/example/clauseline/clauseline/ContractText" ({ cls := "com/example/clauseline/clauseline/ContractText", name := "startsWith", desc := "(IILjava/lang/String;)Z" } : Jvm.MethodName) ({ cls := "com/example/clauseline/clauseline/ContractText", name := "startsWith", desc := "(IILjava/lang/String;)Z" } : Jvm.MethodName))).before a0 Z = true := hw _ (List.mem_of_getElem? (i := 135) rfl)
theorem wd136 {a0 : Array Value} {Z : State} (hw : ∀ d ∈ tables_1, d.before a0 Z = true) : ((Jvm.Cond.code ({ cls := "com/example/clauseline/clauseline/ContractText", name := "startsWith", desc := "(IILjava/lang/String;)Z" } : Jvm.MethodName) prog_22_method_34_code (5 : Nat) (Option.some Jvm.ClassFile.FieldType.boolean))).before a0 Z = true := hw _ (List.mem_of_getElem? (i := 136) rfl)
theorem wd137 {a0 : Array Value} {Z : State} (hw : ∀ d ∈ tables_1, d.before a0 Z = true) : ((Jvm.Cond.methodLink "com/example/clauseline/clauseline/ContractText" (167 : Nat) ({ cls := "java/lang/String", name := "length", desc := "()I" } : Jvm.MethodName))).before a0 Z = true := hw _ (List.mem_of_getElem? (i := 137) rfl)
theorem wd138 {a0 : Array Value} {Z : State} (hw : ∀ d ∈ tables_1, d.before a0 Z = true) : ((Jvm.Cond.declares ({ cls := "java/lang/String", name := "length", desc := "()I" } : Jvm.MethodName))).before a0 Z = true := hw _ (List.mem_of_getElem? (i := 138) rfl)
theorem wd139 {a0 : Array Value} {Z : State} (hw : ∀ d ∈ tables_1, d.before a0 Z = true) : ((Jvm.Cond.instanceMethod ({ cls := "java/lang/String", name := "length", desc := "()I" } : Jvm.MethodName))).before a0 Z = true := hw _ (List.mem_of_getElem? (i := 139) rfl)
theorem wd140 {a0 : Array Value} {Z : State} (hw : ∀ d ∈ tables_1, d.before a0 Z = true) : ((Jvm.Cond.selects "java/lang/String" ({ cls := "java/lang/String", name := "length", desc := "()I" } : Jvm.MethodName) ({ cls := "java/lang/String", name := "length", desc := "()I" } : Jvm.MethodName))).before a0 Z = true := hw _ (List.mem_of_getElem? (i := 140) rfl)
theorem wd141 {a0 : Array Value} {Z : State} (hw : ∀ d ∈ tables_1, d.before a0 Z = true) : ((Jvm.Cond.code ({ cls := "java/lang/String", name := "length", desc := "()I" } : Jvm.MethodName) jdk_42_method_54_code (1 : Nat) (Option.some Jvm.ClassFile.FieldType.int))).before a0 Z = true := hw _ (List.mem_of_getElem? (i := 141) rfl)
theorem wd142 {a0 : Array Value} {Z : State} (hw : ∀ d ∈ tables_1, d.before a0 Z = true) : ((Jvm.Cond.methodLink "java/lang/String" (335 : Nat) ({ cls := "java/lang/String", name := "coder", desc := "()B" } : Jvm.MethodName))).before a0 Z = true := hw _ (List.mem_of_getElem? (i := 142) rfl)
theorem wd143 {a0 : Array Value} {Z : State} (hw : ∀ d ∈ tables_1, d.before a0 Z = true) : ((Jvm.Cond.declares ({ cls := "java/lang/String", name := "coder", desc := "()B" } : Jvm.MethodName))).before a0 Z = true := hw _ (List.mem_of_getElem? (i := 143) rfl)
theorem wd144 {a0 : Array Value} {Z : State} (hw : ∀ d ∈ tables_1, d.before a0 Z = true) : ((Jvm.Cond.instanceMethod ({ cls := "java/lang/String", name := "coder", desc := "()B" } : Jvm.MethodName))).before a0 Z = true := hw _ (List.mem_of_getElem? (i := 144) rfl)
theorem wd145 {a0 : Array Value} {Z : State} (hw : ∀ d ∈ tables_1, d.before a0 Z = true) : ((Jvm.Cond.selects "java/lang/String" ({ cls := "java/lang/String", name := "coder", desc := "()B" } : Jvm.MethodName) ({ cls := "java/lang/String", name := "coder", desc := "()B" } : Jvm.MethodName))).before a0 Z = true := hw _ (List.mem_of_getElem? (i := 145) rfl)
theorem wd146 {a0 : Array Value} {Z : State} (hw : ∀ d ∈ tables_1, d.before a0 Z = true) : ((Jvm.Cond.code ({ cls := "java/lang/String", name := "coder", desc := "()B" } : Jvm.MethodName) jdk_42_method_152_code (1 : Nat) (Option.some Jvm.ClassFile.FieldType.byte))).before a0 Z = true := hw _ (List.mem_of_getElem? (i := 146) rfl)
theorem wd147 {a0 : Array Value} {Z : State} (hw : ∀ d ∈ tables_1, d.before a0 Z = true) : ((Jvm.Cond.methodLink "com/example/clauseline/clauseline/LineWrap" (40 : Nat) ({ cls := "com/example/clauseline/clauseline/LineWrap", name := "isRule", desc := "(Lcom/example/clauseline/clauseline/ContractText;II)Z" } : Jvm.MethodName))).before a0 Z = true := hw _ (List.mem_of_getElem? (i := 147) rfl)
theorem wd148 {a0 : Array Value} {Z : State} (hw : ∀ d ∈ tables_1, d.before a0 Z = true) : ((Jvm.Cond.static ({ cls := "com/example/clauseline/clauseline/LineWrap", name := "isRule", desc := "(Lcom/example/clauseline/clauseline/ContractText;II)Z" } : Jvm.MethodName))).before a0 Z = true := hw _ (List.mem_of_getElem? (i := 148) rfl)
theorem wd149 {a0 : Array Value} {Z : State} (hw : ∀ d ∈ tables_1, d.before a0 Z = true) : ((Jvm.Cond.code ({ cls := "com/example/clauseline/clauseline/LineWrap", name := "isRule", desc := "(Lcom/example/clauseline/clauseline/ContractText;II)Z" } : Jvm.MethodName) prog_47_method_20_code (5 : Nat) (Option.some Jvm.ClassFile.FieldType.boolean))).before a0 Z = true := hw _ (List.mem_of_getElem? (i := 149) rfl)
theorem wd150 {a0 : Array Value} {Z : State} (hw : ∀ d ∈ tables_1, d.before a0 Z = true) : ((Jvm.Cond.stringLink "com/example/clauseline/clauseline/LineWrapContinuesSentencePinLaw" (21 : Nat) "a.bc")).before a0 Z = true := hw _ (List.mem_of_getElem? (i := 150) rfl)
theorem wd151 {a0 : Array Value} {Z : State} (hw : ∀ d ∈ tables_1, d.before a0 Z = true) : ((Jvm.Cond.methodLink "com/example/clauseline/clauseline/ContractText" (171 : Nat) ({ cls := "java/lang/String", name := "charAt", desc := "(I)C" } : Jvm.MethodName))).before a0 Z = true := hw _ (List.mem_of_getElem? (i := 151) rfl)
theorem wd152 {a0 : Array Value} {Z : State} (hw : ∀ d ∈ tables_1, d.before a0 Z = true) : ((Jvm.Cond.methodLink "com/example/clauseline/clauseline/LineWrap" (44 : Nat) ({ cls := "com/example/clauseline/clauseline/LineWrap", name := "endsMidSentence", desc := "(Lcom/example/clauseline/clauseline/ContractText;II)Z" } : Jvm.MethodName))).before a0 Z = true := hw _ (List.mem_of_getElem? (i := 152) rfl)
theorem wd153 {a0 : Array Value} {Z : State} (hw : ∀ d ∈ tables_1, d.before a0 Z = true) : ((Jvm.Cond.static ({ cls := "com/example/clauseline/clauseline/LineWrap", name := "endsMidSentence", desc := "(Lcom/example/clauseline/clauseline/ContractText;II)Z" } : Jvm.MethodName))).before a0 Z = true := hw _ (List.mem_of_getElem? (i := 153) rfl)
theorem wd154 {a0 : Array Value} {Z : State} (hw : ∀ d ∈ tables_1, d.before a0 Z = true) : ((Jvm.Cond.code ({ cls := "com/example/clauseline/clauseline/LineWrap", name := "endsMidSentence", desc := "(Lcom/example/clauseline/clauseline/ContractText;II)Z" } : Jvm.MethodName) prog_47_method_21_code (6 : Nat) (Option.some Jvm.ClassFile.FieldType.boolean))).before a0 Z = true := hw _ (List.mem_of_getElem? (i := 154) rfl)
theorem wd155 {a0 : Array Value} {Z : State} (hw : ∀ d ∈ tables_1, d.before a0 Z = true) : ((Jvm.Cond.methodLink "com/example/clauseline/clauseline/LineWrap" (164 : Nat) ({ cls := "com/example/clauseline/clauseline/ContractText", name := "isLetter", desc := "(B)Z" } : Jvm.MethodName))).before a0 Z = true := hw _ (List.mem_of_getElem? (i := 155) rfl)
theorem wd156 {a0 : Array Value} {Z : State} (hw : ∀ d ∈ tables_1, d.before a0 Z = true) : ((Jvm.Cond.static ({ cls := "com/example/clauseline/clauseline/ContractText", name := "isLetter", desc := "(B)Z" } : Jvm.MethodName))).before a0 Z = true := hw _ (List.mem_of_getElem? (i := 156) rfl)
theorem wd157 {a0 : Array Value} {Z : State} (hw : ∀ d ∈ tables_1, d.before a0 Z = true) : ((Jvm.Cond.code ({ cls := "com/example/clauseline/clauseline/ContractText", name := "isLetter", desc := "(B)Z" } : Jvm.MethodName) prog_22_method_51_code (1 : Nat) (Option.some Jvm.ClassFile.FieldType.boolean))).before a0 Z = true := hw _ (List.mem_of_getElem? (i := 157) rfl)
theorem wd158 {a0 : Array Value} {Z : State} (hw : ∀ d ∈ tables_1, d.before a0 Z = true) : ((Jvm.Cond.methodLink "com/example/clauseline/clauseline/ContractText" (263 : Nat) ({ cls := "com/example/clauseline/clauseline/ContractText", name := "isCapital", desc := "(B)Z" } : Jvm.MethodName))).before a0 Z = true := hw _ (List.mem_of_getElem? (i := 158) rfl)
theorem wd159 {a0 : Array Value} {Z : State} (hw : ∀ d ∈ tables_1, d.before a0 Z = true) : ((Jvm.Cond.static ({ cls := "com/example/clauseline/clauseline/ContractText", name := "isCapital", desc := "(B)Z" } : Jvm.MethodName))).before a0 Z = true := hw _ (List.mem_of_getElem? (i := 159) rfl)
theorem wd160 {a0 : Array Value} {Z : State} (hw : ∀ d ∈ tables_1, d.before a0 Z = true) : ((Jvm.Cond.code ({ cls := "com/example/clauseline/clauseline/ContractText", name := "isCapital", desc := "(B)Z" } : Jvm.MethodName) prog_22_method_49_code (1 : Nat) (Option.some Jvm.ClassFile.FieldType.boolean))).before a0 Z = true := hw _ (List.mem_of_getElem? (i := 160) rfl)
theorem wd161 {a0 : Array Value} {Z : State} (hw : ∀ d ∈ tables_1, d.before a0 Z = true) : ((Jvm.Cond.methodLink "com/example/clauseline/clauseline/ContractText" (266 : Nat) ({ cls := "com/example/clauseline/clauseline/ContractText", name := "isLowerCase", desc := "(B)Z" } : Jvm.MethodName))).before a0 Z = true := hw _ (List.mem_of_getElem? (i := 161) rfl)
theorem wd162 {a0 : Array Value} {Z : State} (hw : ∀ d ∈ tables_1, d.before a0 Z = true) : ((Jvm.Cond.static ({ cls := "com/example/clauseline/clauseline/ContractText", name := "isLowerCase", desc := "(B)Z" } : Jvm.MethodName))).before a0 Z = true := hw _ (List.mem_of_getElem? (i := 162) rfl)
theorem wd163 {a0 : Array Value} {Z : State} (hw : ∀ d ∈ tables_1, d.before a0 Z = true) : ((Jvm.Cond.code ({ cls := "com/example/clauseline/clauseline/ContractText", name := "isLowerCase", desc := "(B)Z" } : Jvm.MethodName) prog_22_method_50_code (1 : Nat) (Option.some Jvm.ClassFile.FieldType.boolean))).before a0 Z = true := hw _ (List.mem_of_getElem? (i := 163) rfl)
theorem wd164 {a0 : Array Value} {Z : State} (hw : ∀ d ∈ tables_1, d.before a0 Z = true) : ((Jvm.Cond.methodLink "com/example/clauseline/clauseline/LineWrap" (167 : Nat) ({ cls := "com/example/clauseline/clauseline/ContractText", name := "isLowerCase", desc := "(B)Z" } : Jvm.MethodName))).before a0 Z = true := hw _ (List.mem_of_getElem? (i := 164) rfl)
theorem wd165 {a0 : Array Value} {Z : State} (hw : ∀ d ∈ tables_1, d.before a0 Z = true) : ((Jvm.Cond.fieldLink "com/example/clauseline/clauseline/LineWrap" (23 : Nat) "com/example/clauseline/clauseline/LineWrap" "comma" "Z")).before a0 Z = true := hw _ (List.mem_of_getElem? (i := 165) rfl)
theorem wd166 {a0 : Array Value} {Z : State} (hw : ∀ d ∈ tables_1, d.before a0 Z = true) : ((Jvm.Cond.lays "com/example/clauseline/clauseline/LineWrap" "com/example/clauseline/clauseline/LineWrap" "comma" "Z")).before a0 Z = true := hw _ (List.mem_of_getElem? (i := 166) rfl)
theorem wd167 {a0 : Array Value} {Z : State} (hw : ∀ d ∈ tables_1, d.before a0 Z = true) : ((Jvm.Cond.methodLink "com/example/clauseline/clauseline/LineWrap" (51 : Nat) ({ cls := "com/example/clauseline/clauseline/Columns", name := "width", desc := "(Lcom/example/clauseline/clauseline/ContractText;II)I" } : Jvm.MethodName))).before a0 Z = true := hw _ (List.mem_of_getElem? (i := 167) rfl)
theorem wd168 {a0 : Array Value} {Z : State} (hw : ∀ d ∈ tables_1, d.before a0 Z = true) : ((Jvm.Cond.static ({ cls := "com/example/clauseline/clauseline/Columns", name := "width", desc := "(Lcom/example/clauseline/clauseline/ContractText;II)I" } : Jvm.MethodName))).before a0 Z = true := hw _ (List.mem_of_getElem? (i := 168) rfl)
theorem wd169 {a0 : Array Value} {Z : State} (hw : ∀ d ∈ tables_1, d.before a0 Z = true) : ((Jvm.Cond.initialized "com/example/clauseline/clauseline/Columns")).before a0 Z = true := hw _ (List.mem_of_getElem? (i := 169) rfl)
theorem wd170 {a0 : Array Value} {Z : State} (hw : ∀ d ∈ tables_1, d.before a0 Z = true) : ((Jvm.Cond.code ({ cls := "com/example/clauseline/clauseline/Columns", name := "width", desc := "(Lcom/example/clauseline/clauseline/ContractText;II)I" } : Jvm.MethodName) prog_19_method_2_code (5 : Nat) (Option.some Jvm.ClassFile.FieldType.int))).before a0 Z = true := hw _ (List.mem_of_getElem? (i := 170) rfl)
theorem wd171 {a0 : Array Value} {Z : State} (hw : ∀ d ∈ tables_1, d.before a0 Z = true) : ((Jvm.Cond.methodLink "com/example/clauseline/clauseline/Columns" (13 : Nat) ({ cls := "com/example/clauseline/clauseline/ContractText", name := "byteAt", desc := "(I)B" } : Jvm.MethodName))).before a0 Z = true := hw _ (List.mem_of_getElem? (i := 171) rfl)
theorem wd172 {a0 : Array Value} {Z : State} (hw : ∀ d ∈ tables_1, d.before a0 Z = true) : ((Jvm.Cond.methodLink "com/example/clauseline/clauseline/Columns" (19 : Nat) ({ cls := "com/example/clauseline/clauseline/Columns", name := "advance", desc := "(IB)I" } : Jvm.MethodName))).before a0 Z = true := hw _ (List.mem_of_getElem? (i := 172) rfl)
theorem wd173 {a0 : Array Value} {Z : State} (hw : ∀ d ∈ tables_1, d.before a0 Z = true) : ((Jvm.Cond.static ({ cls := "com/example/clauseline/clauseline/Columns", name := "advance", desc := "(IB)I" } : Jvm.MethodName))).before a0 Z = true := hw _ (List.mem_of_getElem? (i := 173) rfl)
theorem wd174 {a0 : Array Value} {Z : State} (hw : ∀ d ∈ tables_1, d.before a0 Z = true) : ((Jvm.Cond.code ({ cls := "com/example/clauseline/clauseline/Columns", name := "advance", desc := "(IB)I" } : Jvm.MethodName) prog_19_method_9_code (2 : Nat) (Option.some Jvm.ClassFile.FieldType.int))).before a0 Z = true := hw _ (List.mem_of_getElem? (i := 174) rfl)
theorem wd175 {a0 : Array Value} {Z : State} (hw : ∀ d ∈ tables_1, d.before a0 Z = true) : ((Jvm.Cond.methodLink "com/example/clauseline/clauseline/Columns" (23 : Nat) ({ cls := "com/example/clauseline/clauseline/ContractText", name := "isContinuation", desc := "(B)Z" } : Jvm.MethodName))).before a0 Z = true := hw _ (List.mem_of_getElem? (i := 175) rfl)
theorem wd176 {a0 : Array Value} {Z : State} (hw : ∀ d ∈ tables_1, d.before a0 Z = true) : ((Jvm.Cond.static ({ cls := "com/example/clauseline/clauseline/ContractText", name := "isContinuation", desc := "(B)Z" } : Jvm.MethodName))).before a0 Z = true := hw _ (List.mem_of_getElem? (i := 176) rfl)
theorem wd177 {a0 : Array Value} {Z : State} (hw : ∀ d ∈ tables_1, d.before a0 Z = true) : ((Jvm.Cond.code ({ cls := "com/example/clauseline/clauseline/ContractText", name := "isContinuation", desc := "(B)Z" } : Jvm.MethodName) prog_22_method_54_code (1 : Nat) (Option.some Jvm.ClassFile.FieldType.boolean))).before a0 Z = true := hw _ (List.mem_of_getElem? (i := 177) rfl)
theorem wd178 {a0 : Array Value} {Z : State} (hw : ∀ d ∈ tables_1, d.before a0 Z = true) : ((Jvm.Cond.fieldLink "com/example/clauseline/clauseline/LineWrap" (19 : Nat) "com/example/clauseline/clauseline/LineWrap" "width" "I")).before a0 Z = true := hw _ (List.mem_of_getElem? (i := 178) rfl)
theorem wd179 {a0 : Array Value} {Z : State} (hw : ∀ d ∈ tables_1, d.before a0 Z = true) : ((Jvm.Cond.lays "com/example/clauseline/clauseline/LineWrap" "com/example/clauseline/clauseline/LineWrap" "width" "I")).before a0 Z = true := hw _ (List.mem_of_getElem? (i := 179) rfl)
theorem wd180 {a0 : Array Value} {Z : State} (hw : ∀ d ∈ tables_1, d.before a0 Z = true) : ((Jvm.Cond.stringLink "com/example/clauseline/clauseline/LineWrapContinuesSentencePinLaw" (9 : Nat) "abc,")).before a0 Z = true := hw _ (List.mem_of_getElem? (i := 180) rfl)
theorem wd181 {a0 : Array Value} {Z : State} (hw : ∀ d ∈ tables_1, d.before a0 Z = true) : ((Jvm.Cond.stringLink "com/example/clauseline/clauseline/LineWrapContinuesSentencePinLaw" (19 : Nat) "x or")).before a0 Z = true := hw _ (List.mem_of_getElem? (i := 181) rfl)
theorem wd182 {a0 : Array Value} {Z : State} (hw : ∀ d ∈ tables_1, d.before a0 Z = true) : ((Jvm.Cond.stringLink "com/example/clauseline/clauseline/LineWrapContinuesSentencePinLaw" (11 : Nat) "x ab")).before a0 Z = true := hw _ (List.mem_of_getElem? (i := 182) rfl)
theorem wd183 {a0 : Array Value} {Z : State} (hw : ∀ d ∈ tables_1, d.before a0 Z = true) : ((Jvm.Cond.stringLink "com/example/clauseline/clauseline/LineWrap" (172 : Nat) "or")).before a0 Z = true := hw _ (List.mem_of_getElem? (i := 183) rfl)
theorem wd184 {a0 : Array Value} {Z : State} (hw : ∀ d ∈ tables_1, d.before a0 Z = true) : ((Jvm.Cond.stringLink "com/example/clauseline/clauseline/LineWrapContinuesSentencePinLaw" (13 : Nat) "x Ab")).before a0 Z = true := hw _ (List.mem_of_getElem? (i := 184) rfl)
theorem wd185 {a0 : Array Value} {Z : State} (hw : ∀ d ∈ tables_1, d.before a0 Z = true) : ((Jvm.Cond.stringLink "com/example/clauseline/clauseline/LineWrapContinuesSentencePinLaw" (17 : Nat) "; or")).before a0 Z = true := hw _ (List.mem_of_getElem? (i := 185) rfl)
theorem pd0 : parseMethodDescriptor "()B" = some ⟨[], some .byte⟩ := by decide +kernel
theorem pd1 : parseMethodDescriptor "(IILjava/util/function/BiFunction;)I" = some ⟨[.int, .int, (.object "java/util/function/BiFunction")], some .int⟩ := by decide +kernel
theorem pd2 : parseMethodDescriptor "(II)V" = some ⟨[.int, .int], none⟩ := by decide +kernel
theorem pd3 : parseMethodDescriptor "()Z" = some ⟨[], some .boolean⟩ := by decide +kernel
theorem pd4 : parseMethodDescriptor "([BI)C" = some ⟨[(.array .byte), .int], some .char⟩ := by decide +kernel
theorem pd5 : parseMethodDescriptor "(B)Z" = some ⟨[.byte], some .boolean⟩ := by decide +kernel
theorem pd6 : parseMethodDescriptor "(II)I" = some ⟨[.int, .int], some .int⟩ := by decide +kernel
theorem pd7 : parseMethodDescriptor "(Lcom/example/clauseline/clauseline/ContractText;II)I" = some ⟨[(.object "com/example/clauseline/clauseline/ContractText"), .int, .int], some .int⟩ := by decide +kernel
theorem pd8 : parseMethodDescriptor "(I)B" = some ⟨[.int], some .byte⟩ := by decide +kernel
theorem pd9 : parseMethodDescriptor "(Lcom/example/clauseline/clauseline/ContractText;II)Z" = some ⟨[(.object "com/example/clauseline/clauseline/ContractText"), .int, .int], some .boolean⟩ := by decide +kernel
theorem pd10 : parseMethodDescriptor "(Lcom/example/clauseline/clauseline/ContractText;III)Z" = some ⟨[(.object "com/example/clauseline/clauseline/ContractText"), .int, .int, .int], some .boolean⟩ := by decide +kernel
theorem pd11 : parseMethodDescriptor "()I" = some ⟨[], some .int⟩ := by decide +kernel
theorem pd12 : parseMethodDescriptor "(IILjava/lang/String;)Z" = some ⟨[.int, .int, (.object "java/lang/String")], some .boolean⟩ := by decide +kernel
theorem pd13 : parseMethodDescriptor "(IB)I" = some ⟨[.int, .byte], some .int⟩ := by decide +kernel
theorem pd14 : parseMethodDescriptor "(I)C" = some ⟨[.int], some .char⟩ := by decide +kernel
theorem pd15 : parseMethodDescriptor "(I)I" = some ⟨[.int], some .int⟩ := by decide +kernel
theorem pd16 : parseMethodDescriptor "([BI)I" = some ⟨[(.array .byte), .int], some .int⟩ := by decide +kernel
theorem pd17 : parseMethodDescriptor "([B)V" = some ⟨[(.array .byte)], none⟩ := by decide +kernel
theorem pd18 : parseMethodDescriptor "(II)B" = some ⟨[.int, .int], some .byte⟩ := by decide +kernel
theorem pd19 : parseMethodDescriptor "([B)Lcom/example/clauseline/clauseline/ContractText;" = some ⟨[(.array .byte)], some (.object "com/example/clauseline/clauseline/ContractText")⟩ := by decide +kernel
theorem pd20 : parseMethodDescriptor "()V" = some ⟨[], none⟩ := by decide +kernel
theorem pd21 : parseMethodDescriptor "(Lcom/example/clauseline/clauseline/LineWrap;Lcom/example/clauseline/clauseline/ContractText;I)V" = some ⟨[(.object "com/example/clauseline/clauseline/LineWrap"), (.object "com/example/clauseline/clauseline/ContractText"), .int], none⟩ := by decide +kernel
theorem pd22 : parseMethodDescriptor "(I)Z" = some ⟨[.int], some .boolean⟩ := by decide +kernel
theorem own_wS {a0 : Array Value} {Z : State} (hw : ∀ d ∈ tables_1, d.before a0 Z = true) : ∀ a ∈ Bundle.stringAtoms, a.before a0 Z = true := fun a ha => by
  simp only [Bundle.stringAtoms, List.mem_cons, List.not_mem_nil, or_false] at ha
  rcases ha with rfl | rfl | rfl | rfl | rfl | rfl | rfl
  · exact wd3 hw
  · exact wd4 hw
  · exact wd5 hw
  · exact wd6 hw
  · exact wd7 hw
  · exact wd8 hw
  · exact wd9 hw
theorem own_EW {a0 : Array Value} {Z : State} (hw : ∀ d ∈ tables_1, d.before a0 Z = true) : EW Z a0 consts_1 := fun p hp => by
  simp only [consts_1, List.mem_cons, List.not_mem_nil, or_false] at hp
  rcases hp with rfl | rfl | rfl | rfl | rfl | rfl | rfl | rfl | rfl | rfl
  · exact ⟨_, wd131 hw, by decide⟩
  · exact ⟨_, wd183 hw, by decide⟩
  · exact ⟨_, wd180 hw, by decide⟩
  · exact ⟨_, wd182 hw, by decide⟩
  · exact ⟨_, wd184 hw, by decide⟩
  · exact ⟨_, wd2 hw, by decide⟩
  · exact ⟨_, wd185 hw, by decide⟩
  · exact ⟨_, wd181 hw, by decide⟩
  · exact ⟨_, wd150 hw, by decide⟩
  · exact ⟨_, wd119 hw, by decide⟩
theorem d28_0 : decode jdk_42_method_152_code 0 = .ok (.getstatic 38, 3) := by decide +kernel
theorem d28_3 : decode jdk_42_method_152_code 3 = .ok (.ifCond .eq 10, 3) := by decide +kernel
theorem d28_6 : decode jdk_42_method_152_code 6 = .ok (.aload_n 0, 1) := by decide +kernel
theorem d28_7 : decode jdk_42_method_152_code 7 = .ok (.getfield 15, 3) := by decide +kernel
theorem d28_10 : decode jdk_42_method_152_code 10 = .ok (.goto 4, 3) := by decide +kernel
theorem d28_14 : decode jdk_42_method_152_code 14 = .ok (.ireturn, 1) := by decide +kernel
theorem pn28 : plainName "java/lang/String" = true := by first | (simp [plainName, overriddenIn]; done) | decide +kernel
set_option maxRecDepth 65536 in
set_option maxHeartbeats 40000000 in
theorem rm_coder {l : Launch} {Z : State} {a0 : Array Value} (hw : ∀ d ∈ tables_1, d.before a0 Z = true) (t : Addr) (cs : Int32) (h : Heap) (n0 : Nat) (zn : n0 ≤ h.size) (S_cs : Sta Z h "java/lang/String" "COMPACT_STRINGS" "Z" (.int cs)) (hcs : ¬ cs = 0) (E_t : Exa Z h t "java/lang/String") (F_coder_t : Fld Z h t "java/lang/String" "coder" "B" (.int (0 : Int32))) :
    Met l Z (⟨"java/lang/String", "coder", "()B"⟩ : MethodName) jdk_42_method_152_code 1 (some .byte) [] ({ frames := 0, cells := 0, slots := 0, locals := 0 } : Room) #[(.ref t)] h n0 (RI fun r h' => h' = h ∧ r = (0 : Int32)) := by
  refine start (ls := #[.val (.ref t)]) (plainFor_of_name pn28) (fun m => by first | (simp [entryFrame, mkF, argsToLocals, Value.category]; done) | rfl) ?_
  intro p e s m below meth c T G w X
  refine getstatic w X (wd24 hw) Via.refl S_cs d28_0 3 rfl (fun T X => ?_)
  refine if_eq w X d28_3 13 6 (by decide) (by decide) rfl (fun q => False.elim (by exact hcs q)) (fun hc3_1 => ?_)
  refine aloadN w X d28_6 7 rfl rfl rfl ?_
  refine getfield w X (wd25 hw) Via.refl F_coder_t d28_7 10 rfl (fun T X => ?_)
  refine goto w X d28_10 14 (by decide) (by decide) ?_
  refine retN w X (t := .byte) rfl (by simp) d28_14 (by decide) (by decide) ?_
  exact ⟨(0 : Int32), rfl, rfl, rfl⟩
theorem d27_0 : decode jdk_42_method_54_code 0 = .ok (.aload_n 0, 1) := by decide +kernel
theorem d27_1 : decode jdk_42_method_54_code 1 = .ok (.getfield 9, 3) := by decide +kernel
theorem d27_4 : decode jdk_42_method_54_code 4 = .ok (.arraylength, 1) := by decide +kernel
theorem d27_5 : decode jdk_42_method_54_code 5 = .ok (.aload_n 0, 1) := by decide +kernel
theorem d27_6 : decode jdk_42_method_54_code 6 = .ok (.invokevirtual 335, 3) := by decide +kernel
theorem d27_9 : decode jdk_42_method_54_code 9 = .ok (.ishr, 1) := by decide +kernel
theorem d27_10 : decode jdk_42_method_54_code 10 = .ok (.ireturn, 1) := by decide +kernel
set_option maxRecDepth 65536 in
set_option maxHeartbeats 40000000 in
theorem rm_length {l : Launch} {Z : State} {a0 : Array Value} (hw : ∀ d ∈ tables_1, d.before a0 Z = true) (t v : Addr) (bs : List Int32) (cs : Int32) (h : Heap) (n0 : Nat) (zn : n0 ≤ h.size) (S_cs : Sta Z h "java/lang/String" "COMPACT_STRINGS" "Z" (.int cs)) (hcs : ¬ cs = 0) (E_t : Exa Z h t "java/lang/String") (F_value_t : Fld Z h t "java/lang/String" "value" "[B" (.ref v)) (V_v : PA Z h v .byte bs) (F_coder_t : Fld Z h t "java/lang/String" "coder" "B" (.int (0 : Int32))) :
    Met l Z (⟨"java/lang/String", "length", "()I"⟩ : MethodName) jdk_42_method_54_code 1 (some .int) [] ({ frames := 1, cells := 0, slots := 0, locals := 13 } : Room) #[(.ref t)] h n0 (RI fun r h' => h' = h ∧ r = Int32.ofNat bs.length) := by
  refine start (ls := #[.val (.ref t)]) (plainFor_of_name pn28) (fun m => by first | (simp [entryFrame, mkF, argsToLocals, Value.category]; done) | rfl) ?_
  intro p e s m below meth c T G w X
  refine aloadN w X d27_0 1 rfl rfl rfl ?_
  refine getfield w X (wd26 hw) Via.refl F_value_t d27_1 4 rfl (fun T X => ?_)
  refine arraylength w X V_v d27_4 5 rfl (Int32.ofNat bs.length) rfl ?_
  refine aloadN w X d27_5 6 rfl rfl rfl ?_
  refine callVPI w X [] (wd142 hw) (wd143 hw) (notFace_of_selects (args := #[]) (mvT w.2.2.2.2.1 (wd145 hw))) (wd145 hw) (wd144 hw) (wd3 hw) (wd146 hw) (by decide) E_t (rm_coder hw t cs h n0 zn S_cs hcs E_t F_coder_t) d27_6 9 rfl 1 (by decide) (by decide) (lenOf pd0 rfl) rfl (Nat.le_of_eq rfl) rfl (by decide) (by decide) (fun r1 T X hq => ?_)
  have hr1 := hq
  refine ishr w X ((Int32.ofNat bs.length) >>> (r1 &&& 31)) d27_9 10 rfl rfl ?_
  refine retI w X rfl d27_10 (by decide) (by decide) ?_
  exact ⟨_, rfl, rfl, by subst_vars; exact own_shr0 _⟩
theorem d3_0 : decode jdk_42_method_154_code 0 = .ok (.getstatic 38, 3) := by decide +kernel
theorem d3_3 : decode jdk_42_method_154_code 3 = .ok (.ifCond .eq 14, 3) := by decide +kernel
theorem d3_6 : decode jdk_42_method_154_code 6 = .ok (.aload_n 0, 1) := by decide +kernel
theorem d3_7 : decode jdk_42_method_154_code 7 = .ok (.getfield 15, 3) := by decide +kernel
theorem d3_10 : decode jdk_42_method_154_code 10 = .ok (.ifCond .ne 7, 3) := by decide +kernel
theorem d3_13 : decode jdk_42_method_154_code 13 = .ok (.iconst 1, 1) := by decide +kernel
theorem d3_14 : decode jdk_42_method_154_code 14 = .ok (.goto 4, 3) := by decide +kernel
theorem d3_18 : decode jdk_42_method_154_code 18 = .ok (.ireturn, 1) := by decide +kernel
set_option maxRecDepth 65536 in
set_option maxHeartbeats 40000000 in
theorem rm_lat {l : Launch} {Z : State} {a0 : Array Value} (hw : ∀ d ∈ tables_1, d.before a0 Z = true) (t : Addr) (cs : Int32) (h : Heap) (n0 : Nat) (zn : n0 ≤ h.size) (S_cs : Sta Z h "java/lang/String" "COMPACT_STRINGS" "Z" (.int cs)) (hcs : ¬ cs = 0) (E_t : Exa Z h t "java/lang/String") (F_coder_t : Fld Z h t "java/lang/String" "coder" "B" (.int (0 : Int32))) :
    Met l Z (⟨"java/lang/String", "isLatin1", "()Z"⟩ : MethodName) jdk_42_method_154_code 1 (some .boolean) [] ({ frames := 0, cells := 0, slots := 0, locals := 0 } : Room) #[(.ref t)] h n0 (RI fun r h' => h' = h ∧ r = (1 : Int32)) := by
  refine start (ls := #[.val (.ref t)]) (plainFor_of_name pn28) (fun m => by first | (simp [entryFrame, mkF, argsToLocals, Value.category]; done) | rfl) ?_
  intro p e s m below meth c T G w X
  refine getstatic w X (wd24 hw) Via.refl S_cs d3_0 3 rfl (fun T X => ?_)
  refine if_eq w X d3_3 17 6 (by decide) (by decide) rfl (fun q => False.elim (by exact hcs q)) (fun hc3_1 => ?_)
  refine aloadN w X d3_6 7 rfl rfl rfl ?_
  refine getfield w X (wd25 hw) Via.refl F_coder_t d3_7 10 rfl (fun T X => ?_)
  refine if_ne w X d3_10 17 13 (by decide) (by decide) rfl (fun q => absurd q (by decide)) (fun hc10_2 => ?_)
  refine iconst w X (1 : Int32) d3_13 14 rfl rfl ?_
  refine goto w X d3_14 18 (by decide) (by decide) ?_
  refine retN w X (t := .boolean) rfl (by simp) d3_18 (by decide) (by decide) ?_
  exact ⟨(1 : Int32), rfl, rfl, rfl⟩
theorem d6_0 : decode jdk_41_method_11_code 0 = .ok (.iload_n 0, 1) := by decide +kernel
theorem d6_1 : decode jdk_41_method_11_code 1 = .ok (.ifCond .lt 8, 3) := by decide +kernel
theorem d6_4 : decode jdk_41_method_11_code 4 = .ok (.iload_n 0, 1) := by decide +kernel
theorem d6_5 : decode jdk_41_method_11_code 5 = .ok (.iload_n 1, 1) := by decide +kernel
theorem d6_6 : decode jdk_41_method_11_code 6 = .ok (.if_icmp .lt 10, 3) := by decide +kernel
theorem d6_16 : decode jdk_41_method_11_code 16 = .ok (.iload_n 0, 1) := by decide +kernel
theorem d6_17 : decode jdk_41_method_11_code 17 = .ok (.ireturn, 1) := by decide +kernel
theorem pn6 : plainName "jdk/internal/util/Preconditions" = true := by first | (simp [plainName, overriddenIn]; done) | decide +kernel
set_option maxRecDepth 65536 in
set_option maxHeartbeats 40000000 in
theorem rm_pciN {l : Launch} {Z : State} {a0 : Array Value} (hw : ∀ d ∈ tables_1, d.before a0 Z = true) (i n : Int32) (h : Heap) (n0 : Nat) (zn : n0 ≤ h.size) (h1 : ¬ i < 0) (h2 : i < n) :
    Met l Z (⟨"jdk/internal/util/Preconditions", "checkIndex", "(IILjava/util/function/BiFunction;)I"⟩ : MethodName) jdk_41_method_11_code 3 (some .int) [] ({ frames := 0, cells := 0, slots := 0, locals := 0 } : Room) #[(.int i), (.int n), .null] h n0 (RI fun r h' => h' = h ∧ r = i) := by
  refine start (ls := #[.val (.int i), .val (.int n), .val .null]) (plainFor_of_name pn6) (fun m => by first | (simp [entryFrame, mkF, argsToLocals, Value.category]; done) | rfl) ?_
  intro p e s m below meth c T G w X
  refine iloadN w X d6_0 1 rfl rfl ?_
  refine if_lt w X d6_1 9 4 (by decide) (by decide) rfl (fun q => False.elim (by exact h1 q)) (fun hc1_1 => ?_)
  refine iloadN w X d6_4 5 rfl rfl ?_
  refine iloadN w X d6_5 6 rfl rfl ?_
  refine icmp_lt w X d6_6 16 9 (by decide) (by decide) rfl (fun hc6_2 => ?_) (fun q => False.elim (by exact q h2))
  refine iloadN w X d6_16 17 rfl rfl ?_
  refine retI w X rfl d6_17 (by decide) (by decide) ?_
  exact ⟨_, rfl, rfl, rfl⟩
set_option maxRecDepth 65536 in
set_option maxHeartbeats 40000000 in
theorem rm_pciR {l : Launch} {Z : State} {a0 : Array Value} (hw : ∀ d ∈ tables_1, d.before a0 Z = true) (i n : Int32) (q : Addr) (h : Heap) (n0 : Nat) (zn : n0 ≤ h.size) (h1 : ¬ i < 0) (h2 : i < n) :
    Met l Z (⟨"jdk/internal/util/Preconditions", "checkIndex", "(IILjava/util/function/BiFunction;)I"⟩ : MethodName) jdk_41_method_11_code 3 (some .int) [] ({ frames := 0, cells := 0, slots := 0, locals := 0 } : Room) #[(.int i), (.int n), (.ref q)] h n0 (RI fun r h' => h' = h ∧ r = i) := by
  refine start (ls := #[.val (.int i), .val (.int n), .val (.ref q)]) (plainFor_of_name pn6) (fun m => by first | (simp [entryFrame, mkF, argsToLocals, Value.category]; done) | rfl) ?_
  intro p e s m below meth c T G w X
  refine iloadN w X d6_0 1 rfl rfl ?_
  refine if_lt w X d6_1 9 4 (by decide) (by decide) rfl (fun q => False.elim (by exact h1 q)) (fun hc1_1 => ?_)
  refine iloadN w X d6_4 5 rfl rfl ?_
  refine iloadN w X d6_5 6 rfl rfl ?_
  refine icmp_lt w X d6_6 16 9 (by decide) (by decide) rfl (fun hc6_2 => ?_) (fun q => False.elim (by exact q h2))
  refine iloadN w X d6_16 17 rfl rfl ?_
  refine retI w X rfl d6_17 (by decide) (by decide) ?_
  exact ⟨_, rfl, rfl, rfl⟩
theorem d5_0 : decode jdk_42_method_155_code 0 = .ok (.iload_n 0, 1) := by decide +kernel
theorem d5_1 : decode jdk_42_method_155_code 1 = .ok (.iload_n 1, 1) := by decide +kernel
theorem d5_2 : decode jdk_42_method_155_code 2 = .ok (.getstatic 1053, 3) := by decide +kernel
theorem d5_5 : decode jdk_42_method_155_code 5 = .ok (.invokestatic 1059, 3) := by decide +kernel
theorem d5_8 : decode jdk_42_method_155_code 8 = .ok (.pop, 1) := by decide +kernel
theorem d5_9 : decode jdk_42_method_155_code 9 = .ok (.return_, 1) := by decide +kernel
set_option maxRecDepth 65536 in
set_option maxHeartbeats 40000000 in
theorem rm_sci {l : Launch} {Z : State} {a0 : Array Value} (hw : ∀ d ∈ tables_1, d.before a0 Z = true) (i n : Int32) (sio : Value) (h : Heap) (n0 : Nat) (zn : n0 ≤ h.size) (h1 : ¬ i < 0) (h2 : i < n) (S_sio : Sta Z h "jdk/internal/util/Preconditions" "SIOOBE_FORMATTER" "Ljava/util/function/BiFunction;" sio) (hsio : sio.isRef = true) :
    Met l Z (⟨"java/lang/String", "checkIndex", "(II)V"⟩ : MethodName) jdk_42_method_155_code 2 none [] ({ frames := 1, cells := 0, slots := 0, locals := 14 } : Room) #[(.int i), (.int n)] h n0 (RV fun h' => h' = h) := by
  refine start (ls := #[.val (.int i), .val (.int n)]) (plainFor_of_name pn28) (fun m => by first | (simp [entryFrame, mkF, argsToLocals, Value.category]; done) | rfl) ?_
  intro p e s m below meth c T G w X
  rcases ref_cases hsio with rfl | ⟨q, rfl⟩
  ·
    refine iloadN w X d5_0 1 rfl rfl ?_
    refine iloadN w X d5_1 2 rfl rfl ?_
    refine getstatic w X (wd34 hw) Via.refl S_sio d5_2 5 rfl (fun T X => ?_)
    refine callSPI w X [(.int i), (.int n), .null] (wd36 hw) (wd37 hw) (wd35 hw) (wd38 hw) (by decide) (rm_pciN hw i n h n0 zn h1 h2) d5_5 8 rfl 0 (by decide) (by decide) (lenOf pd1 rfl) rfl (Nat.le_of_eq rfl) rfl (by decide) (by decide) (fun r1 T X hq => ?_)
    refine popV w X d5_8 9 rfl rfl ?_
    refine retV w X rfl d5_9 (by decide) (by decide) ?_
    exact ⟨rfl, rfl⟩
  ·
    refine iloadN w X d5_0 1 rfl rfl ?_
    refine iloadN w X d5_1 2 rfl rfl ?_
    refine getstatic w X (wd34 hw) Via.refl S_sio d5_2 5 rfl (fun T X => ?_)
    refine callSPI w X [(.int i), (.int n), (.ref q)] (wd36 hw) (wd37 hw) (wd35 hw) (wd38 hw) (by decide) (rm_pciR hw i n q h n0 zn h1 h2) d5_5 8 rfl 0 (by decide) (by decide) (lenOf pd1 rfl) rfl (Nat.le_of_eq rfl) rfl (by decide) (by decide) (fun r2 T X hq => ?_)
    refine popV w X d5_8 9 rfl rfl ?_
    refine retV w X rfl d5_9 (by decide) (by decide) ?_
    exact ⟨rfl, rfl⟩
theorem d4_0 : decode jdk_43_method_2_code 0 = .ok (.iload_n 1, 1) := by decide +kernel
theorem d4_1 : decode jdk_43_method_2_code 1 = .ok (.aload_n 0, 1) := by decide +kernel
theorem d4_2 : decode jdk_43_method_2_code 2 = .ok (.arraylength, 1) := by decide +kernel
theorem d4_3 : decode jdk_43_method_2_code 3 = .ok (.invokestatic 9, 3) := by decide +kernel
theorem d4_6 : decode jdk_43_method_2_code 6 = .ok (.aload_n 0, 1) := by decide +kernel
theorem d4_7 : decode jdk_43_method_2_code 7 = .ok (.iload_n 1, 1) := by decide +kernel
theorem d4_8 : decode jdk_43_method_2_code 8 = .ok (.baload, 1) := by decide +kernel
theorem d4_9 : decode jdk_43_method_2_code 9 = .ok (.sipush 255, 3) := by decide +kernel
theorem d4_12 : decode jdk_43_method_2_code 12 = .ok (.iand, 1) := by decide +kernel
theorem d4_13 : decode jdk_43_method_2_code 13 = .ok (.i2c, 1) := by decide +kernel
theorem d4_14 : decode jdk_43_method_2_code 14 = .ok (.ireturn, 1) := by decide +kernel
theorem pn4 : plainName "java/lang/StringLatin1" = true := by first | (simp [plainName, overriddenIn]; done) | decide +kernel
set_option maxRecDepth 65536 in
set_option maxHeartbeats 40000000 in
theorem rm_lch {l : Launch} {Z : State} {a0 : Array Value} (hw : ∀ d ∈ tables_1, d.before a0 Z = true) (v : Addr) (i : Int32) (bs : List Int32) (n : Int32) (sio : Value) (h : Heap) (n0 : Nat) (zn : n0 ≤ h.size) (V_v : PA Z h v .byte bs) (hn : n = Int32.ofNat bs.length) (h1 : ¬ i < 0) (h2 : i < n) (h3 : i.toNatClampNeg < bs.length) (S_sio : Sta Z h "jdk/internal/util/Preconditions" "SIOOBE_FORMATTER" "Ljava/util/function/BiFunction;" sio) (hsio : sio.isRef = true) :
    Met l Z (⟨"java/lang/StringLatin1", "charAt", "([BI)C"⟩ : MethodName) jdk_43_method_2_code 2 (some .char) [] ({ frames := 2, cells := 0, slots := 0, locals := 27 } : Room) #[(.ref v), (.int i)] h n0 (RI fun r h' => h' = h ∧ r = own_ch bs i.toNatClampNeg) := by
  refine start (ls := #[.val (.ref v), .val (.int i)]) (plainFor_of_name pn4) (fun m => by first | (simp [entryFrame, mkF, argsToLocals, Value.category]; done) | rfl) ?_
  intro p e s m below meth c T G w X
  refine iloadN w X d4_0 1 rfl rfl ?_
  refine aloadN w X d4_1 2 rfl rfl rfl ?_
  refine arraylength w X V_v d4_2 3 rfl (Int32.ofNat bs.length) rfl ?_
  refine callSPV w X [(.int i), (.int (Int32.ofNat bs.length))] (wd31 hw) (wd32 hw) (wd3 hw) (wd33 hw) (by decide) (rm_sci hw i (Int32.ofNat bs.length) sio h n0 zn h1 (hn ▸ h2) S_sio hsio) d4_3 6 rfl 0 (by decide) (by decide) (lenOf pd2 rfl) rfl (Nat.le_of_eq rfl) rfl (by decide) (by decide) (fun T X => ?_)
  refine aloadN w X d4_6 7 rfl rfl rfl ?_
  refine iloadN w X d4_7 8 rfl rfl ?_
  refine baload w X V_v h1 i.toNatClampNeg rfl h3 d4_8 9 rfl (bs.getD i.toNatClampNeg 0) rfl ?_
  refine sipush w X (255 : Int32) d4_9 12 rfl rfl ?_
  refine iand w X ((bs.getD i.toNatClampNeg 0) &&& (255 : Int32)) d4_12 13 rfl rfl ?_
  refine i2c w X (((bs.getD i.toNatClampNeg 0) &&& (255 : Int32)).toUInt32.toUInt16.toUInt32.toInt32) d4_13 14 rfl rfl ?_
  refine retN w X (t := .char) rfl (by simp) d4_14 (by decide) (by decide) ?_
  exact ⟨_, rfl, rfl, rfl⟩
theorem d2_0 : decode jdk_42_method_56_code 0 = .ok (.aload_n 0, 1) := by decide +kernel
theorem d2_1 : decode jdk_42_method_56_code 1 = .ok (.invokevirtual 492, 3) := by decide +kernel
theorem d2_4 : decode jdk_42_method_56_code 4 = .ok (.ifCond .eq 12, 3) := by decide +kernel
theorem d2_7 : decode jdk_42_method_56_code 7 = .ok (.aload_n 0, 1) := by decide +kernel
theorem d2_8 : decode jdk_42_method_56_code 8 = .ok (.getfield 9, 3) := by decide +kernel
theorem d2_11 : decode jdk_42_method_56_code 11 = .ok (.iload_n 1, 1) := by decide +kernel
theorem d2_12 : decode jdk_42_method_56_code 12 = .ok (.invokestatic 495, 3) := by decide +kernel
theorem d2_15 : decode jdk_42_method_56_code 15 = .ok (.ireturn, 1) := by decide +kernel
set_option maxRecDepth 65536 in
set_option maxHeartbeats 40000000 in
theorem rm_charAt {l : Launch} {Z : State} {a0 : Array Value} (hw : ∀ d ∈ tables_1, d.before a0 Z = true) (t v : Addr) (i : Int32) (bs : List Int32) (n : Int32) (cs : Int32) (sio : Value) (h : Heap) (n0 : Nat) (zn : n0 ≤ h.size) (S_cs : Sta Z h "java/lang/String" "COMPACT_STRINGS" "Z" (.int cs)) (hcs : ¬ cs = 0) (E_t : Exa Z h t "java/lang/String") (F_value_t : Fld Z h t "java/lang/String" "value" "[B" (.ref v)) (V_v : PA Z h v .byte bs) (F_coder_t : Fld Z h t "java/lang/String" "coder" "B" (.int (0 : Int32))) (hn : n = Int32.ofNat bs.length) (h1 : ¬ i < 0) (h2 : i < n) (h3 : i.toNatClampNeg < bs.length) (S_sio : Sta Z h "jdk/internal/util/Preconditions" "SIOOBE_FORMATTER" "Ljava/util/function/BiFunction;" sio) (hsio : sio.isRef = true) :
    Met l Z (⟨"java/lang/String", "charAt", "(I)C"⟩ : MethodName) jdk_42_method_56_code 2 (some .char) [] ({ frames := 3, cells := 0, slots := 0, locals := 40 } : Room) #[(.ref t), (.int i)] h n0 (RI fun r h' => h' = h ∧ r = own_ch bs i.toNatClampNeg) := by
  refine start (ls := #[.val (.ref t), .val (.int i)]) (plainFor_of_name pn28) (fun m => by first | (simp [entryFrame, mkF, argsToLocals, Value.category]; done) | rfl) ?_
  intro p e s m below meth c T G w X
  refine aloadN w X d2_0 1 rfl rfl rfl ?_
  refine callVPI w X [] (wd19 hw) (wd20 hw) (notFace_of_selects (args := #[]) (mvT w.2.2.2.2.1 (wd22 hw))) (wd22 hw) (wd21 hw) (wd3 hw) (wd23 hw) (by decide) E_t (rm_lat hw t cs h n0 zn S_cs hcs E_t F_coder_t) d2_1 4 rfl 0 (by decide) (by decide) (lenOf pd3 rfl) rfl (Nat.le_of_eq rfl) rfl (by decide) (by decide) (fun r1 T X hq => ?_)
  have hr1 := hq
  refine if_eq w X d2_4 16 7 (by decide) (by decide) rfl (fun q => False.elim (by rw [hr1] at q; exact absurd q (by decide))) (fun hc4_2 => ?_)
  refine aloadN w X d2_7 8 rfl rfl rfl ?_
  refine getfield w X (wd26 hw) Via.refl F_value_t d2_8 11 rfl (fun T X => ?_)
  refine iloadN w X d2_11 12 rfl rfl ?_
  refine callSPI w X [(.ref v), (.int i)] (wd27 hw) (wd28 hw) (wd29 hw) (wd30 hw) (by decide) (rm_lch hw v i bs n sio h n0 zn V_v hn h1 h2 h3 S_sio hsio) d2_12 15 rfl 0 (by decide) (by decide) (lenOf pd4 rfl) rfl (Nat.le_of_eq rfl) rfl (by decide) (by decide) (fun r3 T X hq => ?_)
  have hr3 := hq
  refine retN w X (t := .char) rfl (by simp) d2_15 (by decide) (by decide) ?_
  exact ⟨_, rfl, rfl, by rw [hr3]; exact own_nar_ch _ _⟩
set_option maxRecDepth 65536 in
set_option maxHeartbeats 40000000 in
theorem lf16_1 (v : Int32) (hc3_1 : v = (32 : Int32)) : (1 : Int32) = own_sp1 v := by
  unfold own_sp1
  simp_all
set_option maxRecDepth 65536 in
set_option maxHeartbeats 40000000 in
theorem lf16_2 (v : Int32) (hc3_1 : ¬ (v = (32 : Int32))) (hc9_2 : ¬ (v = (9 : Int32))) : (0 : Int32) = own_sp1 v := by
  unfold own_sp1
  simp_all
set_option maxRecDepth 65536 in
set_option maxHeartbeats 40000000 in
theorem lf16_3 (v : Int32) (hc3_1 : ¬ (v = (32 : Int32))) (hc9_2 : v = (9 : Int32)) : (1 : Int32) = own_sp1 v := by
  unfold own_sp1
  simp_all
theorem d16_0 : decode prog_22_method_46_code 0 = .ok (.iload_n 0, 1) := by decide +kernel
theorem d16_1 : decode prog_22_method_46_code 1 = .ok (.bipush 32, 2) := by decide +kernel
theorem d16_3 : decode prog_22_method_46_code 3 = .ok (.if_icmp .eq 9, 3) := by decide +kernel
theorem d16_6 : decode prog_22_method_46_code 6 = .ok (.iload_n 0, 1) := by decide +kernel
theorem d16_7 : decode prog_22_method_46_code 7 = .ok (.bipush 9, 2) := by decide +kernel
theorem d16_9 : decode prog_22_method_46_code 9 = .ok (.if_icmp .ne 7, 3) := by decide +kernel
theorem d16_12 : decode prog_22_method_46_code 12 = .ok (.iconst 1, 1) := by decide +kernel
theorem d16_13 : decode prog_22_method_46_code 13 = .ok (.goto 4, 3) := by decide +kernel
theorem d16_16 : decode prog_22_method_46_code 16 = .ok (.iconst 0, 1) := by decide +kernel
theorem d16_17 : decode prog_22_method_46_code 17 = .ok (.ireturn, 1) := by decide +kernel
theorem pn16 : plainName "com/example/clauseline/clauseline/ContractText" = true := by first | (simp [plainName, overriddenIn]; done) | decide +kernel
set_option maxRecDepth 65536 in
set_option maxHeartbeats 40000000 in
theorem rm_own_sp1 {l : Launch} {Z : State} {a0 : Array Value} (hw : ∀ d ∈ tables_1, d.before a0 Z = true) (v : Int32) (h : Heap) (n0 : Nat) (zn : n0 ≤ h.size) :
    Met l Z (⟨"com/example/clauseline/clauseline/ContractText", "isSpace", "(B)Z"⟩ : MethodName) prog_22_method_46_code 1 (some .boolean) [] ({ frames := 0, cells := 0, slots := 0, locals := 0 } : Room) #[(.int v)] h n0 (RI fun r h' => h' = h ∧ r = own_sp1 v) := by
  refine start (ls := #[.val (.int v)]) (plainFor_of_name pn16) (fun m => by first | (simp [entryFrame, mkF, argsToLocals, Value.category]; done) | rfl) ?_
  intro p e s m below meth c T G w X
  refine iloadN w X d16_0 1 rfl rfl ?_
  refine bipush w X (32 : Int32) d16_1 3 rfl rfl ?_
  refine icmp_eq w X d16_3 12 6 (by decide) (by decide) rfl (fun hc3_1 => ?_) (fun hc3_1 => ?_)
  ·
    refine iconst w X (1 : Int32) d16_12 13 rfl rfl ?_
    refine goto w X d16_13 17 (by decide) (by decide) ?_
    refine retN w X (t := .boolean) rfl (by simp) d16_17 (by decide) (by decide) ?_
    exact ⟨(1 : Int32), rfl, rfl, lf16_1 v hc3_1⟩
  ·
    refine iloadN w X d16_6 7 rfl rfl ?_
    refine bipush w X (9 : Int32) d16_7 9 rfl rfl ?_
    refine icmp_ne w X d16_9 16 12 (by decide) (by decide) rfl (fun hc9_2 => ?_) (fun hc9_2 => ?_)
    ·
      refine iconst w X (0 : Int32) d16_16 17 rfl rfl ?_
      refine retN w X (t := .boolean) rfl (by simp) d16_17 (by decide) (by decide) ?_
      exact ⟨(0 : Int32), rfl, rfl, lf16_2 v hc3_1 hc9_2⟩
    ·
      refine iconst w X (1 : Int32) d16_12 13 rfl rfl ?_
      refine goto w X d16_13 17 (by decide) (by decide) ?_
      refine retN w X (t := .boolean) rfl (by simp) d16_17 (by decide) (by decide) ?_
      exact ⟨(1 : Int32), rfl, rfl, lf16_3 v hc3_1 hc9_2⟩
set_option maxRecDepth 65536 in
set_option maxHeartbeats 40000000 in
theorem lf20_1 (v : Int32) (hc3_1 : v = (32 : Int32)) : (1 : Int32) = own_sp2 v := by
  unfold own_sp2
  simp_all
set_option maxRecDepth 65536 in
set_option maxHeartbeats 40000000 in
theorem lf20_2 (v : Int32) (hc3_1 : ¬ (v = (32 : Int32))) (hc9_2 : v = (9 : Int32)) : (1 : Int32) = own_sp2 v := by
  unfold own_sp2
  simp_all
set_option maxRecDepth 65536 in
set_option maxHeartbeats 40000000 in
theorem lf20_3 (v : Int32) (hc3_1 : ¬ (v = (32 : Int32))) (hc9_2 : ¬ (v = (9 : Int32))) (hc15_3 : ¬ (v = (13 : Int32))) : (0 : Int32) = own_sp2 v := by
  unfold own_sp2
  simp_all
set_option maxRecDepth 65536 in
set_option maxHeartbeats 40000000 in
theorem lf20_4 (v : Int32) (hc3_1 : ¬ (v = (32 : Int32))) (hc9_2 : ¬ (v = (9 : Int32))) (hc15_3 : v = (13 : Int32)) : (1 : Int32) = own_sp2 v := by
  unfold own_sp2
  simp_all
theorem d20_0 : decode prog_47_method_22_code 0 = .ok (.iload_n 0, 1) := by decide +kernel
theorem d20_1 : decode prog_47_method_22_code 1 = .ok (.bipush 32, 2) := by decide +kernel
theorem d20_3 : decode prog_47_method_22_code 3 = .ok (.if_icmp .eq 15, 3) := by decide +kernel
theorem d20_6 : decode prog_47_method_22_code 6 = .ok (.iload_n 0, 1) := by decide +kernel
theorem d20_7 : decode prog_47_method_22_code 7 = .ok (.bipush 9, 2) := by decide +kernel
theorem d20_9 : decode prog_47_method_22_code 9 = .ok (.if_icmp .eq 9, 3) := by decide +kernel
theorem d20_12 : decode prog_47_method_22_code 12 = .ok (.iload_n 0, 1) := by decide +kernel
theorem d20_13 : decode prog_47_method_22_code 13 = .ok (.bipush 13, 2) := by decide +kernel
theorem d20_15 : decode prog_47_method_22_code 15 = .ok (.if_icmp .ne 7, 3) := by decide +kernel
theorem d20_18 : decode prog_47_method_22_code 18 = .ok (.iconst 1, 1) := by decide +kernel
theorem d20_19 : decode prog_47_method_22_code 19 = .ok (.goto 4, 3) := by decide +kernel
theorem d20_22 : decode prog_47_method_22_code 22 = .ok (.iconst 0, 1) := by decide +kernel
theorem d20_23 : decode prog_47_method_22_code 23 = .ok (.ireturn, 1) := by decide +kernel
theorem pn20 : plainName "com/example/clauseline/clauseline/LineWrap" = true := by first | (simp [plainName, overriddenIn]; done) | decide +kernel
set_option maxRecDepth 65536 in
set_option maxHeartbeats 40000000 in
theorem rm_own_sp2 {l : Launch} {Z : State} {a0 : Array Value} (hw : ∀ d ∈ tables_1, d.before a0 Z = true) (v : Int32) (h : Heap) (n0 : Nat) (zn : n0 ≤ h.size) :
    Met l Z (⟨"com/example/clauseline/clauseline/LineWrap", "isSpace", "(B)Z"⟩ : MethodName) prog_47_method_22_code 1 (some .boolean) [] ({ frames := 0, cells := 0, slots := 0, locals := 0 } : Room) #[(.int v)] h n0 (RI fun r h' => h' = h ∧ r = own_sp2 v) := by
  refine start (ls := #[.val (.int v)]) (plainFor_of_name pn20) (fun m => by first | (simp [entryFrame, mkF, argsToLocals, Value.category]; done) | rfl) ?_
  intro p e s m below meth c T G w X
  refine iloadN w X d20_0 1 rfl rfl ?_
  refine bipush w X (32 : Int32) d20_1 3 rfl rfl ?_
  refine icmp_eq w X d20_3 18 6 (by decide) (by decide) rfl (fun hc3_1 => ?_) (fun hc3_1 => ?_)
  ·
    refine iconst w X (1 : Int32) d20_18 19 rfl rfl ?_
    refine goto w X d20_19 23 (by decide) (by decide) ?_
    refine retN w X (t := .boolean) rfl (by simp) d20_23 (by decide) (by decide) ?_
    exact ⟨(1 : Int32), rfl, rfl, lf20_1 v hc3_1⟩
  ·
    refine iloadN w X d20_6 7 rfl rfl ?_
    refine bipush w X (9 : Int32) d20_7 9 rfl rfl ?_
    refine icmp_eq w X d20_9 18 12 (by decide) (by decide) rfl (fun hc9_2 => ?_) (fun hc9_2 => ?_)
    ·
      refine iconst w X (1 : Int32) d20_18 19 rfl rfl ?_
      refine goto w X d20_19 23 (by decide) (by decide) ?_
      refine retN w X (t := .boolean) rfl (by simp) d20_23 (by decide) (by decide) ?_
      exact ⟨(1 : Int32), rfl, rfl, lf20_2 v hc3_1 hc9_2⟩
    ·
      refine iloadN w X d20_12 13 rfl rfl ?_
      refine bipush w X (13 : Int32) d20_13 15 rfl rfl ?_
      refine icmp_ne w X d20_15 22 18 (by decide) (by decide) rfl (fun hc15_3 => ?_) (fun hc15_3 => ?_)
      ·
        refine iconst w X (0 : Int32) d20_22 23 rfl rfl ?_
        refine retN w X (t := .boolean) rfl (by simp) d20_23 (by decide) (by decide) ?_
        exact ⟨(0 : Int32), rfl, rfl, lf20_3 v hc3_1 hc9_2 hc15_3⟩
      ·
        refine iconst w X (1 : Int32) d20_18 19 rfl rfl ?_
        refine goto w X d20_19 23 (by decide) (by decide) ?_
        refine retN w X (t := .boolean) rfl (by simp) d20_23 (by decide) (by decide) ?_
        exact ⟨(1 : Int32), rfl, rfl, lf20_4 v hc3_1 hc9_2 hc15_3⟩
set_option maxRecDepth 65536 in
set_option maxHeartbeats 40000000 in
theorem lf25_1 (v : Int32) (hc3_1 : v < (48 : Int32)) : (0 : Int32) = own_dg v := by
  unfold own_dg
  simp_all
set_option maxRecDepth 65536 in
set_option maxHeartbeats 40000000 in
theorem lf25_2 (v : Int32) (hc3_1 : ¬ (v < (48 : Int32))) (hc9_2 : (57 : Int32) < v) : (0 : Int32) = own_dg v := by
  unfold own_dg
  simp_all
set_option maxRecDepth 65536 in
set_option maxHeartbeats 40000000 in
theorem lf25_3 (v : Int32) (hc3_1 : ¬ (v < (48 : Int32))) (hc9_2 : ¬ ((57 : Int32) < v)) : (1 : Int32) = own_dg v := by
  unfold own_dg
  simp_all
theorem d25_0 : decode prog_22_method_52_code 0 = .ok (.iload_n 0, 1) := by decide +kernel
theorem d25_1 : decode prog_22_method_52_code 1 = .ok (.bipush 48, 2) := by decide +kernel
theorem d25_3 : decode prog_22_method_52_code 3 = .ok (.if_icmp .lt 13, 3) := by decide +kernel
theorem d25_6 : decode prog_22_method_52_code 6 = .ok (.iload_n 0, 1) := by decide +kernel
theorem d25_7 : decode prog_22_method_52_code 7 = .ok (.bipush 57, 2) := by decide +kernel
theorem d25_9 : decode prog_22_method_52_code 9 = .ok (.if_icmp .gt 7, 3) := by decide +kernel
theorem d25_12 : decode prog_22_method_52_code 12 = .ok (.iconst 1, 1) := by decide +kernel
theorem d25_13 : decode prog_22_method_52_code 13 = .ok (.goto 4, 3) := by decide +kernel
theorem d25_16 : decode prog_22_method_52_code 16 = .ok (.iconst 0, 1) := by decide +kernel
theorem d25_17 : decode prog_22_method_52_code 17 = .ok (.ireturn, 1) := by decide +kernel
set_option maxRecDepth 65536 in
set_option maxHeartbeats 40000000 in
theorem rm_own_dg {l : Launch} {Z : State} {a0 : Array Value} (hw : ∀ d ∈ tables_1, d.before a0 Z = true) (v : Int32) (h : Heap) (n0 : Nat) (zn : n0 ≤ h.size) :
    Met l Z (⟨"com/example/clauseline/clauseline/ContractText", "isDigit", "(B)Z"⟩ : MethodName) prog_22_method_52_code 1 (some .boolean) [] ({ frames := 0, cells := 0, slots := 0, locals := 0 } : Room) #[(.int v)] h n0 (RI fun r h' => h' = h ∧ r = own_dg v) := by
  refine start (ls := #[.val (.int v)]) (plainFor_of_name pn16) (fun m => by first | (simp [entryFrame, mkF, argsToLocals, Value.category]; done) | rfl) ?_
  intro p e s m below meth c T G w X
  refine iloadN w X d25_0 1 rfl rfl ?_
  refine bipush w X (48 : Int32) d25_1 3 rfl rfl ?_
  refine icmp_lt w X d25_3 16 6 (by decide) (by decide) rfl (fun hc3_1 => ?_) (fun hc3_1 => ?_)
  ·
    refine iconst w X (0 : Int32) d25_16 17 rfl rfl ?_
    refine retN w X (t := .boolean) rfl (by simp) d25_17 (by decide) (by decide) ?_
    exact ⟨(0 : Int32), rfl, rfl, lf25_1 v hc3_1⟩
  ·
    refine iloadN w X d25_6 7 rfl rfl ?_
    refine bipush w X (57 : Int32) d25_7 9 rfl rfl ?_
    refine icmp_gt w X d25_9 16 12 (by decide) (by decide) rfl (fun hc9_2 => ?_) (fun hc9_2 => ?_)
    ·
      refine iconst w X (0 : Int32) d25_16 17 rfl rfl ?_
      refine retN w X (t := .boolean) rfl (by simp) d25_17 (by decide) (by decide) ?_
      exact ⟨(0 : Int32), rfl, rfl, lf25_2 v hc3_1 hc9_2⟩
    ·
      refine iconst w X (1 : Int32) d25_12 13 rfl rfl ?_
      refine goto w X d25_13 17 (by decide) (by decide) ?_
      refine retN w X (t := .boolean) rfl (by simp) d25_17 (by decide) (by decide) ?_
      exact ⟨(1 : Int32), rfl, rfl, lf25_3 v hc3_1 hc9_2⟩
set_option maxRecDepth 65536 in
set_option maxHeartbeats 40000000 in
theorem lf32_1 (v : Int32) (hc3_1 : v < (65 : Int32)) : (0 : Int32) = own_cp v := by
  unfold own_cp
  simp_all
set_option maxRecDepth 65536 in
set_option maxHeartbeats 40000000 in
theorem lf32_2 (v : Int32) (hc3_1 : ¬ (v < (65 : Int32))) (hc9_2 : (90 : Int32) < v) : (0 : Int32) = own_cp v := by
  unfold own_cp
  simp_all
set_option maxRecDepth 65536 in
set_option maxHeartbeats 40000000 in
theorem lf32_3 (v : Int32) (hc3_1 : ¬ (v < (65 : Int32))) (hc9_2 : ¬ ((90 : Int32) < v)) : (1 : Int32) = own_cp v := by
  unfold own_cp
  simp_all
theorem d32_0 : decode prog_22_method_49_code 0 = .ok (.iload_n 0, 1) := by decide +kernel
theorem d32_1 : decode prog_22_method_49_code 1 = .ok (.bipush 65, 2) := by decide +kernel
theorem d32_3 : decode prog_22_method_49_code 3 = .ok (.if_icmp .lt 13, 3) := by decide +kernel
theorem d32_6 : decode prog_22_method_49_code 6 = .ok (.iload_n 0, 1) := by decide +kernel
theorem d32_7 : decode prog_22_method_49_code 7 = .ok (.bipush 90, 2) := by decide +kernel
theorem d32_9 : decode prog_22_method_49_code 9 = .ok (.if_icmp .gt 7, 3) := by decide +kernel
theorem d32_12 : decode prog_22_method_49_code 12 = .ok (.iconst 1, 1) := by decide +kernel
theorem d32_13 : decode prog_22_method_49_code 13 = .ok (.goto 4, 3) := by decide +kernel
theorem d32_16 : decode prog_22_method_49_code 16 = .ok (.iconst 0, 1) := by decide +kernel
theorem d32_17 : decode prog_22_method_49_code 17 = .ok (.ireturn, 1) := by decide +kernel
set_option maxRecDepth 65536 in
set_option maxHeartbeats 40000000 in
theorem rm_own_cp {l : Launch} {Z : State} {a0 : Array Value} (hw : ∀ d ∈ tables_1, d.before a0 Z = true) (v : Int32) (h : Heap) (n0 : Nat) (zn : n0 ≤ h.size) :
    Met l Z (⟨"com/example/clauseline/clauseline/ContractText", "isCapital", "(B)Z"⟩ : MethodName) prog_22_method_49_code 1 (some .boolean) [] ({ frames := 0, cells := 0, slots := 0, locals := 0 } : Room) #[(.int v)] h n0 (RI fun r h' => h' = h ∧ r = own_cp v) := by
  refine start (ls := #[.val (.int v)]) (plainFor_of_name pn16) (fun m => by first | (simp [entryFrame, mkF, argsToLocals, Value.category]; done) | rfl) ?_
  intro p e s m below meth c T G w X
  refine iloadN w X d32_0 1 rfl rfl ?_
  refine bipush w X (65 : Int32) d32_1 3 rfl rfl ?_
  refine icmp_lt w X d32_3 16 6 (by decide) (by decide) rfl (fun hc3_1 => ?_) (fun hc3_1 => ?_)
  ·
    refine iconst w X (0 : Int32) d32_16 17 rfl rfl ?_
    refine retN w X (t := .boolean) rfl (by simp) d32_17 (by decide) (by decide) ?_
    exact ⟨(0 : Int32), rfl, rfl, lf32_1 v hc3_1⟩
  ·
    refine iloadN w X d32_6 7 rfl rfl ?_
    refine bipush w X (90 : Int32) d32_7 9 rfl rfl ?_
    refine icmp_gt w X d32_9 16 12 (by decide) (by decide) rfl (fun hc9_2 => ?_) (fun hc9_2 => ?_)
    ·
      refine iconst w X (0 : Int32) d32_16 17 rfl rfl ?_
      refine retN w X (t := .boolean) rfl (by simp) d32_17 (by decide) (by decide) ?_
      exact ⟨(0 : Int32), rfl, rfl, lf32_2 v hc3_1 hc9_2⟩
    ·
      refine iconst w X (1 : Int32) d32_12 13 rfl rfl ?_
      refine goto w X d32_13 17 (by decide) (by decide) ?_
      refine retN w X (t := .boolean) rfl (by simp) d32_17 (by decide) (by decide) ?_
      exact ⟨(1 : Int32), rfl, rfl, lf32_3 v hc3_1 hc9_2⟩
set_option maxRecDepth 65536 in
set_option maxHeartbeats 40000000 in
theorem lf33_1 (v : Int32) (hc3_1 : v < (97 : Int32)) : (0 : Int32) = own_lw v := by
  unfold own_lw
  simp_all
set_option maxRecDepth 65536 in
set_option maxHeartbeats 40000000 in
theorem lf33_2 (v : Int32) (hc3_1 : ¬ (v < (97 : Int32))) (hc9_2 : (122 : Int32) < v) : (0 : Int32) = own_lw v := by
  unfold own_lw
  simp_all
set_option maxRecDepth 65536 in
set_option maxHeartbeats 40000000 in
theorem lf33_3 (v : Int32) (hc3_1 : ¬ (v < (97 : Int32))) (hc9_2 : ¬ ((122 : Int32) < v)) : (1 : Int32) = own_lw v := by
  unfold own_lw
  simp_all
theorem d33_0 : decode prog_22_method_50_code 0 = .ok (.iload_n 0, 1) := by decide +kernel
theorem d33_1 : decode prog_22_method_50_code 1 = .ok (.bipush 97, 2) := by decide +kernel
theorem d33_3 : decode prog_22_method_50_code 3 = .ok (.if_icmp .lt 13, 3) := by decide +kernel
theorem d33_6 : decode prog_22_method_50_code 6 = .ok (.iload_n 0, 1) := by decide +kernel
theorem d33_7 : decode prog_22_method_50_code 7 = .ok (.bipush 122, 2) := by decide +kernel
theorem d33_9 : decode prog_22_method_50_code 9 = .ok (.if_icmp .gt 7, 3) := by decide +kernel
theorem d33_12 : decode prog_22_method_50_code 12 = .ok (.iconst 1, 1) := by decide +kernel
theorem d33_13 : decode prog_22_method_50_code 13 = .ok (.goto 4, 3) := by decide +kernel
theorem d33_16 : decode prog_22_method_50_code 16 = .ok (.iconst 0, 1) := by decide +kernel
theorem d33_17 : decode prog_22_method_50_code 17 = .ok (.ireturn, 1) := by decide +kernel
set_option maxRecDepth 65536 in
set_option maxHeartbeats 40000000 in
theorem rm_own_lw {l : Launch} {Z : State} {a0 : Array Value} (hw : ∀ d ∈ tables_1, d.before a0 Z = true) (v : Int32) (h : Heap) (n0 : Nat) (zn : n0 ≤ h.size) :
    Met l Z (⟨"com/example/clauseline/clauseline/ContractText", "isLowerCase", "(B)Z"⟩ : MethodName) prog_22_method_50_code 1 (some .boolean) [] ({ frames := 0, cells := 0, slots := 0, locals := 0 } : Room) #[(.int v)] h n0 (RI fun r h' => h' = h ∧ r = own_lw v) := by
  refine start (ls := #[.val (.int v)]) (plainFor_of_name pn16) (fun m => by first | (simp [entryFrame, mkF, argsToLocals, Value.category]; done) | rfl) ?_
  intro p e s m below meth c T G w X
  refine iloadN w X d33_0 1 rfl rfl ?_
  refine bipush w X (97 : Int32) d33_1 3 rfl rfl ?_
  refine icmp_lt w X d33_3 16 6 (by decide) (by decide) rfl (fun hc3_1 => ?_) (fun hc3_1 => ?_)
  ·
    refine iconst w X (0 : Int32) d33_16 17 rfl rfl ?_
    refine retN w X (t := .boolean) rfl (by simp) d33_17 (by decide) (by decide) ?_
    exact ⟨(0 : Int32), rfl, rfl, lf33_1 v hc3_1⟩
  ·
    refine iloadN w X d33_6 7 rfl rfl ?_
    refine bipush w X (122 : Int32) d33_7 9 rfl rfl ?_
    refine icmp_gt w X d33_9 16 12 (by decide) (by decide) rfl (fun hc9_2 => ?_) (fun hc9_2 => ?_)
    ·
      refine iconst w X (0 : Int32) d33_16 17 rfl rfl ?_
      refine retN w X (t := .boolean) rfl (by simp) d33_17 (by decide) (by decide) ?_
      exact ⟨(0 : Int32), rfl, rfl, lf33_2 v hc3_1 hc9_2⟩
    ·
      refine iconst w X (1 : Int32) d33_12 13 rfl rfl ?_
      refine goto w X d33_13 17 (by decide) (by decide) ?_
      refine retN w X (t := .boolean) rfl (by simp) d33_17 (by decide) (by decide) ?_
      exact ⟨(1 : Int32), rfl, rfl, lf33_3 v hc3_1 hc9_2⟩
set_option maxRecDepth 65536 in
set_option maxHeartbeats 40000000 in
theorem lf36_1 (v : Int32) (hc8_1 : ¬ ((v &&& (192 : Int32)) = (128 : Int32))) : (0 : Int32) = own_ct v := by
  unfold own_ct
  simp_all
set_option maxRecDepth 65536 in
set_option maxHeartbeats 40000000 in
theorem lf36_2 (v : Int32) (hc8_1 : (v &&& (192 : Int32)) = (128 : Int32)) : (1 : Int32) = own_ct v := by
  unfold own_ct
  simp_all
theorem d36_0 : decode prog_22_method_54_code 0 = .ok (.iload_n 0, 1) := by decide +kernel
theorem d36_1 : decode prog_22_method_54_code 1 = .ok (.sipush 192, 3) := by decide +kernel
theorem d36_4 : decode prog_22_method_54_code 4 = .ok (.iand, 1) := by decide +kernel
theorem d36_5 : decode prog_22_method_54_code 5 = .ok (.sipush 128, 3) := by decide +kernel
theorem d36_8 : decode prog_22_method_54_code 8 = .ok (.if_icmp .ne 7, 3) := by decide +kernel
theorem d36_11 : decode prog_22_method_54_code 11 = .ok (.iconst 1, 1) := by decide +kernel
theorem d36_12 : decode prog_22_method_54_code 12 = .ok (.goto 4, 3) := by decide +kernel
theorem d36_15 : decode prog_22_method_54_code 15 = .ok (.iconst 0, 1) := by decide +kernel
theorem d36_16 : decode prog_22_method_54_code 16 = .ok (.ireturn, 1) := by decide +kernel
set_option maxRecDepth 65536 in
set_option maxHeartbeats 40000000 in
theorem rm_own_ct {l : Launch} {Z : State} {a0 : Array Value} (hw : ∀ d ∈ tables_1, d.before a0 Z = true) (v : Int32) (h : Heap) (n0 : Nat) (zn : n0 ≤ h.size) :
    Met l Z (⟨"com/example/clauseline/clauseline/ContractText", "isContinuation", "(B)Z"⟩ : MethodName) prog_22_method_54_code 1 (some .boolean) [] ({ frames := 0, cells := 0, slots := 0, locals := 0 } : Room) #[(.int v)] h n0 (RI fun r h' => h' = h ∧ r = own_ct v) := by
  refine start (ls := #[.val (.int v)]) (plainFor_of_name pn16) (fun m => by first | (simp [entryFrame, mkF, argsToLocals, Value.category]; done) | rfl) ?_
  intro p e s m below meth c T G w X
  refine iloadN w X d36_0 1 rfl rfl ?_
  refine sipush w X (192 : Int32) d36_1 4 rfl rfl ?_
  refine iand w X (v &&& (192 : Int32)) d36_4 5 rfl rfl ?_
  refine sipush w X (128 : Int32) d36_5 8 rfl rfl ?_
  refine icmp_ne w X d36_8 15 11 (by decide) (by decide) rfl (fun hc8_1 => ?_) (fun hc8_1 => ?_)
  ·
    refine iconst w X (0 : Int32) d36_15 16 rfl rfl ?_
    refine retN w X (t := .boolean) rfl (by simp) d36_16 (by decide) (by decide) ?_
    exact ⟨(0 : Int32), rfl, rfl, lf36_1 v hc8_1⟩
  ·
    refine iconst w X (1 : Int32) d36_11 12 rfl rfl ?_
    refine goto w X d36_12 16 (by decide) (by decide) ?_
    refine retN w X (t := .boolean) rfl (by simp) d36_16 (by decide) (by decide) ?_
    exact ⟨(1 : Int32), rfl, rfl, lf36_2 v hc8_1⟩
set_option maxRecDepth 65536 in
set_option maxHeartbeats 40000000 in
theorem lf31_1 (v : Int32) (r1 : Int32) (hr1 : r1 = own_cp v) (hc4_2 : ¬ (r1 = 0)) : (1 : Int32) = own_lt v := by
  unfold own_lt
  simp_all
set_option maxRecDepth 65536 in
set_option maxHeartbeats 40000000 in
theorem lf31_2 (v : Int32) (r1 : Int32) (r3 : Int32) (hr1 : r1 = own_cp v) (hc4_2 : r1 = 0) (hr3 : r3 = own_lw v) (hc11_4 : r3 = 0) : (0 : Int32) = own_lt v := by
  unfold own_lt
  simp_all
set_option maxRecDepth 65536 in
set_option maxHeartbeats 40000000 in
theorem lf31_3 (v : Int32) (r1 : Int32) (r3 : Int32) (hr1 : r1 = own_cp v) (hc4_2 : r1 = 0) (hr3 : r3 = own_lw v) (hc11_4 : ¬ (r3 = 0)) : (1 : Int32) = own_lt v := by
  unfold own_lt
  simp_all
theorem d31_0 : decode prog_22_method_51_code 0 = .ok (.iload_n 0, 1) := by decide +kernel
theorem d31_1 : decode prog_22_method_51_code 1 = .ok (.invokestatic 263, 3) := by decide +kernel
theorem d31_4 : decode prog_22_method_51_code 4 = .ok (.ifCond .ne 10, 3) := by decide +kernel
theorem d31_7 : decode prog_22_method_51_code 7 = .ok (.iload_n 0, 1) := by decide +kernel
theorem d31_8 : decode prog_22_method_51_code 8 = .ok (.invokestatic 266, 3) := by decide +kernel
theorem d31_11 : decode prog_22_method_51_code 11 = .ok (.ifCond .eq 7, 3) := by decide +kernel
theorem d31_14 : decode prog_22_method_51_code 14 = .ok (.iconst 1, 1) := by decide +kernel
theorem d31_15 : decode prog_22_method_51_code 15 = .ok (.goto 4, 3) := by decide +kernel
theorem d31_18 : decode prog_22_method_51_code 18 = .ok (.iconst 0, 1) := by decide +kernel
theorem d31_19 : decode prog_22_method_51_code 19 = .ok (.ireturn, 1) := by decide +kernel
set_option maxRecDepth 65536 in
set_option maxHeartbeats 40000000 in
theorem rm_own_lt {l : Launch} {Z : State} {a0 : Array Value} (hw : ∀ d ∈ tables_1, d.before a0 Z = true) (v : Int32) (h : Heap) (n0 : Nat) (zn : n0 ≤ h.size) :
    Met l Z (⟨"com/example/clauseline/clauseline/ContractText", "isLetter", "(B)Z"⟩ : MethodName) prog_22_method_51_code 1 (some .boolean) [] ({ frames := 1, cells := 0, slots := 0, locals := 12 } : Room) #[(.int v)] h n0 (RI fun r h' => h' = h ∧ r = own_lt v) := by
  refine start (ls := #[.val (.int v)]) (plainFor_of_name pn16) (fun m => by first | (simp [entryFrame, mkF, argsToLocals, Value.category]; done) | rfl) ?_
  intro p e s m below meth c T G w X
  refine iloadN w X d31_0 1 rfl rfl ?_
  refine callSPI w X [(.int v)] (wd158 hw) (wd159 hw) (wd41 hw) (wd160 hw) (by decide) (rm_own_cp hw v h n0 zn) d31_1 4 rfl 0 (by decide) (by decide) (lenOf pd5 rfl) rfl (Nat.le_of_eq rfl) rfl (by decide) (by decide) (fun r1 T X hq => ?_)
  have hr1 := hq
  refine if_ne w X d31_4 14 7 (by decide) (by decide) rfl (fun hc4_2 => ?_) (fun hc4_2 => ?_)
  ·
    refine iconst w X (1 : Int32) d31_14 15 rfl rfl ?_
    refine goto w X d31_15 19 (by decide) (by decide) ?_
    refine retN w X (t := .boolean) rfl (by simp) d31_19 (by decide) (by decide) ?_
    exact ⟨(1 : Int32), rfl, rfl, lf31_1 v r1 hr1 hc4_2⟩
  ·
    refine iloadN w X d31_7 8 rfl rfl ?_
    refine callSPI w X [(.int v)] (wd161 hw) (wd162 hw) (wd41 hw) (wd163 hw) (by decide) (rm_own_lw hw v h n0 zn) d31_8 11 rfl 0 (by decide) (by decide) (lenOf pd5 rfl) rfl (Nat.le_of_eq rfl) rfl (by decide) (by decide) (fun r3 T X hq => ?_)
    have hr3 := hq
    refine if_eq w X d31_11 18 14 (by decide) (by decide) rfl (fun hc11_4 => ?_) (fun hc11_4 => ?_)
    ·
      refine iconst w X (0 : Int32) d31_18 19 rfl rfl ?_
      refine retN w X (t := .boolean) rfl (by simp) d31_19 (by decide) (by decide) ?_
      exact ⟨(0 : Int32), rfl, rfl, lf31_2 v r1 r3 hr1 hc4_2 hr3 hc11_4⟩
    ·
      refine iconst w X (1 : Int32) d31_14 15 rfl rfl ?_
      refine goto w X d31_15 19 (by decide) (by decide) ?_
      refine retN w X (t := .boolean) rfl (by simp) d31_19 (by decide) (by decide) ?_
      exact ⟨(1 : Int32), rfl, rfl, lf31_3 v r1 r3 hr1 hc4_2 hr3 hc11_4⟩
theorem d19_0 : decode prog_22_method_8_code 0 = .ok (.aload_n 0, 1) := by decide +kernel
theorem d19_1 : decode prog_22_method_8_code 1 = .ok (.getfield 9, 3) := by decide +kernel
theorem d19_4 : decode prog_22_method_8_code 4 = .ok (.iload_n 1, 1) := by decide +kernel
theorem d19_5 : decode prog_22_method_8_code 5 = .ok (.baload, 1) := by decide +kernel
theorem d19_6 : decode prog_22_method_8_code 6 = .ok (.ireturn, 1) := by decide +kernel
set_option maxRecDepth 65536 in
set_option maxHeartbeats 40000000 in
theorem rm_baG {l : Launch} {Z : State} {a0 : Array Value} (hw : ∀ d ∈ tables_1, d.before a0 Z = true) (t arr : Addr) (bs : List Int32) (ix : Nat) (h : Heap) (n0 : Nat) (zn : n0 ≤ h.size) (E_t : Exa Z h t "com/example/clauseline/clauseline/ContractText") (F_bytes_t : Fld Z h t "com/example/clauseline/clauseline/ContractText" "bytes" "[B" (.ref arr)) (V_arr : PA Z h arr .byte bs) (hi : ix < bs.length) (hi2 : ix ≤ 40) :
    Met l Z (⟨"com/example/clauseline/clauseline/ContractText", "byteAt", "(I)B"⟩ : MethodName) prog_22_method_8_code 2 (some .byte) [] ({ frames := 0, cells := 0, slots := 0, locals := 0 } : Room) #[(.ref t), (.int (Int32.ofNat ix))] h n0 (RI fun r h' => h' = h ∧ r = bs.getD ix 0) := by
  refine start (ls := #[.val (.ref t), .val (.int (Int32.ofNat ix))]) (plainFor_of_name pn16) (fun m => by first | (simp [entryFrame, mkF, argsToLocals, Value.category]; done) | rfl) ?_
  intro p e s m below meth c T G w X
  refine aloadN w X d19_0 1 rfl rfl rfl ?_
  refine getfield w X (wd66 hw) Via.refl F_bytes_t d19_1 4 rfl (fun T X => ?_)
  refine iloadN w X d19_4 5 rfl rfl ?_
  obtain ⟨r1, hr1⟩ : ∃ z : Int32, z = (bs.getD ix 0) := ⟨_, rfl⟩
  refine baload w X V_arr (own_ix ix hi2).1 ix (own_ix ix hi2).2 hi d19_5 6 rfl r1 hr1 ?_
  refine retN w X (t := .byte) rfl (by simp) d19_6 (by decide) (by decide) ?_
  exact ⟨_, rfl, rfl, by rw [hr1]; exact own_nb (V_arr.fit _ (own_gm hi))⟩
theorem d15_0 : decode prog_22_method_20_code 0 = .ok (.iload_n 1, 1) := by decide +kernel
theorem d15_1 : decode prog_22_method_20_code 1 = .ok (.istore_n 3, 1) := by decide +kernel
theorem d15_2 : decode prog_22_method_20_code 2 = .ok (.iload_n 3, 1) := by decide +kernel
theorem d15_3 : decode prog_22_method_20_code 3 = .ok (.iload_n 2, 1) := by decide +kernel
theorem d15_4 : decode prog_22_method_20_code 4 = .ok (.if_icmp .ge 21, 3) := by decide +kernel
theorem d15_7 : decode prog_22_method_20_code 7 = .ok (.aload_n 0, 1) := by decide +kernel
theorem d15_8 : decode prog_22_method_20_code 8 = .ok (.getfield 9, 3) := by decide +kernel
theorem d15_11 : decode prog_22_method_20_code 11 = .ok (.iload_n 3, 1) := by decide +kernel
theorem d15_12 : decode prog_22_method_20_code 12 = .ok (.baload, 1) := by decide +kernel
theorem d15_13 : decode prog_22_method_20_code 13 = .ok (.invokestatic 141, 3) := by decide +kernel
theorem d15_16 : decode prog_22_method_20_code 16 = .ok (.ifCond .eq 9, 3) := by decide +kernel
theorem d15_19 : decode prog_22_method_20_code 19 = .ok (.iinc 3 1, 3) := by decide +kernel
theorem d15_22 : decode prog_22_method_20_code 22 = .ok (.goto (-20), 3) := by decide +kernel
theorem d15_25 : decode prog_22_method_20_code 25 = .ok (.iload_n 3, 1) := by decide +kernel
theorem d15_26 : decode prog_22_method_20_code 26 = .ok (.ireturn, 1) := by decide +kernel
set_option maxRecDepth 65536 in
set_option maxHeartbeats 40000000 in
theorem rm_skipSpaces_1 {l : Launch} {Z : State} {a0 : Array Value} (hw : ∀ d ∈ tables_1, d.before a0 Z = true) (t arr : Addr) (p0 p1 p2 p3 p4 p5 p6 p7 u0 u1 u2 u3 : Int32) (h : Heap) (n0 : Nat) (zn : n0 ≤ h.size) (E_t : Exa Z h t "com/example/clauseline/clauseline/ContractText") (F_bytes_t : Fld Z h t "com/example/clauseline/clauseline/ContractText" "bytes" "[B" (.ref arr)) (V_arr : PA Z h arr .byte [p0, p1, p2, p3, p4, p5, p6, p7, u0, u1, u2, u3, (10 : Int32), (60 : Int32), (10 : Int32), (45 : Int32), (45 : Int32), (10 : Int32), (32 : Int32)]) :
    Met l Z (⟨"com/example/clauseline/clauseline/ContractText", "skipSpaces", "(II)I"⟩ : MethodName) prog_22_method_20_code 4 (some .int) [] ({ frames := 1, cells := 0, slots := 0, locals := 12 } : Room) #[(.ref t), (.int (18 : Int32)), (.int (19 : Int32))] h n0 (RI fun r h' => h' = h ∧ r = (19 : Int32)) := by
  refine start (ls := #[.val (.ref t), .val (.int (18 : Int32)), .val (.int (19 : Int32)), .unset]) (plainFor_of_name pn16) (fun m => by first | (simp [entryFrame, mkF, argsToLocals, Value.category]; done) | rfl) ?_
  intro p e s m below meth c T G w X
  refine iloadN w X d15_0 1 rfl rfl ?_
  refine istoreN w X (18 : Int32) d15_1 2 rfl rfl #[.val (.ref t), .val (.int (18 : Int32)), .val (.int (19 : Int32)), .val (.int (18 : Int32))] rfl ?_
  refine iloadN w X d15_2 3 rfl rfl ?_
  refine iloadN w X d15_3 4 rfl rfl ?_
  refine icmp_ge w X d15_4 25 7 (by decide) (by decide) rfl (fun q => absurd q (by decide)) (fun hc4_1 => ?_)
  refine aloadN w X d15_7 8 rfl rfl rfl ?_
  refine getfield w X (wd66 hw) Via.refl F_bytes_t d15_8 11 rfl (fun T X => ?_)
  refine iloadN w X d15_11 12 rfl rfl ?_
  refine baload w X V_arr (by decide) 18 rfl (Nat.le_of_ble_eq_true rfl) d15_12 13 rfl (32 : Int32) rfl ?_
  refine callSPI w X [(.int (32 : Int32))] (wd88 hw) (wd89 hw) (wd41 hw) (wd90 hw) (by decide) (rm_own_sp1 hw (32 : Int32) h n0 zn) d15_13 16 rfl 0 (by decide) (by decide) (lenOf pd5 rfl) rfl (Nat.le_of_eq rfl) rfl (by decide) (by decide) (fun r2 T X hq => ?_)
  obtain rfl : r2 = (1 : Int32) := hq.trans (by decide)
  refine if_eq w X d15_16 25 19 (by decide) (by decide) rfl (fun q => absurd q (by decide)) (fun hc16_3 => ?_)
  refine iinc w X (19 : Int32) d15_19 22 rfl rfl (by decide) #[.val (.ref t), .val (.int (18 : Int32)), .val (.int (19 : Int32)), .val (.int (19 : Int32))] rfl ?_
  refine goto w X d15_22 2 (by decide) (by decide) ?_
  refine iloadN w X d15_2 3 rfl rfl ?_
  refine iloadN w X d15_3 4 rfl rfl ?_
  refine icmp_ge w X d15_4 25 7 (by decide) (by decide) rfl (fun hc4_4 => ?_) (fun q => absurd q (by decide))
  refine iloadN w X d15_25 26 rfl rfl ?_
  refine retI w X rfl d15_26 (by decide) (by decide) ?_
  exact ⟨(19 : Int32), rfl, rfl, rfl⟩
theorem d17_0 : decode prog_47_method_14_code 0 = .ok (.iload_n 2, 1) := by decide +kernel
theorem d17_1 : decode prog_47_method_14_code 1 = .ok (.istore_n 3, 1) := by decide +kernel
theorem d17_2 : decode prog_47_method_14_code 2 = .ok (.iload_n 3, 1) := by decide +kernel
theorem d17_3 : decode prog_47_method_14_code 3 = .ok (.iload_n 1, 1) := by decide +kernel
theorem d17_4 : decode prog_47_method_14_code 4 = .ok (.if_icmp .le 22, 3) := by decide +kernel
theorem d17_26 : decode prog_47_method_14_code 26 = .ok (.iload_n 3, 1) := by decide +kernel
theorem d17_27 : decode prog_47_method_14_code 27 = .ok (.ireturn, 1) := by decide +kernel
set_option maxRecDepth 65536 in
set_option maxHeartbeats 40000000 in
theorem rm_textEnd_2 {l : Launch} {Z : State} {a0 : Array Value} (hw : ∀ d ∈ tables_1, d.before a0 Z = true) (t arr : Addr) (p0 p1 p2 p3 p4 p5 p6 p7 u0 u1 u2 u3 : Int32) (h : Heap) (n0 : Nat) (zn : n0 ≤ h.size) (E_t : Exa Z h t "com/example/clauseline/clauseline/ContractText") (F_bytes_t : Fld Z h t "com/example/clauseline/clauseline/ContractText" "bytes" "[B" (.ref arr)) (V_arr : PA Z h arr .byte [p0, p1, p2, p3, p4, p5, p6, p7, u0, u1, u2, u3, (10 : Int32), (60 : Int32), (10 : Int32), (45 : Int32), (45 : Int32), (10 : Int32), (32 : Int32)]) :
    Met l Z (⟨"com/example/clauseline/clauseline/LineWrap", "textEnd", "(Lcom/example/clauseline/clauseline/ContractText;II)I"⟩ : MethodName) prog_47_method_14_code 4 (some .int) [] ({ frames := 0, cells := 0, slots := 0, locals := 0 } : Room) #[(.ref t), (.int (19 : Int32)), (.int (19 : Int32))] h n0 (RI fun r h' => h' = h ∧ r = (19 : Int32)) := by
  refine start (ls := #[.val (.ref t), .val (.int (19 : Int32)), .val (.int (19 : Int32)), .unset]) (plainFor_of_name pn20) (fun m => by first | (simp [entryFrame, mkF, argsToLocals, Value.category]; done) | rfl) ?_
  intro p e s m below meth c T G w X
  refine iloadN w X d17_0 1 rfl rfl ?_
  refine istoreN w X (19 : Int32) d17_1 2 rfl rfl #[.val (.ref t), .val (.int (19 : Int32)), .val (.int (19 : Int32)), .val (.int (19 : Int32))] rfl ?_
  refine iloadN w X d17_2 3 rfl rfl ?_
  refine iloadN w X d17_3 4 rfl rfl ?_
  refine icmp_le w X d17_4 26 7 (by decide) (by decide) rfl (fun hc4_1 => ?_) (fun q => absurd q (by decide))
  refine iloadN w X d17_26 27 rfl rfl ?_
  refine retI w X rfl d17_27 (by decide) (by decide) ?_
  exact ⟨(19 : Int32), rfl, rfl, rfl⟩
theorem d14_0 : decode prog_47_method_4_code 0 = .ok (.aload_n 1, 1) := by decide +kernel
theorem d14_1 : decode prog_47_method_4_code 1 = .ok (.iload_n 2, 1) := by decide +kernel
theorem d14_2 : decode prog_47_method_4_code 2 = .ok (.iload_n 3, 1) := by decide +kernel
theorem d14_3 : decode prog_47_method_4_code 3 = .ok (.invokevirtual 26, 3) := by decide +kernel
theorem d14_6 : decode prog_47_method_4_code 6 = .ok (.istore 4, 2) := by decide +kernel
theorem d14_8 : decode prog_47_method_4_code 8 = .ok (.aload_n 1, 1) := by decide +kernel
theorem d14_9 : decode prog_47_method_4_code 9 = .ok (.iload 4, 2) := by decide +kernel
theorem d14_11 : decode prog_47_method_4_code 11 = .ok (.iload_n 3, 1) := by decide +kernel
theorem d14_12 : decode prog_47_method_4_code 12 = .ok (.invokestatic 32, 3) := by decide +kernel
theorem d14_15 : decode prog_47_method_4_code 15 = .ok (.istore 5, 2) := by decide +kernel
theorem d14_17 : decode prog_47_method_4_code 17 = .ok (.iload 4, 2) := by decide +kernel
theorem d14_19 : decode prog_47_method_4_code 19 = .ok (.iload 5, 2) := by decide +kernel
theorem d14_21 : decode prog_47_method_4_code 21 = .ok (.if_icmp .ne 10, 3) := by decide +kernel
theorem d14_24 : decode prog_47_method_4_code 24 = .ok (.aload_n 0, 1) := by decide +kernel
theorem d14_25 : decode prog_47_method_4_code 25 = .ok (.iconst 1, 1) := by decide +kernel
theorem d14_26 : decode prog_47_method_4_code 26 = .ok (.putfield 13, 3) := by decide +kernel
theorem d14_29 : decode prog_47_method_4_code 29 = .ok (.iconst 0, 1) := by decide +kernel
theorem d14_30 : decode prog_47_method_4_code 30 = .ok (.ireturn, 1) := by decide +kernel
set_option maxRecDepth 65536 in
set_option maxHeartbeats 40000000 in
theorem rm_add_18 {l : Launch} {Z : State} {a0 : Array Value} (hw : ∀ d ∈ tables_1, d.before a0 Z = true) (lw t arr : Addr) (p0 p1 p2 p3 p4 p5 p6 p7 u0 u1 u2 u3 : Int32) (cs : Int32) (sio : Value) (o bl pb cm wd : Int32) (h : Heap) (n0 : Nat) (zn : n0 ≤ h.size) (E_t : Exa Z h t "com/example/clauseline/clauseline/ContractText") (F_bytes_t : Fld Z h t "com/example/clauseline/clauseline/ContractText" "bytes" "[B" (.ref arr)) (V_arr : PA Z h arr .byte [p0, p1, p2, p3, p4, p5, p6, p7, u0, u1, u2, u3, (10 : Int32), (60 : Int32), (10 : Int32), (45 : Int32), (45 : Int32), (10 : Int32), (32 : Int32)]) (S_cs : Sta Z h "java/lang/String" "COMPACT_STRINGS" "Z" (.int cs)) (hcs : ¬ cs = 0) (S_sio : Sta Z h "jdk/internal/util/Preconditions" "SIOOBE_FORMATTER" "Ljava/util/function/BiFunction;" sio) (hsio : sio.isRef = true) (E_lw : Exa Z h lw "com/example/clauseline/clauseline/LineWrap") (F_open_lw : Fld Z h lw "com/example/clauseline/clauseline/LineWrap" "open" "Z" (.int o)) (F_blank_lw : Fld Z h lw "com/example/clauseline/clauseline/LineWrap" "blank" "Z" (.int bl)) (F_pageBreak_lw : Fld Z h lw "com/example/clauseline/clauseline/LineWrap" "pageBreak" "Z" (.int pb)) (F_comma_lw : Fld Z h lw "com/example/clauseline/clauseline/LineWrap" "comma" "Z" (.int cm)) (F_width_lw : Fld Z h lw "com/example/clauseline/clauseline/LineWrap" "width" "I" (.int wd)) (g_lw : n0 ≤ lw) (ne_t_lw : t ≠ lw) (ne_arr_lw : arr ≠ lw) :
    MetH consts_1 l Z (⟨"com/example/clauseline/clauseline/LineWrap", "add", "(Lcom/example/clauseline/clauseline/ContractText;II)Z"⟩ : MethodName) prog_47_method_4_code 6 (some .boolean) [] ({ frames := 2, cells := 0, slots := 0, locals := 27 } : Room) #[(.ref lw), (.ref t), (.int (18 : Int32)), (.int (19 : Int32))] h n0 (RI fun r h' => Keep h h' [lw] ∧ Exa Z h' lw "com/example/clauseline/clauseline/LineWrap" ∧ Fld Z h' lw "com/example/clauseline/clauseline/LineWrap" "open" "Z" (.int o) ∧ Fld Z h' lw "com/example/clauseline/clauseline/LineWrap" "blank" "Z" (.int (1 : Int32)) ∧ Fld Z h' lw "com/example/clauseline/clauseline/LineWrap" "pageBreak" "Z" (.int pb) ∧ Fld Z h' lw "com/example/clauseline/clauseline/LineWrap" "comma" "Z" (.int cm) ∧ Fld Z h' lw "com/example/clauseline/clauseline/LineWrap" "width" "I" (.int wd)) := by
  refine startH (own_EW hw) (ls := #[.val (.ref lw), .val (.ref t), .val (.int (18 : Int32)), .val (.int (19 : Int32)), .unset, .unset]) (plainFor_of_name pn20) (fun m => by first | (simp [entryFrame, mkF, argsToLocals, Value.category]; done) | rfl) ?_
  intro p e s0 m below meth c T G s k0 w X ws zk hC
  have K := Keep.refl h [lw]
  refine aloadN w X d14_0 1 rfl rfl rfl ?_
  refine iloadN w X d14_1 2 rfl rfl ?_
  refine iloadN w X d14_2 3 rfl rfl ?_
  refine callVPI w X [(.int (18 : Int32)), (.int (19 : Int32))] (wd83 hw) (wd84 hw) (notFace_of_selects (args := #[]) (mvT w.2.2.2.2.1 (wd86 hw))) (wd86 hw) (wd85 hw) (wd41 hw) (wd87 hw) (by decide) E_t (rm_skipSpaces_1 hw t arr p0 p1 p2 p3 p4 p5 p6 p7 u0 u1 u2 u3 h n0 zn E_t F_bytes_t V_arr) d14_3 6 rfl 0 (by decide) (by decide) (lenOf pd6 rfl) rfl (Nat.le_of_eq rfl) rfl (by decide) (by decide) (fun r1 T X hq => ?_)
  subst hq
  refine istore w X (19 : Int32) d14_6 8 rfl rfl #[.val (.ref lw), .val (.ref t), .val (.int (18 : Int32)), .val (.int (19 : Int32)), .val (.int (19 : Int32)), .unset] rfl ?_
  refine aloadN w X d14_8 9 rfl rfl rfl ?_
  refine iload w X d14_9 11 rfl rfl ?_
  refine iloadN w X d14_11 12 rfl rfl ?_
  refine callSPI w X [(.ref t), (.int (19 : Int32)), (.int (19 : Int32))] (wd91 hw) (wd92 hw) (wd70 hw) (wd93 hw) (by decide) (rm_textEnd_2 hw t arr p0 p1 p2 p3 p4 p5 p6 p7 u0 u1 u2 u3 h n0 zn E_t F_bytes_t V_arr) d14_12 15 rfl 0 (by decide) (by decide) (lenOf pd7 rfl) rfl (Nat.le_of_eq rfl) rfl (by decide) (by decide) (fun r2 T X hq => ?_)
  subst hq
  refine istore w X (19 : Int32) d14_15 17 rfl rfl #[.val (.ref lw), .val (.ref t), .val (.int (18 : Int32)), .val (.int (19 : Int32)), .val (.int (19 : Int32)), .val (.int (19 : Int32))] rfl ?_
  refine iload w X d14_17 19 rfl rfl ?_
  refine iload w X d14_19 21 rfl rfl ?_
  refine icmp_ne w X d14_21 31 24 (by decide) (by decide) rfl (fun q => absurd q (by decide)) (fun hc21_3 => ?_)
  refine aloadN w X d14_24 25 rfl rfl rfl ?_
  refine iconst w X (1 : Int32) d14_25 26 rfl rfl ?_
  refine putfieldN w X (wd94 hw) Via.refl F_blank_lw E_lw (Or.inl (wd95 hw)) (wd69 hw) (ty := .boolean) (v' := (.int (1 : Int32))) (by decide) rfl (by decide) g_lw d14_26 29 rfl (fun T h4 X W => ?_)
  have hsafe := (Safe.exa (EL := consts_1) w.2.2.2.2.1.alike E_lw (by decide) (by decide))
  have hC := hC.trans (CHr.wr W hsafe hC.1)
  have zn : n0 ≤ h4.size := W.size ▸ zn
  have E_t := E_t.wr W
  have F_bytes_t := F_bytes_t.other W (Or.inl ne_t_lw)
  have V_arr := V_arr.other W ne_arr_lw
  have S_cs := S_cs.wr W
  have S_sio := S_sio.wr W
  have E_lw := E_lw.wr W
  have F_open_lw := F_open_lw.other W (Or.inr (slot_ne (Or.inl (wd102 hw)) (Or.inl (wd95 hw)) (by decide) (t := .boolean) (t' := .boolean) (by decide) (by decide)))
  have F_blank_lw := F_blank_lw.same W
  have F_pageBreak_lw := F_pageBreak_lw.other W (Or.inr (slot_ne (Or.inl (wd118 hw)) (Or.inl (wd95 hw)) (by decide) (t := .boolean) (t' := .boolean) (by decide) (by decide)))
  have F_comma_lw := F_comma_lw.other W (Or.inr (slot_ne (Or.inl (wd166 hw)) (Or.inl (wd95 hw)) (by decide) (t := .boolean) (t' := .boolean) (by decide) (by decide)))
  have F_width_lw := F_width_lw.other W (Or.inr (slot_ne (Or.inl (wd179 hw)) (Or.inl (wd95 hw)) (by decide) (t := .int) (t' := .boolean) (by decide) (by decide)))
  have K := K.wr W (Or.inl (List.mem_of_getElem? (i := 0) rfl))
  have zk : k0 ≤ h4.size := W.size ▸ zk
  refine iconst w X (0 : Int32) d14_29 30 rfl rfl ?_
  refine retN w X (t := .boolean) rfl (by simp) d14_30 (by decide) (by decide) ?_
  refine And.intro zk (And.intro hC ?_)
  exact ⟨(0 : Int32), rfl, K, E_lw, F_open_lw, F_blank_lw, F_pageBreak_lw, F_comma_lw, F_width_lw⟩
set_option maxRecDepth 65536 in
set_option maxHeartbeats 40000000 in
theorem rm_skipSpaces_3 {l : Launch} {Z : State} {a0 : Array Value} (hw : ∀ d ∈ tables_1, d.before a0 Z = true) (t arr : Addr) (p0 p1 p2 p3 p4 p5 p6 p7 u0 u1 u2 u3 : Int32) (h : Heap) (n0 : Nat) (zn : n0 ≤ h.size) (E_t : Exa Z h t "com/example/clauseline/clauseline/ContractText") (F_bytes_t : Fld Z h t "com/example/clauseline/clauseline/ContractText" "bytes" "[B" (.ref arr)) (V_arr : PA Z h arr .byte [p0, p1, p2, p3, p4, p5, p6, p7, u0, u1, u2, u3, (10 : Int32), (60 : Int32), (10 : Int32), (45 : Int32), (45 : Int32), (10 : Int32), (32 : Int32)]) :
    Met l Z (⟨"com/example/clauseline/clauseline/ContractText", "skipSpaces", "(II)I"⟩ : MethodName) prog_22_method_20_code 4 (some .int) [] ({ frames := 1, cells := 0, slots := 0, locals := 12 } : Room) #[(.ref t), (.int (13 : Int32)), (.int (14 : Int32))] h n0 (RI fun r h' => h' = h ∧ r = (13 : Int32)) := by
  refine start (ls := #[.val (.ref t), .val (.int (13 : Int32)), .val (.int (14 : Int32)), .unset]) (plainFor_of_name pn16) (fun m => by first | (simp [entryFrame, mkF, argsToLocals, Value.category]; done) | rfl) ?_
  intro p e s m below meth c T G w X
  refine iloadN w X d15_0 1 rfl rfl ?_
  refine istoreN w X (13 : Int32) d15_1 2 rfl rfl #[.val (.ref t), .val (.int (13 : Int32)), .val (.int (14 : Int32)), .val (.int (13 : Int32))] rfl ?_
  refine iloadN w X d15_2 3 rfl rfl ?_
  refine iloadN w X d15_3 4 rfl rfl ?_
  refine icmp_ge w X d15_4 25 7 (by decide) (by decide) rfl (fun q => absurd q (by decide)) (fun hc4_1 => ?_)
  refine aloadN w X d15_7 8 rfl rfl rfl ?_
  refine getfield w X (wd66 hw) Via.refl F_bytes_t d15_8 11 rfl (fun T X => ?_)
  refine iloadN w X d15_11 12 rfl rfl ?_
  refine baload w X V_arr (by decide) 13 rfl (Nat.le_of_ble_eq_true rfl) d15_12 13 rfl (60 : Int32) rfl ?_
  refine callSPI w X [(.int (60 : Int32))] (wd88 hw) (wd89 hw) (wd41 hw) (wd90 hw) (by decide) (rm_own_sp1 hw (60 : Int32) h n0 zn) d15_13 16 rfl 0 (by decide) (by decide) (lenOf pd5 rfl) rfl (Nat.le_of_eq rfl) rfl (by decide) (by decide) (fun r2 T X hq => ?_)
  obtain rfl : r2 = (0 : Int32) := hq.trans (by decide)
  refine if_eq w X d15_16 25 19 (by decide) (by decide) rfl (fun hc16_3 => ?_) (fun q => absurd q (by decide))
  refine iloadN w X d15_25 26 rfl rfl ?_
  refine retI w X rfl d15_26 (by decide) (by decide) ?_
  exact ⟨(13 : Int32), rfl, rfl, rfl⟩
theorem d17_7 : decode prog_47_method_14_code 7 = .ok (.aload_n 0, 1) := by decide +kernel
theorem d17_8 : decode prog_47_method_14_code 8 = .ok (.iload_n 3, 1) := by decide +kernel
theorem d17_9 : decode prog_47_method_14_code 9 = .ok (.iconst 1, 1) := by decide +kernel
theorem d17_10 : decode prog_47_method_14_code 10 = .ok (.isub, 1) := by decide +kernel
theorem d17_11 : decode prog_47_method_14_code 11 = .ok (.invokevirtual 47, 3) := by decide +kernel
theorem d17_14 : decode prog_47_method_14_code 14 = .ok (.invokestatic 132, 3) := by decide +kernel
theorem d17_17 : decode prog_47_method_14_code 17 = .ok (.ifCond .eq 9, 3) := by decide +kernel
set_option maxRecDepth 65536 in
set_option maxHeartbeats 40000000 in
theorem rm_textEnd_4 {l : Launch} {Z : State} {a0 : Array Value} (hw : ∀ d ∈ tables_1, d.before a0 Z = true) (t arr : Addr) (p0 p1 p2 p3 p4 p5 p6 p7 u0 u1 u2 u3 : Int32) (h : Heap) (n0 : Nat) (zn : n0 ≤ h.size) (E_t : Exa Z h t "com/example/clauseline/clauseline/ContractText") (F_bytes_t : Fld Z h t "com/example/clauseline/clauseline/ContractText" "bytes" "[B" (.ref arr)) (V_arr : PA Z h arr .byte [p0, p1, p2, p3, p4, p5, p6, p7, u0, u1, u2, u3, (10 : Int32), (60 : Int32), (10 : Int32), (45 : Int32), (45 : Int32), (10 : Int32), (32 : Int32)]) :
    Met l Z (⟨"com/example/clauseline/clauseline/LineWrap", "textEnd", "(Lcom/example/clauseline/clauseline/ContractText;II)I"⟩ : MethodName) prog_47_method_14_code 4 (some .int) [] ({ frames := 1, cells := 0, slots := 0, locals := 13 } : Room) #[(.ref t), (.int (13 : Int32)), (.int (14 : Int32))] h n0 (RI fun r h' => h' = h ∧ r = (14 : Int32)) := by
  refine start (ls := #[.val (.ref t), .val (.int (13 : Int32)), .val (.int (14 : Int32)), .unset]) (plainFor_of_name pn20) (fun m => by first | (simp [entryFrame, mkF, argsToLocals, Value.category]; done) | rfl) ?_
  intro p e s m below meth c T G w X
  refine iloadN w X d17_0 1 rfl rfl ?_
  refine istoreN w X (14 : Int32) d17_1 2 rfl rfl #[.val (.ref t), .val (.int (13 : Int32)), .val (.int (14 : Int32)), .val (.int (14 : Int32))] rfl ?_
  refine iloadN w X d17_2 3 rfl rfl ?_
  refine iloadN w X d17_3 4 rfl rfl ?_
  refine icmp_le w X d17_4 26 7 (by decide) (by decide) rfl (fun q => absurd q (by decide)) (fun hc4_1 => ?_)
  refine aloadN w X d17_7 8 rfl rfl rfl ?_
  refine iloadN w X d17_8 9 rfl rfl ?_
  refine iconst w X (1 : Int32) d17_9 10 rfl rfl ?_
  refine isub w X (13 : Int32) d17_10 11 rfl (by decide) ?_
  refine callVPI w X [(.int (13 : Int32))] (wd103 hw) (wd104 hw) (notFace_of_selects (args := #[]) (mvT w.2.2.2.2.1 (wd106 hw))) (wd106 hw) (wd105 hw) (wd41 hw) (wd107 hw) (by decide) E_t (rm_baG hw t arr [p0, p1, p2, p3, p4, p5, p6, p7, u0, u1, u2, u3, (10 : Int32), (60 : Int32), (10 : Int32), (45 : Int32), (45 : Int32), (10 : Int32), (32 : Int32)] 13 h n0 zn E_t F_bytes_t V_arr (Nat.le_of_ble_eq_true rfl) (Nat.le_of_ble_eq_true rfl)) d17_11 14 rfl 0 (by decide) (by decide) (lenOf pd8 rfl) rfl (Nat.le_of_eq rfl) rfl (by decide) (by decide) (fun r2 T X hq => ?_)
  obtain rfl : r2 = (60 : Int32) := hq
  refine callSPI w X [(.int (60 : Int32))] (wd108 hw) (wd109 hw) (wd70 hw) (wd110 hw) (by decide) (rm_own_sp2 hw (60 : Int32) h n0 zn) d17_14 17 rfl 0 (by decide) (by decide) (lenOf pd5 rfl) rfl (Nat.le_of_eq rfl) rfl (by decide) (by decide) (fun r3 T X hq => ?_)
  obtain rfl : r3 = (0 : Int32) := hq.trans (by decide)
  refine if_eq w X d17_17 26 20 (by decide) (by decide) rfl (fun hc17_4 => ?_) (fun q => absurd q (by decide))
  refine iloadN w X d17_26 27 rfl rfl ?_
  refine retI w X rfl d17_27 (by decide) (by decide) ?_
  exact ⟨(14 : Int32), rfl, rfl, rfl⟩
theorem d22_0 : decode prog_47_method_18_code 0 = .ok (.aload_n 0, 1) := by decide +kernel
theorem d22_1 : decode prog_47_method_18_code 1 = .ok (.iload_n 1, 1) := by decide +kernel
theorem d22_2 : decode prog_47_method_18_code 2 = .ok (.invokevirtual 47, 3) := by decide +kernel
theorem d22_5 : decode prog_47_method_18_code 5 = .ok (.istore_n 3, 1) := by decide +kernel
theorem d22_6 : decode prog_47_method_18_code 6 = .ok (.iload_n 2, 1) := by decide +kernel
theorem d22_7 : decode prog_47_method_18_code 7 = .ok (.iload_n 1, 1) := by decide +kernel
theorem d22_8 : decode prog_47_method_18_code 8 = .ok (.isub, 1) := by decide +kernel
theorem d22_9 : decode prog_47_method_18_code 9 = .ok (.iconst 1, 1) := by decide +kernel
theorem d22_10 : decode prog_47_method_18_code 10 = .ok (.if_icmp .ne 19, 3) := by decide +kernel
theorem d22_13 : decode prog_47_method_18_code 13 = .ok (.iload_n 3, 1) := by decide +kernel
theorem d22_14 : decode prog_47_method_18_code 14 = .ok (.bipush 60, 2) := by decide +kernel
theorem d22_16 : decode prog_47_method_18_code 16 = .ok (.if_icmp .eq 9, 3) := by decide +kernel
theorem d22_25 : decode prog_47_method_18_code 25 = .ok (.iconst 1, 1) := by decide +kernel
theorem d22_26 : decode prog_47_method_18_code 26 = .ok (.goto 4, 3) := by decide +kernel
theorem d22_30 : decode prog_47_method_18_code 30 = .ok (.ireturn, 1) := by decide +kernel
set_option maxRecDepth 65536 in
set_option maxHeartbeats 40000000 in
theorem rm_isMark_6 {l : Launch} {Z : State} {a0 : Array Value} (hw : ∀ d ∈ tables_1, d.before a0 Z = true) (t arr : Addr) (p0 p1 p2 p3 p4 p5 p6 p7 u0 u1 u2 u3 : Int32) (h : Heap) (n0 : Nat) (zn : n0 ≤ h.size) (E_t : Exa Z h t "com/example/clauseline/clauseline/ContractText") (F_bytes_t : Fld Z h t "com/example/clauseline/clauseline/ContractText" "bytes" "[B" (.ref arr)) (V_arr : PA Z h arr .byte [p0, p1, p2, p3, p4, p5, p6, p7, u0, u1, u2, u3, (10 : Int32), (60 : Int32), (10 : Int32), (45 : Int32), (45 : Int32), (10 : Int32), (32 : Int32)]) :
    Met l Z (⟨"com/example/clauseline/clauseline/LineWrap", "isMark", "(Lcom/example/clauseline/clauseline/ContractText;II)Z"⟩ : MethodName) prog_47_method_18_code 4 (some .boolean) [] ({ frames := 1, cells := 0, slots := 0, locals := 13 } : Room) #[(.ref t), (.int (13 : Int32)), (.int (14 : Int32))] h n0 (RI fun r h' => h' = h ∧ r = (1 : Int32)) := by
  refine start (ls := #[.val (.ref t), .val (.int (13 : Int32)), .val (.int (14 : Int32)), .unset]) (plainFor_of_name pn20) (fun m => by first | (simp [entryFrame, mkF, argsToLocals, Value.category]; done) | rfl) ?_
  intro p e s m below meth c T G w X
  refine aloadN w X d22_0 1 rfl rfl rfl ?_
  refine iloadN w X d22_1 2 rfl rfl ?_
  refine callVPI w X [(.int (13 : Int32))] (wd103 hw) (wd104 hw) (notFace_of_selects (args := #[]) (mvT w.2.2.2.2.1 (wd106 hw))) (wd106 hw) (wd105 hw) (wd41 hw) (wd107 hw) (by decide) E_t (rm_baG hw t arr [p0, p1, p2, p3, p4, p5, p6, p7, u0, u1, u2, u3, (10 : Int32), (60 : Int32), (10 : Int32), (45 : Int32), (45 : Int32), (10 : Int32), (32 : Int32)] 13 h n0 zn E_t F_bytes_t V_arr (Nat.le_of_ble_eq_true rfl) (Nat.le_of_ble_eq_true rfl)) d22_2 5 rfl 0 (by decide) (by decide) (lenOf pd8 rfl) rfl (Nat.le_of_eq rfl) rfl (by decide) (by decide) (fun r1 T X hq => ?_)
  obtain rfl : r1 = (60 : Int32) := hq
  refine istoreN w X (60 : Int32) d22_5 6 rfl rfl #[.val (.ref t), .val (.int (13 : Int32)), .val (.int (14 : Int32)), .val (.int (60 : Int32))] rfl ?_
  refine iloadN w X d22_6 7 rfl rfl ?_
  refine iloadN w X d22_7 8 rfl rfl ?_
  refine isub w X (1 : Int32) d22_8 9 rfl (by decide) ?_
  refine iconst w X (1 : Int32) d22_9 10 rfl rfl ?_
  refine icmp_ne w X d22_10 29 13 (by decide) (by decide) rfl (fun q => absurd q (by decide)) (fun hc10_2 => ?_)
  refine iloadN w X d22_13 14 rfl rfl ?_
  refine bipush w X (60 : Int32) d22_14 16 rfl rfl ?_
  refine icmp_eq w X d22_16 25 19 (by decide) (by decide) rfl (fun hc16_3 => ?_) (fun q => absurd q (by decide))
  refine iconst w X (1 : Int32) d22_25 26 rfl rfl ?_
  refine goto w X d22_26 30 (by decide) (by decide) ?_
  refine retN w X (t := .boolean) rfl (by simp) d22_30 (by decide) (by decide) ?_
  exact ⟨(1 : Int32), rfl, rfl, rfl⟩
theorem d21_0 : decode prog_47_method_15_code 0 = .ok (.aload_n 0, 1) := by decide +kernel
theorem d21_1 : decode prog_47_method_15_code 1 = .ok (.iload_n 2, 1) := by decide +kernel
theorem d21_2 : decode prog_47_method_15_code 2 = .ok (.iload_n 3, 1) := by decide +kernel
theorem d21_3 : decode prog_47_method_15_code 3 = .ok (.invokestatic 135, 3) := by decide +kernel
theorem d21_6 : decode prog_47_method_15_code 6 = .ok (.ifCond .ne 12, 3) := by decide +kernel
theorem d21_18 : decode prog_47_method_15_code 18 = .ok (.iconst 1, 1) := by decide +kernel
theorem d21_19 : decode prog_47_method_15_code 19 = .ok (.ireturn, 1) := by decide +kernel
set_option maxRecDepth 65536 in
set_option maxHeartbeats 40000000 in
theorem rm_isPageBreak_5 {l : Launch} {Z : State} {a0 : Array Value} (hw : ∀ d ∈ tables_1, d.before a0 Z = true) (t arr : Addr) (p0 p1 p2 p3 p4 p5 p6 p7 u0 u1 u2 u3 : Int32) (cs : Int32) (sio : Value) (h : Heap) (n0 : Nat) (zn : n0 ≤ h.size) (E_t : Exa Z h t "com/example/clauseline/clauseline/ContractText") (F_bytes_t : Fld Z h t "com/example/clauseline/clauseline/ContractText" "bytes" "[B" (.ref arr)) (V_arr : PA Z h arr .byte [p0, p1, p2, p3, p4, p5, p6, p7, u0, u1, u2, u3, (10 : Int32), (60 : Int32), (10 : Int32), (45 : Int32), (45 : Int32), (10 : Int32), (32 : Int32)]) (S_cs : Sta Z h "java/lang/String" "COMPACT_STRINGS" "Z" (.int cs)) (hcs : ¬ cs = 0) (S_sio : Sta Z h "jdk/internal/util/Preconditions" "SIOOBE_FORMATTER" "Ljava/util/function/BiFunction;" sio) (hsio : sio.isRef = true) :
    MetH consts_1 l Z (⟨"com/example/clauseline/clauseline/LineWrap", "isPageBreak", "(Lcom/example/clauseline/clauseline/ContractText;III)Z"⟩ : MethodName) prog_47_method_15_code 4 (some .boolean) [] ({ frames := 2, cells := 0, slots := 0, locals := 28 } : Room) #[(.ref t), (.int (13 : Int32)), (.int (13 : Int32)), (.int (14 : Int32))] h n0 (RI fun r h' => Keep h h' [] ∧ r = (1 : Int32)) := by
  refine startH (own_EW hw) (ls := #[.val (.ref t), .val (.int (13 : Int32)), .val (.int (13 : Int32)), .val (.int (14 : Int32))]) (plainFor_of_name pn20) (fun m => by first | (simp [entryFrame, mkF, argsToLocals, Value.category]; done) | rfl) ?_
  intro p e s0 m below meth c T G s k0 w X ws zk hC
  have K := Keep.refl h []
  refine aloadN w X d21_0 1 rfl rfl rfl ?_
  refine iloadN w X d21_1 2 rfl rfl ?_
  refine iloadN w X d21_2 3 rfl rfl ?_
  refine callSPI w X [(.ref t), (.int (13 : Int32)), (.int (14 : Int32))] (wd114 hw) (wd115 hw) (wd70 hw) (wd116 hw) (by decide) (rm_isMark_6 hw t arr p0 p1 p2 p3 p4 p5 p6 p7 u0 u1 u2 u3 h n0 zn E_t F_bytes_t V_arr) d21_3 6 rfl 0 (by decide) (by decide) (lenOf pd9 rfl) rfl (Nat.le_of_eq rfl) rfl (by decide) (by decide) (fun r1 T X hq => ?_)
  subst hq
  refine if_ne w X d21_6 18 9 (by decide) (by decide) rfl (fun hc6_2 => ?_) (fun q => absurd q (by decide))
  refine iconst w X (1 : Int32) d21_18 19 rfl rfl ?_
  refine retN w X (t := .boolean) rfl (by simp) d21_19 (by decide) (by decide) ?_
  refine And.intro zk (And.intro hC ?_)
  exact ⟨(1 : Int32), rfl, K, rfl⟩
theorem d14_31 : decode prog_47_method_4_code 31 = .ok (.aload_n 1, 1) := by decide +kernel
theorem d14_32 : decode prog_47_method_4_code 32 = .ok (.iload_n 2, 1) := by decide +kernel
theorem d14_33 : decode prog_47_method_4_code 33 = .ok (.iload 4, 2) := by decide +kernel
theorem d14_35 : decode prog_47_method_4_code 35 = .ok (.iload 5, 2) := by decide +kernel
theorem d14_37 : decode prog_47_method_4_code 37 = .ok (.invokestatic 36, 3) := by decide +kernel
theorem d14_40 : decode prog_47_method_4_code 40 = .ok (.ifCond .eq 10, 3) := by decide +kernel
theorem d14_43 : decode prog_47_method_4_code 43 = .ok (.aload_n 0, 1) := by decide +kernel
theorem d14_44 : decode prog_47_method_4_code 44 = .ok (.iconst 1, 1) := by decide +kernel
theorem d14_45 : decode prog_47_method_4_code 45 = .ok (.putfield 16, 3) := by decide +kernel
theorem d14_48 : decode prog_47_method_4_code 48 = .ok (.iconst 0, 1) := by decide +kernel
theorem d14_49 : decode prog_47_method_4_code 49 = .ok (.ireturn, 1) := by decide +kernel
set_option maxRecDepth 65536 in
set_option maxHeartbeats 40000000 in
theorem rm_add_13 {l : Launch} {Z : State} {a0 : Array Value} (hw : ∀ d ∈ tables_1, d.before a0 Z = true) (lw t arr : Addr) (p0 p1 p2 p3 p4 p5 p6 p7 u0 u1 u2 u3 : Int32) (cs : Int32) (sio : Value) (o bl pb cm wd : Int32) (h : Heap) (n0 : Nat) (zn : n0 ≤ h.size) (E_t : Exa Z h t "com/example/clauseline/clauseline/ContractText") (F_bytes_t : Fld Z h t "com/example/clauseline/clauseline/ContractText" "bytes" "[B" (.ref arr)) (V_arr : PA Z h arr .byte [p0, p1, p2, p3, p4, p5, p6, p7, u0, u1, u2, u3, (10 : Int32), (60 : Int32), (10 : Int32), (45 : Int32), (45 : Int32), (10 : Int32), (32 : Int32)]) (S_cs : Sta Z h "java/lang/String" "COMPACT_STRINGS" "Z" (.int cs)) (hcs : ¬ cs = 0) (S_sio : Sta Z h "jdk/internal/util/Preconditions" "SIOOBE_FORMATTER" "Ljava/util/function/BiFunction;" sio) (hsio : sio.isRef = true) (E_lw : Exa Z h lw "com/example/clauseline/clauseline/LineWrap") (F_open_lw : Fld Z h lw "com/example/clauseline/clauseline/LineWrap" "open" "Z" (.int o)) (F_blank_lw : Fld Z h lw "com/example/clauseline/clauseline/LineWrap" "blank" "Z" (.int bl)) (F_pageBreak_lw : Fld Z h lw "com/example/clauseline/clauseline/LineWrap" "pageBreak" "Z" (.int pb)) (F_comma_lw : Fld Z h lw "com/example/clauseline/clauseline/LineWrap" "comma" "Z" (.int cm)) (F_width_lw : Fld Z h lw "com/example/clauseline/clauseline/LineWrap" "width" "I" (.int wd)) (g_lw : n0 ≤ lw) (ne_t_lw : t ≠ lw) (ne_arr_lw : arr ≠ lw) :
    MetH consts_1 l Z (⟨"com/example/clauseline/clauseline/LineWrap", "add", "(Lcom/example/clauseline/clauseline/ContractText;II)Z"⟩ : MethodName) prog_47_method_4_code 6 (some .boolean) [] ({ frames := 3, cells := 0, slots := 0, locals := 43 } : Room) #[(.ref lw), (.ref t), (.int (13 : Int32)), (.int (14 : Int32))] h n0 (RI fun r h' => Keep h h' [lw] ∧ Exa Z h' lw "com/example/clauseline/clauseline/LineWrap" ∧ Fld Z h' lw "com/example/clauseline/clauseline/LineWrap" "open" "Z" (.int o) ∧ Fld Z h' lw "com/example/clauseline/clauseline/LineWrap" "blank" "Z" (.int bl) ∧ Fld Z h' lw "com/example/clauseline/clauseline/LineWrap" "pageBreak" "Z" (.int (1 : Int32)) ∧ Fld Z h' lw "com/example/clauseline/clauseline/LineWrap" "comma" "Z" (.int cm) ∧ Fld Z h' lw "com/example/clauseline/clauseline/LineWrap" "width" "I" (.int wd)) := by
  refine startH (own_EW hw) (ls := #[.val (.ref lw), .val (.ref t), .val (.int (13 : Int32)), .val (.int (14 : Int32)), .unset, .unset]) (plainFor_of_name pn20) (fun m => by first | (simp [entryFrame, mkF, argsToLocals, Value.category]; done) | rfl) ?_
  intro p e s0 m below meth c T G s k0 w X ws zk hC
  have K := Keep.refl h [lw]
  refine aloadN w X d14_0 1 rfl rfl rfl ?_
  refine iloadN w X d14_1 2 rfl rfl ?_
  refine iloadN w X d14_2 3 rfl rfl ?_
  refine callVPI w X [(.int (13 : Int32)), (.int (14 : Int32))] (wd83 hw) (wd84 hw) (notFace_of_selects (args := #[]) (mvT w.2.2.2.2.1 (wd86 hw))) (wd86 hw) (wd85 hw) (wd41 hw) (wd87 hw) (by decide) E_t (rm_skipSpaces_3 hw t arr p0 p1 p2 p3 p4 p5 p6 p7 u0 u1 u2 u3 h n0 zn E_t F_bytes_t V_arr) d14_3 6 rfl 0 (by decide) (by decide) (lenOf pd6 rfl) rfl (Nat.le_of_eq rfl) rfl (by decide) (by decide) (fun r1 T X hq => ?_)
  subst hq
  refine istore w X (13 : Int32) d14_6 8 rfl rfl #[.val (.ref lw), .val (.ref t), .val (.int (13 : Int32)), .val (.int (14 : Int32)), .val (.int (13 : Int32)), .unset] rfl ?_
  refine aloadN w X d14_8 9 rfl rfl rfl ?_
  refine iload w X d14_9 11 rfl rfl ?_
  refine iloadN w X d14_11 12 rfl rfl ?_
  refine callSPI w X [(.ref t), (.int (13 : Int32)), (.int (14 : Int32))] (wd91 hw) (wd92 hw) (wd70 hw) (wd93 hw) (by decide) (rm_textEnd_4 hw t arr p0 p1 p2 p3 p4 p5 p6 p7 u0 u1 u2 u3 h n0 zn E_t F_bytes_t V_arr) d14_12 15 rfl 0 (by decide) (by decide) (lenOf pd7 rfl) rfl (Nat.le_of_eq rfl) rfl (by decide) (by decide) (fun r2 T X hq => ?_)
  subst hq
  refine istore w X (14 : Int32) d14_15 17 rfl rfl #[.val (.ref lw), .val (.ref t), .val (.int (13 : Int32)), .val (.int (14 : Int32)), .val (.int (13 : Int32)), .val (.int (14 : Int32))] rfl ?_
  refine iload w X d14_17 19 rfl rfl ?_
  refine iload w X d14_19 21 rfl rfl ?_
  refine icmp_ne w X d14_21 31 24 (by decide) (by decide) rfl (fun hc21_3 => ?_) (fun q => absurd q (by decide))
  refine aloadN w X d14_31 32 rfl rfl rfl ?_
  refine iloadN w X d14_32 33 rfl rfl ?_
  refine iload w X d14_33 35 rfl rfl ?_
  refine iload w X d14_35 37 rfl rfl ?_
  refine callSH w X ws zk hC (own_EW hw) [(.ref t), (.int (13 : Int32)), (.int (13 : Int32)), (.int (14 : Int32))] (wd111 hw) (wd112 hw) (wd70 hw) (wd113 hw) (by decide) (rm_isPageBreak_5 hw t arr p0 p1 p2 p3 p4 p5 p6 p7 u0 u1 u2 u3 cs sio h n0 zn E_t F_bytes_t V_arr S_cs hcs S_sio hsio) d14_37 40 rfl 0 (by decide) (by decide) (lenOf pd10 rfl) rfl (Nat.le_of_eq rfl) rfl (by decide) (by decide) (fun s k0 v T h5 w X ws zk hC hq => ?_)
  obtain ⟨r4, rfl, hq⟩ := hq
  obtain ⟨Kq, rfl⟩ := hq
  have S_cs := Sta.keepN S_cs Kq all0
  have S_sio := Sta.keepN S_sio Kq all0
  have zn : n0 ≤ h5.size := Nat.le_trans zn Kq.1
  have E_t := E_t.keep Kq
  have F_bytes_t := F_bytes_t.keep Kq nin0
  have V_arr := V_arr.keep Kq nin0
  have E_lw := E_lw.keep Kq
  have F_open_lw := F_open_lw.keep Kq nin0
  have F_blank_lw := F_blank_lw.keep Kq nin0
  have F_pageBreak_lw := F_pageBreak_lw.keep Kq nin0
  have F_comma_lw := F_comma_lw.keep Kq nin0
  have F_width_lw := F_width_lw.keep Kq nin0
  have K := K.trans Kq all0
  show G (T.setTop (mkF m 40 #[.val (.ref lw), .val (.ref t), .val (.int (13 : Int32)), .val (.int (14 : Int32)), .val (.int (13 : Int32)), .val (.int (14 : Int32))] [(.int (1 : Int32))]))
  refine if_eq w X d14_40 50 43 (by decide) (by decide) rfl (fun q => absurd q (by decide)) (fun hc40_6 => ?_)
  refine aloadN w X d14_43 44 rfl rfl rfl ?_
  refine iconst w X (1 : Int32) d14_44 45 rfl rfl ?_
  refine putfieldN w X (wd117 hw) Via.refl F_pageBreak_lw E_lw (Or.inl (wd118 hw)) (wd69 hw) (ty := .boolean) (v' := (.int (1 : Int32))) (by decide) rfl (by decide) g_lw d14_45 48 rfl (fun T h7 X W => ?_)
  have hsafe := (Safe.exa (EL := consts_1) w.2.2.2.2.1.alike E_lw (by decide) (by decide))
  have hC := hC.trans (CHr.wr W hsafe hC.1)
  have zn : n0 ≤ h7.size := W.size ▸ zn
  have E_t := E_t.wr W
  have F_bytes_t := F_bytes_t.other W (Or.inl ne_t_lw)
  have V_arr := V_arr.other W ne_arr_lw
  have S_cs := S_cs.wr W
  have S_sio := S_sio.wr W
  have E_lw := E_lw.wr W
  have F_open_lw := F_open_lw.other W (Or.inr (slot_ne (Or.inl (wd102 hw)) (Or.inl (wd118 hw)) (by decide) (t := .boolean) (t' := .boolean) (by decide) (by decide)))
  have F_blank_lw := F_blank_lw.other W (Or.inr (slot_ne (Or.inl (wd95 hw)) (Or.inl (wd118 hw)) (by decide) (t := .boolean) (t' := .boolean) (by decide) (by decide)))
  have F_pageBreak_lw := F_pageBreak_lw.same W
  have F_comma_lw := F_comma_lw.other W (Or.inr (slot_ne (Or.inl (wd166 hw)) (Or.inl (wd118 hw)) (by decide) (t := .boolean) (t' := .boolean) (by decide) (by decide)))
  have F_width_lw := F_width_lw.other W (Or.inr (slot_ne (Or.inl (wd179 hw)) (Or.inl (wd118 hw)) (by decide) (t := .int) (t' := .boolean) (by decide) (by decide)))
  have K := K.wr W (Or.inl (List.mem_of_getElem? (i := 0) rfl))
  have zk : k0 ≤ h7.size := W.size ▸ zk
  refine iconst w X (0 : Int32) d14_48 49 rfl rfl ?_
  refine retN w X (t := .boolean) rfl (by simp) d14_49 (by decide) (by decide) ?_
  refine And.intro zk (And.intro hC ?_)
  exact ⟨(0 : Int32), rfl, K, E_lw, F_open_lw, F_blank_lw, F_pageBreak_lw, F_comma_lw, F_width_lw⟩
set_option maxRecDepth 65536 in
set_option maxHeartbeats 40000000 in
theorem rm_skipSpaces_7 {l : Launch} {Z : State} {a0 : Array Value} (hw : ∀ d ∈ tables_1, d.before a0 Z = true) (t arr : Addr) (p0 p1 p2 p3 p4 p5 p6 p7 u0 u1 u2 u3 : Int32) (h : Heap) (n0 : Nat) (zn : n0 ≤ h.size) (E_t : Exa Z h t "com/example/clauseline/clauseline/ContractText") (F_bytes_t : Fld Z h t "com/example/clauseline/clauseline/ContractText" "bytes" "[B" (.ref arr)) (V_arr : PA Z h arr .byte [p0, p1, p2, p3, p4, p5, p6, p7, u0, u1, u2, u3, (10 : Int32), (60 : Int32), (10 : Int32), (45 : Int32), (45 : Int32), (10 : Int32), (32 : Int32)]) :
    Met l Z (⟨"com/example/clauseline/clauseline/ContractText", "skipSpaces", "(II)I"⟩ : MethodName) prog_22_method_20_code 4 (some .int) [] ({ frames := 1, cells := 0, slots := 0, locals := 12 } : Room) #[(.ref t), (.int (15 : Int32)), (.int (17 : Int32))] h n0 (RI fun r h' => h' = h ∧ r = (15 : Int32)) := by
  refine start (ls := #[.val (.ref t), .val (.int (15 : Int32)), .val (.int (17 : Int32)), .unset]) (plainFor_of_name pn16) (fun m => by first | (simp [entryFrame, mkF, argsToLocals, Value.category]; done) | rfl) ?_
  intro p e s m below meth c T G w X
  refine iloadN w X d15_0 1 rfl rfl ?_
  refine istoreN w X (15 : Int32) d15_1 2 rfl rfl #[.val (.ref t), .val (.int (15 : Int32)), .val (.int (17 : Int32)), .val (.int (15 : Int32))] rfl ?_
  refine iloadN w X d15_2 3 rfl rfl ?_
  refine iloadN w X d15_3 4 rfl rfl ?_
  refine icmp_ge w X d15_4 25 7 (by decide) (by decide) rfl (fun q => absurd q (by decide)) (fun hc4_1 => ?_)
  refine aloadN w X d15_7 8 rfl rfl rfl ?_
  refine getfield w X (wd66 hw) Via.refl F_bytes_t d15_8 11 rfl (fun T X => ?_)
  refine iloadN w X d15_11 12 rfl rfl ?_
  refine baload w X V_arr (by decide) 15 rfl (Nat.le_of_ble_eq_true rfl) d15_12 13 rfl (45 : Int32) rfl ?_
  refine callSPI w X [(.int (45 : Int32))] (wd88 hw) (wd89 hw) (wd41 hw) (wd90 hw) (by decide) (rm_own_sp1 hw (45 : Int32) h n0 zn) d15_13 16 rfl 0 (by decide) (by decide) (lenOf pd5 rfl) rfl (Nat.le_of_eq rfl) rfl (by decide) (by decide) (fun r2 T X hq => ?_)
  obtain rfl : r2 = (0 : Int32) := hq.trans (by decide)
  refine if_eq w X d15_16 25 19 (by decide) (by decide) rfl (fun hc16_3 => ?_) (fun q => absurd q (by decide))
  refine iloadN w X d15_25 26 rfl rfl ?_
  refine retI w X rfl d15_26 (by decide) (by decide) ?_
  exact ⟨(15 : Int32), rfl, rfl, rfl⟩
set_option maxRecDepth 65536 in
set_option maxHeartbeats 40000000 in
theorem rm_textEnd_8 {l : Launch} {Z : State} {a0 : Array Value} (hw : ∀ d ∈ tables_1, d.before a0 Z = true) (t arr : Addr) (p0 p1 p2 p3 p4 p5 p6 p7 u0 u1 u2 u3 : Int32) (h : Heap) (n0 : Nat) (zn : n0 ≤ h.size) (E_t : Exa Z h t "com/example/clauseline/clauseline/ContractText") (F_bytes_t : Fld Z h t "com/example/clauseline/clauseline/ContractText" "bytes" "[B" (.ref arr)) (V_arr : PA Z h arr .byte [p0, p1, p2, p3, p4, p5, p6, p7, u0, u1, u2, u3, (10 : Int32), (60 : Int32), (10 : Int32), (45 : Int32), (45 : Int32), (10 : Int32), (32 : Int32)]) :
    Met l Z (⟨"com/example/clauseline/clauseline/LineWrap", "textEnd", "(Lcom/example/clauseline/clauseline/ContractText;II)I"⟩ : MethodName) prog_47_method_14_code 4 (some .int) [] ({ frames := 1, cells := 0, slots := 0, locals := 13 } : Room) #[(.ref t), (.int (15 : Int32)), (.int (17 : Int32))] h n0 (RI fun r h' => h' = h ∧ r = (17 : Int32)) := by
  refine start (ls := #[.val (.ref t), .val (.int (15 : Int32)), .val (.int (17 : Int32)), .unset]) (plainFor_of_name pn20) (fun m => by first | (simp [entryFrame, mkF, argsToLocals, Value.category]; done) | rfl) ?_
  intro p e s m below meth c T G w X
  refine iloadN w X d17_0 1 rfl rfl ?_
  refine istoreN w X (17 : Int32) d17_1 2 rfl rfl #[.val (.ref t), .val (.int (15 : Int32)), .val (.int (17 : Int32)), .val (.int (17 : Int32))] rfl ?_
  refine iloadN w X d17_2 3 rfl rfl ?_
  refine iloadN w X d17_3 4 rfl rfl ?_
  refine icmp_le w X d17_4 26 7 (by decide) (by decide) rfl (fun q => absurd q (by decide)) (fun hc4_1 => ?_)
  refine aloadN w X d17_7 8 rfl rfl rfl ?_
  refine iloadN w X d17_8 9 rfl rfl ?_
  refine iconst w X (1 : Int32) d17_9 10 rfl rfl ?_
  refine isub w X (16 : Int32) d17_10 11 rfl (by decide) ?_
  refine callVPI w X [(.int (16 : Int32))] (wd103 hw) (wd104 hw) (notFace_of_selects (args := #[]) (mvT w.2.2.2.2.1 (wd106 hw))) (wd106 hw) (wd105 hw) (wd41 hw) (wd107 hw) (by decide) E_t (rm_baG hw t arr [p0, p1, p2, p3, p4, p5, p6, p7, u0, u1, u2, u3, (10 : Int32), (60 : Int32), (10 : Int32), (45 : Int32), (45 : Int32), (10 : Int32), (32 : Int32)] 16 h n0 zn E_t F_bytes_t V_arr (Nat.le_of_ble_eq_true rfl) (Nat.le_of_ble_eq_true rfl)) d17_11 14 rfl 0 (by decide) (by decide) (lenOf pd8 rfl) rfl (Nat.le_of_eq rfl) rfl (by decide) (by decide) (fun r2 T X hq => ?_)
  obtain rfl : r2 = (45 : Int32) := hq
  refine callSPI w X [(.int (45 : Int32))] (wd108 hw) (wd109 hw) (wd70 hw) (wd110 hw) (by decide) (rm_own_sp2 hw (45 : Int32) h n0 zn) d17_14 17 rfl 0 (by decide) (by decide) (lenOf pd5 rfl) rfl (Nat.le_of_eq rfl) rfl (by decide) (by decide) (fun r3 T X hq => ?_)
  obtain rfl : r3 = (0 : Int32) := hq.trans (by decide)
  refine if_eq w X d17_17 26 20 (by decide) (by decide) rfl (fun hc17_4 => ?_) (fun q => absurd q (by decide))
  refine iloadN w X d17_26 27 rfl rfl ?_
  refine retI w X rfl d17_27 (by decide) (by decide) ?_
  exact ⟨(17 : Int32), rfl, rfl, rfl⟩
theorem d22_29 : decode prog_47_method_18_code 29 = .ok (.iconst 0, 1) := by decide +kernel
set_option maxRecDepth 65536 in
set_option maxHeartbeats 40000000 in
theorem rm_isMark_10 {l : Launch} {Z : State} {a0 : Array Value} (hw : ∀ d ∈ tables_1, d.before a0 Z = true) (t arr : Addr) (p0 p1 p2 p3 p4 p5 p6 p7 u0 u1 u2 u3 : Int32) (h : Heap) (n0 : Nat) (zn : n0 ≤ h.size) (E_t : Exa Z h t "com/example/clauseline/clauseline/ContractText") (F_bytes_t : Fld Z h t "com/example/clauseline/clauseline/ContractText" "bytes" "[B" (.ref arr)) (V_arr : PA Z h arr .byte [p0, p1, p2, p3, p4, p5, p6, p7, u0, u1, u2, u3, (10 : Int32), (60 : Int32), (10 : Int32), (45 : Int32), (45 : Int32), (10 : Int32), (32 : Int32)]) :
    Met l Z (⟨"com/example/clauseline/clauseline/LineWrap", "isMark", "(Lcom/example/clauseline/clauseline/ContractText;II)Z"⟩ : MethodName) prog_47_method_18_code 4 (some .boolean) [] ({ frames := 1, cells := 0, slots := 0, locals := 13 } : Room) #[(.ref t), (.int (15 : Int32)), (.int (17 : Int32))] h n0 (RI fun r h' => h' = h ∧ r = (0 : Int32)) := by
  refine start (ls := #[.val (.ref t), .val (.int (15 : Int32)), .val (.int (17 : Int32)), .unset]) (plainFor_of_name pn20) (fun m => by first | (simp [entryFrame, mkF, argsToLocals, Value.category]; done) | rfl) ?_
  intro p e s m below meth c T G w X
  refine aloadN w X d22_0 1 rfl rfl rfl ?_
  refine iloadN w X d22_1 2 rfl rfl ?_
  refine callVPI w X [(.int (15 : Int32))] (wd103 hw) (wd104 hw) (notFace_of_selects (args := #[]) (mvT w.2.2.2.2.1 (wd106 hw))) (wd106 hw) (wd105 hw) (wd41 hw) (wd107 hw) (by decide) E_t (rm_baG hw t arr [p0, p1, p2, p3, p4, p5, p6, p7, u0, u1, u2, u3, (10 : Int32), (60 : Int32), (10 : Int32), (45 : Int32), (45 : Int32), (10 : Int32), (32 : Int32)] 15 h n0 zn E_t F_bytes_t V_arr (Nat.le_of_ble_eq_true rfl) (Nat.le_of_ble_eq_true rfl)) d22_2 5 rfl 0 (by decide) (by decide) (lenOf pd8 rfl) rfl (Nat.le_of_eq rfl) rfl (by decide) (by decide) (fun r1 T X hq => ?_)
  obtain rfl : r1 = (45 : Int32) := hq
  refine istoreN w X (45 : Int32) d22_5 6 rfl rfl #[.val (.ref t), .val (.int (15 : Int32)), .val (.int (17 : Int32)), .val (.int (45 : Int32))] rfl ?_
  refine iloadN w X d22_6 7 rfl rfl ?_
  refine iloadN w X d22_7 8 rfl rfl ?_
  refine isub w X (2 : Int32) d22_8 9 rfl (by decide) ?_
  refine iconst w X (1 : Int32) d22_9 10 rfl rfl ?_
  refine icmp_ne w X d22_10 29 13 (by decide) (by decide) rfl (fun hc10_2 => ?_) (fun q => absurd q (by decide))
  refine iconst w X (0 : Int32) d22_29 30 rfl rfl ?_
  refine retN w X (t := .boolean) rfl (by simp) d22_30 (by decide) (by decide) ?_
  exact ⟨(0 : Int32), rfl, rfl, rfl⟩
theorem d24_0 : decode prog_22_method_22_code 0 = .ok (.iload_n 1, 1) := by decide +kernel
theorem d24_1 : decode prog_22_method_22_code 1 = .ok (.istore_n 3, 1) := by decide +kernel
theorem d24_2 : decode prog_22_method_22_code 2 = .ok (.iload_n 3, 1) := by decide +kernel
theorem d24_3 : decode prog_22_method_22_code 3 = .ok (.iload_n 2, 1) := by decide +kernel
theorem d24_4 : decode prog_22_method_22_code 4 = .ok (.if_icmp .ge 21, 3) := by decide +kernel
theorem d24_7 : decode prog_22_method_22_code 7 = .ok (.aload_n 0, 1) := by decide +kernel
theorem d24_8 : decode prog_22_method_22_code 8 = .ok (.getfield 9, 3) := by decide +kernel
theorem d24_11 : decode prog_22_method_22_code 11 = .ok (.iload_n 3, 1) := by decide +kernel
theorem d24_12 : decode prog_22_method_22_code 12 = .ok (.baload, 1) := by decide +kernel
theorem d24_13 : decode prog_22_method_22_code 13 = .ok (.invokestatic 158, 3) := by decide +kernel
theorem d24_16 : decode prog_22_method_22_code 16 = .ok (.ifCond .eq 9, 3) := by decide +kernel
theorem d24_25 : decode prog_22_method_22_code 25 = .ok (.iload_n 3, 1) := by decide +kernel
theorem d24_26 : decode prog_22_method_22_code 26 = .ok (.ireturn, 1) := by decide +kernel
set_option maxRecDepth 65536 in
set_option maxHeartbeats 40000000 in
theorem rm_digitsEnd_12 {l : Launch} {Z : State} {a0 : Array Value} (hw : ∀ d ∈ tables_1, d.before a0 Z = true) (t arr : Addr) (p0 p1 p2 p3 p4 p5 p6 p7 u0 u1 u2 u3 : Int32) (h : Heap) (n0 : Nat) (zn : n0 ≤ h.size) (E_t : Exa Z h t "com/example/clauseline/clauseline/ContractText") (F_bytes_t : Fld Z h t "com/example/clauseline/clauseline/ContractText" "bytes" "[B" (.ref arr)) (V_arr : PA Z h arr .byte [p0, p1, p2, p3, p4, p5, p6, p7, u0, u1, u2, u3, (10 : Int32), (60 : Int32), (10 : Int32), (45 : Int32), (45 : Int32), (10 : Int32), (32 : Int32)]) :
    Met l Z (⟨"com/example/clauseline/clauseline/ContractText", "digitsEnd", "(II)I"⟩ : MethodName) prog_22_method_22_code 4 (some .int) [] ({ frames := 1, cells := 0, slots := 0, locals := 12 } : Room) #[(.ref t), (.int (15 : Int32)), (.int (17 : Int32))] h n0 (RI fun r h' => h' = h ∧ r = (15 : Int32)) := by
  refine start (ls := #[.val (.ref t), .val (.int (15 : Int32)), .val (.int (17 : Int32)), .unset]) (plainFor_of_name pn16) (fun m => by first | (simp [entryFrame, mkF, argsToLocals, Value.category]; done) | rfl) ?_
  intro p e s m below meth c T G w X
  refine iloadN w X d24_0 1 rfl rfl ?_
  refine istoreN w X (15 : Int32) d24_1 2 rfl rfl #[.val (.ref t), .val (.int (15 : Int32)), .val (.int (17 : Int32)), .val (.int (15 : Int32))] rfl ?_
  refine iloadN w X d24_2 3 rfl rfl ?_
  refine iloadN w X d24_3 4 rfl rfl ?_
  refine icmp_ge w X d24_4 25 7 (by decide) (by decide) rfl (fun q => absurd q (by decide)) (fun hc4_1 => ?_)
  refine aloadN w X d24_7 8 rfl rfl rfl ?_
  refine getfield w X (wd66 hw) Via.refl F_bytes_t d24_8 11 rfl (fun T X => ?_)
  refine iloadN w X d24_11 12 rfl rfl ?_
  refine baload w X V_arr (by decide) 15 rfl (Nat.le_of_ble_eq_true rfl) d24_12 13 rfl (45 : Int32) rfl ?_
  refine callSPI w X [(.int (45 : Int32))] (wd128 hw) (wd129 hw) (wd41 hw) (wd130 hw) (by decide) (rm_own_dg hw (45 : Int32) h n0 zn) d24_13 16 rfl 0 (by decide) (by decide) (lenOf pd5 rfl) rfl (Nat.le_of_eq rfl) rfl (by decide) (by decide) (fun r2 T X hq => ?_)
  obtain rfl : r2 = (0 : Int32) := hq.trans (by decide)
  refine if_eq w X d24_16 25 19 (by decide) (by decide) rfl (fun hc16_3 => ?_) (fun q => absurd q (by decide))
  refine iloadN w X d24_25 26 rfl rfl ?_
  refine retI w X rfl d24_26 (by decide) (by decide) ?_
  exact ⟨(15 : Int32), rfl, rfl, rfl⟩
theorem d26_0 : decode prog_22_method_34_code 0 = .ok (.iload_n 2, 1) := by decide +kernel
theorem d26_1 : decode prog_22_method_34_code 1 = .ok (.iload_n 1, 1) := by decide +kernel
theorem d26_2 : decode prog_22_method_34_code 2 = .ok (.isub, 1) := by decide +kernel
theorem d26_3 : decode prog_22_method_34_code 3 = .ok (.aload_n 3, 1) := by decide +kernel
theorem d26_4 : decode prog_22_method_34_code 4 = .ok (.invokevirtual 167, 3) := by decide +kernel
theorem d26_7 : decode prog_22_method_34_code 7 = .ok (.if_icmp .ge 5, 3) := by decide +kernel
theorem d26_10 : decode prog_22_method_34_code 10 = .ok (.iconst 0, 1) := by decide +kernel
theorem d26_11 : decode prog_22_method_34_code 11 = .ok (.ireturn, 1) := by decide +kernel
set_option maxRecDepth 65536 in
set_option maxHeartbeats 40000000 in
theorem rm_startsWith_13 {l : Launch} {Z : State} {a0 : Array Value} (hw : ∀ d ∈ tables_1, d.before a0 Z = true) (t arr : Addr) (p0 p1 p2 p3 p4 p5 p6 p7 u0 u1 u2 u3 : Int32) (cs : Int32) (sio : Value) (qs qv : Addr) (h : Heap) (n0 : Nat) (zn : n0 ≤ h.size) (E_t : Exa Z h t "com/example/clauseline/clauseline/ContractText") (F_bytes_t : Fld Z h t "com/example/clauseline/clauseline/ContractText" "bytes" "[B" (.ref arr)) (V_arr : PA Z h arr .byte [p0, p1, p2, p3, p4, p5, p6, p7, u0, u1, u2, u3, (10 : Int32), (60 : Int32), (10 : Int32), (45 : Int32), (45 : Int32), (10 : Int32), (32 : Int32)]) (S_cs : Sta Z h "java/lang/String" "COMPACT_STRINGS" "Z" (.int cs)) (hcs : ¬ cs = 0) (S_sio : Sta Z h "jdk/internal/util/Preconditions" "SIOOBE_FORMATTER" "Ljava/util/function/BiFunction;" sio) (hsio : sio.isRef = true) (E_qs : Exa Z h qs "java/lang/String") (F_value_qs : Fld Z h qs "java/lang/String" "value" "[B" (.ref qv)) (V_qv : PA Z h qv .byte [(73 : Int32), (83 : Int32), (68 : Int32), (65 : Int32)]) (F_coder_qs : Fld Z h qs "java/lang/String" "coder" "B" (.int (0 : Int32))) :
    Met l Z (⟨"com/example/clauseline/clauseline/ContractText", "startsWith", "(IILjava/lang/String;)Z"⟩ : MethodName) prog_22_method_34_code 5 (some .boolean) [] ({ frames := 2, cells := 0, slots := 0, locals := 26 } : Room) #[(.ref t), (.int (15 : Int32)), (.int (17 : Int32)), (.ref qs)] h n0 (RI fun r h' => h' = h ∧ r = (0 : Int32)) := by
  refine start (ls := #[.val (.ref t), .val (.int (15 : Int32)), .val (.int (17 : Int32)), .val (.ref qs), .unset]) (plainFor_of_name pn16) (fun m => by first | (simp [entryFrame, mkF, argsToLocals, Value.category]; done) | rfl) ?_
  intro p e s m below meth c T G w X
  refine iloadN w X d26_0 1 rfl rfl ?_
  refine iloadN w X d26_1 2 rfl rfl ?_
  refine isub w X (2 : Int32) d26_2 3 rfl (by decide) ?_
  refine aloadN w X d26_3 4 rfl rfl rfl ?_
  refine callVPI w X [] (wd137 hw) (wd138 hw) (notFace_of_selects (args := #[]) (mvT w.2.2.2.2.1 (wd140 hw))) (wd140 hw) (wd139 hw) (wd3 hw) (wd141 hw) (by decide) E_qs (rm_length hw qs qv [(73 : Int32), (83 : Int32), (68 : Int32), (65 : Int32)] cs h n0 zn S_cs hcs E_qs F_value_qs V_qv F_coder_qs) d26_4 7 rfl 1 (by decide) (by decide) (lenOf pd11 rfl) rfl (Nat.le_of_eq rfl) rfl (by decide) (by decide) (fun r1 T X hq => ?_)
  obtain rfl : r1 = (4 : Int32) := hq.trans (by decide)
  refine icmp_ge w X d26_7 12 10 (by decide) (by decide) rfl (fun q => absurd q (by decide)) (fun hc7_2 => ?_)
  refine iconst w X (0 : Int32) d26_10 11 rfl rfl ?_
  refine retN w X (t := .boolean) rfl (by simp) d26_11 (by decide) (by decide) ?_
  exact ⟨(0 : Int32), rfl, rfl, rfl⟩
theorem d23_0 : decode prog_47_method_16_code 0 = .ok (.aload_n 0, 1) := by decide +kernel
theorem d23_1 : decode prog_47_method_16_code 1 = .ok (.iload_n 1, 1) := by decide +kernel
theorem d23_2 : decode prog_47_method_16_code 2 = .ok (.iload_n 2, 1) := by decide +kernel
theorem d23_3 : decode prog_47_method_16_code 3 = .ok (.invokevirtual 141, 3) := by decide +kernel
theorem d23_6 : decode prog_47_method_16_code 6 = .ok (.istore_n 3, 1) := by decide +kernel
theorem d23_7 : decode prog_47_method_16_code 7 = .ok (.aload_n 0, 1) := by decide +kernel
theorem d23_8 : decode prog_47_method_16_code 8 = .ok (.iload_n 3, 1) := by decide +kernel
theorem d23_9 : decode prog_47_method_16_code 9 = .ok (.iload_n 2, 1) := by decide +kernel
theorem d23_10 : decode prog_47_method_16_code 10 = .ok (.invokevirtual 26, 3) := by decide +kernel
theorem d23_13 : decode prog_47_method_16_code 13 = .ok (.istore 4, 2) := by decide +kernel
theorem d23_15 : decode prog_47_method_16_code 15 = .ok (.aload_n 0, 1) := by decide +kernel
theorem d23_16 : decode prog_47_method_16_code 16 = .ok (.iload 4, 2) := by decide +kernel
theorem d23_18 : decode prog_47_method_16_code 18 = .ok (.iload_n 2, 1) := by decide +kernel
theorem d23_19 : decode prog_47_method_16_code 19 = .ok (.ldc 147, 2) := by decide +kernel
theorem d23_21 : decode prog_47_method_16_code 21 = .ok (.invokevirtual 149, 3) := by decide +kernel
theorem d23_24 : decode prog_47_method_16_code 24 = .ok (.ifCond .ne 5, 3) := by decide +kernel
theorem d23_27 : decode prog_47_method_16_code 27 = .ok (.iconst 0, 1) := by decide +kernel
theorem d23_28 : decode prog_47_method_16_code 28 = .ok (.ireturn, 1) := by decide +kernel
set_option maxRecDepth 65536 in
set_option maxHeartbeats 40000000 in
theorem rm_isFooter_11 {l : Launch} {Z : State} {a0 : Array Value} (hw : ∀ d ∈ tables_1, d.before a0 Z = true) (t arr : Addr) (p0 p1 p2 p3 p4 p5 p6 p7 u0 u1 u2 u3 : Int32) (cs : Int32) (sio : Value) (h : Heap) (n0 : Nat) (zn : n0 ≤ h.size) (E_t : Exa Z h t "com/example/clauseline/clauseline/ContractText") (F_bytes_t : Fld Z h t "com/example/clauseline/clauseline/ContractText" "bytes" "[B" (.ref arr)) (V_arr : PA Z h arr .byte [p0, p1, p2, p3, p4, p5, p6, p7, u0, u1, u2, u3, (10 : Int32), (60 : Int32), (10 : Int32), (45 : Int32), (45 : Int32), (10 : Int32), (32 : Int32)]) (S_cs : Sta Z h "java/lang/String" "COMPACT_STRINGS" "Z" (.int cs)) (hcs : ¬ cs = 0) (S_sio : Sta Z h "jdk/internal/util/Preconditions" "SIOOBE_FORMATTER" "Ljava/util/function/BiFunction;" sio) (hsio : sio.isRef = true) :
    MetH consts_1 l Z (⟨"com/example/clauseline/clauseline/LineWrap", "isFooter", "(Lcom/example/clauseline/clauseline/ContractText;II)Z"⟩ : MethodName) prog_47_method_16_code 7 (some .boolean) [] ({ frames := 3, cells := 2, slots := 20, locals := 42 } : Room) #[(.ref t), (.int (15 : Int32)), (.int (17 : Int32))] h n0 (RI fun r h' => Keep h h' [] ∧ r = (0 : Int32)) := by
  refine startH (own_EW hw) (ls := #[.val (.ref t), .val (.int (15 : Int32)), .val (.int (17 : Int32)), .unset, .unset, .unset, .unset]) (plainFor_of_name pn20) (fun m => by first | (simp [entryFrame, mkF, argsToLocals, Value.category]; done) | rfl) ?_
  intro p e s0 m below meth c T G s k0 w X ws zk hC
  have K := Keep.refl h []
  refine aloadN w X d23_0 1 rfl rfl rfl ?_
  refine iloadN w X d23_1 2 rfl rfl ?_
  refine iloadN w X d23_2 3 rfl rfl ?_
  refine callVPI w X [(.int (15 : Int32)), (.int (17 : Int32))] (wd123 hw) (wd124 hw) (notFace_of_selects (args := #[]) (mvT w.2.2.2.2.1 (wd126 hw))) (wd126 hw) (wd125 hw) (wd41 hw) (wd127 hw) (by decide) E_t (rm_digitsEnd_12 hw t arr p0 p1 p2 p3 p4 p5 p6 p7 u0 u1 u2 u3 h n0 zn E_t F_bytes_t V_arr) d23_3 6 rfl 0 (by decide) (by decide) (lenOf pd6 rfl) rfl (Nat.le_of_eq rfl) rfl (by decide) (by decide) (fun r1 T X hq => ?_)
  subst hq
  refine istoreN w X (15 : Int32) d23_6 7 rfl rfl #[.val (.ref t), .val (.int (15 : Int32)), .val (.int (17 : Int32)), .val (.int (15 : Int32)), .unset, .unset, .unset] rfl ?_
  refine aloadN w X d23_7 8 rfl rfl rfl ?_
  refine iloadN w X d23_8 9 rfl rfl ?_
  refine iloadN w X d23_9 10 rfl rfl ?_
  refine callVPI w X [(.int (15 : Int32)), (.int (17 : Int32))] (wd83 hw) (wd84 hw) (notFace_of_selects (args := #[]) (mvT w.2.2.2.2.1 (wd86 hw))) (wd86 hw) (wd85 hw) (wd41 hw) (wd87 hw) (by decide) E_t (rm_skipSpaces_7 hw t arr p0 p1 p2 p3 p4 p5 p6 p7 u0 u1 u2 u3 h n0 zn E_t F_bytes_t V_arr) d23_10 13 rfl 0 (by decide) (by decide) (lenOf pd6 rfl) rfl (Nat.le_of_eq rfl) rfl (by decide) (by decide) (fun r2 T X hq => ?_)
  subst hq
  refine istore w X (15 : Int32) d23_13 15 rfl rfl #[.val (.ref t), .val (.int (15 : Int32)), .val (.int (17 : Int32)), .val (.int (15 : Int32)), .val (.int (15 : Int32)), .unset, .unset] rfl ?_
  refine aloadN w X d23_15 16 rfl rfl rfl ?_
  refine iload w X d23_16 18 rfl rfl ?_
  refine iloadN w X d23_18 19 rfl rfl ?_
  refine ldcHt w X ws zk hC (own_EW hw) (by decide) (wd131 hw) (own_wS hw) [(73 : Int32), (83 : Int32), (68 : Int32), (65 : Int32)] ⟨by decide, by decide⟩ (4 : Int32) (by decide) (by decide) d23_19 21 rfl 16 (by decide) (by decide) (by decide) (by decide) (fun s k0 T h3 sa4 sv5 w X ws zk hC E E_sa4 F_coder_sa4 F_value_sa4 V_sv5 hss => ?_)
  have zn : n0 ≤ h3.size := Nat.le_trans zn E.1
  have E_t := E_t.ext E
  have F_bytes_t := F_bytes_t.ext E
  have V_arr := V_arr.ext E
  have S_cs := S_cs.ext E
  have S_sio := S_sio.ext E
  have K := K.ext E
  refine callVPI w X [(.int (15 : Int32)), (.int (17 : Int32)), (.ref sa4)] (wd132 hw) (wd133 hw) (notFace_of_selects (args := #[]) (mvT w.2.2.2.2.1 (wd135 hw))) (wd135 hw) (wd134 hw) (wd41 hw) (wd136 hw) (by decide) E_t (rm_startsWith_13 hw t arr p0 p1 p2 p3 p4 p5 p6 p7 u0 u1 u2 u3 cs sio sa4 sv5 h3 n0 zn E_t F_bytes_t V_arr S_cs hcs S_sio hsio E_sa4 F_value_sa4 V_sv5 F_coder_sa4) d23_21 24 rfl 0 (by decide) (by decide) (lenOf pd12 rfl) rfl (Nat.le_of_eq rfl) rfl (by decide) (by decide) (fun r6 T X hq => ?_)
  subst hq
  refine if_ne w X d23_24 29 27 (by decide) (by decide) rfl (fun q => absurd q (by decide)) (fun hc24_7 => ?_)
  refine iconst w X (0 : Int32) d23_27 28 rfl rfl ?_
  refine retN w X (t := .boolean) rfl (by simp) d23_28 (by decide) (by decide) ?_
  refine And.intro zk (And.intro hC ?_)
  exact ⟨(0 : Int32), rfl, K, rfl⟩
theorem d21_9 : decode prog_47_method_15_code 9 = .ok (.aload_n 0, 1) := by decide +kernel
theorem d21_10 : decode prog_47_method_15_code 10 = .ok (.iload_n 2, 1) := by decide +kernel
theorem d21_11 : decode prog_47_method_15_code 11 = .ok (.iload_n 3, 1) := by decide +kernel
theorem d21_12 : decode prog_47_method_15_code 12 = .ok (.invokestatic 138, 3) := by decide +kernel
theorem d21_15 : decode prog_47_method_15_code 15 = .ok (.ifCond .eq 5, 3) := by decide +kernel
theorem d21_20 : decode prog_47_method_15_code 20 = .ok (.aload_n 0, 1) := by decide +kernel
theorem d21_21 : decode prog_47_method_15_code 21 = .ok (.iload_n 2, 1) := by decide +kernel
theorem d21_22 : decode prog_47_method_15_code 22 = .ok (.iload_n 3, 1) := by decide +kernel
theorem d21_23 : decode prog_47_method_15_code 23 = .ok (.invokevirtual 141, 3) := by decide +kernel
theorem d21_26 : decode prog_47_method_15_code 26 = .ok (.iload_n 3, 1) := by decide +kernel
theorem d21_27 : decode prog_47_method_15_code 27 = .ok (.if_icmp .ne 15, 3) := by decide +kernel
theorem d21_42 : decode prog_47_method_15_code 42 = .ok (.iconst 0, 1) := by decide +kernel
theorem d21_43 : decode prog_47_method_15_code 43 = .ok (.ireturn, 1) := by decide +kernel
set_option maxRecDepth 65536 in
set_option maxHeartbeats 40000000 in
theorem rm_isPageBreak_9 {l : Launch} {Z : State} {a0 : Array Value} (hw : ∀ d ∈ tables_1, d.before a0 Z = true) (t arr : Addr) (p0 p1 p2 p3 p4 p5 p6 p7 u0 u1 u2 u3 : Int32) (cs : Int32) (sio : Value) (h : Heap) (n0 : Nat) (zn : n0 ≤ h.size) (E_t : Exa Z h t "com/example/clauseline/clauseline/ContractText") (F_bytes_t : Fld Z h t "com/example/clauseline/clauseline/ContractText" "bytes" "[B" (.ref arr)) (V_arr : PA Z h arr .byte [p0, p1, p2, p3, p4, p5, p6, p7, u0, u1, u2, u3, (10 : Int32), (60 : Int32), (10 : Int32), (45 : Int32), (45 : Int32), (10 : Int32), (32 : Int32)]) (S_cs : Sta Z h "java/lang/String" "COMPACT_STRINGS" "Z" (.int cs)) (hcs : ¬ cs = 0) (S_sio : Sta Z h "jdk/internal/util/Preconditions" "SIOOBE_FORMATTER" "Ljava/util/function/BiFunction;" sio) (hsio : sio.isRef = true) :
    MetH consts_1 l Z (⟨"com/example/clauseline/clauseline/LineWrap", "isPageBreak", "(Lcom/example/clauseline/clauseline/ContractText;III)Z"⟩ : MethodName) prog_47_method_15_code 4 (some .boolean) [] ({ frames := 4, cells := 2, slots := 20, locals := 60 } : Room) #[(.ref t), (.int (15 : Int32)), (.int (15 : Int32)), (.int (17 : Int32))] h n0 (RI fun r h' => Keep h h' [] ∧ r = (0 : Int32)) := by
  refine startH (own_EW hw) (ls := #[.val (.ref t), .val (.int (15 : Int32)), .val (.int (15 : Int32)), .val (.int (17 : Int32))]) (plainFor_of_name pn20) (fun m => by first | (simp [entryFrame, mkF, argsToLocals, Value.category]; done) | rfl) ?_
  intro p e s0 m below meth c T G s k0 w X ws zk hC
  have K := Keep.refl h []
  refine aloadN w X d21_0 1 rfl rfl rfl ?_
  refine iloadN w X d21_1 2 rfl rfl ?_
  refine iloadN w X d21_2 3 rfl rfl ?_
  refine callSPI w X [(.ref t), (.int (15 : Int32)), (.int (17 : Int32))] (wd114 hw) (wd115 hw) (wd70 hw) (wd116 hw) (by decide) (rm_isMark_10 hw t arr p0 p1 p2 p3 p4 p5 p6 p7 u0 u1 u2 u3 h n0 zn E_t F_bytes_t V_arr) d21_3 6 rfl 0 (by decide) (by decide) (lenOf pd9 rfl) rfl (Nat.le_of_eq rfl) rfl (by decide) (by decide) (fun r1 T X hq => ?_)
  subst hq
  refine if_ne w X d21_6 18 9 (by decide) (by decide) rfl (fun q => absurd q (by decide)) (fun hc6_2 => ?_)
  refine aloadN w X d21_9 10 rfl rfl rfl ?_
  refine iloadN w X d21_10 11 rfl rfl ?_
  refine iloadN w X d21_11 12 rfl rfl ?_
  refine callSH w X ws zk hC (own_EW hw) [(.ref t), (.int (15 : Int32)), (.int (17 : Int32))] (wd120 hw) (wd121 hw) (wd70 hw) (wd122 hw) (by decide) (rm_isFooter_11 hw t arr p0 p1 p2 p3 p4 p5 p6 p7 u0 u1 u2 u3 cs sio h n0 zn E_t F_bytes_t V_arr S_cs hcs S_sio hsio) d21_12 15 rfl 0 (by decide) (by decide) (lenOf pd9 rfl) rfl (Nat.le_of_eq rfl) rfl (by decide) (by decide) (fun s k0 v T h4 w X ws zk hC hq => ?_)
  obtain ⟨r3, rfl, hq⟩ := hq
  obtain ⟨Kq, rfl⟩ := hq
  have S_cs := Sta.keepN S_cs Kq all0
  have S_sio := Sta.keepN S_sio Kq all0
  have zn : n0 ≤ h4.size := Nat.le_trans zn Kq.1
  have E_t := E_t.keep Kq
  have F_bytes_t := F_bytes_t.keep Kq nin0
  have V_arr := V_arr.keep Kq nin0
  have K := K.trans Kq all0
  show G (T.setTop (mkF m 15 #[.val (.ref t), .val (.int (15 : Int32)), .val (.int (15 : Int32)), .val (.int (17 : Int32))] [(.int (0 : Int32))]))
  refine if_eq w X d21_15 20 18 (by decide) (by decide) rfl (fun hc15_5 => ?_) (fun q => absurd q (by decide))
  refine aloadN w X d21_20 21 rfl rfl rfl ?_
  refine iloadN w X d21_21 22 rfl rfl ?_
  refine iloadN w X d21_22 23 rfl rfl ?_
  refine callVPI w X [(.int (15 : Int32)), (.int (17 : Int32))] (wd123 hw) (wd124 hw) (notFace_of_selects (args := #[]) (mvT w.2.2.2.2.1 (wd126 hw))) (wd126 hw) (wd125 hw) (wd41 hw) (wd127 hw) (by decide) E_t (rm_digitsEnd_12 hw t arr p0 p1 p2 p3 p4 p5 p6 p7 u0 u1 u2 u3 h4 n0 zn E_t F_bytes_t V_arr) d21_23 26 rfl 0 (by decide) (by decide) (lenOf pd6 rfl) rfl (Nat.le_of_eq rfl) rfl (by decide) (by decide) (fun r6 T X hq => ?_)
  subst hq
  refine iloadN w X d21_26 27 rfl rfl ?_
  refine icmp_ne w X d21_27 42 30 (by decide) (by decide) rfl (fun hc27_7 => ?_) (fun q => absurd q (by decide))
  refine iconst w X (0 : Int32) d21_42 43 rfl rfl ?_
  refine retN w X (t := .boolean) rfl (by simp) d21_43 (by decide) (by decide) ?_
  refine And.intro zk (And.intro hC ?_)
  exact ⟨(0 : Int32), rfl, K, rfl⟩
theorem d29_0 : decode prog_47_method_20_code 0 = .ok (.iload_n 1, 1) := by decide +kernel
theorem d29_1 : decode prog_47_method_20_code 1 = .ok (.istore_n 3, 1) := by decide +kernel
theorem d29_2 : decode prog_47_method_20_code 2 = .ok (.iload_n 3, 1) := by decide +kernel
theorem d29_3 : decode prog_47_method_20_code 3 = .ok (.iload_n 2, 1) := by decide +kernel
theorem d29_4 : decode prog_47_method_20_code 4 = .ok (.if_icmp .ge 33, 3) := by decide +kernel
theorem d29_7 : decode prog_47_method_20_code 7 = .ok (.aload_n 0, 1) := by decide +kernel
theorem d29_8 : decode prog_47_method_20_code 8 = .ok (.iload_n 3, 1) := by decide +kernel
theorem d29_9 : decode prog_47_method_20_code 9 = .ok (.invokevirtual 47, 3) := by decide +kernel
theorem d29_12 : decode prog_47_method_20_code 12 = .ok (.istore 4, 2) := by decide +kernel
theorem d29_14 : decode prog_47_method_20_code 14 = .ok (.iload 4, 2) := by decide +kernel
theorem d29_16 : decode prog_47_method_20_code 16 = .ok (.bipush 45, 2) := by decide +kernel
theorem d29_18 : decode prog_47_method_20_code 18 = .ok (.if_icmp .eq 13, 3) := by decide +kernel
theorem d29_31 : decode prog_47_method_20_code 31 = .ok (.iinc 3 1, 3) := by decide +kernel
theorem d29_34 : decode prog_47_method_20_code 34 = .ok (.goto (-32), 3) := by decide +kernel
theorem d29_37 : decode prog_47_method_20_code 37 = .ok (.iconst 1, 1) := by decide +kernel
theorem d29_38 : decode prog_47_method_20_code 38 = .ok (.ireturn, 1) := by decide +kernel
set_option maxRecDepth 65536 in
set_option maxHeartbeats 40000000 in
theorem rm_isRule_14 {l : Launch} {Z : State} {a0 : Array Value} (hw : ∀ d ∈ tables_1, d.before a0 Z = true) (t arr : Addr) (p0 p1 p2 p3 p4 p5 p6 p7 u0 u1 u2 u3 : Int32) (h : Heap) (n0 : Nat) (zn : n0 ≤ h.size) (E_t : Exa Z h t "com/example/clauseline/clauseline/ContractText") (F_bytes_t : Fld Z h t "com/example/clauseline/clauseline/ContractText" "bytes" "[B" (.ref arr)) (V_arr : PA Z h arr .byte [p0, p1, p2, p3, p4, p5, p6, p7, u0, u1, u2, u3, (10 : Int32), (60 : Int32), (10 : Int32), (45 : Int32), (45 : Int32), (10 : Int32), (32 : Int32)]) :
    Met l Z (⟨"com/example/clauseline/clauseline/LineWrap", "isRule", "(Lcom/example/clauseline/clauseline/ContractText;II)Z"⟩ : MethodName) prog_47_method_20_code 5 (some .boolean) [] ({ frames := 1, cells := 0, slots := 0, locals := 13 } : Room) #[(.ref t), (.int (15 : Int32)), (.int (17 : Int32))] h n0 (RI fun r h' => h' = h ∧ r = (1 : Int32)) := by
  refine start (ls := #[.val (.ref t), .val (.int (15 : Int32)), .val (.int (17 : Int32)), .unset, .unset]) (plainFor_of_name pn20) (fun m => by first | (simp [entryFrame, mkF, argsToLocals, Value.category]; done) | rfl) ?_
  intro p e s m below meth c T G w X
  refine iloadN w X d29_0 1 rfl rfl ?_
  refine istoreN w X (15 : Int32) d29_1 2 rfl rfl #[.val (.ref t), .val (.int (15 : Int32)), .val (.int (17 : Int32)), .val (.int (15 : Int32)), .unset] rfl ?_
  refine iloadN w X d29_2 3 rfl rfl ?_
  refine iloadN w X d29_3 4 rfl rfl ?_
  refine icmp_ge w X d29_4 37 7 (by decide) (by decide) rfl (fun q => absurd q (by decide)) (fun hc4_1 => ?_)
  refine aloadN w X d29_7 8 rfl rfl rfl ?_
  refine iloadN w X d29_8 9 rfl rfl ?_
  refine callVPI w X [(.int (15 : Int32))] (wd103 hw) (wd104 hw) (notFace_of_selects (args := #[]) (mvT w.2.2.2.2.1 (wd106 hw))) (wd106 hw) (wd105 hw) (wd41 hw) (wd107 hw) (by decide) E_t (rm_baG hw t arr [p0, p1, p2, p3, p4, p5, p6, p7, u0, u1, u2, u3, (10 : Int32), (60 : Int32), (10 : Int32), (45 : Int32), (45 : Int32), (10 : Int32), (32 : Int32)] 15 h n0 zn E_t F_bytes_t V_arr (Nat.le_of_ble_eq_true rfl) (Nat.le_of_ble_eq_true rfl)) d29_9 12 rfl 0 (by decide) (by decide) (lenOf pd8 rfl) rfl (Nat.le_of_eq rfl) rfl (by decide) (by decide) (fun r2 T X hq => ?_)
  obtain rfl : r2 = (45 : Int32) := hq
  refine istore w X (45 : Int32) d29_12 14 rfl rfl #[.val (.ref t), .val (.int (15 : Int32)), .val (.int (17 : Int32)), .val (.int (15 : Int32)), .val (.int (45 : Int32))] rfl ?_
  refine iload w X d29_14 16 rfl rfl ?_
  refine bipush w X (45 : Int32) d29_16 18 rfl rfl ?_
  refine icmp_eq w X d29_18 31 21 (by decide) (by decide) rfl (fun hc18_3 => ?_) (fun q => absurd q (by decide))
  refine iinc w X (16 : Int32) d29_31 34 rfl rfl (by decide) #[.val (.ref t), .val (.int (15 : Int32)), .val (.int (17 : Int32)), .val (.int (16 : Int32)), .val (.int (45 : Int32))] rfl ?_
  refine goto w X d29_34 2 (by decide) (by decide) ?_
  refine iloadN w X d29_2 3 rfl rfl ?_
  refine iloadN w X d29_3 4 rfl rfl ?_
  refine icmp_ge w X d29_4 37 7 (by decide) (by decide) rfl (fun q => absurd q (by decide)) (fun hc4_4 => ?_)
  refine aloadN w X d29_7 8 rfl rfl rfl ?_
  refine iloadN w X d29_8 9 rfl rfl ?_
  refine callVPI w X [(.int (16 : Int32))] (wd103 hw) (wd104 hw) (notFace_of_selects (args := #[]) (mvT w.2.2.2.2.1 (wd106 hw))) (wd106 hw) (wd105 hw) (wd41 hw) (wd107 hw) (by decide) E_t (rm_baG hw t arr [p0, p1, p2, p3, p4, p5, p6, p7, u0, u1, u2, u3, (10 : Int32), (60 : Int32), (10 : Int32), (45 : Int32), (45 : Int32), (10 : Int32), (32 : Int32)] 16 h n0 zn E_t F_bytes_t V_arr (Nat.le_of_ble_eq_true rfl) (Nat.le_of_ble_eq_true rfl)) d29_9 12 rfl 0 (by decide) (by decide) (lenOf pd8 rfl) rfl (Nat.le_of_eq rfl) rfl (by decide) (by decide) (fun r5 T X hq => ?_)
  obtain rfl : r5 = (45 : Int32) := hq
  refine istore w X (45 : Int32) d29_12 14 rfl rfl #[.val (.ref t), .val (.int (15 : Int32)), .val (.int (17 : Int32)), .val (.int (16 : Int32)), .val (.int (45 : Int32))] rfl ?_
  refine iload w X d29_14 16 rfl rfl ?_
  refine bipush w X (45 : Int32) d29_16 18 rfl rfl ?_
  refine icmp_eq w X d29_18 31 21 (by decide) (by decide) rfl (fun hc18_6 => ?_) (fun q => absurd q (by decide))
  refine iinc w X (17 : Int32) d29_31 34 rfl rfl (by decide) #[.val (.ref t), .val (.int (15 : Int32)), .val (.int (17 : Int32)), .val (.int (17 : Int32)), .val (.int (45 : Int32))] rfl ?_
  refine goto w X d29_34 2 (by decide) (by decide) ?_
  refine iloadN w X d29_2 3 rfl rfl ?_
  refine iloadN w X d29_3 4 rfl rfl ?_
  refine icmp_ge w X d29_4 37 7 (by decide) (by decide) rfl (fun hc4_7 => ?_) (fun q => absurd q (by decide))
  refine iconst w X (1 : Int32) d29_37 38 rfl rfl ?_
  refine retN w X (t := .boolean) rfl (by simp) d29_38 (by decide) (by decide) ?_
  exact ⟨(1 : Int32), rfl, rfl, rfl⟩
theorem d14_50 : decode prog_47_method_4_code 50 = .ok (.aload_n 1, 1) := by decide +kernel
theorem d14_51 : decode prog_47_method_4_code 51 = .ok (.iload 4, 2) := by decide +kernel
theorem d14_53 : decode prog_47_method_4_code 53 = .ok (.iload 5, 2) := by decide +kernel
theorem d14_55 : decode prog_47_method_4_code 55 = .ok (.invokestatic 40, 3) := by decide +kernel
theorem d14_58 : decode prog_47_method_4_code 58 = .ok (.ifCond .eq 5, 3) := by decide +kernel
theorem d14_61 : decode prog_47_method_4_code 61 = .ok (.iconst 0, 1) := by decide +kernel
theorem d14_62 : decode prog_47_method_4_code 62 = .ok (.ireturn, 1) := by decide +kernel
set_option maxRecDepth 65536 in
set_option maxHeartbeats 40000000 in
theorem rm_add_15 {l : Launch} {Z : State} {a0 : Array Value} (hw : ∀ d ∈ tables_1, d.before a0 Z = true) (lw t arr : Addr) (p0 p1 p2 p3 p4 p5 p6 p7 u0 u1 u2 u3 : Int32) (cs : Int32) (sio : Value) (o bl pb cm wd : Int32) (h : Heap) (n0 : Nat) (zn : n0 ≤ h.size) (E_t : Exa Z h t "com/example/clauseline/clauseline/ContractText") (F_bytes_t : Fld Z h t "com/example/clauseline/clauseline/ContractText" "bytes" "[B" (.ref arr)) (V_arr : PA Z h arr .byte [p0, p1, p2, p3, p4, p5, p6, p7, u0, u1, u2, u3, (10 : Int32), (60 : Int32), (10 : Int32), (45 : Int32), (45 : Int32), (10 : Int32), (32 : Int32)]) (S_cs : Sta Z h "java/lang/String" "COMPACT_STRINGS" "Z" (.int cs)) (hcs : ¬ cs = 0) (S_sio : Sta Z h "jdk/internal/util/Preconditions" "SIOOBE_FORMATTER" "Ljava/util/function/BiFunction;" sio) (hsio : sio.isRef = true) (E_lw : Exa Z h lw "com/example/clauseline/clauseline/LineWrap") (F_open_lw : Fld Z h lw "com/example/clauseline/clauseline/LineWrap" "open" "Z" (.int o)) (F_blank_lw : Fld Z h lw "com/example/clauseline/clauseline/LineWrap" "blank" "Z" (.int bl)) (F_pageBreak_lw : Fld Z h lw "com/example/clauseline/clauseline/LineWrap" "pageBreak" "Z" (.int pb)) (F_comma_lw : Fld Z h lw "com/example/clauseline/clauseline/LineWrap" "comma" "Z" (.int cm)) (F_width_lw : Fld Z h lw "com/example/clauseline/clauseline/LineWrap" "width" "I" (.int wd)) (g_lw : n0 ≤ lw) (ne_t_lw : t ≠ lw) (ne_arr_lw : arr ≠ lw) :
    MetH consts_1 l Z (⟨"com/example/clauseline/clauseline/LineWrap", "add", "(Lcom/example/clauseline/clauseline/ContractText;II)Z"⟩ : MethodName) prog_47_method_4_code 6 (some .boolean) [] ({ frames := 5, cells := 2, slots := 20, locals := 75 } : Room) #[(.ref lw), (.ref t), (.int (15 : Int32)), (.int (17 : Int32))] h n0 (RI fun r h' => Keep h h' [lw] ∧ Exa Z h' lw "com/example/clauseline/clauseline/LineWrap" ∧ Fld Z h' lw "com/example/clauseline/clauseline/LineWrap" "open" "Z" (.int o) ∧ Fld Z h' lw "com/example/clauseline/clauseline/LineWrap" "blank" "Z" (.int bl) ∧ Fld Z h' lw "com/example/clauseline/clauseline/LineWrap" "pageBreak" "Z" (.int pb) ∧ Fld Z h' lw "com/example/clauseline/clauseline/LineWrap" "comma" "Z" (.int cm) ∧ Fld Z h' lw "com/example/clauseline/clauseline/LineWrap" "width" "I" (.int wd)) := by
  refine startH (own_EW hw) (ls := #[.val (.ref lw), .val (.ref t), .val (.int (15 : Int32)), .val (.int (17 : Int32)), .unset, .unset]) (plainFor_of_name pn20) (fun m => by first | (simp [entryFrame, mkF, argsToLocals, Value.category]; done) | rfl) ?_
  intro p e s0 m below meth c T G s k0 w X ws zk hC
  have K := Keep.refl h [lw]
  refine aloadN w X d14_0 1 rfl rfl rfl ?_
  refine iloadN w X d14_1 2 rfl rfl ?_
  refine iloadN w X d14_2 3 rfl rfl ?_
  refine callVPI w X [(.int (15 : Int32)), (.int (17 : Int32))] (wd83 hw) (wd84 hw) (notFace_of_selects (args := #[]) (mvT w.2.2.2.2.1 (wd86 hw))) (wd86 hw) (wd85 hw) (wd41 hw) (wd87 hw) (by decide) E_t (rm_skipSpaces_7 hw t arr p0 p1 p2 p3 p4 p5 p6 p7 u0 u1 u2 u3 h n0 zn E_t F_bytes_t V_arr) d14_3 6 rfl 0 (by decide) (by decide) (lenOf pd6 rfl) rfl (Nat.le_of_eq rfl) rfl (by decide) (by decide) (fun r1 T X hq => ?_)
  subst hq
  refine istore w X (15 : Int32) d14_6 8 rfl rfl #[.val (.ref lw), .val (.ref t), .val (.int (15 : Int32)), .val (.int (17 : Int32)), .val (.int (15 : Int32)), .unset] rfl ?_
  refine aloadN w X d14_8 9 rfl rfl rfl ?_
  refine iload w X d14_9 11 rfl rfl ?_
  refine iloadN w X d14_11 12 rfl rfl ?_
  refine callSPI w X [(.ref t), (.int (15 : Int32)), (.int (17 : Int32))] (wd91 hw) (wd92 hw) (wd70 hw) (wd93 hw) (by decide) (rm_textEnd_8 hw t arr p0 p1 p2 p3 p4 p5 p6 p7 u0 u1 u2 u3 h n0 zn E_t F_bytes_t V_arr) d14_12 15 rfl 0 (by decide) (by decide) (lenOf pd7 rfl) rfl (Nat.le_of_eq rfl) rfl (by decide) (by decide) (fun r2 T X hq => ?_)
  subst hq
  refine istore w X (17 : Int32) d14_15 17 rfl rfl #[.val (.ref lw), .val (.ref t), .val (.int (15 : Int32)), .val (.int (17 : Int32)), .val (.int (15 : Int32)), .val (.int (17 : Int32))] rfl ?_
  refine iload w X d14_17 19 rfl rfl ?_
  refine iload w X d14_19 21 rfl rfl ?_
  refine icmp_ne w X d14_21 31 24 (by decide) (by decide) rfl (fun hc21_3 => ?_) (fun q => absurd q (by decide))
  refine aloadN w X d14_31 32 rfl rfl rfl ?_
  refine iloadN w X d14_32 33 rfl rfl ?_
  refine iload w X d14_33 35 rfl rfl ?_
  refine iload w X d14_35 37 rfl rfl ?_
  refine callSH w X ws zk hC (own_EW hw) [(.ref t), (.int (15 : Int32)), (.int (15 : Int32)), (.int (17 : Int32))] (wd111 hw) (wd112 hw) (wd70 hw) (wd113 hw) (by decide) (rm_isPageBreak_9 hw t arr p0 p1 p2 p3 p4 p5 p6 p7 u0 u1 u2 u3 cs sio h n0 zn E_t F_bytes_t V_arr S_cs hcs S_sio hsio) d14_37 40 rfl 0 (by decide) (by decide) (lenOf pd10 rfl) rfl (Nat.le_of_eq rfl) rfl (by decide) (by decide) (fun s k0 v T h5 w X ws zk hC hq => ?_)
  obtain ⟨r4, rfl, hq⟩ := hq
  obtain ⟨Kq, rfl⟩ := hq
  have S_cs := Sta.keepN S_cs Kq all0
  have S_sio := Sta.keepN S_sio Kq all0
  have zn : n0 ≤ h5.size := Nat.le_trans zn Kq.1
  have E_t := E_t.keep Kq
  have F_bytes_t := F_bytes_t.keep Kq nin0
  have V_arr := V_arr.keep Kq nin0
  have E_lw := E_lw.keep Kq
  have F_open_lw := F_open_lw.keep Kq nin0
  have F_blank_lw := F_blank_lw.keep Kq nin0
  have F_pageBreak_lw := F_pageBreak_lw.keep Kq nin0
  have F_comma_lw := F_comma_lw.keep Kq nin0
  have F_width_lw := F_width_lw.keep Kq nin0
  have K := K.trans Kq all0
  show G (T.setTop (mkF m 40 #[.val (.ref lw), .val (.ref t), .val (.int (15 : Int32)), .val (.int (17 : Int32)), .val (.int (15 : Int32)), .val (.int (17 : Int32))] [(.int (0 : Int32))]))
  refine if_eq w X d14_40 50 43 (by decide) (by decide) rfl (fun hc40_6 => ?_) (fun q => absurd q (by decide))
  refine aloadN w X d14_50 51 rfl rfl rfl ?_
  refine iload w X d14_51 53 rfl rfl ?_
  refine iload w X d14_53 55 rfl rfl ?_
  refine callSPI w X [(.ref t), (.int (15 : Int32)), (.int (17 : Int32))] (wd147 hw) (wd148 hw) (wd70 hw) (wd149 hw) (by decide) (rm_isRule_14 hw t arr p0 p1 p2 p3 p4 p5 p6 p7 u0 u1 u2 u3 h5 n0 zn E_t F_bytes_t V_arr) d14_55 58 rfl 0 (by decide) (by decide) (lenOf pd9 rfl) rfl (Nat.le_of_eq rfl) rfl (by decide) (by decide) (fun r7 T X hq => ?_)
  subst hq
  refine if_eq w X d14_58 63 61 (by decide) (by decide) rfl (fun q => absurd q (by decide)) (fun hc58_8 => ?_)
  refine iconst w X (0 : Int32) d14_61 62 rfl rfl ?_
  refine retN w X (t := .boolean) rfl (by simp) d14_62 (by decide) (by decide) ?_
  refine And.intro zk (And.intro hC ?_)
  exact ⟨(0 : Int32), rfl, K, E_lw, F_open_lw, F_blank_lw, F_pageBreak_lw, F_comma_lw, F_width_lw⟩
set_option maxRecDepth 65536 in
set_option maxHeartbeats 40000000 in
theorem lf13_1 (e1 : Int32) (bl : Int32) (hc2_1 : ¬ (e1 = (1 : Int32))) (hc20_2 : ¬ (e1 = (2 : Int32))) (hc38_3 : ¬ (e1 = (3 : Int32))) : bl = own_ev1 e1 bl := by
  unfold own_ev1
  simp_all
set_option maxRecDepth 65536 in
set_option maxHeartbeats 40000000 in
theorem lf13_2 (e1 : Int32) (pb : Int32) (hc2_1 : ¬ (e1 = (1 : Int32))) (hc20_2 : ¬ (e1 = (2 : Int32))) (hc38_3 : ¬ (e1 = (3 : Int32))) : pb = own_ev2 e1 pb := by
  unfold own_ev2
  simp_all
set_option maxRecDepth 65536 in
set_option maxHeartbeats 40000000 in
theorem lf13_3 (e1 : Int32) (bl : Int32) (hc2_1 : ¬ (e1 = (1 : Int32))) (hc20_2 : ¬ (e1 = (2 : Int32))) (hc38_3 : e1 = (3 : Int32)) : bl = own_ev1 e1 bl := by
  unfold own_ev1
  simp_all
set_option maxRecDepth 65536 in
set_option maxHeartbeats 40000000 in
theorem lf13_4 (e1 : Int32) (pb : Int32) (hc2_1 : ¬ (e1 = (1 : Int32))) (hc20_2 : ¬ (e1 = (2 : Int32))) (hc38_3 : e1 = (3 : Int32)) : pb = own_ev2 e1 pb := by
  unfold own_ev2
  simp_all
set_option maxRecDepth 65536 in
set_option maxHeartbeats 40000000 in
theorem lf13_5 (e1 : Int32) (bl : Int32) (hc2_1 : ¬ (e1 = (1 : Int32))) (hc20_2 : e1 = (2 : Int32)) : bl = own_ev1 e1 bl := by
  unfold own_ev1
  simp_all
set_option maxRecDepth 65536 in
set_option maxHeartbeats 40000000 in
theorem lf13_6 (e1 : Int32) (pb : Int32) (hc2_1 : ¬ (e1 = (1 : Int32))) (hc20_2 : e1 = (2 : Int32)) : (1 : Int32) = own_ev2 e1 pb := by
  unfold own_ev2
  simp_all
set_option maxRecDepth 65536 in
set_option maxHeartbeats 40000000 in
theorem lf13_7 (e1 : Int32) (bl : Int32) (hc2_1 : e1 = (1 : Int32)) : (1 : Int32) = own_ev1 e1 bl := by
  unfold own_ev1
  simp_all
set_option maxRecDepth 65536 in
set_option maxHeartbeats 40000000 in
theorem lf13_8 (e1 : Int32) (pb : Int32) (hc2_1 : e1 = (1 : Int32)) : pb = own_ev2 e1 pb := by
  unfold own_ev2
  simp_all
theorem d13_0 : decode method_3_code 0 = .ok (.iload_n 2, 1) := by decide +kernel
theorem d13_1 : decode method_3_code 1 = .ok (.iconst 1, 1) := by decide +kernel
theorem d13_2 : decode method_3_code 2 = .ok (.if_icmp .ne 16, 3) := by decide +kernel
theorem d13_5 : decode method_3_code 5 = .ok (.aload_n 0, 1) := by decide +kernel
theorem d13_6 : decode method_3_code 6 = .ok (.aload_n 1, 1) := by decide +kernel
theorem d13_7 : decode method_3_code 7 = .ok (.bipush 18, 2) := by decide +kernel
theorem d13_9 : decode method_3_code 9 = .ok (.bipush 19, 2) := by decide +kernel
theorem d13_11 : decode method_3_code 11 = .ok (.invokevirtual 50, 3) := by decide +kernel
theorem d13_14 : decode method_3_code 14 = .ok (.pop, 1) := by decide +kernel
theorem d13_15 : decode method_3_code 15 = .ok (.goto 36, 3) := by decide +kernel
theorem d13_18 : decode method_3_code 18 = .ok (.iload_n 2, 1) := by decide +kernel
theorem d13_19 : decode method_3_code 19 = .ok (.iconst 2, 1) := by decide +kernel
theorem d13_20 : decode method_3_code 20 = .ok (.if_icmp .ne 16, 3) := by decide +kernel
theorem d13_23 : decode method_3_code 23 = .ok (.aload_n 0, 1) := by decide +kernel
theorem d13_24 : decode method_3_code 24 = .ok (.aload_n 1, 1) := by decide +kernel
theorem d13_25 : decode method_3_code 25 = .ok (.bipush 13, 2) := by decide +kernel
theorem d13_27 : decode method_3_code 27 = .ok (.bipush 14, 2) := by decide +kernel
theorem d13_29 : decode method_3_code 29 = .ok (.invokevirtual 50, 3) := by decide +kernel
theorem d13_32 : decode method_3_code 32 = .ok (.pop, 1) := by decide +kernel
theorem d13_33 : decode method_3_code 33 = .ok (.goto 18, 3) := by decide +kernel
theorem d13_36 : decode method_3_code 36 = .ok (.iload_n 2, 1) := by decide +kernel
theorem d13_37 : decode method_3_code 37 = .ok (.iconst 3, 1) := by decide +kernel
theorem d13_38 : decode method_3_code 38 = .ok (.if_icmp .ne 13, 3) := by decide +kernel
theorem d13_41 : decode method_3_code 41 = .ok (.aload_n 0, 1) := by decide +kernel
theorem d13_42 : decode method_3_code 42 = .ok (.aload_n 1, 1) := by decide +kernel
theorem d13_43 : decode method_3_code 43 = .ok (.bipush 15, 2) := by decide +kernel
theorem d13_45 : decode method_3_code 45 = .ok (.bipush 17, 2) := by decide +kernel
theorem d13_47 : decode method_3_code 47 = .ok (.invokevirtual 50, 3) := by decide +kernel
theorem d13_50 : decode method_3_code 50 = .ok (.pop, 1) := by decide +kernel
theorem d13_51 : decode method_3_code 51 = .ok (.return_, 1) := by decide +kernel
theorem pn13 : plainName "com/example/clauseline/clauseline/LineWrapContinuesSentencePinLaw" = true := by first | (simp [plainName, overriddenIn]; done) | decide +kernel
set_option maxRecDepth 65536 in
set_option maxHeartbeats 40000000 in
theorem rm_ev {l : Launch} {Z : State} {a0 : Array Value} (hw : ∀ d ∈ tables_1, d.before a0 Z = true) (lw t arr : Addr) (p0 p1 p2 p3 p4 p5 p6 p7 u0 u1 u2 u3 : Int32) (cs : Int32) (sio : Value) (o bl pb cm wd e1 : Int32) (h : Heap) (n0 : Nat) (zn : n0 ≤ h.size) (E_t : Exa Z h t "com/example/clauseline/clauseline/ContractText") (F_bytes_t : Fld Z h t "com/example/clauseline/clauseline/ContractText" "bytes" "[B" (.ref arr)) (V_arr : PA Z h arr .byte [p0, p1, p2, p3, p4, p5, p6, p7, u0, u1, u2, u3, (10 : Int32), (60 : Int32), (10 : Int32), (45 : Int32), (45 : Int32), (10 : Int32), (32 : Int32)]) (S_cs : Sta Z h "java/lang/String" "COMPACT_STRINGS" "Z" (.int cs)) (hcs : ¬ cs = 0) (S_sio : Sta Z h "jdk/internal/util/Preconditions" "SIOOBE_FORMATTER" "Ljava/util/function/BiFunction;" sio) (hsio : sio.isRef = true) (E_lw : Exa Z h lw "com/example/clauseline/clauseline/LineWrap") (F_open_lw : Fld Z h lw "com/example/clauseline/clauseline/LineWrap" "open" "Z" (.int o)) (F_blank_lw : Fld Z h lw "com/example/clauseline/clauseline/LineWrap" "blank" "Z" (.int bl)) (F_pageBreak_lw : Fld Z h lw "com/example/clauseline/clauseline/LineWrap" "pageBreak" "Z" (.int pb)) (F_comma_lw : Fld Z h lw "com/example/clauseline/clauseline/LineWrap" "comma" "Z" (.int cm)) (F_width_lw : Fld Z h lw "com/example/clauseline/clauseline/LineWrap" "width" "I" (.int wd)) (g_lw : n0 ≤ lw) (ne_t_lw : t ≠ lw) (ne_arr_lw : arr ≠ lw) :
    MetH consts_1 l Z (⟨"com/example/clauseline/clauseline/LineWrapContinuesSentencePinLaw", "event", "(Lcom/example/clauseline/clauseline/LineWrap;Lcom/example/clauseline/clauseline/ContractText;I)V"⟩ : MethodName) method_3_code 3 none [] ({ frames := 6, cells := 2, slots := 20, locals := 92 } : Room) #[(.ref lw), (.ref t), (.int e1)] h n0 (RV fun h' => Keep h h' [lw] ∧ Exa Z h' lw "com/example/clauseline/clauseline/LineWrap" ∧ Fld Z h' lw "com/example/clauseline/clauseline/LineWrap" "open" "Z" (.int o) ∧ Fld Z h' lw "com/example/clauseline/clauseline/LineWrap" "blank" "Z" (.int (own_ev1 e1 bl)) ∧ Fld Z h' lw "com/example/clauseline/clauseline/LineWrap" "pageBreak" "Z" (.int (own_ev2 e1 pb)) ∧ Fld Z h' lw "com/example/clauseline/clauseline/LineWrap" "comma" "Z" (.int cm) ∧ Fld Z h' lw "com/example/clauseline/clauseline/LineWrap" "width" "I" (.int wd)) := by
  refine startH (own_EW hw) (ls := #[.val (.ref lw), .val (.ref t), .val (.int e1)]) (plainFor_of_name pn13) (fun m => by first | (simp [entryFrame, mkF, argsToLocals, Value.category]; done) | rfl) ?_
  intro p e s0 m below meth c T G s k0 w X ws zk hC
  have K := Keep.refl h [lw]
  refine iloadN w X d13_0 1 rfl rfl ?_
  refine iconst w X (1 : Int32) d13_1 2 rfl rfl ?_
  refine icmp_ne w X d13_2 18 5 (by decide) (by decide) rfl (fun hc2_1 => ?_) (fun hc2_1 => ?_)
  ·
    refine iloadN w X d13_18 19 rfl rfl ?_
    refine iconst w X (2 : Int32) d13_19 20 rfl rfl ?_
    refine icmp_ne w X d13_20 36 23 (by decide) (by decide) rfl (fun hc20_2 => ?_) (fun hc20_2 => ?_)
    ·
      refine iloadN w X d13_36 37 rfl rfl ?_
      refine iconst w X (3 : Int32) d13_37 38 rfl rfl ?_
      refine icmp_ne w X d13_38 51 41 (by decide) (by decide) rfl (fun hc38_3 => ?_) (fun hc38_3 => ?_)
      ·
        refine retV w X rfl d13_51 (by decide) (by decide) ?_
        refine And.intro zk (And.intro hC ?_)
        have hv1 : bl = own_ev1 e1 bl := lf13_1 e1 bl hc2_1 hc20_2 hc38_3
        have hv2 : pb = own_ev2 e1 pb := lf13_2 e1 pb hc2_1 hc20_2 hc38_3
        exact ⟨rfl, K, E_lw, F_open_lw, by rw [← hv1]; exact F_blank_lw, by rw [← hv2]; exact F_pageBreak_lw, F_comma_lw, F_width_lw⟩
      ·
        refine aloadN w X d13_41 42 rfl rfl rfl ?_
        refine aloadN w X d13_42 43 rfl rfl rfl ?_
        refine bipush w X (15 : Int32) d13_43 45 rfl rfl ?_
        refine bipush w X (17 : Int32) d13_45 47 rfl rfl ?_
        refine callVH w X ws zk hC (own_EW hw) [(.ref t), (.int (15 : Int32)), (.int (17 : Int32))] (wd78 hw) (wd79 hw) (notFace_of_selects (args := #[]) (mvT w.2.2.2.2.1 (wd81 hw))) (wd81 hw) (wd80 hw) (wd70 hw) (wd82 hw) (by decide) E_lw (rm_add_15 hw lw t arr p0 p1 p2 p3 p4 p5 p6 p7 u0 u1 u2 u3 cs sio o bl pb cm wd h n0 zn E_t F_bytes_t V_arr S_cs hcs S_sio hsio E_lw F_open_lw F_blank_lw F_pageBreak_lw F_comma_lw F_width_lw g_lw ne_t_lw ne_arr_lw) d13_47 50 rfl 0 (by decide) (by decide) (lenOf pd9 rfl) rfl (Nat.le_of_eq rfl) rfl (by decide) (by decide) (fun s k0 v T h5 w X ws zk hC hq => ?_)
        obtain ⟨r4, rfl, hq⟩ := hq
        obtain ⟨Kq, nE_lw, nF_open_lw, nF_blank_lw, nF_pageBreak_lw, nF_comma_lw, nF_width_lw⟩ := hq
        have S_cs := Sta.keepN S_cs Kq (allS (Exa.nost E_lw) all0)
        have S_sio := Sta.keepN S_sio Kq (allS (Exa.nost E_lw) all0)
        have zn : n0 ≤ h5.size := Nat.le_trans zn Kq.1
        have E_t := E_t.keep Kq
        have F_bytes_t := F_bytes_t.keep Kq (ninS ne_t_lw nin0)
        have V_arr := V_arr.keep Kq (ninS ne_arr_lw nin0)
        have K := K.trans Kq (allS (Or.inl (List.mem_of_getElem? (i := 0) rfl)) all0)
        have E_lw := nE_lw
        have F_open_lw := nF_open_lw
        have F_blank_lw := nF_blank_lw
        have F_pageBreak_lw := nF_pageBreak_lw
        have F_comma_lw := nF_comma_lw
        have F_width_lw := nF_width_lw
        show G (T.setTop (mkF m 50 #[.val (.ref lw), .val (.ref t), .val (.int e1)] [(.int r4)]))
        refine popV w X d13_50 51 rfl rfl ?_
        refine retV w X rfl d13_51 (by decide) (by decide) ?_
        refine And.intro zk (And.intro hC ?_)
        have hv1 : bl = own_ev1 e1 bl := lf13_3 e1 bl hc2_1 hc20_2 hc38_3
        have hv2 : pb = own_ev2 e1 pb := lf13_4 e1 pb hc2_1 hc20_2 hc38_3
        exact ⟨rfl, K, E_lw, F_open_lw, by rw [← hv1]; exact F_blank_lw, by rw [← hv2]; exact F_pageBreak_lw, F_comma_lw, F_width_lw⟩
    ·
      refine aloadN w X d13_23 24 rfl rfl rfl ?_
      refine aloadN w X d13_24 25 rfl rfl rfl ?_
      refine bipush w X (13 : Int32) d13_25 27 rfl rfl ?_
      refine bipush w X (14 : Int32) d13_27 29 rfl rfl ?_
      refine callVH w X ws zk hC (own_EW hw) [(.ref t), (.int (13 : Int32)), (.int (14 : Int32))] (wd78 hw) (wd79 hw) (notFace_of_selects (args := #[]) (mvT w.2.2.2.2.1 (wd81 hw))) (wd81 hw) (wd80 hw) (wd70 hw) (wd82 hw) (by decide) E_lw (rm_add_13 hw lw t arr p0 p1 p2 p3 p4 p5 p6 p7 u0 u1 u2 u3 cs sio o bl pb cm wd h n0 zn E_t F_bytes_t V_arr S_cs hcs S_sio hsio E_lw F_open_lw F_blank_lw F_pageBreak_lw F_comma_lw F_width_lw g_lw ne_t_lw ne_arr_lw) d13_29 32 rfl 0 (by decide) (by decide) (lenOf pd9 rfl) rfl (Nat.le_of_eq rfl) rfl (by decide) (by decide) (fun s k0 v T h7 w X ws zk hC hq => ?_)
      obtain ⟨r6, rfl, hq⟩ := hq
      obtain ⟨Kq, nE_lw, nF_open_lw, nF_blank_lw, nF_pageBreak_lw, nF_comma_lw, nF_width_lw⟩ := hq
      have S_cs := Sta.keepN S_cs Kq (allS (Exa.nost E_lw) all0)
      have S_sio := Sta.keepN S_sio Kq (allS (Exa.nost E_lw) all0)
      have zn : n0 ≤ h7.size := Nat.le_trans zn Kq.1
      have E_t := E_t.keep Kq
      have F_bytes_t := F_bytes_t.keep Kq (ninS ne_t_lw nin0)
      have V_arr := V_arr.keep Kq (ninS ne_arr_lw nin0)
      have K := K.trans Kq (allS (Or.inl (List.mem_of_getElem? (i := 0) rfl)) all0)
      have E_lw := nE_lw
      have F_open_lw := nF_open_lw
      have F_blank_lw := nF_blank_lw
      have F_pageBreak_lw := nF_pageBreak_lw
      have F_comma_lw := nF_comma_lw
      have F_width_lw := nF_width_lw
      show G (T.setTop (mkF m 32 #[.val (.ref lw), .val (.ref t), .val (.int e1)] [(.int r6)]))
      refine popV w X d13_32 33 rfl rfl ?_
      refine goto w X d13_33 51 (by decide) (by decide) ?_
      refine retV w X rfl d13_51 (by decide) (by decide) ?_
      refine And.intro zk (And.intro hC ?_)
      have hv1 : bl = own_ev1 e1 bl := lf13_5 e1 bl hc2_1 hc20_2
      have hv2 : (1 : Int32) = own_ev2 e1 pb := lf13_6 e1 pb hc2_1 hc20_2
      exact ⟨rfl, K, E_lw, F_open_lw, by rw [← hv1]; exact F_blank_lw, by rw [← hv2]; exact F_pageBreak_lw, F_comma_lw, F_width_lw⟩
  ·
    refine aloadN w X d13_5 6 rfl rfl rfl ?_
    refine aloadN w X d13_6 7 rfl rfl rfl ?_
    refine bipush w X (18 : Int32) d13_7 9 rfl rfl ?_
    refine bipush w X (19 : Int32) d13_9 11 rfl rfl ?_
    refine callVH w X ws zk hC (own_EW hw) [(.ref t), (.int (18 : Int32)), (.int (19 : Int32))] (wd78 hw) (wd79 hw) (notFace_of_selects (args := #[]) (mvT w.2.2.2.2.1 (wd81 hw))) (wd81 hw) (wd80 hw) (wd70 hw) (wd82 hw) (by decide) E_lw (rm_add_18 hw lw t arr p0 p1 p2 p3 p4 p5 p6 p7 u0 u1 u2 u3 cs sio o bl pb cm wd h n0 zn E_t F_bytes_t V_arr S_cs hcs S_sio hsio E_lw F_open_lw F_blank_lw F_pageBreak_lw F_comma_lw F_width_lw g_lw ne_t_lw ne_arr_lw) d13_11 14 rfl 0 (by decide) (by decide) (lenOf pd9 rfl) rfl (Nat.le_of_eq rfl) rfl (by decide) (by decide) (fun s k0 v T h9 w X ws zk hC hq => ?_)
    obtain ⟨r8, rfl, hq⟩ := hq
    obtain ⟨Kq, nE_lw, nF_open_lw, nF_blank_lw, nF_pageBreak_lw, nF_comma_lw, nF_width_lw⟩ := hq
    have S_cs := Sta.keepN S_cs Kq (allS (Exa.nost E_lw) all0)
    have S_sio := Sta.keepN S_sio Kq (allS (Exa.nost E_lw) all0)
    have zn : n0 ≤ h9.size := Nat.le_trans zn Kq.1
    have E_t := E_t.keep Kq
    have F_bytes_t := F_bytes_t.keep Kq (ninS ne_t_lw nin0)
    have V_arr := V_arr.keep Kq (ninS ne_arr_lw nin0)
    have K := K.trans Kq (allS (Or.inl (List.mem_of_getElem? (i := 0) rfl)) all0)
    have E_lw := nE_lw
    have F_open_lw := nF_open_lw
    have F_blank_lw := nF_blank_lw
    have F_pageBreak_lw := nF_pageBreak_lw
    have F_comma_lw := nF_comma_lw
    have F_width_lw := nF_width_lw
    show G (T.setTop (mkF m 14 #[.val (.ref lw), .val (.ref t), .val (.int e1)] [(.int r8)]))
    refine popV w X d13_14 15 rfl rfl ?_
    refine goto w X d13_15 51 (by decide) (by decide) ?_
    refine retV w X rfl d13_51 (by decide) (by decide) ?_
    refine And.intro zk (And.intro hC ?_)
    have hv1 : (1 : Int32) = own_ev1 e1 bl := lf13_7 e1 bl hc2_1
    have hv2 : pb = own_ev2 e1 pb := lf13_8 e1 pb hc2_1
    exact ⟨rfl, K, E_lw, F_open_lw, by rw [← hv1]; exact F_blank_lw, by rw [← hv2]; exact F_pageBreak_lw, F_comma_lw, F_width_lw⟩
set_option maxRecDepth 65536 in
set_option maxHeartbeats 40000000 in
theorem rm_skG {l : Launch} {Z : State} {a0 : Array Value} (hw : ∀ d ∈ tables_1, d.before a0 Z = true) (t arr : Addr) (bs : List Int32) (kk : Nat) (h : Heap) (n0 : Nat) (zn : n0 ≤ h.size) (E_t : Exa Z h t "com/example/clauseline/clauseline/ContractText") (F_bytes_t : Fld Z h t "com/example/clauseline/clauseline/ContractText" "bytes" "[B" (.ref arr)) (V_arr : PA Z h arr .byte bs) (hlen : bs.length = 19) (hkk : kk ≤ 8) (hpad : ∀ i, 8 - kk ≤ i → i < 8 → bs.getD i 0 = 32) (h8 : own_sp1 (bs.getD 8 0) = 0) :
    Met l Z (⟨"com/example/clauseline/clauseline/ContractText", "skipSpaces", "(II)I"⟩ : MethodName) prog_22_method_20_code 4 (some .int) [] ({ frames := 1, cells := 0, slots := 0, locals := 12 } : Room) #[(.ref t), (.int (Int32.ofNat (8 - kk))), (.int (12 : Int32))] h n0 (RI fun r h' => h' = h ∧ r = (8 : Int32)) := by
  refine start (ls := #[.val (.ref t), .val (.int (Int32.ofNat (8 - kk))), .val (.int (12 : Int32)), .unset]) (plainFor_of_name pn16) (fun m => by first | (simp [entryFrame, mkF, argsToLocals, Value.category]; done) | rfl) ?_
  intro p e s m below meth c T G w X
  refine iloadN w X d15_0 1 rfl rfl ?_
  obtain ⟨i3_1, hi3_1⟩ : ∃ z : Int32, z = (Int32.ofNat (8 - kk)) := ⟨_, rfl⟩
  refine istoreN w X i3_1 d15_1 2 rfl hi3_1 #[.val (.ref t), .val (.int (Int32.ofNat (8 - kk))), .val (.int (12 : Int32)), .val (.int i3_1)] rfl ?_
  have Lp2 : ∀ (fuel : Nat) (T : State) (j : Nat), Sd p l e ({ frames := 1, cells := 0, slots := 0, locals := 12 } : Room) s m #[(.ref t), (.int (Int32.ofNat (8 - kk))), (.int (12 : Int32))] below meth c n0 T h 0 0 → ∀ (_ : True), (8 - kk ≤ j ∧ j ≤ 8) → 8 - j < fuel → G (T.setTop (mkF m 2 #[.val (.ref t), .val (.int (Int32.ofNat (8 - kk))), .val (.int (12 : Int32)), .val (.int (Int32.ofNat j))] [])) := by
    intro fuel
    induction fuel with
    | zero => exact fun T _ _ _ _ q => absurd q (Nat.not_lt_zero _)
    | succ fuel ih =>
      intro T j X _ hinv hfuel
      refine iloadN w X d15_2 3 rfl rfl ?_
      refine iloadN w X d15_3 4 rfl rfl ?_
      refine icmp_ge w X d15_4 25 7 (by decide) (by decide) rfl (fun q => False.elim (by exact q (own_lt12 (by omega)))) (fun hc4_2 => ?_)
      refine aloadN w X d15_7 8 rfl rfl rfl ?_
      refine getfield w X (wd66 hw) Via.refl F_bytes_t d15_8 11 rfl (fun T X => ?_)
      refine iloadN w X d15_11 12 rfl rfl ?_
      obtain ⟨r3, hr3⟩ : ∃ z : Int32, z = (bs.getD j 0) := ⟨_, rfl⟩
      refine baload w X V_arr (own_ix j (by omega)).1 j (own_ix j (by omega)).2 (by rw [hlen]; omega) d15_12 13 rfl r3 hr3 ?_
      refine callSPI w X [(.int r3)] (wd88 hw) (wd89 hw) (wd41 hw) (wd90 hw) (by decide) (rm_own_sp1 hw r3 h n0 zn) d15_13 16 rfl 0 (by decide) (by decide) (lenOf pd5 rfl) rfl (Nat.le_of_eq rfl) rfl (by decide) (by decide) (fun r4 T X hq => ?_)
      have hr4 := hq
      refine if_eq w X d15_16 25 19 (by decide) (by decide) rfl (fun hc16_5 => ?_) (fun hc16_5 => ?_)
      ·
        refine iloadN w X d15_25 26 rfl rfl ?_
        refine retI w X rfl d15_26 (by decide) (by decide) ?_
        obtain rfl : j = 8 := own_stop hpad hinv hr3 hr4 hc16_5
        exact ⟨_, rfl, rfl, rfl⟩
      ·
        obtain ⟨i3_6, hi3_6⟩ : ∃ z : Int32, z = ((Int32.ofNat j) + (1 : Int32)) := ⟨_, rfl⟩
        refine iinc w X i3_6 d15_19 22 rfl rfl hi3_6 #[.val (.ref t), .val (.int (Int32.ofNat (8 - kk))), .val (.int (12 : Int32)), .val (.int i3_6)] rfl ?_
        refine goto w X d15_22 2 (by decide) (by decide) ?_
        have hlt := own_more h8 hinv hr3 hr4 hc16_5
        rw [own_s j] at hi3_6
        subst hi3_6
        exact ih T (j + 1) X trivial (⟨by omega, by omega⟩) (by omega)
  subst hi3_1
  exact Lp2 _ T (8 - kk) X trivial (⟨Nat.le_refl _, Nat.sub_le _ _⟩) (Nat.lt_succ_self _)
theorem d35_0 : decode prog_19_method_9_code 0 = .ok (.iload_n 1, 1) := by decide +kernel
theorem d35_1 : decode prog_19_method_9_code 1 = .ok (.bipush 9, 2) := by decide +kernel
theorem d35_3 : decode prog_19_method_9_code 3 = .ok (.if_icmp .ne 13, 3) := by decide +kernel
theorem d35_16 : decode prog_19_method_9_code 16 = .ok (.iload_n 1, 1) := by decide +kernel
theorem d35_17 : decode prog_19_method_9_code 17 = .ok (.invokestatic 23, 3) := by decide +kernel
theorem d35_20 : decode prog_19_method_9_code 20 = .ok (.ifCond .eq 7, 3) := by decide +kernel
theorem d35_27 : decode prog_19_method_9_code 27 = .ok (.iload_n 0, 1) := by decide +kernel
theorem d35_28 : decode prog_19_method_9_code 28 = .ok (.iconst 1, 1) := by decide +kernel
theorem d35_29 : decode prog_19_method_9_code 29 = .ok (.iadd, 1) := by decide +kernel
theorem d35_30 : decode prog_19_method_9_code 30 = .ok (.ireturn, 1) := by decide +kernel
theorem pn35 : plainName "com/example/clauseline/clauseline/Columns" = true := by first | (simp [plainName, overriddenIn]; done) | decide +kernel
set_option maxRecDepth 65536 in
set_option maxHeartbeats 40000000 in
theorem rm_adv {l : Launch} {Z : State} {a0 : Array Value} (hw : ∀ d ∈ tables_1, d.before a0 Z = true) (c0 v : Int32) (h : Heap) (n0 : Nat) (zn : n0 ≤ h.size) (hv9 : ¬ v = 9) (hct : own_ct v = 0) :
    Met l Z (⟨"com/example/clauseline/clauseline/Columns", "advance", "(IB)I"⟩ : MethodName) prog_19_method_9_code 2 (some .int) [] ({ frames := 1, cells := 0, slots := 0, locals := 12 } : Room) #[(.int c0), (.int v)] h n0 (RI fun r h' => h' = h ∧ r = c0 + (1 : Int32)) := by
  refine start (ls := #[.val (.int c0), .val (.int v)]) (plainFor_of_name pn35) (fun m => by first | (simp [entryFrame, mkF, argsToLocals, Value.category]; done) | rfl) ?_
  intro p e s m below meth c T G w X
  refine iloadN w X d35_0 1 rfl rfl ?_
  refine bipush w X (9 : Int32) d35_1 3 rfl rfl ?_
  refine icmp_ne w X d35_3 16 6 (by decide) (by decide) rfl (fun hc3_1 => ?_) (fun q => False.elim (by exact hv9 q))
  refine iloadN w X d35_16 17 rfl rfl ?_
  refine callSPI w X [(.int v)] (wd175 hw) (wd176 hw) (wd41 hw) (wd177 hw) (by decide) (rm_own_ct hw v h n0 zn) d35_17 20 rfl 0 (by decide) (by decide) (lenOf pd5 rfl) rfl (Nat.le_of_eq rfl) rfl (by decide) (by decide) (fun r2 T X hq => ?_)
  have hr2 := hq
  refine if_eq w X d35_20 27 23 (by decide) (by decide) rfl (fun hc20_3 => ?_) (fun q => False.elim (by exact q (hr2.trans hct)))
  refine iloadN w X d35_27 28 rfl rfl ?_
  refine iconst w X (1 : Int32) d35_28 29 rfl rfl ?_
  refine iadd w X (c0 + (1 : Int32)) d35_29 30 rfl rfl ?_
  refine retI w X rfl d35_30 (by decide) (by decide) ?_
  exact ⟨_, rfl, rfl, rfl⟩
theorem d34_0 : decode prog_19_method_2_code 0 = .ok (.iconst 0, 1) := by decide +kernel
theorem d34_1 : decode prog_19_method_2_code 1 = .ok (.istore_n 3, 1) := by decide +kernel
theorem d34_2 : decode prog_19_method_2_code 2 = .ok (.iload_n 1, 1) := by decide +kernel
theorem d34_3 : decode prog_19_method_2_code 3 = .ok (.istore 4, 2) := by decide +kernel
theorem d34_5 : decode prog_19_method_2_code 5 = .ok (.iload 4, 2) := by decide +kernel
theorem d34_7 : decode prog_19_method_2_code 7 = .ok (.iload_n 2, 1) := by decide +kernel
theorem d34_8 : decode prog_19_method_2_code 8 = .ok (.if_icmp .ge 20, 3) := by decide +kernel
theorem d34_11 : decode prog_19_method_2_code 11 = .ok (.iload_n 3, 1) := by decide +kernel
theorem d34_12 : decode prog_19_method_2_code 12 = .ok (.aload_n 0, 1) := by decide +kernel
theorem d34_13 : decode prog_19_method_2_code 13 = .ok (.iload 4, 2) := by decide +kernel
theorem d34_15 : decode prog_19_method_2_code 15 = .ok (.invokevirtual 13, 3) := by decide +kernel
theorem d34_18 : decode prog_19_method_2_code 18 = .ok (.invokestatic 19, 3) := by decide +kernel
theorem d34_21 : decode prog_19_method_2_code 21 = .ok (.istore_n 3, 1) := by decide +kernel
theorem d34_22 : decode prog_19_method_2_code 22 = .ok (.iinc 4 1, 3) := by decide +kernel
theorem d34_25 : decode prog_19_method_2_code 25 = .ok (.goto (-20), 3) := by decide +kernel
theorem d34_28 : decode prog_19_method_2_code 28 = .ok (.iload_n 3, 1) := by decide +kernel
theorem d34_29 : decode prog_19_method_2_code 29 = .ok (.ireturn, 1) := by decide +kernel
set_option maxRecDepth 65536 in
set_option maxHeartbeats 40000000 in
theorem rm_wdG {l : Launch} {Z : State} {a0 : Array Value} (hw : ∀ d ∈ tables_1, d.before a0 Z = true) (t arr : Addr) (bs : List Int32) (kk : Nat) (h : Heap) (n0 : Nat) (zn : n0 ≤ h.size) (E_t : Exa Z h t "com/example/clauseline/clauseline/ContractText") (F_bytes_t : Fld Z h t "com/example/clauseline/clauseline/ContractText" "bytes" "[B" (.ref arr)) (V_arr : PA Z h arr .byte bs) (hlen : bs.length = 19) (hkk : kk ≤ 8) (hct : ∀ i, 8 - kk ≤ i → i < 12 → ¬ bs.getD i 0 = 9 ∧ own_ct (bs.getD i 0) = 0) :
    Met l Z (⟨"com/example/clauseline/clauseline/Columns", "width", "(Lcom/example/clauseline/clauseline/ContractText;II)I"⟩ : MethodName) prog_19_method_2_code 5 (some .int) [] ({ frames := 2, cells := 0, slots := 0, locals := 25 } : Room) #[(.ref t), (.int (Int32.ofNat (8 - kk))), (.int (12 : Int32))] h n0 (RI fun r h' => h' = h ∧ r = Int32.ofNat (4 + kk)) := by
  refine start (ls := #[.val (.ref t), .val (.int (Int32.ofNat (8 - kk))), .val (.int (12 : Int32)), .unset, .unset]) (plainFor_of_name pn35) (fun m => by first | (simp [entryFrame, mkF, argsToLocals, Value.category]; done) | rfl) ?_
  intro p e s m below meth c T G w X
  refine iconst w X (0 : Int32) d34_0 1 rfl rfl ?_
  refine istoreN w X (0 : Int32) d34_1 2 rfl rfl #[.val (.ref t), .val (.int (Int32.ofNat (8 - kk))), .val (.int (12 : Int32)), .val (.int (0 : Int32)), .unset] rfl ?_
  refine iloadN w X d34_2 3 rfl rfl ?_
  obtain ⟨i4_1, hi4_1⟩ : ∃ z : Int32, z = (Int32.ofNat (8 - kk)) := ⟨_, rfl⟩
  refine istore w X i4_1 d34_3 5 rfl hi4_1 #[.val (.ref t), .val (.int (Int32.ofNat (8 - kk))), .val (.int (12 : Int32)), .val (.int (0 : Int32)), .val (.int i4_1)] rfl ?_
  have Lp5 : ∀ (fuel : Nat) (T : State) (n : Nat), Sd p l e ({ frames := 2, cells := 0, slots := 0, locals := 25 } : Room) s m #[(.ref t), (.int (Int32.ofNat (8 - kk))), (.int (12 : Int32))] below meth c n0 T h 0 0 → ∀ (_ : True), (n ≤ 4 + kk) → 4 + kk - n < fuel → G (T.setTop (mkF m 5 #[.val (.ref t), .val (.int (Int32.ofNat (8 - kk))), .val (.int (12 : Int32)), .val (.int (Int32.ofNat n)), .val (.int (Int32.ofNat (8 - kk + n)))] [])) := by
    intro fuel
    induction fuel with
    | zero => exact fun T _ _ _ _ q => absurd q (Nat.not_lt_zero _)
    | succ fuel ih =>
      intro T n X _ hinv hfuel
      refine iload w X d34_5 7 rfl rfl ?_
      refine iloadN w X d34_7 8 rfl rfl ?_
      refine icmp_ge w X d34_8 28 11 (by decide) (by decide) rfl (fun hc8_2 => ?_) (fun hc8_2 => ?_)
      ·
        refine iloadN w X d34_28 29 rfl rfl ?_
        refine retI w X rfl d34_29 (by decide) (by decide) ?_
        have hend := own_nlt12 (by omega) hc8_2
        obtain rfl : n = 4 + kk := by omega
        exact ⟨_, rfl, rfl, rfl⟩
      ·
        refine iloadN w X d34_11 12 rfl rfl ?_
        refine aloadN w X d34_12 13 rfl rfl rfl ?_
        refine iload w X d34_13 15 rfl rfl ?_
        refine callVPI w X [(.int (Int32.ofNat (8 - kk + n)))] (wd171 hw) (wd104 hw) (notFace_of_selects (args := #[]) (mvT w.2.2.2.2.1 (wd106 hw))) (wd106 hw) (wd105 hw) (wd41 hw) (wd107 hw) (by decide) E_t (rm_baG hw t arr bs (8 - kk + n) h n0 zn E_t F_bytes_t V_arr (by rw [hlen]; omega) (by omega)) d34_15 18 rfl 1 (by decide) (by decide) (lenOf pd8 rfl) rfl (Nat.le_of_eq rfl) rfl (by decide) (by decide) (fun r3 T X hq => ?_)
        have hr3 := hq
        refine callSPI w X [(.int (Int32.ofNat n)), (.int r3)] (wd172 hw) (wd173 hw) (wd169 hw) (wd174 hw) (by decide) (rm_adv hw (Int32.ofNat n) r3 h n0 zn (by rw [hr3]; exact (hct _ (by omega) (own_ltN (by omega) hc8_2)).1) (by rw [hr3]; exact (hct _ (by omega) (own_ltN (by omega) hc8_2)).2)) d34_18 21 rfl 0 (by decide) (by decide) (lenOf pd13 rfl) rfl (Nat.le_of_eq rfl) rfl (by decide) (by decide) (fun r4 T X hq => ?_)
        have hr4 := hq
        refine istoreN w X r4 d34_21 22 rfl rfl #[.val (.ref t), .val (.int (Int32.ofNat (8 - kk))), .val (.int (12 : Int32)), .val (.int r4), .val (.int (Int32.ofNat (8 - kk + n)))] rfl ?_
        obtain ⟨i4_5, hi4_5⟩ : ∃ z : Int32, z = ((Int32.ofNat (8 - kk + n)) + (1 : Int32)) := ⟨_, rfl⟩
        refine iinc w X i4_5 d34_22 25 rfl rfl hi4_5 #[.val (.ref t), .val (.int (Int32.ofNat (8 - kk))), .val (.int (12 : Int32)), .val (.int r4), .val (.int i4_5)] rfl ?_
        refine goto w X d34_25 5 (by decide) (by decide) ?_
        have hlt := own_ltN (by omega) hc8_2
        rw [own_s _] at hi4_5
        subst hi4_5
        rw [own_s _] at hr4
        subst hr4
        exact ih T (n + 1) X trivial (by omega) (by omega)
  subst hi4_1
  exact Lp5 _ T 0 X trivial (Nat.zero_le _) (Nat.lt_succ_self _)
set_option maxRecDepth 65536 in
set_option maxHeartbeats 40000000 in
theorem rm_textEnd_15 {l : Launch} {Z : State} {a0 : Array Value} (hw : ∀ d ∈ tables_1, d.before a0 Z = true) (t arr : Addr) (p0 p1 p2 p3 p4 p5 p6 p7 : Int32) (h : Heap) (n0 : Nat) (zn : n0 ≤ h.size) (E_t : Exa Z h t "com/example/clauseline/clauseline/ContractText") (F_bytes_t : Fld Z h t "com/example/clauseline/clauseline/ContractText" "bytes" "[B" (.ref arr)) (V_arr : PA Z h arr .byte [p0, p1, p2, p3, p4, p5, p6, p7, (97 : Int32), (98 : Int32), (99 : Int32), (44 : Int32), (10 : Int32), (60 : Int32), (10 : Int32), (45 : Int32), (45 : Int32), (10 : Int32), (32 : Int32)]) :
    Met l Z (⟨"com/example/clauseline/clauseline/LineWrap", "textEnd", "(Lcom/example/clauseline/clauseline/ContractText;II)I"⟩ : MethodName) prog_47_method_14_code 4 (some .int) [] ({ frames := 1, cells := 0, slots := 0, locals := 13 } : Room) #[(.ref t), (.int (8 : Int32)), (.int (12 : Int32))] h n0 (RI fun r h' => h' = h ∧ r = (12 : Int32)) := by
  refine start (ls := #[.val (.ref t), .val (.int (8 : Int32)), .val (.int (12 : Int32)), .unset]) (plainFor_of_name pn20) (fun m => by first | (simp [entryFrame, mkF, argsToLocals, Value.category]; done) | rfl) ?_
  intro p e s m below meth c T G w X
  refine iloadN w X d17_0 1 rfl rfl ?_
  refine istoreN w X (12 : Int32) d17_1 2 rfl rfl #[.val (.ref t), .val (.int (8 : Int32)), .val (.int (12 : Int32)), .val (.int (12 : Int32))] rfl ?_
  refine iloadN w X d17_2 3 rfl rfl ?_
  refine iloadN w X d17_3 4 rfl rfl ?_
  refine icmp_le w X d17_4 26 7 (by decide) (by decide) rfl (fun q => absurd q (by decide)) (fun hc4_1 => ?_)
  refine aloadN w X d17_7 8 rfl rfl rfl ?_
  refine iloadN w X d17_8 9 rfl rfl ?_
  refine iconst w X (1 : Int32) d17_9 10 rfl rfl ?_
  refine isub w X (11 : Int32) d17_10 11 rfl (by decide) ?_
  refine callVPI w X [(.int (11 : Int32))] (wd103 hw) (wd104 hw) (notFace_of_selects (args := #[]) (mvT w.2.2.2.2.1 (wd106 hw))) (wd106 hw) (wd105 hw) (wd41 hw) (wd107 hw) (by decide) E_t (rm_baG hw t arr [p0, p1, p2, p3, p4, p5, p6, p7, (97 : Int32), (98 : Int32), (99 : Int32), (44 : Int32), (10 : Int32), (60 : Int32), (10 : Int32), (45 : Int32), (45 : Int32), (10 : Int32), (32 : Int32)] 11 h n0 zn E_t F_bytes_t V_arr (Nat.le_of_ble_eq_true rfl) (Nat.le_of_ble_eq_true rfl)) d17_11 14 rfl 0 (by decide) (by decide) (lenOf pd8 rfl) rfl (Nat.le_of_eq rfl) rfl (by decide) (by decide) (fun r2 T X hq => ?_)
  obtain rfl : r2 = (44 : Int32) := hq
  refine callSPI w X [(.int (44 : Int32))] (wd108 hw) (wd109 hw) (wd70 hw) (wd110 hw) (by decide) (rm_own_sp2 hw (44 : Int32) h n0 zn) d17_14 17 rfl 0 (by decide) (by decide) (lenOf pd5 rfl) rfl (Nat.le_of_eq rfl) rfl (by decide) (by decide) (fun r3 T X hq => ?_)
  obtain rfl : r3 = (0 : Int32) := hq.trans (by decide)
  refine if_eq w X d17_17 26 20 (by decide) (by decide) rfl (fun hc17_4 => ?_) (fun q => absurd q (by decide))
  refine iloadN w X d17_26 27 rfl rfl ?_
  refine retI w X rfl d17_27 (by decide) (by decide) ?_
  exact ⟨(12 : Int32), rfl, rfl, rfl⟩
set_option maxRecDepth 65536 in
set_option maxHeartbeats 40000000 in
theorem rm_textEnd_16 {l : Launch} {Z : State} {a0 : Array Value} (hw : ∀ d ∈ tables_1, d.before a0 Z = true) (t arr : Addr) (p0 p1 p2 p3 p4 p5 p6 p7 : Int32) (h : Heap) (n0 : Nat) (zn : n0 ≤ h.size) (E_t : Exa Z h t "com/example/clauseline/clauseline/ContractText") (F_bytes_t : Fld Z h t "com/example/clauseline/clauseline/ContractText" "bytes" "[B" (.ref arr)) (V_arr : PA Z h arr .byte [p0, p1, p2, p3, p4, p5, p6, p7, (120 : Int32), (32 : Int32), (97 : Int32), (98 : Int32), (10 : Int32), (60 : Int32), (10 : Int32), (45 : Int32), (45 : Int32), (10 : Int32), (32 : Int32)]) :
    Met l Z (⟨"com/example/clauseline/clauseline/LineWrap", "textEnd", "(Lcom/example/clauseline/clauseline/ContractText;II)I"⟩ : MethodName) prog_47_method_14_code 4 (some .int) [] ({ frames := 1, cells := 0, slots := 0, locals := 13 } : Room) #[(.ref t), (.int (8 : Int32)), (.int (12 : Int32))] h n0 (RI fun r h' => h' = h ∧ r = (12 : Int32)) := by
  refine start (ls := #[.val (.ref t), .val (.int (8 : Int32)), .val (.int (12 : Int32)), .unset]) (plainFor_of_name pn20) (fun m => by first | (simp [entryFrame, mkF, argsToLocals, Value.category]; done) | rfl) ?_
  intro p e s m below meth c T G w X
  refine iloadN w X d17_0 1 rfl rfl ?_
  refine istoreN w X (12 : Int32) d17_1 2 rfl rfl #[.val (.ref t), .val (.int (8 : Int32)), .val (.int (12 : Int32)), .val (.int (12 : Int32))] rfl ?_
  refine iloadN w X d17_2 3 rfl rfl ?_
  refine iloadN w X d17_3 4 rfl rfl ?_
  refine icmp_le w X d17_4 26 7 (by decide) (by decide) rfl (fun q => absurd q (by decide)) (fun hc4_1 => ?_)
  refine aloadN w X d17_7 8 rfl rfl rfl ?_
  refine iloadN w X d17_8 9 rfl rfl ?_
  refine iconst w X (1 : Int32) d17_9 10 rfl rfl ?_
  refine isub w X (11 : Int32) d17_10 11 rfl (by decide) ?_
  refine callVPI w X [(.int (11 : Int32))] (wd103 hw) (wd104 hw) (notFace_of_selects (args := #[]) (mvT w.2.2.2.2.1 (wd106 hw))) (wd106 hw) (wd105 hw) (wd41 hw) (wd107 hw) (by decide) E_t (rm_baG hw t arr [p0, p1, p2, p3, p4, p5, p6, p7, (120 : Int32), (32 : Int32), (97 : Int32), (98 : Int32), (10 : Int32), (60 : Int32), (10 : Int32), (45 : Int32), (45 : Int32), (10 : Int32), (32 : Int32)] 11 h n0 zn E_t F_bytes_t V_arr (Nat.le_of_ble_eq_true rfl) (Nat.le_of_ble_eq_true rfl)) d17_11 14 rfl 0 (by decide) (by decide) (lenOf pd8 rfl) rfl (Nat.le_of_eq rfl) rfl (by decide) (by decide) (fun r2 T X hq => ?_)
  obtain rfl : r2 = (98 : Int32) := hq
  refine callSPI w X [(.int (98 : Int32))] (wd108 hw) (wd109 hw) (wd70 hw) (wd110 hw) (by decide) (rm_own_sp2 hw (98 : Int32) h n0 zn) d17_14 17 rfl 0 (by decide) (by decide) (lenOf pd5 rfl) rfl (Nat.le_of_eq rfl) rfl (by decide) (by decide) (fun r3 T X hq => ?_)
  obtain rfl : r3 = (0 : Int32) := hq.trans (by decide)
  refine if_eq w X d17_17 26 20 (by decide) (by decide) rfl (fun hc17_4 => ?_) (fun q => absurd q (by decide))
  refine iloadN w X d17_26 27 rfl rfl ?_
  refine retI w X rfl d17_27 (by decide) (by decide) ?_
  exact ⟨(12 : Int32), rfl, rfl, rfl⟩
set_option maxRecDepth 65536 in
set_option maxHeartbeats 40000000 in
theorem rm_textEnd_17 {l : Launch} {Z : State} {a0 : Array Value} (hw : ∀ d ∈ tables_1, d.before a0 Z = true) (t arr : Addr) (p0 p1 p2 p3 p4 p5 p6 p7 : Int32) (h : Heap) (n0 : Nat) (zn : n0 ≤ h.size) (E_t : Exa Z h t "com/example/clauseline/clauseline/ContractText") (F_bytes_t : Fld Z h t "com/example/clauseline/clauseline/ContractText" "bytes" "[B" (.ref arr)) (V_arr : PA Z h arr .byte [p0, p1, p2, p3, p4, p5, p6, p7, (120 : Int32), (32 : Int32), (65 : Int32), (98 : Int32), (10 : Int32), (60 : Int32), (10 : Int32), (45 : Int32), (45 : Int32), (10 : Int32), (32 : Int32)]) :
    Met l Z (⟨"com/example/clauseline/clauseline/LineWrap", "textEnd", "(Lcom/example/clauseline/clauseline/ContractText;II)I"⟩ : MethodName) prog_47_method_14_code 4 (some .int) [] ({ frames := 1, cells := 0, slots := 0, locals := 13 } : Room) #[(.ref t), (.int (8 : Int32)), (.int (12 : Int32))] h n0 (RI fun r h' => h' = h ∧ r = (12 : Int32)) := by
  refine start (ls := #[.val (.ref t), .val (.int (8 : Int32)), .val (.int (12 : Int32)), .unset]) (plainFor_of_name pn20) (fun m => by first | (simp [entryFrame, mkF, argsToLocals, Value.category]; done) | rfl) ?_
  intro p e s m below meth c T G w X
  refine iloadN w X d17_0 1 rfl rfl ?_
  refine istoreN w X (12 : Int32) d17_1 2 rfl rfl #[.val (.ref t), .val (.int (8 : Int32)), .val (.int (12 : Int32)), .val (.int (12 : Int32))] rfl ?_
  refine iloadN w X d17_2 3 rfl rfl ?_
  refine iloadN w X d17_3 4 rfl rfl ?_
  refine icmp_le w X d17_4 26 7 (by decide) (by decide) rfl (fun q => absurd q (by decide)) (fun hc4_1 => ?_)
  refine aloadN w X d17_7 8 rfl rfl rfl ?_
  refine iloadN w X d17_8 9 rfl rfl ?_
  refine iconst w X (1 : Int32) d17_9 10 rfl rfl ?_
  refine isub w X (11 : Int32) d17_10 11 rfl (by decide) ?_
  refine callVPI w X [(.int (11 : Int32))] (wd103 hw) (wd104 hw) (notFace_of_selects (args := #[]) (mvT w.2.2.2.2.1 (wd106 hw))) (wd106 hw) (wd105 hw) (wd41 hw) (wd107 hw) (by decide) E_t (rm_baG hw t arr [p0, p1, p2, p3, p4, p5, p6, p7, (120 : Int32), (32 : Int32), (65 : Int32), (98 : Int32), (10 : Int32), (60 : Int32), (10 : Int32), (45 : Int32), (45 : Int32), (10 : Int32), (32 : Int32)] 11 h n0 zn E_t F_bytes_t V_arr (Nat.le_of_ble_eq_true rfl) (Nat.le_of_ble_eq_true rfl)) d17_11 14 rfl 0 (by decide) (by decide) (lenOf pd8 rfl) rfl (Nat.le_of_eq rfl) rfl (by decide) (by decide) (fun r2 T X hq => ?_)
  obtain rfl : r2 = (98 : Int32) := hq
  refine callSPI w X [(.int (98 : Int32))] (wd108 hw) (wd109 hw) (wd70 hw) (wd110 hw) (by decide) (rm_own_sp2 hw (98 : Int32) h n0 zn) d17_14 17 rfl 0 (by decide) (by decide) (lenOf pd5 rfl) rfl (Nat.le_of_eq rfl) rfl (by decide) (by decide) (fun r3 T X hq => ?_)
  obtain rfl : r3 = (0 : Int32) := hq.trans (by decide)
  refine if_eq w X d17_17 26 20 (by decide) (by decide) rfl (fun hc17_4 => ?_) (fun q => absurd q (by decide))
  refine iloadN w X d17_26 27 rfl rfl ?_
  refine retI w X rfl d17_27 (by decide) (by decide) ?_
  exact ⟨(12 : Int32), rfl, rfl, rfl⟩
set_option maxRecDepth 65536 in
set_option maxHeartbeats 40000000 in
theorem rm_textEnd_18 {l : Launch} {Z : State} {a0 : Array Value} (hw : ∀ d ∈ tables_1, d.before a0 Z = true) (t arr : Addr) (p0 p1 p2 p3 p4 p5 p6 p7 : Int32) (h : Heap) (n0 : Nat) (zn : n0 ≤ h.size) (E_t : Exa Z h t "com/example/clauseline/clauseline/ContractText") (F_bytes_t : Fld Z h t "com/example/clauseline/clauseline/ContractText" "bytes" "[B" (.ref arr)) (V_arr : PA Z h arr .byte [p0, p1, p2, p3, p4, p5, p6, p7, (97 : Int32), (98 : Int32), (99 : Int32), (46 : Int32), (10 : Int32), (60 : Int32), (10 : Int32), (45 : Int32), (45 : Int32), (10 : Int32), (32 : Int32)]) :
    Met l Z (⟨"com/example/clauseline/clauseline/LineWrap", "textEnd", "(Lcom/example/clauseline/clauseline/ContractText;II)I"⟩ : MethodName) prog_47_method_14_code 4 (some .int) [] ({ frames := 1, cells := 0, slots := 0, locals := 13 } : Room) #[(.ref t), (.int (8 : Int32)), (.int (12 : Int32))] h n0 (RI fun r h' => h' = h ∧ r = (12 : Int32)) := by
  refine start (ls := #[.val (.ref t), .val (.int (8 : Int32)), .val (.int (12 : Int32)), .unset]) (plainFor_of_name pn20) (fun m => by first | (simp [entryFrame, mkF, argsToLocals, Value.category]; done) | rfl) ?_
  intro p e s m below meth c T G w X
  refine iloadN w X d17_0 1 rfl rfl ?_
  refine istoreN w X (12 : Int32) d17_1 2 rfl rfl #[.val (.ref t), .val (.int (8 : Int32)), .val (.int (12 : Int32)), .val (.int (12 : Int32))] rfl ?_
  refine iloadN w X d17_2 3 rfl rfl ?_
  refine iloadN w X d17_3 4 rfl rfl ?_
  refine icmp_le w X d17_4 26 7 (by decide) (by decide) rfl (fun q => absurd q (by decide)) (fun hc4_1 => ?_)
  refine aloadN w X d17_7 8 rfl rfl rfl ?_
  refine iloadN w X d17_8 9 rfl rfl ?_
  refine iconst w X (1 : Int32) d17_9 10 rfl rfl ?_
  refine isub w X (11 : Int32) d17_10 11 rfl (by decide) ?_
  refine callVPI w X [(.int (11 : Int32))] (wd103 hw) (wd104 hw) (notFace_of_selects (args := #[]) (mvT w.2.2.2.2.1 (wd106 hw))) (wd106 hw) (wd105 hw) (wd41 hw) (wd107 hw) (by decide) E_t (rm_baG hw t arr [p0, p1, p2, p3, p4, p5, p6, p7, (97 : Int32), (98 : Int32), (99 : Int32), (46 : Int32), (10 : Int32), (60 : Int32), (10 : Int32), (45 : Int32), (45 : Int32), (10 : Int32), (32 : Int32)] 11 h n0 zn E_t F_bytes_t V_arr (Nat.le_of_ble_eq_true rfl) (Nat.le_of_ble_eq_true rfl)) d17_11 14 rfl 0 (by decide) (by decide) (lenOf pd8 rfl) rfl (Nat.le_of_eq rfl) rfl (by decide) (by decide) (fun r2 T X hq => ?_)
  obtain rfl : r2 = (46 : Int32) := hq
  refine callSPI w X [(.int (46 : Int32))] (wd108 hw) (wd109 hw) (wd70 hw) (wd110 hw) (by decide) (rm_own_sp2 hw (46 : Int32) h n0 zn) d17_14 17 rfl 0 (by decide) (by decide) (lenOf pd5 rfl) rfl (Nat.le_of_eq rfl) rfl (by decide) (by decide) (fun r3 T X hq => ?_)
  obtain rfl : r3 = (0 : Int32) := hq.trans (by decide)
  refine if_eq w X d17_17 26 20 (by decide) (by decide) rfl (fun hc17_4 => ?_) (fun q => absurd q (by decide))
  refine iloadN w X d17_26 27 rfl rfl ?_
  refine retI w X rfl d17_27 (by decide) (by decide) ?_
  exact ⟨(12 : Int32), rfl, rfl, rfl⟩
set_option maxRecDepth 65536 in
set_option maxHeartbeats 40000000 in
theorem rm_textEnd_19 {l : Launch} {Z : State} {a0 : Array Value} (hw : ∀ d ∈ tables_1, d.before a0 Z = true) (t arr : Addr) (p0 p1 p2 p3 p4 p5 p6 p7 : Int32) (h : Heap) (n0 : Nat) (zn : n0 ≤ h.size) (E_t : Exa Z h t "com/example/clauseline/clauseline/ContractText") (F_bytes_t : Fld Z h t "com/example/clauseline/clauseline/ContractText" "bytes" "[B" (.ref arr)) (V_arr : PA Z h arr .byte [p0, p1, p2, p3, p4, p5, p6, p7, (59 : Int32), (32 : Int32), (111 : Int32), (114 : Int32), (10 : Int32), (60 : Int32), (10 : Int32), (45 : Int32), (45 : Int32), (10 : Int32), (32 : Int32)]) :
    Met l Z (⟨"com/example/clauseline/clauseline/LineWrap", "textEnd", "(Lcom/example/clauseline/clauseline/ContractText;II)I"⟩ : MethodName) prog_47_method_14_code 4 (some .int) [] ({ frames := 1, cells := 0, slots := 0, locals := 13 } : Room) #[(.ref t), (.int (8 : Int32)), (.int (12 : Int32))] h n0 (RI fun r h' => h' = h ∧ r = (12 : Int32)) := by
  refine start (ls := #[.val (.ref t), .val (.int (8 : Int32)), .val (.int (12 : Int32)), .unset]) (plainFor_of_name pn20) (fun m => by first | (simp [entryFrame, mkF, argsToLocals, Value.category]; done) | rfl) ?_
  intro p e s m below meth c T G w X
  refine iloadN w X d17_0 1 rfl rfl ?_
  refine istoreN w X (12 : Int32) d17_1 2 rfl rfl #[.val (.ref t), .val (.int (8 : Int32)), .val (.int (12 : Int32)), .val (.int (12 : Int32))] rfl ?_
  refine iloadN w X d17_2 3 rfl rfl ?_
  refine iloadN w X d17_3 4 rfl rfl ?_
  refine icmp_le w X d17_4 26 7 (by decide) (by decide) rfl (fun q => absurd q (by decide)) (fun hc4_1 => ?_)
  refine aloadN w X d17_7 8 rfl rfl rfl ?_
  refine iloadN w X d17_8 9 rfl rfl ?_
  refine iconst w X (1 : Int32) d17_9 10 rfl rfl ?_
  refine isub w X (11 : Int32) d17_10 11 rfl (by decide) ?_
  refine callVPI w X [(.int (11 : Int32))] (wd103 hw) (wd104 hw) (notFace_of_selects (args := #[]) (mvT w.2.2.2.2.1 (wd106 hw))) (wd106 hw) (wd105 hw) (wd41 hw) (wd107 hw) (by decide) E_t (rm_baG hw t arr [p0, p1, p2, p3, p4, p5, p6, p7, (59 : Int32), (32 : Int32), (111 : Int32), (114 : Int32), (10 : Int32), (60 : Int32), (10 : Int32), (45 : Int32), (45 : Int32), (10 : Int32), (32 : Int32)] 11 h n0 zn E_t F_bytes_t V_arr (Nat.le_of_ble_eq_true rfl) (Nat.le_of_ble_eq_true rfl)) d17_11 14 rfl 0 (by decide) (by decide) (lenOf pd8 rfl) rfl (Nat.le_of_eq rfl) rfl (by decide) (by decide) (fun r2 T X hq => ?_)
  obtain rfl : r2 = (114 : Int32) := hq
  refine callSPI w X [(.int (114 : Int32))] (wd108 hw) (wd109 hw) (wd70 hw) (wd110 hw) (by decide) (rm_own_sp2 hw (114 : Int32) h n0 zn) d17_14 17 rfl 0 (by decide) (by decide) (lenOf pd5 rfl) rfl (Nat.le_of_eq rfl) rfl (by decide) (by decide) (fun r3 T X hq => ?_)
  obtain rfl : r3 = (0 : Int32) := hq.trans (by decide)
  refine if_eq w X d17_17 26 20 (by decide) (by decide) rfl (fun hc17_4 => ?_) (fun q => absurd q (by decide))
  refine iloadN w X d17_26 27 rfl rfl ?_
  refine retI w X rfl d17_27 (by decide) (by decide) ?_
  exact ⟨(12 : Int32), rfl, rfl, rfl⟩
set_option maxRecDepth 65536 in
set_option maxHeartbeats 40000000 in
theorem rm_textEnd_20 {l : Launch} {Z : State} {a0 : Array Value} (hw : ∀ d ∈ tables_1, d.before a0 Z = true) (t arr : Addr) (p0 p1 p2 p3 p4 p5 p6 p7 : Int32) (h : Heap) (n0 : Nat) (zn : n0 ≤ h.size) (E_t : Exa Z h t "com/example/clauseline/clauseline/ContractText") (F_bytes_t : Fld Z h t "com/example/clauseline/clauseline/ContractText" "bytes" "[B" (.ref arr)) (V_arr : PA Z h arr .byte [p0, p1, p2, p3, p4, p5, p6, p7, (120 : Int32), (32 : Int32), (111 : Int32), (114 : Int32), (10 : Int32), (60 : Int32), (10 : Int32), (45 : Int32), (45 : Int32), (10 : Int32), (32 : Int32)]) :
    Met l Z (⟨"com/example/clauseline/clauseline/LineWrap", "textEnd", "(Lcom/example/clauseline/clauseline/ContractText;II)I"⟩ : MethodName) prog_47_method_14_code 4 (some .int) [] ({ frames := 1, cells := 0, slots := 0, locals := 13 } : Room) #[(.ref t), (.int (8 : Int32)), (.int (12 : Int32))] h n0 (RI fun r h' => h' = h ∧ r = (12 : Int32)) := by
  refine start (ls := #[.val (.ref t), .val (.int (8 : Int32)), .val (.int (12 : Int32)), .unset]) (plainFor_of_name pn20) (fun m => by first | (simp [entryFrame, mkF, argsToLocals, Value.category]; done) | rfl) ?_
  intro p e s m below meth c T G w X
  refine iloadN w X d17_0 1 rfl rfl ?_
  refine istoreN w X (12 : Int32) d17_1 2 rfl rfl #[.val (.ref t), .val (.int (8 : Int32)), .val (.int (12 : Int32)), .val (.int (12 : Int32))] rfl ?_
  refine iloadN w X d17_2 3 rfl rfl ?_
  refine iloadN w X d17_3 4 rfl rfl ?_
  refine icmp_le w X d17_4 26 7 (by decide) (by decide) rfl (fun q => absurd q (by decide)) (fun hc4_1 => ?_)
  refine aloadN w X d17_7 8 rfl rfl rfl ?_
  refine iloadN w X d17_8 9 rfl rfl ?_
  refine iconst w X (1 : Int32) d17_9 10 rfl rfl ?_
  refine isub w X (11 : Int32) d17_10 11 rfl (by decide) ?_
  refine callVPI w X [(.int (11 : Int32))] (wd103 hw) (wd104 hw) (notFace_of_selects (args := #[]) (mvT w.2.2.2.2.1 (wd106 hw))) (wd106 hw) (wd105 hw) (wd41 hw) (wd107 hw) (by decide) E_t (rm_baG hw t arr [p0, p1, p2, p3, p4, p5, p6, p7, (120 : Int32), (32 : Int32), (111 : Int32), (114 : Int32), (10 : Int32), (60 : Int32), (10 : Int32), (45 : Int32), (45 : Int32), (10 : Int32), (32 : Int32)] 11 h n0 zn E_t F_bytes_t V_arr (Nat.le_of_ble_eq_true rfl) (Nat.le_of_ble_eq_true rfl)) d17_11 14 rfl 0 (by decide) (by decide) (lenOf pd8 rfl) rfl (Nat.le_of_eq rfl) rfl (by decide) (by decide) (fun r2 T X hq => ?_)
  obtain rfl : r2 = (114 : Int32) := hq
  refine callSPI w X [(.int (114 : Int32))] (wd108 hw) (wd109 hw) (wd70 hw) (wd110 hw) (by decide) (rm_own_sp2 hw (114 : Int32) h n0 zn) d17_14 17 rfl 0 (by decide) (by decide) (lenOf pd5 rfl) rfl (Nat.le_of_eq rfl) rfl (by decide) (by decide) (fun r3 T X hq => ?_)
  obtain rfl : r3 = (0 : Int32) := hq.trans (by decide)
  refine if_eq w X d17_17 26 20 (by decide) (by decide) rfl (fun hc17_4 => ?_) (fun q => absurd q (by decide))
  refine iloadN w X d17_26 27 rfl rfl ?_
  refine retI w X rfl d17_27 (by decide) (by decide) ?_
  exact ⟨(12 : Int32), rfl, rfl, rfl⟩
set_option maxRecDepth 65536 in
set_option maxHeartbeats 40000000 in
theorem rm_textEnd_21 {l : Launch} {Z : State} {a0 : Array Value} (hw : ∀ d ∈ tables_1, d.before a0 Z = true) (t arr : Addr) (p0 p1 p2 p3 p4 p5 p6 p7 : Int32) (h : Heap) (n0 : Nat) (zn : n0 ≤ h.size) (E_t : Exa Z h t "com/example/clauseline/clauseline/ContractText") (F_bytes_t : Fld Z h t "com/example/clauseline/clauseline/ContractText" "bytes" "[B" (.ref arr)) (V_arr : PA Z h arr .byte [p0, p1, p2, p3, p4, p5, p6, p7, (97 : Int32), (46 : Int32), (98 : Int32), (99 : Int32), (10 : Int32), (60 : Int32), (10 : Int32), (45 : Int32), (45 : Int32), (10 : Int32), (32 : Int32)]) :
    Met l Z (⟨"com/example/clauseline/clauseline/LineWrap", "textEnd", "(Lcom/example/clauseline/clauseline/ContractText;II)I"⟩ : MethodName) prog_47_method_14_code 4 (some .int) [] ({ frames := 1, cells := 0, slots := 0, locals := 13 } : Room) #[(.ref t), (.int (8 : Int32)), (.int (12 : Int32))] h n0 (RI fun r h' => h' = h ∧ r = (12 : Int32)) := by
  refine start (ls := #[.val (.ref t), .val (.int (8 : Int32)), .val (.int (12 : Int32)), .unset]) (plainFor_of_name pn20) (fun m => by first | (simp [entryFrame, mkF, argsToLocals, Value.category]; done) | rfl) ?_
  intro p e s m below meth c T G w X
  refine iloadN w X d17_0 1 rfl rfl ?_
  refine istoreN w X (12 : Int32) d17_1 2 rfl rfl #[.val (.ref t), .val (.int (8 : Int32)), .val (.int (12 : Int32)), .val (.int (12 : Int32))] rfl ?_
  refine iloadN w X d17_2 3 rfl rfl ?_
  refine iloadN w X d17_3 4 rfl rfl ?_
  refine icmp_le w X d17_4 26 7 (by decide) (by decide) rfl (fun q => absurd q (by decide)) (fun hc4_1 => ?_)
  refine aloadN w X d17_7 8 rfl rfl rfl ?_
  refine iloadN w X d17_8 9 rfl rfl ?_
  refine iconst w X (1 : Int32) d17_9 10 rfl rfl ?_
  refine isub w X (11 : Int32) d17_10 11 rfl (by decide) ?_
  refine callVPI w X [(.int (11 : Int32))] (wd103 hw) (wd104 hw) (notFace_of_selects (args := #[]) (mvT w.2.2.2.2.1 (wd106 hw))) (wd106 hw) (wd105 hw) (wd41 hw) (wd107 hw) (by decide) E_t (rm_baG hw t arr [p0, p1, p2, p3, p4, p5, p6, p7, (97 : Int32), (46 : Int32), (98 : Int32), (99 : Int32), (10 : Int32), (60 : Int32), (10 : Int32), (45 : Int32), (45 : Int32), (10 : Int32), (32 : Int32)] 11 h n0 zn E_t F_bytes_t V_arr (Nat.le_of_ble_eq_true rfl) (Nat.le_of_ble_eq_true rfl)) d17_11 14 rfl 0 (by decide) (by decide) (lenOf pd8 rfl) rfl (Nat.le_of_eq rfl) rfl (by decide) (by decide) (fun r2 T X hq => ?_)
  obtain rfl : r2 = (99 : Int32) := hq
  refine callSPI w X [(.int (99 : Int32))] (wd108 hw) (wd109 hw) (wd70 hw) (wd110 hw) (by decide) (rm_own_sp2 hw (99 : Int32) h n0 zn) d17_14 17 rfl 0 (by decide) (by decide) (lenOf pd5 rfl) rfl (Nat.le_of_eq rfl) rfl (by decide) (by decide) (fun r3 T X hq => ?_)
  obtain rfl : r3 = (0 : Int32) := hq.trans (by decide)
  refine if_eq w X d17_17 26 20 (by decide) (by decide) rfl (fun hc17_4 => ?_) (fun q => absurd q (by decide))
  refine iloadN w X d17_26 27 rfl rfl ?_
  refine retI w X rfl d17_27 (by decide) (by decide) ?_
  exact ⟨(12 : Int32), rfl, rfl, rfl⟩
set_option maxRecDepth 65536 in
set_option maxHeartbeats 40000000 in
theorem rm_textEnd_22 {l : Launch} {Z : State} {a0 : Array Value} (hw : ∀ d ∈ tables_1, d.before a0 Z = true) (t arr : Addr) (p0 p1 p2 p3 p4 p5 p6 p7 : Int32) (h : Heap) (n0 : Nat) (zn : n0 ≤ h.size) (E_t : Exa Z h t "com/example/clauseline/clauseline/ContractText") (F_bytes_t : Fld Z h t "com/example/clauseline/clauseline/ContractText" "bytes" "[B" (.ref arr)) (V_arr : PA Z h arr .byte [p0, p1, p2, p3, p4, p5, p6, p7, (65 : Int32), (66 : Int32), (67 : Int32), (68 : Int32), (10 : Int32), (60 : Int32), (10 : Int32), (45 : Int32), (45 : Int32), (10 : Int32), (32 : Int32)]) :
    Met l Z (⟨"com/example/clauseline/clauseline/LineWrap", "textEnd", "(Lcom/example/clauseline/clauseline/ContractText;II)I"⟩ : MethodName) prog_47_method_14_code 4 (some .int) [] ({ frames := 1, cells := 0, slots := 0, locals := 13 } : Room) #[(.ref t), (.int (8 : Int32)), (.int (12 : Int32))] h n0 (RI fun r h' => h' = h ∧ r = (12 : Int32)) := by
  refine start (ls := #[.val (.ref t), .val (.int (8 : Int32)), .val (.int (12 : Int32)), .unset]) (plainFor_of_name pn20) (fun m => by first | (simp [entryFrame, mkF, argsToLocals, Value.category]; done) | rfl) ?_
  intro p e s m below meth c T G w X
  refine iloadN w X d17_0 1 rfl rfl ?_
  refine istoreN w X (12 : Int32) d17_1 2 rfl rfl #[.val (.ref t), .val (.int (8 : Int32)), .val (.int (12 : Int32)), .val (.int (12 : Int32))] rfl ?_
  refine iloadN w X d17_2 3 rfl rfl ?_
  refine iloadN w X d17_3 4 rfl rfl ?_
  refine icmp_le w X d17_4 26 7 (by decide) (by decide) rfl (fun q => absurd q (by decide)) (fun hc4_1 => ?_)
  refine aloadN w X d17_7 8 rfl rfl rfl ?_
  refine iloadN w X d17_8 9 rfl rfl ?_
  refine iconst w X (1 : Int32) d17_9 10 rfl rfl ?_
  refine isub w X (11 : Int32) d17_10 11 rfl (by decide) ?_
  refine callVPI w X [(.int (11 : Int32))] (wd103 hw) (wd104 hw) (notFace_of_selects (args := #[]) (mvT w.2.2.2.2.1 (wd106 hw))) (wd106 hw) (wd105 hw) (wd41 hw) (wd107 hw) (by decide) E_t (rm_baG hw t arr [p0, p1, p2, p3, p4, p5, p6, p7, (65 : Int32), (66 : Int32), (67 : Int32), (68 : Int32), (10 : Int32), (60 : Int32), (10 : Int32), (45 : Int32), (45 : Int32), (10 : Int32), (32 : Int32)] 11 h n0 zn E_t F_bytes_t V_arr (Nat.le_of_ble_eq_true rfl) (Nat.le_of_ble_eq_true rfl)) d17_11 14 rfl 0 (by decide) (by decide) (lenOf pd8 rfl) rfl (Nat.le_of_eq rfl) rfl (by decide) (by decide) (fun r2 T X hq => ?_)
  obtain rfl : r2 = (68 : Int32) := hq
  refine callSPI w X [(.int (68 : Int32))] (wd108 hw) (wd109 hw) (wd70 hw) (wd110 hw) (by decide) (rm_own_sp2 hw (68 : Int32) h n0 zn) d17_14 17 rfl 0 (by decide) (by decide) (lenOf pd5 rfl) rfl (Nat.le_of_eq rfl) rfl (by decide) (by decide) (fun r3 T X hq => ?_)
  obtain rfl : r3 = (0 : Int32) := hq.trans (by decide)
  refine if_eq w X d17_17 26 20 (by decide) (by decide) rfl (fun hc17_4 => ?_) (fun q => absurd q (by decide))
  refine iloadN w X d17_26 27 rfl rfl ?_
  refine retI w X rfl d17_27 (by decide) (by decide) ?_
  exact ⟨(12 : Int32), rfl, rfl, rfl⟩
set_option maxRecDepth 65536 in
set_option maxHeartbeats 40000000 in
theorem rm_textEnd_T {l : Launch} {Z : State} {a0 : Array Value} (hw : ∀ d ∈ tables_1, d.before a0 Z = true) (t arr : Addr) (p0 p1 p2 p3 p4 p5 p6 p7 u0 u1 u2 u3 op : Int32) (h : Heap) (n0 : Nat) (zn : n0 ≤ h.size) (E_t : Exa Z h t "com/example/clauseline/clauseline/ContractText") (F_bytes_t : Fld Z h t "com/example/clauseline/clauseline/ContractText" "bytes" "[B" (.ref arr)) (V_arr : PA Z h arr .byte [p0, p1, p2, p3, p4, p5, p6, p7, u0, u1, u2, u3, (10 : Int32), (60 : Int32), (10 : Int32), (45 : Int32), (45 : Int32), (10 : Int32), (32 : Int32)]) (hU : (u0 = (97 : Int32) ∧ u1 = (98 : Int32) ∧ u2 = (99 : Int32) ∧ u3 = (44 : Int32) ∧ op = (1 : Int32)) ∨ (u0 = (120 : Int32) ∧ u1 = (32 : Int32) ∧ u2 = (97 : Int32) ∧ u3 = (98 : Int32) ∧ op = (1 : Int32)) ∨ (u0 = (120 : Int32) ∧ u1 = (32 : Int32) ∧ u2 = (65 : Int32) ∧ u3 = (98 : Int32) ∧ op = (0 : Int32)) ∨ (u0 = (97 : Int32) ∧ u1 = (98 : Int32) ∧ u2 = (99 : Int32) ∧ u3 = (46 : Int32) ∧ op = (0 : Int32)) ∨ (u0 = (59 : Int32) ∧ u1 = (32 : Int32) ∧ u2 = (111 : Int32) ∧ u3 = (114 : Int32) ∧ op = (0 : Int32)) ∨ (u0 = (120 : Int32) ∧ u1 = (32 : Int32) ∧ u2 = (111 : Int32) ∧ u3 = (114 : Int32) ∧ op = (1 : Int32)) ∨ (u0 = (97 : Int32) ∧ u1 = (46 : Int32) ∧ u2 = (98 : Int32) ∧ u3 = (99 : Int32) ∧ op = (0 : Int32)) ∨ (u0 = (65 : Int32) ∧ u1 = (66 : Int32) ∧ u2 = (67 : Int32) ∧ u3 = (68 : Int32) ∧ op = (0 : Int32))) :
    Met l Z (⟨"com/example/clauseline/clauseline/LineWrap", "textEnd", "(Lcom/example/clauseline/clauseline/ContractText;II)I"⟩ : MethodName) prog_47_method_14_code 4 (some .int) [] ({ frames := 1, cells := 0, slots := 0, locals := 13 } : Room) #[.ref t, .int (8 : Int32), .int (12 : Int32)] h n0 (RI fun r h' => h' = h ∧ r = (12 : Int32)) := by
  rcases hU with ⟨rfl, rfl, rfl, rfl, rfl⟩ | ⟨rfl, rfl, rfl, rfl, rfl⟩ | ⟨rfl, rfl, rfl, rfl, rfl⟩ | ⟨rfl, rfl, rfl, rfl, rfl⟩ | ⟨rfl, rfl, rfl, rfl, rfl⟩ | ⟨rfl, rfl, rfl, rfl, rfl⟩ | ⟨rfl, rfl, rfl, rfl, rfl⟩ | ⟨rfl, rfl, rfl, rfl, rfl⟩
  · exact rm_textEnd_15 hw t arr p0 p1 p2 p3 p4 p5 p6 p7 h n0 zn E_t F_bytes_t V_arr
  · exact rm_textEnd_16 hw t arr p0 p1 p2 p3 p4 p5 p6 p7 h n0 zn E_t F_bytes_t V_arr
  · exact rm_textEnd_17 hw t arr p0 p1 p2 p3 p4 p5 p6 p7 h n0 zn E_t F_bytes_t V_arr
  · exact rm_textEnd_18 hw t arr p0 p1 p2 p3 p4 p5 p6 p7 h n0 zn E_t F_bytes_t V_arr
  · exact rm_textEnd_19 hw t arr p0 p1 p2 p3 p4 p5 p6 p7 h n0 zn E_t F_bytes_t V_arr
  · exact rm_textEnd_20 hw t arr p0 p1 p2 p3 p4 p5 p6 p7 h n0 zn E_t F_bytes_t V_arr
  · exact rm_textEnd_21 hw t arr p0 p1 p2 p3 p4 p5 p6 p7 h n0 zn E_t F_bytes_t V_arr
  · exact rm_textEnd_22 hw t arr p0 p1 p2 p3 p4 p5 p6 p7 h n0 zn E_t F_bytes_t V_arr
set_option maxRecDepth 65536 in
set_option maxHeartbeats 40000000 in
theorem rm_isMark_24 {l : Launch} {Z : State} {a0 : Array Value} (hw : ∀ d ∈ tables_1, d.before a0 Z = true) (t arr : Addr) (p0 p1 p2 p3 p4 p5 p6 p7 : Int32) (h : Heap) (n0 : Nat) (zn : n0 ≤ h.size) (E_t : Exa Z h t "com/example/clauseline/clauseline/ContractText") (F_bytes_t : Fld Z h t "com/example/clauseline/clauseline/ContractText" "bytes" "[B" (.ref arr)) (V_arr : PA Z h arr .byte [p0, p1, p2, p3, p4, p5, p6, p7, (97 : Int32), (98 : Int32), (99 : Int32), (44 : Int32), (10 : Int32), (60 : Int32), (10 : Int32), (45 : Int32), (45 : Int32), (10 : Int32), (32 : Int32)]) :
    Met l Z (⟨"com/example/clauseline/clauseline/LineWrap", "isMark", "(Lcom/example/clauseline/clauseline/ContractText;II)Z"⟩ : MethodName) prog_47_method_18_code 4 (some .boolean) [] ({ frames := 1, cells := 0, slots := 0, locals := 13 } : Room) #[(.ref t), (.int (8 : Int32)), (.int (12 : Int32))] h n0 (RI fun r h' => h' = h ∧ r = (0 : Int32)) := by
  refine start (ls := #[.val (.ref t), .val (.int (8 : Int32)), .val (.int (12 : Int32)), .unset]) (plainFor_of_name pn20) (fun m => by first | (simp [entryFrame, mkF, argsToLocals, Value.category]; done) | rfl) ?_
  intro p e s m below meth c T G w X
  refine aloadN w X d22_0 1 rfl rfl rfl ?_
  refine iloadN w X d22_1 2 rfl rfl ?_
  refine callVPI w X [(.int (8 : Int32))] (wd103 hw) (wd104 hw) (notFace_of_selects (args := #[]) (mvT w.2.2.2.2.1 (wd106 hw))) (wd106 hw) (wd105 hw) (wd41 hw) (wd107 hw) (by decide) E_t (rm_baG hw t arr [p0, p1, p2, p3, p4, p5, p6, p7, (97 : Int32), (98 : Int32), (99 : Int32), (44 : Int32), (10 : Int32), (60 : Int32), (10 : Int32), (45 : Int32), (45 : Int32), (10 : Int32), (32 : Int32)] 8 h n0 zn E_t F_bytes_t V_arr (Nat.le_of_ble_eq_true rfl) (Nat.le_of_ble_eq_true rfl)) d22_2 5 rfl 0 (by decide) (by decide) (lenOf pd8 rfl) rfl (Nat.le_of_eq rfl) rfl (by decide) (by decide) (fun r1 T X hq => ?_)
  obtain rfl : r1 = (97 : Int32) := hq
  refine istoreN w X (97 : Int32) d22_5 6 rfl rfl #[.val (.ref t), .val (.int (8 : Int32)), .val (.int (12 : Int32)), .val (.int (97 : Int32))] rfl ?_
  refine iloadN w X d22_6 7 rfl rfl ?_
  refine iloadN w X d22_7 8 rfl rfl ?_
  refine isub w X (4 : Int32) d22_8 9 rfl (by decide) ?_
  refine iconst w X (1 : Int32) d22_9 10 rfl rfl ?_
  refine icmp_ne w X d22_10 29 13 (by decide) (by decide) rfl (fun hc10_2 => ?_) (fun q => absurd q (by decide))
  refine iconst w X (0 : Int32) d22_29 30 rfl rfl ?_
  refine retN w X (t := .boolean) rfl (by simp) d22_30 (by decide) (by decide) ?_
  exact ⟨(0 : Int32), rfl, rfl, rfl⟩
set_option maxRecDepth 65536 in
set_option maxHeartbeats 40000000 in
theorem rm_digitsEnd_26 {l : Launch} {Z : State} {a0 : Array Value} (hw : ∀ d ∈ tables_1, d.before a0 Z = true) (t arr : Addr) (p0 p1 p2 p3 p4 p5 p6 p7 : Int32) (h : Heap) (n0 : Nat) (zn : n0 ≤ h.size) (E_t : Exa Z h t "com/example/clauseline/clauseline/ContractText") (F_bytes_t : Fld Z h t "com/example/clauseline/clauseline/ContractText" "bytes" "[B" (.ref arr)) (V_arr : PA Z h arr .byte [p0, p1, p2, p3, p4, p5, p6, p7, (97 : Int32), (98 : Int32), (99 : Int32), (44 : Int32), (10 : Int32), (60 : Int32), (10 : Int32), (45 : Int32), (45 : Int32), (10 : Int32), (32 : Int32)]) :
    Met l Z (⟨"com/example/clauseline/clauseline/ContractText", "digitsEnd", "(II)I"⟩ : MethodName) prog_22_method_22_code 4 (some .int) [] ({ frames := 1, cells := 0, slots := 0, locals := 12 } : Room) #[(.ref t), (.int (8 : Int32)), (.int (12 : Int32))] h n0 (RI fun r h' => h' = h ∧ r = (8 : Int32)) := by
  refine start (ls := #[.val (.ref t), .val (.int (8 : Int32)), .val (.int (12 : Int32)), .unset]) (plainFor_of_name pn16) (fun m => by first | (simp [entryFrame, mkF, argsToLocals, Value.category]; done) | rfl) ?_
  intro p e s m below meth c T G w X
  refine iloadN w X d24_0 1 rfl rfl ?_
  refine istoreN w X (8 : Int32) d24_1 2 rfl rfl #[.val (.ref t), .val (.int (8 : Int32)), .val (.int (12 : Int32)), .val (.int (8 : Int32))] rfl ?_
  refine iloadN w X d24_2 3 rfl rfl ?_
  refine iloadN w X d24_3 4 rfl rfl ?_
  refine icmp_ge w X d24_4 25 7 (by decide) (by decide) rfl (fun q => absurd q (by decide)) (fun hc4_1 => ?_)
  refine aloadN w X d24_7 8 rfl rfl rfl ?_
  refine getfield w X (wd66 hw) Via.refl F_bytes_t d24_8 11 rfl (fun T X => ?_)
  refine iloadN w X d24_11 12 rfl rfl ?_
  refine baload w X V_arr (by decide) 8 rfl (Nat.le_of_ble_eq_true rfl) d24_12 13 rfl (97 : Int32) rfl ?_
  refine callSPI w X [(.int (97 : Int32))] (wd128 hw) (wd129 hw) (wd41 hw) (wd130 hw) (by decide) (rm_own_dg hw (97 : Int32) h n0 zn) d24_13 16 rfl 0 (by decide) (by decide) (lenOf pd5 rfl) rfl (Nat.le_of_eq rfl) rfl (by decide) (by decide) (fun r2 T X hq => ?_)
  obtain rfl : r2 = (0 : Int32) := hq.trans (by decide)
  refine if_eq w X d24_16 25 19 (by decide) (by decide) rfl (fun hc16_3 => ?_) (fun q => absurd q (by decide))
  refine iloadN w X d24_25 26 rfl rfl ?_
  refine retI w X rfl d24_26 (by decide) (by decide) ?_
  exact ⟨(8 : Int32), rfl, rfl, rfl⟩
set_option maxRecDepth 65536 in
set_option maxHeartbeats 40000000 in
theorem rm_skipSpaces_27 {l : Launch} {Z : State} {a0 : Array Value} (hw : ∀ d ∈ tables_1, d.before a0 Z = true) (t arr : Addr) (p0 p1 p2 p3 p4 p5 p6 p7 : Int32) (h : Heap) (n0 : Nat) (zn : n0 ≤ h.size) (E_t : Exa Z h t "com/example/clauseline/clauseline/ContractText") (F_bytes_t : Fld Z h t "com/example/clauseline/clauseline/ContractText" "bytes" "[B" (.ref arr)) (V_arr : PA Z h arr .byte [p0, p1, p2, p3, p4, p5, p6, p7, (97 : Int32), (98 : Int32), (99 : Int32), (44 : Int32), (10 : Int32), (60 : Int32), (10 : Int32), (45 : Int32), (45 : Int32), (10 : Int32), (32 : Int32)]) :
    Met l Z (⟨"com/example/clauseline/clauseline/ContractText", "skipSpaces", "(II)I"⟩ : MethodName) prog_22_method_20_code 4 (some .int) [] ({ frames := 1, cells := 0, slots := 0, locals := 12 } : Room) #[(.ref t), (.int (8 : Int32)), (.int (12 : Int32))] h n0 (RI fun r h' => h' = h ∧ r = (8 : Int32)) := by
  refine start (ls := #[.val (.ref t), .val (.int (8 : Int32)), .val (.int (12 : Int32)), .unset]) (plainFor_of_name pn16) (fun m => by first | (simp [entryFrame, mkF, argsToLocals, Value.category]; done) | rfl) ?_
  intro p e s m below meth c T G w X
  refine iloadN w X d15_0 1 rfl rfl ?_
  refine istoreN w X (8 : Int32) d15_1 2 rfl rfl #[.val (.ref t), .val (.int (8 : Int32)), .val (.int (12 : Int32)), .val (.int (8 : Int32))] rfl ?_
  refine iloadN w X d15_2 3 rfl rfl ?_
  refine iloadN w X d15_3 4 rfl rfl ?_
  refine icmp_ge w X d15_4 25 7 (by decide) (by decide) rfl (fun q => absurd q (by decide)) (fun hc4_1 => ?_)
  refine aloadN w X d15_7 8 rfl rfl rfl ?_
  refine getfield w X (wd66 hw) Via.refl F_bytes_t d15_8 11 rfl (fun T X => ?_)
  refine iloadN w X d15_11 12 rfl rfl ?_
  refine baload w X V_arr (by decide) 8 rfl (Nat.le_of_ble_eq_true rfl) d15_12 13 rfl (97 : Int32) rfl ?_
  refine callSPI w X [(.int (97 : Int32))] (wd88 hw) (wd89 hw) (wd41 hw) (wd90 hw) (by decide) (rm_own_sp1 hw (97 : Int32) h n0 zn) d15_13 16 rfl 0 (by decide) (by decide) (lenOf pd5 rfl) rfl (Nat.le_of_eq rfl) rfl (by decide) (by decide) (fun r2 T X hq => ?_)
  obtain rfl : r2 = (0 : Int32) := hq.trans (by decide)
  refine if_eq w X d15_16 25 19 (by decide) (by decide) rfl (fun hc16_3 => ?_) (fun q => absurd q (by decide))
  refine iloadN w X d15_25 26 rfl rfl ?_
  refine retI w X rfl d15_26 (by decide) (by decide) ?_
  exact ⟨(8 : Int32), rfl, rfl, rfl⟩
theorem d26_12 : decode prog_22_method_34_code 12 = .ok (.iconst 0, 1) := by decide +kernel
theorem d26_13 : decode prog_22_method_34_code 13 = .ok (.istore 4, 2) := by decide +kernel
theorem d26_15 : decode prog_22_method_34_code 15 = .ok (.iload 4, 2) := by decide +kernel
theorem d26_17 : decode prog_22_method_34_code 17 = .ok (.aload_n 3, 1) := by decide +kernel
theorem d26_18 : decode prog_22_method_34_code 18 = .ok (.invokevirtual 167, 3) := by decide +kernel
theorem d26_21 : decode prog_22_method_34_code 21 = .ok (.if_icmp .ge 29, 3) := by decide +kernel
theorem d26_24 : decode prog_22_method_34_code 24 = .ok (.aload_n 0, 1) := by decide +kernel
theorem d26_25 : decode prog_22_method_34_code 25 = .ok (.getfield 9, 3) := by decide +kernel
theorem d26_28 : decode prog_22_method_34_code 28 = .ok (.iload_n 1, 1) := by decide +kernel
theorem d26_29 : decode prog_22_method_34_code 29 = .ok (.iload 4, 2) := by decide +kernel
theorem d26_31 : decode prog_22_method_34_code 31 = .ok (.iadd, 1) := by decide +kernel
theorem d26_32 : decode prog_22_method_34_code 32 = .ok (.baload, 1) := by decide +kernel
theorem d26_33 : decode prog_22_method_34_code 33 = .ok (.aload_n 3, 1) := by decide +kernel
theorem d26_34 : decode prog_22_method_34_code 34 = .ok (.iload 4, 2) := by decide +kernel
theorem d26_36 : decode prog_22_method_34_code 36 = .ok (.invokevirtual 171, 3) := by decide +kernel
theorem d26_39 : decode prog_22_method_34_code 39 = .ok (.if_icmp .eq 5, 3) := by decide +kernel
theorem d26_42 : decode prog_22_method_34_code 42 = .ok (.iconst 0, 1) := by decide +kernel
theorem d26_43 : decode prog_22_method_34_code 43 = .ok (.ireturn, 1) := by decide +kernel
set_option maxRecDepth 65536 in
set_option maxHeartbeats 40000000 in
theorem rm_startsWith_28 {l : Launch} {Z : State} {a0 : Array Value} (hw : ∀ d ∈ tables_1, d.before a0 Z = true) (t arr : Addr) (p0 p1 p2 p3 p4 p5 p6 p7 : Int32) (cs : Int32) (sio : Value) (qs qv : Addr) (h : Heap) (n0 : Nat) (zn : n0 ≤ h.size) (E_t : Exa Z h t "com/example/clauseline/clauseline/ContractText") (F_bytes_t : Fld Z h t "com/example/clauseline/clauseline/ContractText" "bytes" "[B" (.ref arr)) (V_arr : PA Z h arr .byte [p0, p1, p2, p3, p4, p5, p6, p7, (97 : Int32), (98 : Int32), (99 : Int32), (44 : Int32), (10 : Int32), (60 : Int32), (10 : Int32), (45 : Int32), (45 : Int32), (10 : Int32), (32 : Int32)]) (S_cs : Sta Z h "java/lang/String" "COMPACT_STRINGS" "Z" (.int cs)) (hcs : ¬ cs = 0) (S_sio : Sta Z h "jdk/internal/util/Preconditions" "SIOOBE_FORMATTER" "Ljava/util/function/BiFunction;" sio) (hsio : sio.isRef = true) (E_qs : Exa Z h qs "java/lang/String") (F_value_qs : Fld Z h qs "java/lang/String" "value" "[B" (.ref qv)) (V_qv : PA Z h qv .byte [(73 : Int32), (83 : Int32), (68 : Int32), (65 : Int32)]) (F_coder_qs : Fld Z h qs "java/lang/String" "coder" "B" (.int (0 : Int32))) :
    Met l Z (⟨"com/example/clauseline/clauseline/ContractText", "startsWith", "(IILjava/lang/String;)Z"⟩ : MethodName) prog_22_method_34_code 5 (some .boolean) [] ({ frames := 4, cells := 0, slots := 0, locals := 54 } : Room) #[(.ref t), (.int (8 : Int32)), (.int (12 : Int32)), (.ref qs)] h n0 (RI fun r h' => h' = h ∧ r = (0 : Int32)) := by
  refine start (ls := #[.val (.ref t), .val (.int (8 : Int32)), .val (.int (12 : Int32)), .val (.ref qs), .unset]) (plainFor_of_name pn16) (fun m => by first | (simp [entryFrame, mkF, argsToLocals, Value.category]; done) | rfl) ?_
  intro p e s m below meth c T G w X
  refine iloadN w X d26_0 1 rfl rfl ?_
  refine iloadN w X d26_1 2 rfl rfl ?_
  refine isub w X (4 : Int32) d26_2 3 rfl (by decide) ?_
  refine aloadN w X d26_3 4 rfl rfl rfl ?_
  refine callVPI w X [] (wd137 hw) (wd138 hw) (notFace_of_selects (args := #[]) (mvT w.2.2.2.2.1 (wd140 hw))) (wd140 hw) (wd139 hw) (wd3 hw) (wd141 hw) (by decide) E_qs (rm_length hw qs qv [(73 : Int32), (83 : Int32), (68 : Int32), (65 : Int32)] cs h n0 zn S_cs hcs E_qs F_value_qs V_qv F_coder_qs) d26_4 7 rfl 1 (by decide) (by decide) (lenOf pd11 rfl) rfl (Nat.le_of_eq rfl) rfl (by decide) (by decide) (fun r1 T X hq => ?_)
  obtain rfl : r1 = (4 : Int32) := hq.trans (by decide)
  refine icmp_ge w X d26_7 12 10 (by decide) (by decide) rfl (fun hc7_2 => ?_) (fun q => absurd q (by decide))
  refine iconst w X (0 : Int32) d26_12 13 rfl rfl ?_
  refine istore w X (0 : Int32) d26_13 15 rfl rfl #[.val (.ref t), .val (.int (8 : Int32)), .val (.int (12 : Int32)), .val (.ref qs), .val (.int (0 : Int32))] rfl ?_
  refine iload w X d26_15 17 rfl rfl ?_
  refine aloadN w X d26_17 18 rfl rfl rfl ?_
  refine callVPI w X [] (wd137 hw) (wd138 hw) (notFace_of_selects (args := #[]) (mvT w.2.2.2.2.1 (wd140 hw))) (wd140 hw) (wd139 hw) (wd3 hw) (wd141 hw) (by decide) E_qs (rm_length hw qs qv [(73 : Int32), (83 : Int32), (68 : Int32), (65 : Int32)] cs h n0 zn S_cs hcs E_qs F_value_qs V_qv F_coder_qs) d26_18 21 rfl 1 (by decide) (by decide) (lenOf pd11 rfl) rfl (Nat.le_of_eq rfl) rfl (by decide) (by decide) (fun r3 T X hq => ?_)
  obtain rfl : r3 = (4 : Int32) := hq.trans (by decide)
  refine icmp_ge w X d26_21 50 24 (by decide) (by decide) rfl (fun q => absurd q (by decide)) (fun hc21_4 => ?_)
  refine aloadN w X d26_24 25 rfl rfl rfl ?_
  refine getfield w X (wd66 hw) Via.refl F_bytes_t d26_25 28 rfl (fun T X => ?_)
  refine iloadN w X d26_28 29 rfl rfl ?_
  refine iload w X d26_29 31 rfl rfl ?_
  refine iadd w X (8 : Int32) d26_31 32 rfl (by decide) ?_
  refine baload w X V_arr (by decide) 8 rfl (Nat.le_of_ble_eq_true rfl) d26_32 33 rfl (97 : Int32) rfl ?_
  refine aloadN w X d26_33 34 rfl rfl rfl ?_
  refine iload w X d26_34 36 rfl rfl ?_
  refine callVPI w X [(.int (0 : Int32))] (wd151 hw) (wd15 hw) (notFace_of_selects (args := #[]) (mvT w.2.2.2.2.1 (wd17 hw))) (wd17 hw) (wd16 hw) (wd3 hw) (wd18 hw) (by decide) E_qs (rm_charAt hw qs qv (0 : Int32) [(73 : Int32), (83 : Int32), (68 : Int32), (65 : Int32)] (4 : Int32) cs sio h n0 zn S_cs hcs E_qs F_value_qs V_qv F_coder_qs rfl (by decide) (by decide) (Nat.le_of_ble_eq_true rfl) S_sio hsio) d26_36 39 rfl 1 (by decide) (by decide) (lenOf pd14 rfl) rfl (Nat.le_of_eq rfl) rfl (by decide) (by decide) (fun r5 T X hq => ?_)
  obtain rfl : r5 = (73 : Int32) := hq.trans (by decide)
  refine icmp_eq w X d26_39 44 42 (by decide) (by decide) rfl (fun q => absurd q (by decide)) (fun hc39_6 => ?_)
  refine iconst w X (0 : Int32) d26_42 43 rfl rfl ?_
  refine retN w X (t := .boolean) rfl (by simp) d26_43 (by decide) (by decide) ?_
  exact ⟨(0 : Int32), rfl, rfl, rfl⟩
set_option maxRecDepth 65536 in
set_option maxHeartbeats 40000000 in
theorem rm_isFooter_25 {l : Launch} {Z : State} {a0 : Array Value} (hw : ∀ d ∈ tables_1, d.before a0 Z = true) (t arr : Addr) (p0 p1 p2 p3 p4 p5 p6 p7 : Int32) (cs : Int32) (sio : Value) (h : Heap) (n0 : Nat) (zn : n0 ≤ h.size) (E_t : Exa Z h t "com/example/clauseline/clauseline/ContractText") (F_bytes_t : Fld Z h t "com/example/clauseline/clauseline/ContractText" "bytes" "[B" (.ref arr)) (V_arr : PA Z h arr .byte [p0, p1, p2, p3, p4, p5, p6, p7, (97 : Int32), (98 : Int32), (99 : Int32), (44 : Int32), (10 : Int32), (60 : Int32), (10 : Int32), (45 : Int32), (45 : Int32), (10 : Int32), (32 : Int32)]) (S_cs : Sta Z h "java/lang/String" "COMPACT_STRINGS" "Z" (.int cs)) (hcs : ¬ cs = 0) (S_sio : Sta Z h "jdk/internal/util/Preconditions" "SIOOBE_FORMATTER" "Ljava/util/function/BiFunction;" sio) (hsio : sio.isRef = true) :
    MetH consts_1 l Z (⟨"com/example/clauseline/clauseline/LineWrap", "isFooter", "(Lcom/example/clauseline/clauseline/ContractText;II)Z"⟩ : MethodName) prog_47_method_16_code 7 (some .boolean) [] ({ frames := 5, cells := 2, slots := 20, locals := 70 } : Room) #[(.ref t), (.int (8 : Int32)), (.int (12 : Int32))] h n0 (RI fun r h' => Keep h h' [] ∧ r = (0 : Int32)) := by
  refine startH (own_EW hw) (ls := #[.val (.ref t), .val (.int (8 : Int32)), .val (.int (12 : Int32)), .unset, .unset, .unset, .unset]) (plainFor_of_name pn20) (fun m => by first | (simp [entryFrame, mkF, argsToLocals, Value.category]; done) | rfl) ?_
  intro p e s0 m below meth c T G s k0 w X ws zk hC
  have K := Keep.refl h []
  refine aloadN w X d23_0 1 rfl rfl rfl ?_
  refine iloadN w X d23_1 2 rfl rfl ?_
  refine iloadN w X d23_2 3 rfl rfl ?_
  refine callVPI w X [(.int (8 : Int32)), (.int (12 : Int32))] (wd123 hw) (wd124 hw) (notFace_of_selects (args := #[]) (mvT w.2.2.2.2.1 (wd126 hw))) (wd126 hw) (wd125 hw) (wd41 hw) (wd127 hw) (by decide) E_t (rm_digitsEnd_26 hw t arr p0 p1 p2 p3 p4 p5 p6 p7 h n0 zn E_t F_bytes_t V_arr) d23_3 6 rfl 0 (by decide) (by decide) (lenOf pd6 rfl) rfl (Nat.le_of_eq rfl) rfl (by decide) (by decide) (fun r1 T X hq => ?_)
  subst hq
  refine istoreN w X (8 : Int32) d23_6 7 rfl rfl #[.val (.ref t), .val (.int (8 : Int32)), .val (.int (12 : Int32)), .val (.int (8 : Int32)), .unset, .unset, .unset] rfl ?_
  refine aloadN w X d23_7 8 rfl rfl rfl ?_
  refine iloadN w X d23_8 9 rfl rfl ?_
  refine iloadN w X d23_9 10 rfl rfl ?_
  refine callVPI w X [(.int (8 : Int32)), (.int (12 : Int32))] (wd83 hw) (wd84 hw) (notFace_of_selects (args := #[]) (mvT w.2.2.2.2.1 (wd86 hw))) (wd86 hw) (wd85 hw) (wd41 hw) (wd87 hw) (by decide) E_t (rm_skipSpaces_27 hw t arr p0 p1 p2 p3 p4 p5 p6 p7 h n0 zn E_t F_bytes_t V_arr) d23_10 13 rfl 0 (by decide) (by decide) (lenOf pd6 rfl) rfl (Nat.le_of_eq rfl) rfl (by decide) (by decide) (fun r2 T X hq => ?_)
  subst hq
  refine istore w X (8 : Int32) d23_13 15 rfl rfl #[.val (.ref t), .val (.int (8 : Int32)), .val (.int (12 : Int32)), .val (.int (8 : Int32)), .val (.int (8 : Int32)), .unset, .unset] rfl ?_
  refine aloadN w X d23_15 16 rfl rfl rfl ?_
  refine iload w X d23_16 18 rfl rfl ?_
  refine iloadN w X d23_18 19 rfl rfl ?_
  refine ldcHt w X ws zk hC (own_EW hw) (by decide) (wd131 hw) (own_wS hw) [(73 : Int32), (83 : Int32), (68 : Int32), (65 : Int32)] ⟨by decide, by decide⟩ (4 : Int32) (by decide) (by decide) d23_19 21 rfl 16 (by decide) (by decide) (by decide) (by decide) (fun s k0 T h3 sa4 sv5 w X ws zk hC E E_sa4 F_coder_sa4 F_value_sa4 V_sv5 hss => ?_)
  have zn : n0 ≤ h3.size := Nat.le_trans zn E.1
  have E_t := E_t.ext E
  have F_bytes_t := F_bytes_t.ext E
  have V_arr := V_arr.ext E
  have S_cs := S_cs.ext E
  have S_sio := S_sio.ext E
  have K := K.ext E
  refine callVPI w X [(.int (8 : Int32)), (.int (12 : Int32)), (.ref sa4)] (wd132 hw) (wd133 hw) (notFace_of_selects (args := #[]) (mvT w.2.2.2.2.1 (wd135 hw))) (wd135 hw) (wd134 hw) (wd41 hw) (wd136 hw) (by decide) E_t (rm_startsWith_28 hw t arr p0 p1 p2 p3 p4 p5 p6 p7 cs sio sa4 sv5 h3 n0 zn E_t F_bytes_t V_arr S_cs hcs S_sio hsio E_sa4 F_value_sa4 V_sv5 F_coder_sa4) d23_21 24 rfl 0 (by decide) (by decide) (lenOf pd12 rfl) rfl (Nat.le_of_eq rfl) rfl (by decide) (by decide) (fun r6 T X hq => ?_)
  subst hq
  refine if_ne w X d23_24 29 27 (by decide) (by decide) rfl (fun q => absurd q (by decide)) (fun hc24_7 => ?_)
  refine iconst w X (0 : Int32) d23_27 28 rfl rfl ?_
  refine retN w X (t := .boolean) rfl (by simp) d23_28 (by decide) (by decide) ?_
  refine And.intro zk (And.intro hC ?_)
  exact ⟨(0 : Int32), rfl, K, rfl⟩
set_option maxRecDepth 65536 in
set_option maxHeartbeats 40000000 in
theorem rm_isPageBreak_23 {l : Launch} {Z : State} {a0 : Array Value} (hw : ∀ d ∈ tables_1, d.before a0 Z = true) (t arr : Addr) (p0 p1 p2 p3 p4 p5 p6 p7 f0 : Int32) (cs : Int32) (sio : Value) (h : Heap) (n0 : Nat) (zn : n0 ≤ h.size) (E_t : Exa Z h t "com/example/clauseline/clauseline/ContractText") (F_bytes_t : Fld Z h t "com/example/clauseline/clauseline/ContractText" "bytes" "[B" (.ref arr)) (V_arr : PA Z h arr .byte [p0, p1, p2, p3, p4, p5, p6, p7, (97 : Int32), (98 : Int32), (99 : Int32), (44 : Int32), (10 : Int32), (60 : Int32), (10 : Int32), (45 : Int32), (45 : Int32), (10 : Int32), (32 : Int32)]) (S_cs : Sta Z h "java/lang/String" "COMPACT_STRINGS" "Z" (.int cs)) (hcs : ¬ cs = 0) (S_sio : Sta Z h "jdk/internal/util/Preconditions" "SIOOBE_FORMATTER" "Ljava/util/function/BiFunction;" sio) (hsio : sio.isRef = true) :
    MetH consts_1 l Z (⟨"com/example/clauseline/clauseline/LineWrap", "isPageBreak", "(Lcom/example/clauseline/clauseline/ContractText;III)Z"⟩ : MethodName) prog_47_method_15_code 4 (some .boolean) [] ({ frames := 6, cells := 2, slots := 20, locals := 88 } : Room) #[(.ref t), (.int f0), (.int (8 : Int32)), (.int (12 : Int32))] h n0 (RI fun r h' => Keep h h' [] ∧ r = (0 : Int32)) := by
  refine startH (own_EW hw) (ls := #[.val (.ref t), .val (.int f0), .val (.int (8 : Int32)), .val (.int (12 : Int32))]) (plainFor_of_name pn20) (fun m => by first | (simp [entryFrame, mkF, argsToLocals, Value.category]; done) | rfl) ?_
  intro p e s0 m below meth c T G s k0 w X ws zk hC
  have K := Keep.refl h []
  refine aloadN w X d21_0 1 rfl rfl rfl ?_
  refine iloadN w X d21_1 2 rfl rfl ?_
  refine iloadN w X d21_2 3 rfl rfl ?_
  refine callSPI w X [(.ref t), (.int (8 : Int32)), (.int (12 : Int32))] (wd114 hw) (wd115 hw) (wd70 hw) (wd116 hw) (by decide) (rm_isMark_24 hw t arr p0 p1 p2 p3 p4 p5 p6 p7 h n0 zn E_t F_bytes_t V_arr) d21_3 6 rfl 0 (by decide) (by decide) (lenOf pd9 rfl) rfl (Nat.le_of_eq rfl) rfl (by decide) (by decide) (fun r1 T X hq => ?_)
  subst hq
  refine if_ne w X d21_6 18 9 (by decide) (by decide) rfl (fun q => absurd q (by decide)) (fun hc6_2 => ?_)
  refine aloadN w X d21_9 10 rfl rfl rfl ?_
  refine iloadN w X d21_10 11 rfl rfl ?_
  refine iloadN w X d21_11 12 rfl rfl ?_
  refine callSH w X ws zk hC (own_EW hw) [(.ref t), (.int (8 : Int32)), (.int (12 : Int32))] (wd120 hw) (wd121 hw) (wd70 hw) (wd122 hw) (by decide) (rm_isFooter_25 hw t arr p0 p1 p2 p3 p4 p5 p6 p7 cs sio h n0 zn E_t F_bytes_t V_arr S_cs hcs S_sio hsio) d21_12 15 rfl 0 (by decide) (by decide) (lenOf pd9 rfl) rfl (Nat.le_of_eq rfl) rfl (by decide) (by decide) (fun s k0 v T h4 w X ws zk hC hq => ?_)
  obtain ⟨r3, rfl, hq⟩ := hq
  obtain ⟨Kq, rfl⟩ := hq
  have S_cs := Sta.keepN S_cs Kq all0
  have S_sio := Sta.keepN S_sio Kq all0
  have zn : n0 ≤ h4.size := Nat.le_trans zn Kq.1
  have E_t := E_t.keep Kq
  have F_bytes_t := F_bytes_t.keep Kq nin0
  have V_arr := V_arr.keep Kq nin0
  have K := K.trans Kq all0
  show G (T.setTop (mkF m 15 #[.val (.ref t), .val (.int f0), .val (.int (8 : Int32)), .val (.int (12 : Int32))] [(.int (0 : Int32))]))
  refine if_eq w X d21_15 20 18 (by decide) (by decide) rfl (fun hc15_5 => ?_) (fun q => absurd q (by decide))
  refine aloadN w X d21_20 21 rfl rfl rfl ?_
  refine iloadN w X d21_21 22 rfl rfl ?_
  refine iloadN w X d21_22 23 rfl rfl ?_
  refine callVPI w X [(.int (8 : Int32)), (.int (12 : Int32))] (wd123 hw) (wd124 hw) (notFace_of_selects (args := #[]) (mvT w.2.2.2.2.1 (wd126 hw))) (wd126 hw) (wd125 hw) (wd41 hw) (wd127 hw) (by decide) E_t (rm_digitsEnd_26 hw t arr p0 p1 p2 p3 p4 p5 p6 p7 h4 n0 zn E_t F_bytes_t V_arr) d21_23 26 rfl 0 (by decide) (by decide) (lenOf pd6 rfl) rfl (Nat.le_of_eq rfl) rfl (by decide) (by decide) (fun r6 T X hq => ?_)
  subst hq
  refine iloadN w X d21_26 27 rfl rfl ?_
  refine icmp_ne w X d21_27 42 30 (by decide) (by decide) rfl (fun hc27_7 => ?_) (fun q => absurd q (by decide))
  refine iconst w X (0 : Int32) d21_42 43 rfl rfl ?_
  refine retN w X (t := .boolean) rfl (by simp) d21_43 (by decide) (by decide) ?_
  refine And.intro zk (And.intro hC ?_)
  exact ⟨(0 : Int32), rfl, K, rfl⟩
set_option maxRecDepth 65536 in
set_option maxHeartbeats 40000000 in
theorem rm_isMark_30 {l : Launch} {Z : State} {a0 : Array Value} (hw : ∀ d ∈ tables_1, d.before a0 Z = true) (t arr : Addr) (p0 p1 p2 p3 p4 p5 p6 p7 : Int32) (h : Heap) (n0 : Nat) (zn : n0 ≤ h.size) (E_t : Exa Z h t "com/example/clauseline/clauseline/ContractText") (F_bytes_t : Fld Z h t "com/example/clauseline/clauseline/ContractText" "bytes" "[B" (.ref arr)) (V_arr : PA Z h arr .byte [p0, p1, p2, p3, p4, p5, p6, p7, (120 : Int32), (32 : Int32), (97 : Int32), (98 : Int32), (10 : Int32), (60 : Int32), (10 : Int32), (45 : Int32), (45 : Int32), (10 : Int32), (32 : Int32)]) :
    Met l Z (⟨"com/example/clauseline/clauseline/LineWrap", "isMark", "(Lcom/example/clauseline/clauseline/ContractText;II)Z"⟩ : MethodName) prog_47_method_18_code 4 (some .boolean) [] ({ frames := 1, cells := 0, slots := 0, locals := 13 } : Room) #[(.ref t), (.int (8 : Int32)), (.int (12 : Int32))] h n0 (RI fun r h' => h' = h ∧ r = (0 : Int32)) := by
  refine start (ls := #[.val (.ref t), .val (.int (8 : Int32)), .val (.int (12 : Int32)), .unset]) (plainFor_of_name pn20) (fun m => by first | (simp [entryFrame, mkF, argsToLocals, Value.category]; done) | rfl) ?_
  intro p e s m below meth c T G w X
  refine aloadN w X d22_0 1 rfl rfl rfl ?_
  refine iloadN w X d22_1 2 rfl rfl ?_
  refine callVPI w X [(.int (8 : Int32))] (wd103 hw) (wd104 hw) (notFace_of_selects (args := #[]) (mvT w.2.2.2.2.1 (wd106 hw))) (wd106 hw) (wd105 hw) (wd41 hw) (wd107 hw) (by decide) E_t (rm_baG hw t arr [p0, p1, p2, p3, p4, p5, p6, p7, (120 : Int32), (32 : Int32), (97 : Int32), (98 : Int32), (10 : Int32), (60 : Int32), (10 : Int32), (45 : Int32), (45 : Int32), (10 : Int32), (32 : Int32)] 8 h n0 zn E_t F_bytes_t V_arr (Nat.le_of_ble_eq_true rfl) (Nat.le_of_ble_eq_true rfl)) d22_2 5 rfl 0 (by decide) (by decide) (lenOf pd8 rfl) rfl (Nat.le_of_eq rfl) rfl (by decide) (by decide) (fun r1 T X hq => ?_)
  obtain rfl : r1 = (120 : Int32) := hq
  refine istoreN w X (120 : Int32) d22_5 6 rfl rfl #[.val (.ref t), .val (.int (8 : Int32)), .val (.int (12 : Int32)), .val (.int (120 : Int32))] rfl ?_
  refine iloadN w X d22_6 7 rfl rfl ?_
  refine iloadN w X d22_7 8 rfl rfl ?_
  refine isub w X (4 : Int32) d22_8 9 rfl (by decide) ?_
  refine iconst w X (1 : Int32) d22_9 10 rfl rfl ?_
  refine icmp_ne w X d22_10 29 13 (by decide) (by decide) rfl (fun hc10_2 => ?_) (fun q => absurd q (by decide))
  refine iconst w X (0 : Int32) d22_29 30 rfl rfl ?_
  refine retN w X (t := .boolean) rfl (by simp) d22_30 (by decide) (by decide) ?_
  exact ⟨(0 : Int32), rfl, rfl, rfl⟩
set_option maxRecDepth 65536 in
set_option maxHeartbeats 40000000 in
theorem rm_digitsEnd_32 {l : Launch} {Z : State} {a0 : Array Value} (hw : ∀ d ∈ tables_1, d.before a0 Z = true) (t arr : Addr) (p0 p1 p2 p3 p4 p5 p6 p7 : Int32) (h : Heap) (n0 : Nat) (zn : n0 ≤ h.size) (E_t : Exa Z h t "com/example/clauseline/clauseline/ContractText") (F_bytes_t : Fld Z h t "com/example/clauseline/clauseline/ContractText" "bytes" "[B" (.ref arr)) (V_arr : PA Z h arr .byte [p0, p1, p2, p3, p4, p5, p6, p7, (120 : Int32), (32 : Int32), (97 : Int32), (98 : Int32), (10 : Int32), (60 : Int32), (10 : Int32), (45 : Int32), (45 : Int32), (10 : Int32), (32 : Int32)]) :
    Met l Z (⟨"com/example/clauseline/clauseline/ContractText", "digitsEnd", "(II)I"⟩ : MethodName) prog_22_method_22_code 4 (some .int) [] ({ frames := 1, cells := 0, slots := 0, locals := 12 } : Room) #[(.ref t), (.int (8 : Int32)), (.int (12 : Int32))] h n0 (RI fun r h' => h' = h ∧ r = (8 : Int32)) := by
  refine start (ls := #[.val (.ref t), .val (.int (8 : Int32)), .val (.int (12 : Int32)), .unset]) (plainFor_of_name pn16) (fun m => by first | (simp [entryFrame, mkF, argsToLocals, Value.category]; done) | rfl) ?_
  intro p e s m below meth c T G w X
  refine iloadN w X d24_0 1 rfl rfl ?_
  refine istoreN w X (8 : Int32) d24_1 2 rfl rfl #[.val (.ref t), .val (.int (8 : Int32)), .val (.int (12 : Int32)), .val (.int (8 : Int32))] rfl ?_
  refine iloadN w X d24_2 3 rfl rfl ?_
  refine iloadN w X d24_3 4 rfl rfl ?_
  refine icmp_ge w X d24_4 25 7 (by decide) (by decide) rfl (fun q => absurd q (by decide)) (fun hc4_1 => ?_)
  refine aloadN w X d24_7 8 rfl rfl rfl ?_
  refine getfield w X (wd66 hw) Via.refl F_bytes_t d24_8 11 rfl (fun T X => ?_)
  refine iloadN w X d24_11 12 rfl rfl ?_
  refine baload w X V_arr (by decide) 8 rfl (Nat.le_of_ble_eq_true rfl) d24_12 13 rfl (120 : Int32) rfl ?_
  refine callSPI w X [(.int (120 : Int32))] (wd128 hw) (wd129 hw) (wd41 hw) (wd130 hw) (by decide) (rm_own_dg hw (120 : Int32) h n0 zn) d24_13 16 rfl 0 (by decide) (by decide) (lenOf pd5 rfl) rfl (Nat.le_of_eq rfl) rfl (by decide) (by decide) (fun r2 T X hq => ?_)
  obtain rfl : r2 = (0 : Int32) := hq.trans (by decide)
  refine if_eq w X d24_16 25 19 (by decide) (by decide) rfl (fun hc16_3 => ?_) (fun q => absurd q (by decide))
  refine iloadN w X d24_25 26 rfl rfl ?_
  refine retI w X rfl d24_26 (by decide) (by decide) ?_
  exact ⟨(8 : Int32), rfl, rfl, rfl⟩
set_option maxRecDepth 65536 in
set_option maxHeartbeats 40000000 in
theorem rm_skipSpaces_33 {l : Launch} {Z : State} {a0 : Array Value} (hw : ∀ d ∈ tables_1, d.before a0 Z = true) (t arr : Addr) (p0 p1 p2 p3 p4 p5 p6 p7 : Int32) (h : Heap) (n0 : Nat) (zn : n0 ≤ h.size) (E_t : Exa Z h t "com/example/clauseline/clauseline/ContractText") (F_bytes_t : Fld Z h t "com/example/clauseline/clauseline/ContractText" "bytes" "[B" (.ref arr)) (V_arr : PA Z h arr .byte [p0, p1, p2, p3, p4, p5, p6, p7, (120 : Int32), (32 : Int32), (97 : Int32), (98 : Int32), (10 : Int32), (60 : Int32), (10 : Int32), (45 : Int32), (45 : Int32), (10 : Int32), (32 : Int32)]) :
    Met l Z (⟨"com/example/clauseline/clauseline/ContractText", "skipSpaces", "(II)I"⟩ : MethodName) prog_22_method_20_code 4 (some .int) [] ({ frames := 1, cells := 0, slots := 0, locals := 12 } : Room) #[(.ref t), (.int (8 : Int32)), (.int (12 : Int32))] h n0 (RI fun r h' => h' = h ∧ r = (8 : Int32)) := by
  refine start (ls := #[.val (.ref t), .val (.int (8 : Int32)), .val (.int (12 : Int32)), .unset]) (plainFor_of_name pn16) (fun m => by first | (simp [entryFrame, mkF, argsToLocals, Value.category]; done) | rfl) ?_
  intro p e s m below meth c T G w X
  refine iloadN w X d15_0 1 rfl rfl ?_
  refine istoreN w X (8 : Int32) d15_1 2 rfl rfl #[.val (.ref t), .val (.int (8 : Int32)), .val (.int (12 : Int32)), .val (.int (8 : Int32))] rfl ?_
  refine iloadN w X d15_2 3 rfl rfl ?_
  refine iloadN w X d15_3 4 rfl rfl ?_
  refine icmp_ge w X d15_4 25 7 (by decide) (by decide) rfl (fun q => absurd q (by decide)) (fun hc4_1 => ?_)
  refine aloadN w X d15_7 8 rfl rfl rfl ?_
  refine getfield w X (wd66 hw) Via.refl F_bytes_t d15_8 11 rfl (fun T X => ?_)
  refine iloadN w X d15_11 12 rfl rfl ?_
  refine baload w X V_arr (by decide) 8 rfl (Nat.le_of_ble_eq_true rfl) d15_12 13 rfl (120 : Int32) rfl ?_
  refine callSPI w X [(.int (120 : Int32))] (wd88 hw) (wd89 hw) (wd41 hw) (wd90 hw) (by decide) (rm_own_sp1 hw (120 : Int32) h n0 zn) d15_13 16 rfl 0 (by decide) (by decide) (lenOf pd5 rfl) rfl (Nat.le_of_eq rfl) rfl (by decide) (by decide) (fun r2 T X hq => ?_)
  obtain rfl : r2 = (0 : Int32) := hq.trans (by decide)
  refine if_eq w X d15_16 25 19 (by decide) (by decide) rfl (fun hc16_3 => ?_) (fun q => absurd q (by decide))
  refine iloadN w X d15_25 26 rfl rfl ?_
  refine retI w X rfl d15_26 (by decide) (by decide) ?_
  exact ⟨(8 : Int32), rfl, rfl, rfl⟩
set_option maxRecDepth 65536 in
set_option maxHeartbeats 40000000 in
theorem rm_startsWith_34 {l : Launch} {Z : State} {a0 : Array Value} (hw : ∀ d ∈ tables_1, d.before a0 Z = true) (t arr : Addr) (p0 p1 p2 p3 p4 p5 p6 p7 : Int32) (cs : Int32) (sio : Value) (qs qv : Addr) (h : Heap) (n0 : Nat) (zn : n0 ≤ h.size) (E_t : Exa Z h t "com/example/clauseline/clauseline/ContractText") (F_bytes_t : Fld Z h t "com/example/clauseline/clauseline/ContractText" "bytes" "[B" (.ref arr)) (V_arr : PA Z h arr .byte [p0, p1, p2, p3, p4, p5, p6, p7, (120 : Int32), (32 : Int32), (97 : Int32), (98 : Int32), (10 : Int32), (60 : Int32), (10 : Int32), (45 : Int32), (45 : Int32), (10 : Int32), (32 : Int32)]) (S_cs : Sta Z h "java/lang/String" "COMPACT_STRINGS" "Z" (.int cs)) (hcs : ¬ cs = 0) (S_sio : Sta Z h "jdk/internal/util/Preconditions" "SIOOBE_FORMATTER" "Ljava/util/function/BiFunction;" sio) (hsio : sio.isRef = true) (E_qs : Exa Z h qs "java/lang/String") (F_value_qs : Fld Z h qs "java/lang/String" "value" "[B" (.ref qv)) (V_qv : PA Z h qv .byte [(73 : Int32), (83 : Int32), (68 : Int32), (65 : Int32)]) (F_coder_qs : Fld Z h qs "java/lang/String" "coder" "B" (.int (0 : Int32))) :
    Met l Z (⟨"com/example/clauseline/clauseline/ContractText", "startsWith", "(IILjava/lang/String;)Z"⟩ : MethodName) prog_22_method_34_code 5 (some .boolean) [] ({ frames := 4, cells := 0, slots := 0, locals := 54 } : Room) #[(.ref t), (.int (8 : Int32)), (.int (12 : Int32)), (.ref qs)] h n0 (RI fun r h' => h' = h ∧ r = (0 : Int32)) := by
  refine start (ls := #[.val (.ref t), .val (.int (8 : Int32)), .val (.int (12 : Int32)), .val (.ref qs), .unset]) (plainFor_of_name pn16) (fun m => by first | (simp [entryFrame, mkF, argsToLocals, Value.category]; done) | rfl) ?_
  intro p e s m below meth c T G w X
  refine iloadN w X d26_0 1 rfl rfl ?_
  refine iloadN w X d26_1 2 rfl rfl ?_
  refine isub w X (4 : Int32) d26_2 3 rfl (by decide) ?_
  refine aloadN w X d26_3 4 rfl rfl rfl ?_
  refine callVPI w X [] (wd137 hw) (wd138 hw) (notFace_of_selects (args := #[]) (mvT w.2.2.2.2.1 (wd140 hw))) (wd140 hw) (wd139 hw) (wd3 hw) (wd141 hw) (by decide) E_qs (rm_length hw qs qv [(73 : Int32), (83 : Int32), (68 : Int32), (65 : Int32)] cs h n0 zn S_cs hcs E_qs F_value_qs V_qv F_coder_qs) d26_4 7 rfl 1 (by decide) (by decide) (lenOf pd11 rfl) rfl (Nat.le_of_eq rfl) rfl (by decide) (by decide) (fun r1 T X hq => ?_)
  obtain rfl : r1 = (4 : Int32) := hq.trans (by decide)
  refine icmp_ge w X d26_7 12 10 (by decide) (by decide) rfl (fun hc7_2 => ?_) (fun q => absurd q (by decide))
  refine iconst w X (0 : Int32) d26_12 13 rfl rfl ?_
  refine istore w X (0 : Int32) d26_13 15 rfl rfl #[.val (.ref t), .val (.int (8 : Int32)), .val (.int (12 : Int32)), .val (.ref qs), .val (.int (0 : Int32))] rfl ?_
  refine iload w X d26_15 17 rfl rfl ?_
  refine aloadN w X d26_17 18 rfl rfl rfl ?_
  refine callVPI w X [] (wd137 hw) (wd138 hw) (notFace_of_selects (args := #[]) (mvT w.2.2.2.2.1 (wd140 hw))) (wd140 hw) (wd139 hw) (wd3 hw) (wd141 hw) (by decide) E_qs (rm_length hw qs qv [(73 : Int32), (83 : Int32), (68 : Int32), (65 : Int32)] cs h n0 zn S_cs hcs E_qs F_value_qs V_qv F_coder_qs) d26_18 21 rfl 1 (by decide) (by decide) (lenOf pd11 rfl) rfl (Nat.le_of_eq rfl) rfl (by decide) (by decide) (fun r3 T X hq => ?_)
  obtain rfl : r3 = (4 : Int32) := hq.trans (by decide)
  refine icmp_ge w X d26_21 50 24 (by decide) (by decide) rfl (fun q => absurd q (by decide)) (fun hc21_4 => ?_)
  refine aloadN w X d26_24 25 rfl rfl rfl ?_
  refine getfield w X (wd66 hw) Via.refl F_bytes_t d26_25 28 rfl (fun T X => ?_)
  refine iloadN w X d26_28 29 rfl rfl ?_
  refine iload w X d26_29 31 rfl rfl ?_
  refine iadd w X (8 : Int32) d26_31 32 rfl (by decide) ?_
  refine baload w X V_arr (by decide) 8 rfl (Nat.le_of_ble_eq_true rfl) d26_32 33 rfl (120 : Int32) rfl ?_
  refine aloadN w X d26_33 34 rfl rfl rfl ?_
  refine iload w X d26_34 36 rfl rfl ?_
  refine callVPI w X [(.int (0 : Int32))] (wd151 hw) (wd15 hw) (notFace_of_selects (args := #[]) (mvT w.2.2.2.2.1 (wd17 hw))) (wd17 hw) (wd16 hw) (wd3 hw) (wd18 hw) (by decide) E_qs (rm_charAt hw qs qv (0 : Int32) [(73 : Int32), (83 : Int32), (68 : Int32), (65 : Int32)] (4 : Int32) cs sio h n0 zn S_cs hcs E_qs F_value_qs V_qv F_coder_qs rfl (by decide) (by decide) (Nat.le_of_ble_eq_true rfl) S_sio hsio) d26_36 39 rfl 1 (by decide) (by decide) (lenOf pd14 rfl) rfl (Nat.le_of_eq rfl) rfl (by decide) (by decide) (fun r5 T X hq => ?_)
  obtain rfl : r5 = (73 : Int32) := hq.trans (by decide)
  refine icmp_eq w X d26_39 44 42 (by decide) (by decide) rfl (fun q => absurd q (by decide)) (fun hc39_6 => ?_)
  refine iconst w X (0 : Int32) d26_42 43 rfl rfl ?_
  refine retN w X (t := .boolean) rfl (by simp) d26_43 (by decide) (by decide) ?_
  exact ⟨(0 : Int32), rfl, rfl, rfl⟩
set_option maxRecDepth 65536 in
set_option maxHeartbeats 40000000 in
theorem rm_isFooter_31 {l : Launch} {Z : State} {a0 : Array Value} (hw : ∀ d ∈ tables_1, d.before a0 Z = true) (t arr : Addr) (p0 p1 p2 p3 p4 p5 p6 p7 : Int32) (cs : Int32) (sio : Value) (h : Heap) (n0 : Nat) (zn : n0 ≤ h.size) (E_t : Exa Z h t "com/example/clauseline/clauseline/ContractText") (F_bytes_t : Fld Z h t "com/example/clauseline/clauseline/ContractText" "bytes" "[B" (.ref arr)) (V_arr : PA Z h arr .byte [p0, p1, p2, p3, p4, p5, p6, p7, (120 : Int32), (32 : Int32), (97 : Int32), (98 : Int32), (10 : Int32), (60 : Int32), (10 : Int32), (45 : Int32), (45 : Int32), (10 : Int32), (32 : Int32)]) (S_cs : Sta Z h "java/lang/String" "COMPACT_STRINGS" "Z" (.int cs)) (hcs : ¬ cs = 0) (S_sio : Sta Z h "jdk/internal/util/Preconditions" "SIOOBE_FORMATTER" "Ljava/util/function/BiFunction;" sio) (hsio : sio.isRef = true) :
    MetH consts_1 l Z (⟨"com/example/clauseline/clauseline/LineWrap", "isFooter", "(Lcom/example/clauseline/clauseline/ContractText;II)Z"⟩ : MethodName) prog_47_method_16_code 7 (some .boolean) [] ({ frames := 5, cells := 2, slots := 20, locals := 70 } : Room) #[(.ref t), (.int (8 : Int32)), (.int (12 : Int32))] h n0 (RI fun r h' => Keep h h' [] ∧ r = (0 : Int32)) := by
  refine startH (own_EW hw) (ls := #[.val (.ref t), .val (.int (8 : Int32)), .val (.int (12 : Int32)), .unset, .unset, .unset, .unset]) (plainFor_of_name pn20) (fun m => by first | (simp [entryFrame, mkF, argsToLocals, Value.category]; done) | rfl) ?_
  intro p e s0 m below meth c T G s k0 w X ws zk hC
  have K := Keep.refl h []
  refine aloadN w X d23_0 1 rfl rfl rfl ?_
  refine iloadN w X d23_1 2 rfl rfl ?_
  refine iloadN w X d23_2 3 rfl rfl ?_
  refine callVPI w X [(.int (8 : Int32)), (.int (12 : Int32))] (wd123 hw) (wd124 hw) (notFace_of_selects (args := #[]) (mvT w.2.2.2.2.1 (wd126 hw))) (wd126 hw) (wd125 hw) (wd41 hw) (wd127 hw) (by decide) E_t (rm_digitsEnd_32 hw t arr p0 p1 p2 p3 p4 p5 p6 p7 h n0 zn E_t F_bytes_t V_arr) d23_3 6 rfl 0 (by decide) (by decide) (lenOf pd6 rfl) rfl (Nat.le_of_eq rfl) rfl (by decide) (by decide) (fun r1 T X hq => ?_)
  subst hq
  refine istoreN w X (8 : Int32) d23_6 7 rfl rfl #[.val (.ref t), .val (.int (8 : Int32)), .val (.int (12 : Int32)), .val (.int (8 : Int32)), .unset, .unset, .unset] rfl ?_
  refine aloadN w X d23_7 8 rfl rfl rfl ?_
  refine iloadN w X d23_8 9 rfl rfl ?_
  refine iloadN w X d23_9 10 rfl rfl ?_
  refine callVPI w X [(.int (8 : Int32)), (.int (12 : Int32))] (wd83 hw) (wd84 hw) (notFace_of_selects (args := #[]) (mvT w.2.2.2.2.1 (wd86 hw))) (wd86 hw) (wd85 hw) (wd41 hw) (wd87 hw) (by decide) E_t (rm_skipSpaces_33 hw t arr p0 p1 p2 p3 p4 p5 p6 p7 h n0 zn E_t F_bytes_t V_arr) d23_10 13 rfl 0 (by decide) (by decide) (lenOf pd6 rfl) rfl (Nat.le_of_eq rfl) rfl (by decide) (by decide) (fun r2 T X hq => ?_)
  subst hq
  refine istore w X (8 : Int32) d23_13 15 rfl rfl #[.val (.ref t), .val (.int (8 : Int32)), .val (.int (12 : Int32)), .val (.int (8 : Int32)), .val (.int (8 : Int32)), .unset, .unset] rfl ?_
  refine aloadN w X d23_15 16 rfl rfl rfl ?_
  refine iload w X d23_16 18 rfl rfl ?_
  refine iloadN w X d23_18 19 rfl rfl ?_
  refine ldcHt w X ws zk hC (own_EW hw) (by decide) (wd131 hw) (own_wS hw) [(73 : Int32), (83 : Int32), (68 : Int32), (65 : Int32)] ⟨by decide, by decide⟩ (4 : Int32) (by decide) (by decide) d23_19 21 rfl 16 (by decide) (by decide) (by decide) (by decide) (fun s k0 T h3 sa4 sv5 w X ws zk hC E E_sa4 F_coder_sa4 F_value_sa4 V_sv5 hss => ?_)
  have zn : n0 ≤ h3.size := Nat.le_trans zn E.1
  have E_t := E_t.ext E
  have F_bytes_t := F_bytes_t.ext E
  have V_arr := V_arr.ext E
  have S_cs := S_cs.ext E
  have S_sio := S_sio.ext E
  have K := K.ext E
  refine callVPI w X [(.int (8 : Int32)), (.int (12 : Int32)), (.ref sa4)] (wd132 hw) (wd133 hw) (notFace_of_selects (args := #[]) (mvT w.2.2.2.2.1 (wd135 hw))) (wd135 hw) (wd134 hw) (wd41 hw) (wd136 hw) (by decide) E_t (rm_startsWith_34 hw t arr p0 p1 p2 p3 p4 p5 p6 p7 cs sio sa4 sv5 h3 n0 zn E_t F_bytes_t V_arr S_cs hcs S_sio hsio E_sa4 F_value_sa4 V_sv5 F_coder_sa4) d23_21 24 rfl 0 (by decide) (by decide) (lenOf pd12 rfl) rfl (Nat.le_of_eq rfl) rfl (by decide) (by decide) (fun r6 T X hq => ?_)
  subst hq
  refine if_ne w X d23_24 29 27 (by decide) (by decide) rfl (fun q => absurd q (by decide)) (fun hc24_7 => ?_)
  refine iconst w X (0 : Int32) d23_27 28 rfl rfl ?_
  refine retN w X (t := .boolean) rfl (by simp) d23_28 (by decide) (by decide) ?_
  refine And.intro zk (And.intro hC ?_)
  exact ⟨(0 : Int32), rfl, K, rfl⟩
set_option maxRecDepth 65536 in
set_option maxHeartbeats 40000000 in
theorem rm_isPageBreak_29 {l : Launch} {Z : State} {a0 : Array Value} (hw : ∀ d ∈ tables_1, d.before a0 Z = true) (t arr : Addr) (p0 p1 p2 p3 p4 p5 p6 p7 f0 : Int32) (cs : Int32) (sio : Value) (h : Heap) (n0 : Nat) (zn : n0 ≤ h.size) (E_t : Exa Z h t "com/example/clauseline/clauseline/ContractText") (F_bytes_t : Fld Z h t "com/example/clauseline/clauseline/ContractText" "bytes" "[B" (.ref arr)) (V_arr : PA Z h arr .byte [p0, p1, p2, p3, p4, p5, p6, p7, (120 : Int32), (32 : Int32), (97 : Int32), (98 : Int32), (10 : Int32), (60 : Int32), (10 : Int32), (45 : Int32), (45 : Int32), (10 : Int32), (32 : Int32)]) (S_cs : Sta Z h "java/lang/String" "COMPACT_STRINGS" "Z" (.int cs)) (hcs : ¬ cs = 0) (S_sio : Sta Z h "jdk/internal/util/Preconditions" "SIOOBE_FORMATTER" "Ljava/util/function/BiFunction;" sio) (hsio : sio.isRef = true) :
    MetH consts_1 l Z (⟨"com/example/clauseline/clauseline/LineWrap", "isPageBreak", "(Lcom/example/clauseline/clauseline/ContractText;III)Z"⟩ : MethodName) prog_47_method_15_code 4 (some .boolean) [] ({ frames := 6, cells := 2, slots := 20, locals := 88 } : Room) #[(.ref t), (.int f0), (.int (8 : Int32)), (.int (12 : Int32))] h n0 (RI fun r h' => Keep h h' [] ∧ r = (0 : Int32)) := by
  refine startH (own_EW hw) (ls := #[.val (.ref t), .val (.int f0), .val (.int (8 : Int32)), .val (.int (12 : Int32))]) (plainFor_of_name pn20) (fun m => by first | (simp [entryFrame, mkF, argsToLocals, Value.category]; done) | rfl) ?_
  intro p e s0 m below meth c T G s k0 w X ws zk hC
  have K := Keep.refl h []
  refine aloadN w X d21_0 1 rfl rfl rfl ?_
  refine iloadN w X d21_1 2 rfl rfl ?_
  refine iloadN w X d21_2 3 rfl rfl ?_
  refine callSPI w X [(.ref t), (.int (8 : Int32)), (.int (12 : Int32))] (wd114 hw) (wd115 hw) (wd70 hw) (wd116 hw) (by decide) (rm_isMark_30 hw t arr p0 p1 p2 p3 p4 p5 p6 p7 h n0 zn E_t F_bytes_t V_arr) d21_3 6 rfl 0 (by decide) (by decide) (lenOf pd9 rfl) rfl (Nat.le_of_eq rfl) rfl (by decide) (by decide) (fun r1 T X hq => ?_)
  subst hq
  refine if_ne w X d21_6 18 9 (by decide) (by decide) rfl (fun q => absurd q (by decide)) (fun hc6_2 => ?_)
  refine aloadN w X d21_9 10 rfl rfl rfl ?_
  refine iloadN w X d21_10 11 rfl rfl ?_
  refine iloadN w X d21_11 12 rfl rfl ?_
  refine callSH w X ws zk hC (own_EW hw) [(.ref t), (.int (8 : Int32)), (.int (12 : Int32))] (wd120 hw) (wd121 hw) (wd70 hw) (wd122 hw) (by decide) (rm_isFooter_31 hw t arr p0 p1 p2 p3 p4 p5 p6 p7 cs sio h n0 zn E_t F_bytes_t V_arr S_cs hcs S_sio hsio) d21_12 15 rfl 0 (by decide) (by decide) (lenOf pd9 rfl) rfl (Nat.le_of_eq rfl) rfl (by decide) (by decide) (fun s k0 v T h4 w X ws zk hC hq => ?_)
  obtain ⟨r3, rfl, hq⟩ := hq
  obtain ⟨Kq, rfl⟩ := hq
  have S_cs := Sta.keepN S_cs Kq all0
  have S_sio := Sta.keepN S_sio Kq all0
  have zn : n0 ≤ h4.size := Nat.le_trans zn Kq.1
  have E_t := E_t.keep Kq
  have F_bytes_t := F_bytes_t.keep Kq nin0
  have V_arr := V_arr.keep Kq nin0
  have K := K.trans Kq all0
  show G (T.setTop (mkF m 15 #[.val (.ref t), .val (.int f0), .val (.int (8 : Int32)), .val (.int (12 : Int32))] [(.int (0 : Int32))]))
  refine if_eq w X d21_15 20 18 (by decide) (by decide) rfl (fun hc15_5 => ?_) (fun q => absurd q (by decide))
  refine aloadN w X d21_20 21 rfl rfl rfl ?_
  refine iloadN w X d21_21 22 rfl rfl ?_
  refine iloadN w X d21_22 23 rfl rfl ?_
  refine callVPI w X [(.int (8 : Int32)), (.int (12 : Int32))] (wd123 hw) (wd124 hw) (notFace_of_selects (args := #[]) (mvT w.2.2.2.2.1 (wd126 hw))) (wd126 hw) (wd125 hw) (wd41 hw) (wd127 hw) (by decide) E_t (rm_digitsEnd_32 hw t arr p0 p1 p2 p3 p4 p5 p6 p7 h4 n0 zn E_t F_bytes_t V_arr) d21_23 26 rfl 0 (by decide) (by decide) (lenOf pd6 rfl) rfl (Nat.le_of_eq rfl) rfl (by decide) (by decide) (fun r6 T X hq => ?_)
  subst hq
  refine iloadN w X d21_26 27 rfl rfl ?_
  refine icmp_ne w X d21_27 42 30 (by decide) (by decide) rfl (fun hc27_7 => ?_) (fun q => absurd q (by decide))
  refine iconst w X (0 : Int32) d21_42 43 rfl rfl ?_
  refine retN w X (t := .boolean) rfl (by simp) d21_43 (by decide) (by decide) ?_
  refine And.intro zk (And.intro hC ?_)
  exact ⟨(0 : Int32), rfl, K, rfl⟩
set_option maxRecDepth 65536 in
set_option maxHeartbeats 40000000 in
theorem rm_isMark_36 {l : Launch} {Z : State} {a0 : Array Value} (hw : ∀ d ∈ tables_1, d.before a0 Z = true) (t arr : Addr) (p0 p1 p2 p3 p4 p5 p6 p7 : Int32) (h : Heap) (n0 : Nat) (zn : n0 ≤ h.size) (E_t : Exa Z h t "com/example/clauseline/clauseline/ContractText") (F_bytes_t : Fld Z h t "com/example/clauseline/clauseline/ContractText" "bytes" "[B" (.ref arr)) (V_arr : PA Z h arr .byte [p0, p1, p2, p3, p4, p5, p6, p7, (120 : Int32), (32 : Int32), (65 : Int32), (98 : Int32), (10 : Int32), (60 : Int32), (10 : Int32), (45 : Int32), (45 : Int32), (10 : Int32), (32 : Int32)]) :
    Met l Z (⟨"com/example/clauseline/clauseline/LineWrap", "isMark", "(Lcom/example/clauseline/clauseline/ContractText;II)Z"⟩ : MethodName) prog_47_method_18_code 4 (some .boolean) [] ({ frames := 1, cells := 0, slots := 0, locals := 13 } : Room) #[(.ref t), (.int (8 : Int32)), (.int (12 : Int32))] h n0 (RI fun r h' => h' = h ∧ r = (0 : Int32)) := by
  refine start (ls := #[.val (.ref t), .val (.int (8 : Int32)), .val (.int (12 : Int32)), .unset]) (plainFor_of_name pn20) (fun m => by first | (simp [entryFrame, mkF, argsToLocals, Value.category]; done) | rfl) ?_
  intro p e s m below meth c T G w X
  refine aloadN w X d22_0 1 rfl rfl rfl ?_
  refine iloadN w X d22_1 2 rfl rfl ?_
  refine callVPI w X [(.int (8 : Int32))] (wd103 hw) (wd104 hw) (notFace_of_selects (args := #[]) (mvT w.2.2.2.2.1 (wd106 hw))) (wd106 hw) (wd105 hw) (wd41 hw) (wd107 hw) (by decide) E_t (rm_baG hw t arr [p0, p1, p2, p3, p4, p5, p6, p7, (120 : Int32), (32 : Int32), (65 : Int32), (98 : Int32), (10 : Int32), (60 : Int32), (10 : Int32), (45 : Int32), (45 : Int32), (10 : Int32), (32 : Int32)] 8 h n0 zn E_t F_bytes_t V_arr (Nat.le_of_ble_eq_true rfl) (Nat.le_of_ble_eq_true rfl)) d22_2 5 rfl 0 (by decide) (by decide) (lenOf pd8 rfl) rfl (Nat.le_of_eq rfl) rfl (by decide) (by decide) (fun r1 T X hq => ?_)
  obtain rfl : r1 = (120 : Int32) := hq
  refine istoreN w X (120 : Int32) d22_5 6 rfl rfl #[.val (.ref t), .val (.int (8 : Int32)), .val (.int (12 : Int32)), .val (.int (120 : Int32))] rfl ?_
  refine iloadN w X d22_6 7 rfl rfl ?_
  refine iloadN w X d22_7 8 rfl rfl ?_
  refine isub w X (4 : Int32) d22_8 9 rfl (by decide) ?_
  refine iconst w X (1 : Int32) d22_9 10 rfl rfl ?_
  refine icmp_ne w X d22_10 29 13 (by decide) (by decide) rfl (fun hc10_2 => ?_) (fun q => absurd q (by decide))
  refine iconst w X (0 : Int32) d22_29 30 rfl rfl ?_
  refine retN w X (t := .boolean) rfl (by simp) d22_30 (by decide) (by decide) ?_
  exact ⟨(0 : Int32), rfl, rfl, rfl⟩
set_option maxRecDepth 65536 in
set_option maxHeartbeats 40000000 in
theorem rm_digitsEnd_38 {l : Launch} {Z : State} {a0 : Array Value} (hw : ∀ d ∈ tables_1, d.before a0 Z = true) (t arr : Addr) (p0 p1 p2 p3 p4 p5 p6 p7 : Int32) (h : Heap) (n0 : Nat) (zn : n0 ≤ h.size) (E_t : Exa Z h t "com/example/clauseline/clauseline/ContractText") (F_bytes_t : Fld Z h t "com/example/clauseline/clauseline/ContractText" "bytes" "[B" (.ref arr)) (V_arr : PA Z h arr .byte [p0, p1, p2, p3, p4, p5, p6, p7, (120 : Int32), (32 : Int32), (65 : Int32), (98 : Int32), (10 : Int32), (60 : Int32), (10 : Int32), (45 : Int32), (45 : Int32), (10 : Int32), (32 : Int32)]) :
    Met l Z (⟨"com/example/clauseline/clauseline/ContractText", "digitsEnd", "(II)I"⟩ : MethodName) prog_22_method_22_code 4 (some .int) [] ({ frames := 1, cells := 0, slots := 0, locals := 12 } : Room) #[(.ref t), (.int (8 : Int32)), (.int (12 : Int32))] h n0 (RI fun r h' => h' = h ∧ r = (8 : Int32)) := by
  refine start (ls := #[.val (.ref t), .val (.int (8 : Int32)), .val (.int (12 : Int32)), .unset]) (plainFor_of_name pn16) (fun m => by first | (simp [entryFrame, mkF, argsToLocals, Value.category]; done) | rfl) ?_
  intro p e s m below meth c T G w X
  refine iloadN w X d24_0 1 rfl rfl ?_
  refine istoreN w X (8 : Int32) d24_1 2 rfl rfl #[.val (.ref t), .val (.int (8 : Int32)), .val (.int (12 : Int32)), .val (.int (8 : Int32))] rfl ?_
  refine iloadN w X d24_2 3 rfl rfl ?_
  refine iloadN w X d24_3 4 rfl rfl ?_
  refine icmp_ge w X d24_4 25 7 (by decide) (by decide) rfl (fun q => absurd q (by decide)) (fun hc4_1 => ?_)
  refine aloadN w X d24_7 8 rfl rfl rfl ?_
  refine getfield w X (wd66 hw) Via.refl F_bytes_t d24_8 11 rfl (fun T X => ?_)
  refine iloadN w X d24_11 12 rfl rfl ?_
  refine baload w X V_arr (by decide) 8 rfl (Nat.le_of_ble_eq_true rfl) d24_12 13 rfl (120 : Int32) rfl ?_
  refine callSPI w X [(.int (120 : Int32))] (wd128 hw) (wd129 hw) (wd41 hw) (wd130 hw) (by decide) (rm_own_dg hw (120 : Int32) h n0 zn) d24_13 16 rfl 0 (by decide) (by decide) (lenOf pd5 rfl) rfl (Nat.le_of_eq rfl) rfl (by decide) (by decide) (fun r2 T X hq => ?_)
  obtain rfl : r2 = (0 : Int32) := hq.trans (by decide)
  refine if_eq w X d24_16 25 19 (by decide) (by decide) rfl (fun hc16_3 => ?_) (fun q => absurd q (by decide))
  refine iloadN w X d24_25 26 rfl rfl ?_
  refine retI w X rfl d24_26 (by decide) (by decide) ?_
  exact ⟨(8 : Int32), rfl, rfl, rfl⟩
set_option maxRecDepth 65536 in
set_option maxHeartbeats 40000000 in
theorem rm_skipSpaces_39 {l : Launch} {Z : State} {a0 : Array Value} (hw : ∀ d ∈ tables_1, d.before a0 Z = true) (t arr : Addr) (p0 p1 p2 p3 p4 p5 p6 p7 : Int32) (h : Heap) (n0 : Nat) (zn : n0 ≤ h.size) (E_t : Exa Z h t "com/example/clauseline/clauseline/ContractText") (F_bytes_t : Fld Z h t "com/example/clauseline/clauseline/ContractText" "bytes" "[B" (.ref arr)) (V_arr : PA Z h arr .byte [p0, p1, p2, p3, p4, p5, p6, p7, (120 : Int32), (32 : Int32), (65 : Int32), (98 : Int32), (10 : Int32), (60 : Int32), (10 : Int32), (45 : Int32), (45 : Int32), (10 : Int32), (32 : Int32)]) :
    Met l Z (⟨"com/example/clauseline/clauseline/ContractText", "skipSpaces", "(II)I"⟩ : MethodName) prog_22_method_20_code 4 (some .int) [] ({ frames := 1, cells := 0, slots := 0, locals := 12 } : Room) #[(.ref t), (.int (8 : Int32)), (.int (12 : Int32))] h n0 (RI fun r h' => h' = h ∧ r = (8 : Int32)) := by
  refine start (ls := #[.val (.ref t), .val (.int (8 : Int32)), .val (.int (12 : Int32)), .unset]) (plainFor_of_name pn16) (fun m => by first | (simp [entryFrame, mkF, argsToLocals, Value.category]; done) | rfl) ?_
  intro p e s m below meth c T G w X
  refine iloadN w X d15_0 1 rfl rfl ?_
  refine istoreN w X (8 : Int32) d15_1 2 rfl rfl #[.val (.ref t), .val (.int (8 : Int32)), .val (.int (12 : Int32)), .val (.int (8 : Int32))] rfl ?_
  refine iloadN w X d15_2 3 rfl rfl ?_
  refine iloadN w X d15_3 4 rfl rfl ?_
  refine icmp_ge w X d15_4 25 7 (by decide) (by decide) rfl (fun q => absurd q (by decide)) (fun hc4_1 => ?_)
  refine aloadN w X d15_7 8 rfl rfl rfl ?_
  refine getfield w X (wd66 hw) Via.refl F_bytes_t d15_8 11 rfl (fun T X => ?_)
  refine iloadN w X d15_11 12 rfl rfl ?_
  refine baload w X V_arr (by decide) 8 rfl (Nat.le_of_ble_eq_true rfl) d15_12 13 rfl (120 : Int32) rfl ?_
  refine callSPI w X [(.int (120 : Int32))] (wd88 hw) (wd89 hw) (wd41 hw) (wd90 hw) (by decide) (rm_own_sp1 hw (120 : Int32) h n0 zn) d15_13 16 rfl 0 (by decide) (by decide) (lenOf pd5 rfl) rfl (Nat.le_of_eq rfl) rfl (by decide) (by decide) (fun r2 T X hq => ?_)
  obtain rfl : r2 = (0 : Int32) := hq.trans (by decide)
  refine if_eq w X d15_16 25 19 (by decide) (by decide) rfl (fun hc16_3 => ?_) (fun q => absurd q (by decide))
  refine iloadN w X d15_25 26 rfl rfl ?_
  refine retI w X rfl d15_26 (by decide) (by decide) ?_
  exact ⟨(8 : Int32), rfl, rfl, rfl⟩
set_option maxRecDepth 65536 in
set_option maxHeartbeats 40000000 in
theorem rm_startsWith_40 {l : Launch} {Z : State} {a0 : Array Value} (hw : ∀ d ∈ tables_1, d.before a0 Z = true) (t arr : Addr) (p0 p1 p2 p3 p4 p5 p6 p7 : Int32) (cs : Int32) (sio : Value) (qs qv : Addr) (h : Heap) (n0 : Nat) (zn : n0 ≤ h.size) (E_t : Exa Z h t "com/example/clauseline/clauseline/ContractText") (F_bytes_t : Fld Z h t "com/example/clauseline/clauseline/ContractText" "bytes" "[B" (.ref arr)) (V_arr : PA Z h arr .byte [p0, p1, p2, p3, p4, p5, p6, p7, (120 : Int32), (32 : Int32), (65 : Int32), (98 : Int32), (10 : Int32), (60 : Int32), (10 : Int32), (45 : Int32), (45 : Int32), (10 : Int32), (32 : Int32)]) (S_cs : Sta Z h "java/lang/String" "COMPACT_STRINGS" "Z" (.int cs)) (hcs : ¬ cs = 0) (S_sio : Sta Z h "jdk/internal/util/Preconditions" "SIOOBE_FORMATTER" "Ljava/util/function/BiFunction;" sio) (hsio : sio.isRef = true) (E_qs : Exa Z h qs "java/lang/String") (F_value_qs : Fld Z h qs "java/lang/String" "value" "[B" (.ref qv)) (V_qv : PA Z h qv .byte [(73 : Int32), (83 : Int32), (68 : Int32), (65 : Int32)]) (F_coder_qs : Fld Z h qs "java/lang/String" "coder" "B" (.int (0 : Int32))) :
    Met l Z (⟨"com/example/clauseline/clauseline/ContractText", "startsWith", "(IILjava/lang/String;)Z"⟩ : MethodName) prog_22_method_34_code 5 (some .boolean) [] ({ frames := 4, cells := 0, slots := 0, locals := 54 } : Room) #[(.ref t), (.int (8 : Int32)), (.int (12 : Int32)), (.ref qs)] h n0 (RI fun r h' => h' = h ∧ r = (0 : Int32)) := by
  refine start (ls := #[.val (.ref t), .val (.int (8 : Int32)), .val (.int (12 : Int32)), .val (.ref qs), .unset]) (plainFor_of_name pn16) (fun m => by first | (simp [entryFrame, mkF, argsToLocals, Value.category]; done) | rfl) ?_
  intro p e s m below meth c T G w X
  refine iloadN w X d26_0 1 rfl rfl ?_
  refine iloadN w X d26_1 2 rfl rfl ?_
  refine isub w X (4 : Int32) d26_2 3 rfl (by decide) ?_
  refine aloadN w X d26_3 4 rfl rfl rfl ?_
  refine callVPI w X [] (wd137 hw) (wd138 hw) (notFace_of_selects (args := #[]) (mvT w.2.2.2.2.1 (wd140 hw))) (wd140 hw) (wd139 hw) (wd3 hw) (wd141 hw) (by decide) E_qs (rm_length hw qs qv [(73 : Int32), (83 : Int32), (68 : Int32), (65 : Int32)] cs h n0 zn S_cs hcs E_qs F_value_qs V_qv F_coder_qs) d26_4 7 rfl 1 (by decide) (by decide) (lenOf pd11 rfl) rfl (Nat.le_of_eq rfl) rfl (by decide) (by decide) (fun r1 T X hq => ?_)
  obtain rfl : r1 = (4 : Int32) := hq.trans (by decide)
  refine icmp_ge w X d26_7 12 10 (by decide) (by decide) rfl (fun hc7_2 => ?_) (fun q => absurd q (by decide))
  refine iconst w X (0 : Int32) d26_12 13 rfl rfl ?_
  refine istore w X (0 : Int32) d26_13 15 rfl rfl #[.val (.ref t), .val (.int (8 : Int32)), .val (.int (12 : Int32)), .val (.ref qs), .val (.int (0 : Int32))] rfl ?_
  refine iload w X d26_15 17 rfl rfl ?_
  refine aloadN w X d26_17 18 rfl rfl rfl ?_
  refine callVPI w X [] (wd137 hw) (wd138 hw) (notFace_of_selects (args := #[]) (mvT w.2.2.2.2.1 (wd140 hw))) (wd140 hw) (wd139 hw) (wd3 hw) (wd141 hw) (by decide) E_qs (rm_length hw qs qv [(73 : Int32), (83 : Int32), (68 : Int32), (65 : Int32)] cs h n0 zn S_cs hcs E_qs F_value_qs V_qv F_coder_qs) d26_18 21 rfl 1 (by decide) (by decide) (lenOf pd11 rfl) rfl (Nat.le_of_eq rfl) rfl (by decide) (by decide) (fun r3 T X hq => ?_)
  obtain rfl : r3 = (4 : Int32) := hq.trans (by decide)
  refine icmp_ge w X d26_21 50 24 (by decide) (by decide) rfl (fun q => absurd q (by decide)) (fun hc21_4 => ?_)
  refine aloadN w X d26_24 25 rfl rfl rfl ?_
  refine getfield w X (wd66 hw) Via.refl F_bytes_t d26_25 28 rfl (fun T X => ?_)
  refine iloadN w X d26_28 29 rfl rfl ?_
  refine iload w X d26_29 31 rfl rfl ?_
  refine iadd w X (8 : Int32) d26_31 32 rfl (by decide) ?_
  refine baload w X V_arr (by decide) 8 rfl (Nat.le_of_ble_eq_true rfl) d26_32 33 rfl (120 : Int32) rfl ?_
  refine aloadN w X d26_33 34 rfl rfl rfl ?_
  refine iload w X d26_34 36 rfl rfl ?_
  refine callVPI w X [(.int (0 : Int32))] (wd151 hw) (wd15 hw) (notFace_of_selects (args := #[]) (mvT w.2.2.2.2.1 (wd17 hw))) (wd17 hw) (wd16 hw) (wd3 hw) (wd18 hw) (by decide) E_qs (rm_charAt hw qs qv (0 : Int32) [(73 : Int32), (83 : Int32), (68 : Int32), (65 : Int32)] (4 : Int32) cs sio h n0 zn S_cs hcs E_qs F_value_qs V_qv F_coder_qs rfl (by decide) (by decide) (Nat.le_of_ble_eq_true rfl) S_sio hsio) d26_36 39 rfl 1 (by decide) (by decide) (lenOf pd14 rfl) rfl (Nat.le_of_eq rfl) rfl (by decide) (by decide) (fun r5 T X hq => ?_)
  obtain rfl : r5 = (73 : Int32) := hq.trans (by decide)
  refine icmp_eq w X d26_39 44 42 (by decide) (by decide) rfl (fun q => absurd q (by decide)) (fun hc39_6 => ?_)
  refine iconst w X (0 : Int32) d26_42 43 rfl rfl ?_
  refine retN w X (t := .boolean) rfl (by simp) d26_43 (by decide) (by decide) ?_
  exact ⟨(0 : Int32), rfl, rfl, rfl⟩
set_option maxRecDepth 65536 in
set_option maxHeartbeats 40000000 in
theorem rm_isFooter_37 {l : Launch} {Z : State} {a0 : Array Value} (hw : ∀ d ∈ tables_1, d.before a0 Z = true) (t arr : Addr) (p0 p1 p2 p3 p4 p5 p6 p7 : Int32) (cs : Int32) (sio : Value) (h : Heap) (n0 : Nat) (zn : n0 ≤ h.size) (E_t : Exa Z h t "com/example/clauseline/clauseline/ContractText") (F_bytes_t : Fld Z h t "com/example/clauseline/clauseline/ContractText" "bytes" "[B" (.ref arr)) (V_arr : PA Z h arr .byte [p0, p1, p2, p3, p4, p5, p6, p7, (120 : Int32), (32 : Int32), (65 : Int32), (98 : Int32), (10 : Int32), (60 : Int32), (10 : Int32), (45 : Int32), (45 : Int32), (10 : Int32), (32 : Int32)]) (S_cs : Sta Z h "java/lang/String" "COMPACT_STRINGS" "Z" (.int cs)) (hcs : ¬ cs = 0) (S_sio : Sta Z h "jdk/internal/util/Preconditions" "SIOOBE_FORMATTER" "Ljava/util/function/BiFunction;" sio) (hsio : sio.isRef = true) :
    MetH consts_1 l Z (⟨"com/example/clauseline/clauseline/LineWrap", "isFooter", "(Lcom/example/clauseline/clauseline/ContractText;II)Z"⟩ : MethodName) prog_47_method_16_code 7 (some .boolean) [] ({ frames := 5, cells := 2, slots := 20, locals := 70 } : Room) #[(.ref t), (.int (8 : Int32)), (.int (12 : Int32))] h n0 (RI fun r h' => Keep h h' [] ∧ r = (0 : Int32)) := by
  refine startH (own_EW hw) (ls := #[.val (.ref t), .val (.int (8 : Int32)), .val (.int (12 : Int32)), .unset, .unset, .unset, .unset]) (plainFor_of_name pn20) (fun m => by first | (simp [entryFrame, mkF, argsToLocals, Value.category]; done) | rfl) ?_
  intro p e s0 m below meth c T G s k0 w X ws zk hC
  have K := Keep.refl h []
  refine aloadN w X d23_0 1 rfl rfl rfl ?_
  refine iloadN w X d23_1 2 rfl rfl ?_
  refine iloadN w X d23_2 3 rfl rfl ?_
  refine callVPI w X [(.int (8 : Int32)), (.int (12 : Int32))] (wd123 hw) (wd124 hw) (notFace_of_selects (args := #[]) (mvT w.2.2.2.2.1 (wd126 hw))) (wd126 hw) (wd125 hw) (wd41 hw) (wd127 hw) (by decide) E_t (rm_digitsEnd_38 hw t arr p0 p1 p2 p3 p4 p5 p6 p7 h n0 zn E_t F_bytes_t V_arr) d23_3 6 rfl 0 (by decide) (by decide) (lenOf pd6 rfl) rfl (Nat.le_of_eq rfl) rfl (by decide) (by decide) (fun r1 T X hq => ?_)
  subst hq
  refine istoreN w X (8 : Int32) d23_6 7 rfl rfl #[.val (.ref t), .val (.int (8 : Int32)), .val (.int (12 : Int32)), .val (.int (8 : Int32)), .unset, .unset, .unset] rfl ?_
  refine aloadN w X d23_7 8 rfl rfl rfl ?_
  refine iloadN w X d23_8 9 rfl rfl ?_
  refine iloadN w X d23_9 10 rfl rfl ?_
  refine callVPI w X [(.int (8 : Int32)), (.int (12 : Int32))] (wd83 hw) (wd84 hw) (notFace_of_selects (args := #[]) (mvT w.2.2.2.2.1 (wd86 hw))) (wd86 hw) (wd85 hw) (wd41 hw) (wd87 hw) (by decide) E_t (rm_skipSpaces_39 hw t arr p0 p1 p2 p3 p4 p5 p6 p7 h n0 zn E_t F_bytes_t V_arr) d23_10 13 rfl 0 (by decide) (by decide) (lenOf pd6 rfl) rfl (Nat.le_of_eq rfl) rfl (by decide) (by decide) (fun r2 T X hq => ?_)
  subst hq
  refine istore w X (8 : Int32) d23_13 15 rfl rfl #[.val (.ref t), .val (.int (8 : Int32)), .val (.int (12 : Int32)), .val (.int (8 : Int32)), .val (.int (8 : Int32)), .unset, .unset] rfl ?_
  refine aloadN w X d23_15 16 rfl rfl rfl ?_
  refine iload w X d23_16 18 rfl rfl ?_
  refine iloadN w X d23_18 19 rfl rfl ?_
  refine ldcHt w X ws zk hC (own_EW hw) (by decide) (wd131 hw) (own_wS hw) [(73 : Int32), (83 : Int32), (68 : Int32), (65 : Int32)] ⟨by decide, by decide⟩ (4 : Int32) (by decide) (by decide) d23_19 21 rfl 16 (by decide) (by decide) (by decide) (by decide) (fun s k0 T h3 sa4 sv5 w X ws zk hC E E_sa4 F_coder_sa4 F_value_sa4 V_sv5 hss => ?_)
  have zn : n0 ≤ h3.size := Nat.le_trans zn E.1
  have E_t := E_t.ext E
  have F_bytes_t := F_bytes_t.ext E
  have V_arr := V_arr.ext E
  have S_cs := S_cs.ext E
  have S_sio := S_sio.ext E
  have K := K.ext E
  refine callVPI w X [(.int (8 : Int32)), (.int (12 : Int32)), (.ref sa4)] (wd132 hw) (wd133 hw) (notFace_of_selects (args := #[]) (mvT w.2.2.2.2.1 (wd135 hw))) (wd135 hw) (wd134 hw) (wd41 hw) (wd136 hw) (by decide) E_t (rm_startsWith_40 hw t arr p0 p1 p2 p3 p4 p5 p6 p7 cs sio sa4 sv5 h3 n0 zn E_t F_bytes_t V_arr S_cs hcs S_sio hsio E_sa4 F_value_sa4 V_sv5 F_coder_sa4) d23_21 24 rfl 0 (by decide) (by decide) (lenOf pd12 rfl) rfl (Nat.le_of_eq rfl) rfl (by decide) (by decide) (fun r6 T X hq => ?_)
  subst hq
  refine if_ne w X d23_24 29 27 (by decide) (by decide) rfl (fun q => absurd q (by decide)) (fun hc24_7 => ?_)
  refine iconst w X (0 : Int32) d23_27 28 rfl rfl ?_
  refine retN w X (t := .boolean) rfl (by simp) d23_28 (by decide) (by decide) ?_
  refine And.intro zk (And.intro hC ?_)
  exact ⟨(0 : Int32), rfl, K, rfl⟩
set_option maxRecDepth 65536 in
set_option maxHeartbeats 40000000 in
theorem rm_isPageBreak_35 {l : Launch} {Z : State} {a0 : Array Value} (hw : ∀ d ∈ tables_1, d.before a0 Z = true) (t arr : Addr) (p0 p1 p2 p3 p4 p5 p6 p7 f0 : Int32) (cs : Int32) (sio : Value) (h : Heap) (n0 : Nat) (zn : n0 ≤ h.size) (E_t : Exa Z h t "com/example/clauseline/clauseline/ContractText") (F_bytes_t : Fld Z h t "com/example/clauseline/clauseline/ContractText" "bytes" "[B" (.ref arr)) (V_arr : PA Z h arr .byte [p0, p1, p2, p3, p4, p5, p6, p7, (120 : Int32), (32 : Int32), (65 : Int32), (98 : Int32), (10 : Int32), (60 : Int32), (10 : Int32), (45 : Int32), (45 : Int32), (10 : Int32), (32 : Int32)]) (S_cs : Sta Z h "java/lang/String" "COMPACT_STRINGS" "Z" (.int cs)) (hcs : ¬ cs = 0) (S_sio : Sta Z h "jdk/internal/util/Preconditions" "SIOOBE_FORMATTER" "Ljava/util/function/BiFunction;" sio) (hsio : sio.isRef = true) :
    MetH consts_1 l Z (⟨"com/example/clauseline/clauseline/LineWrap", "isPageBreak", "(Lcom/example/clauseline/clauseline/ContractText;III)Z"⟩ : MethodName) prog_47_method_15_code 4 (some .boolean) [] ({ frames := 6, cells := 2, slots := 20, locals := 88 } : Room) #[(.ref t), (.int f0), (.int (8 : Int32)), (.int (12 : Int32))] h n0 (RI fun r h' => Keep h h' [] ∧ r = (0 : Int32)) := by
  refine startH (own_EW hw) (ls := #[.val (.ref t), .val (.int f0), .val (.int (8 : Int32)), .val (.int (12 : Int32))]) (plainFor_of_name pn20) (fun m => by first | (simp [entryFrame, mkF, argsToLocals, Value.category]; done) | rfl) ?_
  intro p e s0 m below meth c T G s k0 w X ws zk hC
  have K := Keep.refl h []
  refine aloadN w X d21_0 1 rfl rfl rfl ?_
  refine iloadN w X d21_1 2 rfl rfl ?_
  refine iloadN w X d21_2 3 rfl rfl ?_
  refine callSPI w X [(.ref t), (.int (8 : Int32)), (.int (12 : Int32))] (wd114 hw) (wd115 hw) (wd70 hw) (wd116 hw) (by decide) (rm_isMark_36 hw t arr p0 p1 p2 p3 p4 p5 p6 p7 h n0 zn E_t F_bytes_t V_arr) d21_3 6 rfl 0 (by decide) (by decide) (lenOf pd9 rfl) rfl (Nat.le_of_eq rfl) rfl (by decide) (by decide) (fun r1 T X hq => ?_)
  subst hq
  refine if_ne w X d21_6 18 9 (by decide) (by decide) rfl (fun q => absurd q (by decide)) (fun hc6_2 => ?_)
  refine aloadN w X d21_9 10 rfl rfl rfl ?_
  refine iloadN w X d21_10 11 rfl rfl ?_
  refine iloadN w X d21_11 12 rfl rfl ?_
  refine callSH w X ws zk hC (own_EW hw) [(.ref t), (.int (8 : Int32)), (.int (12 : Int32))] (wd120 hw) (wd121 hw) (wd70 hw) (wd122 hw) (by decide) (rm_isFooter_37 hw t arr p0 p1 p2 p3 p4 p5 p6 p7 cs sio h n0 zn E_t F_bytes_t V_arr S_cs hcs S_sio hsio) d21_12 15 rfl 0 (by decide) (by decide) (lenOf pd9 rfl) rfl (Nat.le_of_eq rfl) rfl (by decide) (by decide) (fun s k0 v T h4 w X ws zk hC hq => ?_)
  obtain ⟨r3, rfl, hq⟩ := hq
  obtain ⟨Kq, rfl⟩ := hq
  have S_cs := Sta.keepN S_cs Kq all0
  have S_sio := Sta.keepN S_sio Kq all0
  have zn : n0 ≤ h4.size := Nat.le_trans zn Kq.1
  have E_t := E_t.keep Kq
  have F_bytes_t := F_bytes_t.keep Kq nin0
  have V_arr := V_arr.keep Kq nin0
  have K := K.trans Kq all0
  show G (T.setTop (mkF m 15 #[.val (.ref t), .val (.int f0), .val (.int (8 : Int32)), .val (.int (12 : Int32))] [(.int (0 : Int32))]))
  refine if_eq w X d21_15 20 18 (by decide) (by decide) rfl (fun hc15_5 => ?_) (fun q => absurd q (by decide))
  refine aloadN w X d21_20 21 rfl rfl rfl ?_
  refine iloadN w X d21_21 22 rfl rfl ?_
  refine iloadN w X d21_22 23 rfl rfl ?_
  refine callVPI w X [(.int (8 : Int32)), (.int (12 : Int32))] (wd123 hw) (wd124 hw) (notFace_of_selects (args := #[]) (mvT w.2.2.2.2.1 (wd126 hw))) (wd126 hw) (wd125 hw) (wd41 hw) (wd127 hw) (by decide) E_t (rm_digitsEnd_38 hw t arr p0 p1 p2 p3 p4 p5 p6 p7 h4 n0 zn E_t F_bytes_t V_arr) d21_23 26 rfl 0 (by decide) (by decide) (lenOf pd6 rfl) rfl (Nat.le_of_eq rfl) rfl (by decide) (by decide) (fun r6 T X hq => ?_)
  subst hq
  refine iloadN w X d21_26 27 rfl rfl ?_
  refine icmp_ne w X d21_27 42 30 (by decide) (by decide) rfl (fun hc27_7 => ?_) (fun q => absurd q (by decide))
  refine iconst w X (0 : Int32) d21_42 43 rfl rfl ?_
  refine retN w X (t := .boolean) rfl (by simp) d21_43 (by decide) (by decide) ?_
  refine And.intro zk (And.intro hC ?_)
  exact ⟨(0 : Int32), rfl, K, rfl⟩
set_option maxRecDepth 65536 in
set_option maxHeartbeats 40000000 in
theorem rm_isMark_42 {l : Launch} {Z : State} {a0 : Array Value} (hw : ∀ d ∈ tables_1, d.before a0 Z = true) (t arr : Addr) (p0 p1 p2 p3 p4 p5 p6 p7 : Int32) (h : Heap) (n0 : Nat) (zn : n0 ≤ h.size) (E_t : Exa Z h t "com/example/clauseline/clauseline/ContractText") (F_bytes_t : Fld Z h t "com/example/clauseline/clauseline/ContractText" "bytes" "[B" (.ref arr)) (V_arr : PA Z h arr .byte [p0, p1, p2, p3, p4, p5, p6, p7, (97 : Int32), (98 : Int32), (99 : Int32), (46 : Int32), (10 : Int32), (60 : Int32), (10 : Int32), (45 : Int32), (45 : Int32), (10 : Int32), (32 : Int32)]) :
    Met l Z (⟨"com/example/clauseline/clauseline/LineWrap", "isMark", "(Lcom/example/clauseline/clauseline/ContractText;II)Z"⟩ : MethodName) prog_47_method_18_code 4 (some .boolean) [] ({ frames := 1, cells := 0, slots := 0, locals := 13 } : Room) #[(.ref t), (.int (8 : Int32)), (.int (12 : Int32))] h n0 (RI fun r h' => h' = h ∧ r = (0 : Int32)) := by
  refine start (ls := #[.val (.ref t), .val (.int (8 : Int32)), .val (.int (12 : Int32)), .unset]) (plainFor_of_name pn20) (fun m => by first | (simp [entryFrame, mkF, argsToLocals, Value.category]; done) | rfl) ?_
  intro p e s m below meth c T G w X
  refine aloadN w X d22_0 1 rfl rfl rfl ?_
  refine iloadN w X d22_1 2 rfl rfl ?_
  refine callVPI w X [(.int (8 : Int32))] (wd103 hw) (wd104 hw) (notFace_of_selects (args := #[]) (mvT w.2.2.2.2.1 (wd106 hw))) (wd106 hw) (wd105 hw) (wd41 hw) (wd107 hw) (by decide) E_t (rm_baG hw t arr [p0, p1, p2, p3, p4, p5, p6, p7, (97 : Int32), (98 : Int32), (99 : Int32), (46 : Int32), (10 : Int32), (60 : Int32), (10 : Int32), (45 : Int32), (45 : Int32), (10 : Int32), (32 : Int32)] 8 h n0 zn E_t F_bytes_t V_arr (Nat.le_of_ble_eq_true rfl) (Nat.le_of_ble_eq_true rfl)) d22_2 5 rfl 0 (by decide) (by decide) (lenOf pd8 rfl) rfl (Nat.le_of_eq rfl) rfl (by decide) (by decide) (fun r1 T X hq => ?_)
  obtain rfl : r1 = (97 : Int32) := hq
  refine istoreN w X (97 : Int32) d22_5 6 rfl rfl #[.val (.ref t), .val (.int (8 : Int32)), .val (.int (12 : Int32)), .val (.int (97 : Int32))] rfl ?_
  refine iloadN w X d22_6 7 rfl rfl ?_
  refine iloadN w X d22_7 8 rfl rfl ?_
  refine isub w X (4 : Int32) d22_8 9 rfl (by decide) ?_
  refine iconst w X (1 : Int32) d22_9 10 rfl rfl ?_
  refine icmp_ne w X d22_10 29 13 (by decide) (by decide) rfl (fun hc10_2 => ?_) (fun q => absurd q (by decide))
  refine iconst w X (0 : Int32) d22_29 30 rfl rfl ?_
  refine retN w X (t := .boolean) rfl (by simp) d22_30 (by decide) (by decide) ?_
  exact ⟨(0 : Int32), rfl, rfl, rfl⟩
set_option maxRecDepth 65536 in
set_option maxHeartbeats 40000000 in
theorem rm_digitsEnd_44 {l : Launch} {Z : State} {a0 : Array Value} (hw : ∀ d ∈ tables_1, d.before a0 Z = true) (t arr : Addr) (p0 p1 p2 p3 p4 p5 p6 p7 : Int32) (h : Heap) (n0 : Nat) (zn : n0 ≤ h.size) (E_t : Exa Z h t "com/example/clauseline/clauseline/ContractText") (F_bytes_t : Fld Z h t "com/example/clauseline/clauseline/ContractText" "bytes" "[B" (.ref arr)) (V_arr : PA Z h arr .byte [p0, p1, p2, p3, p4, p5, p6, p7, (97 : Int32), (98 : Int32), (99 : Int32), (46 : Int32), (10 : Int32), (60 : Int32), (10 : Int32), (45 : Int32), (45 : Int32), (10 : Int32), (32 : Int32)]) :
    Met l Z (⟨"com/example/clauseline/clauseline/ContractText", "digitsEnd", "(II)I"⟩ : MethodName) prog_22_method_22_code 4 (some .int) [] ({ frames := 1, cells := 0, slots := 0, locals := 12 } : Room) #[(.ref t), (.int (8 : Int32)), (.int (12 : Int32))] h n0 (RI fun r h' => h' = h ∧ r = (8 : Int32)) := by
  refine start (ls := #[.val (.ref t), .val (.int (8 : Int32)), .val (.int (12 : Int32)), .unset]) (plainFor_of_name pn16) (fun m => by first | (simp [entryFrame, mkF, argsToLocals, Value.category]; done) | rfl) ?_
  intro p e s m below meth c T G w X
  refine iloadN w X d24_0 1 rfl rfl ?_
  refine istoreN w X (8 : Int32) d24_1 2 rfl rfl #[.val (.ref t), .val (.int (8 : Int32)), .val (.int (12 : Int32)), .val (.int (8 : Int32))] rfl ?_
  refine iloadN w X d24_2 3 rfl rfl ?_
  refine iloadN w X d24_3 4 rfl rfl ?_
  refine icmp_ge w X d24_4 25 7 (by decide) (by decide) rfl (fun q => absurd q (by decide)) (fun hc4_1 => ?_)
  refine aloadN w X d24_7 8 rfl rfl rfl ?_
  refine getfield w X (wd66 hw) Via.refl F_bytes_t d24_8 11 rfl (fun T X => ?_)
  refine iloadN w X d24_11 12 rfl rfl ?_
  refine baload w X V_arr (by decide) 8 rfl (Nat.le_of_ble_eq_true rfl) d24_12 13 rfl (97 : Int32) rfl ?_
  refine callSPI w X [(.int (97 : Int32))] (wd128 hw) (wd129 hw) (wd41 hw) (wd130 hw) (by decide) (rm_own_dg hw (97 : Int32) h n0 zn) d24_13 16 rfl 0 (by decide) (by decide) (lenOf pd5 rfl) rfl (Nat.le_of_eq rfl) rfl (by decide) (by decide) (fun r2 T X hq => ?_)
  obtain rfl : r2 = (0 : Int32) := hq.trans (by decide)
  refine if_eq w X d24_16 25 19 (by decide) (by decide) rfl (fun hc16_3 => ?_) (fun q => absurd q (by decide))
  refine iloadN w X d24_25 26 rfl rfl ?_
  refine retI w X rfl d24_26 (by decide) (by decide) ?_
  exact ⟨(8 : Int32), rfl, rfl, rfl⟩
set_option maxRecDepth 65536 in
set_option maxHeartbeats 40000000 in
theorem rm_skipSpaces_45 {l : Launch} {Z : State} {a0 : Array Value} (hw : ∀ d ∈ tables_1, d.before a0 Z = true) (t arr : Addr) (p0 p1 p2 p3 p4 p5 p6 p7 : Int32) (h : Heap) (n0 : Nat) (zn : n0 ≤ h.size) (E_t : Exa Z h t "com/example/clauseline/clauseline/ContractText") (F_bytes_t : Fld Z h t "com/example/clauseline/clauseline/ContractText" "bytes" "[B" (.ref arr)) (V_arr : PA Z h arr .byte [p0, p1, p2, p3, p4, p5, p6, p7, (97 : Int32), (98 : Int32), (99 : Int32), (46 : Int32), (10 : Int32), (60 : Int32), (10 : Int32), (45 : Int32), (45 : Int32), (10 : Int32), (32 : Int32)]) :
    Met l Z (⟨"com/example/clauseline/clauseline/ContractText", "skipSpaces", "(II)I"⟩ : MethodName) prog_22_method_20_code 4 (some .int) [] ({ frames := 1, cells := 0, slots := 0, locals := 12 } : Room) #[(.ref t), (.int (8 : Int32)), (.int (12 : Int32))] h n0 (RI fun r h' => h' = h ∧ r = (8 : Int32)) := by
  refine start (ls := #[.val (.ref t), .val (.int (8 : Int32)), .val (.int (12 : Int32)), .unset]) (plainFor_of_name pn16) (fun m => by first | (simp [entryFrame, mkF, argsToLocals, Value.category]; done) | rfl) ?_
  intro p e s m below meth c T G w X
  refine iloadN w X d15_0 1 rfl rfl ?_
  refine istoreN w X (8 : Int32) d15_1 2 rfl rfl #[.val (.ref t), .val (.int (8 : Int32)), .val (.int (12 : Int32)), .val (.int (8 : Int32))] rfl ?_
  refine iloadN w X d15_2 3 rfl rfl ?_
  refine iloadN w X d15_3 4 rfl rfl ?_
  refine icmp_ge w X d15_4 25 7 (by decide) (by decide) rfl (fun q => absurd q (by decide)) (fun hc4_1 => ?_)
  refine aloadN w X d15_7 8 rfl rfl rfl ?_
  refine getfield w X (wd66 hw) Via.refl F_bytes_t d15_8 11 rfl (fun T X => ?_)
  refine iloadN w X d15_11 12 rfl rfl ?_
  refine baload w X V_arr (by decide) 8 rfl (Nat.le_of_ble_eq_true rfl) d15_12 13 rfl (97 : Int32) rfl ?_
  refine callSPI w X [(.int (97 : Int32))] (wd88 hw) (wd89 hw) (wd41 hw) (wd90 hw) (by decide) (rm_own_sp1 hw (97 : Int32) h n0 zn) d15_13 16 rfl 0 (by decide) (by decide) (lenOf pd5 rfl) rfl (Nat.le_of_eq rfl) rfl (by decide) (by decide) (fun r2 T X hq => ?_)
  obtain rfl : r2 = (0 : Int32) := hq.trans (by decide)
  refine if_eq w X d15_16 25 19 (by decide) (by decide) rfl (fun hc16_3 => ?_) (fun q => absurd q (by decide))
  refine iloadN w X d15_25 26 rfl rfl ?_
  refine retI w X rfl d15_26 (by decide) (by decide) ?_
  exact ⟨(8 : Int32), rfl, rfl, rfl⟩
set_option maxRecDepth 65536 in
set_option maxHeartbeats 40000000 in
theorem rm_startsWith_46 {l : Launch} {Z : State} {a0 : Array Value} (hw : ∀ d ∈ tables_1, d.before a0 Z = true) (t arr : Addr) (p0 p1 p2 p3 p4 p5 p6 p7 : Int32) (cs : Int32) (sio : Value) (qs qv : Addr) (h : Heap) (n0 : Nat) (zn : n0 ≤ h.size) (E_t : Exa Z h t "com/example/clauseline/clauseline/ContractText") (F_bytes_t : Fld Z h t "com/example/clauseline/clauseline/ContractText" "bytes" "[B" (.ref arr)) (V_arr : PA Z h arr .byte [p0, p1, p2, p3, p4, p5, p6, p7, (97 : Int32), (98 : Int32), (99 : Int32), (46 : Int32), (10 : Int32), (60 : Int32), (10 : Int32), (45 : Int32), (45 : Int32), (10 : Int32), (32 : Int32)]) (S_cs : Sta Z h "java/lang/String" "COMPACT_STRINGS" "Z" (.int cs)) (hcs : ¬ cs = 0) (S_sio : Sta Z h "jdk/internal/util/Preconditions" "SIOOBE_FORMATTER" "Ljava/util/function/BiFunction;" sio) (hsio : sio.isRef = true) (E_qs : Exa Z h qs "java/lang/String") (F_value_qs : Fld Z h qs "java/lang/String" "value" "[B" (.ref qv)) (V_qv : PA Z h qv .byte [(73 : Int32), (83 : Int32), (68 : Int32), (65 : Int32)]) (F_coder_qs : Fld Z h qs "java/lang/String" "coder" "B" (.int (0 : Int32))) :
    Met l Z (⟨"com/example/clauseline/clauseline/ContractText", "startsWith", "(IILjava/lang/String;)Z"⟩ : MethodName) prog_22_method_34_code 5 (some .boolean) [] ({ frames := 4, cells := 0, slots := 0, locals := 54 } : Room) #[(.ref t), (.int (8 : Int32)), (.int (12 : Int32)), (.ref qs)] h n0 (RI fun r h' => h' = h ∧ r = (0 : Int32)) := by
  refine start (ls := #[.val (.ref t), .val (.int (8 : Int32)), .val (.int (12 : Int32)), .val (.ref qs), .unset]) (plainFor_of_name pn16) (fun m => by first | (simp [entryFrame, mkF, argsToLocals, Value.category]; done) | rfl) ?_
  intro p e s m below meth c T G w X
  refine iloadN w X d26_0 1 rfl rfl ?_
  refine iloadN w X d26_1 2 rfl rfl ?_
  refine isub w X (4 : Int32) d26_2 3 rfl (by decide) ?_
  refine aloadN w X d26_3 4 rfl rfl rfl ?_
  refine callVPI w X [] (wd137 hw) (wd138 hw) (notFace_of_selects (args := #[]) (mvT w.2.2.2.2.1 (wd140 hw))) (wd140 hw) (wd139 hw) (wd3 hw) (wd141 hw) (by decide) E_qs (rm_length hw qs qv [(73 : Int32), (83 : Int32), (68 : Int32), (65 : Int32)] cs h n0 zn S_cs hcs E_qs F_value_qs V_qv F_coder_qs) d26_4 7 rfl 1 (by decide) (by decide) (lenOf pd11 rfl) rfl (Nat.le_of_eq rfl) rfl (by decide) (by decide) (fun r1 T X hq => ?_)
  obtain rfl : r1 = (4 : Int32) := hq.trans (by decide)
  refine icmp_ge w X d26_7 12 10 (by decide) (by decide) rfl (fun hc7_2 => ?_) (fun q => absurd q (by decide))
  refine iconst w X (0 : Int32) d26_12 13 rfl rfl ?_
  refine istore w X (0 : Int32) d26_13 15 rfl rfl #[.val (.ref t), .val (.int (8 : Int32)), .val (.int (12 : Int32)), .val (.ref qs), .val (.int (0 : Int32))] rfl ?_
  refine iload w X d26_15 17 rfl rfl ?_
  refine aloadN w X d26_17 18 rfl rfl rfl ?_
  refine callVPI w X [] (wd137 hw) (wd138 hw) (notFace_of_selects (args := #[]) (mvT w.2.2.2.2.1 (wd140 hw))) (wd140 hw) (wd139 hw) (wd3 hw) (wd141 hw) (by decide) E_qs (rm_length hw qs qv [(73 : Int32), (83 : Int32), (68 : Int32), (65 : Int32)] cs h n0 zn S_cs hcs E_qs F_value_qs V_qv F_coder_qs) d26_18 21 rfl 1 (by decide) (by decide) (lenOf pd11 rfl) rfl (Nat.le_of_eq rfl) rfl (by decide) (by decide) (fun r3 T X hq => ?_)
  obtain rfl : r3 = (4 : Int32) := hq.trans (by decide)
  refine icmp_ge w X d26_21 50 24 (by decide) (by decide) rfl (fun q => absurd q (by decide)) (fun hc21_4 => ?_)
  refine aloadN w X d26_24 25 rfl rfl rfl ?_
  refine getfield w X (wd66 hw) Via.refl F_bytes_t d26_25 28 rfl (fun T X => ?_)
  refine iloadN w X d26_28 29 rfl rfl ?_
  refine iload w X d26_29 31 rfl rfl ?_
  refine iadd w X (8 : Int32) d26_31 32 rfl (by decide) ?_
  refine baload w X V_arr (by decide) 8 rfl (Nat.le_of_ble_eq_true rfl) d26_32 33 rfl (97 : Int32) rfl ?_
  refine aloadN w X d26_33 34 rfl rfl rfl ?_
  refine iload w X d26_34 36 rfl rfl ?_
  refine callVPI w X [(.int (0 : Int32))] (wd151 hw) (wd15 hw) (notFace_of_selects (args := #[]) (mvT w.2.2.2.2.1 (wd17 hw))) (wd17 hw) (wd16 hw) (wd3 hw) (wd18 hw) (by decide) E_qs (rm_charAt hw qs qv (0 : Int32) [(73 : Int32), (83 : Int32), (68 : Int32), (65 : Int32)] (4 : Int32) cs sio h n0 zn S_cs hcs E_qs F_value_qs V_qv F_coder_qs rfl (by decide) (by decide) (Nat.le_of_ble_eq_true rfl) S_sio hsio) d26_36 39 rfl 1 (by decide) (by decide) (lenOf pd14 rfl) rfl (Nat.le_of_eq rfl) rfl (by decide) (by decide) (fun r5 T X hq => ?_)
  obtain rfl : r5 = (73 : Int32) := hq.trans (by decide)
  refine icmp_eq w X d26_39 44 42 (by decide) (by decide) rfl (fun q => absurd q (by decide)) (fun hc39_6 => ?_)
  refine iconst w X (0 : Int32) d26_42 43 rfl rfl ?_
  refine retN w X (t := .boolean) rfl (by simp) d26_43 (by decide) (by decide) ?_
  exact ⟨(0 : Int32), rfl, rfl, rfl⟩
set_option maxRecDepth 65536 in
set_option maxHeartbeats 40000000 in
theorem rm_isFooter_43 {l : Launch} {Z : State} {a0 : Array Value} (hw : ∀ d ∈ tables_1, d.before a0 Z = true) (t arr : Addr) (p0 p1 p2 p3 p4 p5 p6 p7 : Int32) (cs : Int32) (sio : Value) (h : Heap) (n0 : Nat) (zn : n0 ≤ h.size) (E_t : Exa Z h t "com/example/clauseline/clauseline/ContractText") (F_bytes_t : Fld Z h t "com/example/clauseline/clauseline/ContractText" "bytes" "[B" (.ref arr)) (V_arr : PA Z h arr .byte [p0, p1, p2, p3, p4, p5, p6, p7, (97 : Int32), (98 : Int32), (99 : Int32), (46 : Int32), (10 : Int32), (60 : Int32), (10 : Int32), (45 : Int32), (45 : Int32), (10 : Int32), (32 : Int32)]) (S_cs : Sta Z h "java/lang/String" "COMPACT_STRINGS" "Z" (.int cs)) (hcs : ¬ cs = 0) (S_sio : Sta Z h "jdk/internal/util/Preconditions" "SIOOBE_FORMATTER" "Ljava/util/function/BiFunction;" sio) (hsio : sio.isRef = true) :
    MetH consts_1 l Z (⟨"com/example/clauseline/clauseline/LineWrap", "isFooter", "(Lcom/example/clauseline/clauseline/ContractText;II)Z"⟩ : MethodName) prog_47_method_16_code 7 (some .boolean) [] ({ frames := 5, cells := 2, slots := 20, locals := 70 } : Room) #[(.ref t), (.int (8 : Int32)), (.int (12 : Int32))] h n0 (RI fun r h' => Keep h h' [] ∧ r = (0 : Int32)) := by
  refine startH (own_EW hw) (ls := #[.val (.ref t), .val (.int (8 : Int32)), .val (.int (12 : Int32)), .unset, .unset, .unset, .unset]) (plainFor_of_name pn20) (fun m => by first | (simp [entryFrame, mkF, argsToLocals, Value.category]; done) | rfl) ?_
  intro p e s0 m below meth c T G s k0 w X ws zk hC
  have K := Keep.refl h []
  refine aloadN w X d23_0 1 rfl rfl rfl ?_
  refine iloadN w X d23_1 2 rfl rfl ?_
  refine iloadN w X d23_2 3 rfl rfl ?_
  refine callVPI w X [(.int (8 : Int32)), (.int (12 : Int32))] (wd123 hw) (wd124 hw) (notFace_of_selects (args := #[]) (mvT w.2.2.2.2.1 (wd126 hw))) (wd126 hw) (wd125 hw) (wd41 hw) (wd127 hw) (by decide) E_t (rm_digitsEnd_44 hw t arr p0 p1 p2 p3 p4 p5 p6 p7 h n0 zn E_t F_bytes_t V_arr) d23_3 6 rfl 0 (by decide) (by decide) (lenOf pd6 rfl) rfl (Nat.le_of_eq rfl) rfl (by decide) (by decide) (fun r1 T X hq => ?_)
  subst hq
  refine istoreN w X (8 : Int32) d23_6 7 rfl rfl #[.val (.ref t), .val (.int (8 : Int32)), .val (.int (12 : Int32)), .val (.int (8 : Int32)), .unset, .unset, .unset] rfl ?_
  refine aloadN w X d23_7 8 rfl rfl rfl ?_
  refine iloadN w X d23_8 9 rfl rfl ?_
  refine iloadN w X d23_9 10 rfl rfl ?_
  refine callVPI w X [(.int (8 : Int32)), (.int (12 : Int32))] (wd83 hw) (wd84 hw) (notFace_of_selects (args := #[]) (mvT w.2.2.2.2.1 (wd86 hw))) (wd86 hw) (wd85 hw) (wd41 hw) (wd87 hw) (by decide) E_t (rm_skipSpaces_45 hw t arr p0 p1 p2 p3 p4 p5 p6 p7 h n0 zn E_t F_bytes_t V_arr) d23_10 13 rfl 0 (by decide) (by decide) (lenOf pd6 rfl) rfl (Nat.le_of_eq rfl) rfl (by decide) (by decide) (fun r2 T X hq => ?_)
  subst hq
  refine istore w X (8 : Int32) d23_13 15 rfl rfl #[.val (.ref t), .val (.int (8 : Int32)), .val (.int (12 : Int32)), .val (.int (8 : Int32)), .val (.int (8 : Int32)), .unset, .unset] rfl ?_
  refine aloadN w X d23_15 16 rfl rfl rfl ?_
  refine iload w X d23_16 18 rfl rfl ?_
  refine iloadN w X d23_18 19 rfl rfl ?_
  refine ldcHt w X ws zk hC (own_EW hw) (by decide) (wd131 hw) (own_wS hw) [(73 : Int32), (83 : Int32), (68 : Int32), (65 : Int32)] ⟨by decide, by decide⟩ (4 : Int32) (by decide) (by decide) d23_19 21 rfl 16 (by decide) (by decide) (by decide) (by decide) (fun s k0 T h3 sa4 sv5 w X ws zk hC E E_sa4 F_coder_sa4 F_value_sa4 V_sv5 hss => ?_)
  have zn : n0 ≤ h3.size := Nat.le_trans zn E.1
  have E_t := E_t.ext E
  have F_bytes_t := F_bytes_t.ext E
  have V_arr := V_arr.ext E
  have S_cs := S_cs.ext E
  have S_sio := S_sio.ext E
  have K := K.ext E
  refine callVPI w X [(.int (8 : Int32)), (.int (12 : Int32)), (.ref sa4)] (wd132 hw) (wd133 hw) (notFace_of_selects (args := #[]) (mvT w.2.2.2.2.1 (wd135 hw))) (wd135 hw) (wd134 hw) (wd41 hw) (wd136 hw) (by decide) E_t (rm_startsWith_46 hw t arr p0 p1 p2 p3 p4 p5 p6 p7 cs sio sa4 sv5 h3 n0 zn E_t F_bytes_t V_arr S_cs hcs S_sio hsio E_sa4 F_value_sa4 V_sv5 F_coder_sa4) d23_21 24 rfl 0 (by decide) (by decide) (lenOf pd12 rfl) rfl (Nat.le_of_eq rfl) rfl (by decide) (by decide) (fun r6 T X hq => ?_)
  subst hq
  refine if_ne w X d23_24 29 27 (by decide) (by decide) rfl (fun q => absurd q (by decide)) (fun hc24_7 => ?_)
  refine iconst w X (0 : Int32) d23_27 28 rfl rfl ?_
  refine retN w X (t := .boolean) rfl (by simp) d23_28 (by decide) (by decide) ?_
  refine And.intro zk (And.intro hC ?_)
  exact ⟨(0 : Int32), rfl, K, rfl⟩
set_option maxRecDepth 65536 in
set_option maxHeartbeats 40000000 in
theorem rm_isPageBreak_41 {l : Launch} {Z : State} {a0 : Array Value} (hw : ∀ d ∈ tables_1, d.before a0 Z = true) (t arr : Addr) (p0 p1 p2 p3 p4 p5 p6 p7 f0 : Int32) (cs : Int32) (sio : Value) (h : Heap) (n0 : Nat) (zn : n0 ≤ h.size) (E_t : Exa Z h t "com/example/clauseline/clauseline/ContractText") (F_bytes_t : Fld Z h t "com/example/clauseline/clauseline/ContractText" "bytes" "[B" (.ref arr)) (V_arr : PA Z h arr .byte [p0, p1, p2, p3, p4, p5, p6, p7, (97 : Int32), (98 : Int32), (99 : Int32), (46 : Int32), (10 : Int32), (60 : Int32), (10 : Int32), (45 : Int32), (45 : Int32), (10 : Int32), (32 : Int32)]) (S_cs : Sta Z h "java/lang/String" "COMPACT_STRINGS" "Z" (.int cs)) (hcs : ¬ cs = 0) (S_sio : Sta Z h "jdk/internal/util/Preconditions" "SIOOBE_FORMATTER" "Ljava/util/function/BiFunction;" sio) (hsio : sio.isRef = true) :
    MetH consts_1 l Z (⟨"com/example/clauseline/clauseline/LineWrap", "isPageBreak", "(Lcom/example/clauseline/clauseline/ContractText;III)Z"⟩ : MethodName) prog_47_method_15_code 4 (some .boolean) [] ({ frames := 6, cells := 2, slots := 20, locals := 88 } : Room) #[(.ref t), (.int f0), (.int (8 : Int32)), (.int (12 : Int32))] h n0 (RI fun r h' => Keep h h' [] ∧ r = (0 : Int32)) := by
  refine startH (own_EW hw) (ls := #[.val (.ref t), .val (.int f0), .val (.int (8 : Int32)), .val (.int (12 : Int32))]) (plainFor_of_name pn20) (fun m => by first | (simp [entryFrame, mkF, argsToLocals, Value.category]; done) | rfl) ?_
  intro p e s0 m below meth c T G s k0 w X ws zk hC
  have K := Keep.refl h []
  refine aloadN w X d21_0 1 rfl rfl rfl ?_
  refine iloadN w X d21_1 2 rfl rfl ?_
  refine iloadN w X d21_2 3 rfl rfl ?_
  refine callSPI w X [(.ref t), (.int (8 : Int32)), (.int (12 : Int32))] (wd114 hw) (wd115 hw) (wd70 hw) (wd116 hw) (by decide) (rm_isMark_42 hw t arr p0 p1 p2 p3 p4 p5 p6 p7 h n0 zn E_t F_bytes_t V_arr) d21_3 6 rfl 0 (by decide) (by decide) (lenOf pd9 rfl) rfl (Nat.le_of_eq rfl) rfl (by decide) (by decide) (fun r1 T X hq => ?_)
  subst hq
  refine if_ne w X d21_6 18 9 (by decide) (by decide) rfl (fun q => absurd q (by decide)) (fun hc6_2 => ?_)
  refine aloadN w X d21_9 10 rfl rfl rfl ?_
  refine iloadN w X d21_10 11 rfl rfl ?_
  refine iloadN w X d21_11 12 rfl rfl ?_
  refine callSH w X ws zk hC (own_EW hw) [(.ref t), (.int (8 : Int32)), (.int (12 : Int32))] (wd120 hw) (wd121 hw) (wd70 hw) (wd122 hw) (by decide) (rm_isFooter_43 hw t arr p0 p1 p2 p3 p4 p5 p6 p7 cs sio h n0 zn E_t F_bytes_t V_arr S_cs hcs S_sio hsio) d21_12 15 rfl 0 (by decide) (by decide) (lenOf pd9 rfl) rfl (Nat.le_of_eq rfl) rfl (by decide) (by decide) (fun s k0 v T h4 w X ws zk hC hq => ?_)
  obtain ⟨r3, rfl, hq⟩ := hq
  obtain ⟨Kq, rfl⟩ := hq
  have S_cs := Sta.keepN S_cs Kq all0
  have S_sio := Sta.keepN S_sio Kq all0
  have zn : n0 ≤ h4.size := Nat.le_trans zn Kq.1
  have E_t := E_t.keep Kq
  have F_bytes_t := F_bytes_t.keep Kq nin0
  have V_arr := V_arr.keep Kq nin0
  have K := K.trans Kq all0
  show G (T.setTop (mkF m 15 #[.val (.ref t), .val (.int f0), .val (.int (8 : Int32)), .val (.int (12 : Int32))] [(.int (0 : Int32))]))
  refine if_eq w X d21_15 20 18 (by decide) (by decide) rfl (fun hc15_5 => ?_) (fun q => absurd q (by decide))
  refine aloadN w X d21_20 21 rfl rfl rfl ?_
  refine iloadN w X d21_21 22 rfl rfl ?_
  refine iloadN w X d21_22 23 rfl rfl ?_
  refine callVPI w X [(.int (8 : Int32)), (.int (12 : Int32))] (wd123 hw) (wd124 hw) (notFace_of_selects (args := #[]) (mvT w.2.2.2.2.1 (wd126 hw))) (wd126 hw) (wd125 hw) (wd41 hw) (wd127 hw) (by decide) E_t (rm_digitsEnd_44 hw t arr p0 p1 p2 p3 p4 p5 p6 p7 h4 n0 zn E_t F_bytes_t V_arr) d21_23 26 rfl 0 (by decide) (by decide) (lenOf pd6 rfl) rfl (Nat.le_of_eq rfl) rfl (by decide) (by decide) (fun r6 T X hq => ?_)
  subst hq
  refine iloadN w X d21_26 27 rfl rfl ?_
  refine icmp_ne w X d21_27 42 30 (by decide) (by decide) rfl (fun hc27_7 => ?_) (fun q => absurd q (by decide))
  refine iconst w X (0 : Int32) d21_42 43 rfl rfl ?_
  refine retN w X (t := .boolean) rfl (by simp) d21_43 (by decide) (by decide) ?_
  refine And.intro zk (And.intro hC ?_)
  exact ⟨(0 : Int32), rfl, K, rfl⟩
set_option maxRecDepth 65536 in
set_option maxHeartbeats 40000000 in
theorem rm_isMark_48 {l : Launch} {Z : State} {a0 : Array Value} (hw : ∀ d ∈ tables_1, d.before a0 Z = true) (t arr : Addr) (p0 p1 p2 p3 p4 p5 p6 p7 : Int32) (h : Heap) (n0 : Nat) (zn : n0 ≤ h.size) (E_t : Exa Z h t "com/example/clauseline/clauseline/ContractText") (F_bytes_t : Fld Z h t "com/example/clauseline/clauseline/ContractText" "bytes" "[B" (.ref arr)) (V_arr : PA Z h arr .byte [p0, p1, p2, p3, p4, p5, p6, p7, (59 : Int32), (32 : Int32), (111 : Int32), (114 : Int32), (10 : Int32), (60 : Int32), (10 : Int32), (45 : Int32), (45 : Int32), (10 : Int32), (32 : Int32)]) :
    Met l Z (⟨"com/example/clauseline/clauseline/LineWrap", "isMark", "(Lcom/example/clauseline/clauseline/ContractText;II)Z"⟩ : MethodName) prog_47_method_18_code 4 (some .boolean) [] ({ frames := 1, cells := 0, slots := 0, locals := 13 } : Room) #[(.ref t), (.int (8 : Int32)), (.int (12 : Int32))] h n0 (RI fun r h' => h' = h ∧ r = (0 : Int32)) := by
  refine start (ls := #[.val (.ref t), .val (.int (8 : Int32)), .val (.int (12 : Int32)), .unset]) (plainFor_of_name pn20) (fun m => by first | (simp [entryFrame, mkF, argsToLocals, Value.category]; done) | rfl) ?_
  intro p e s m below meth c T G w X
  refine aloadN w X d22_0 1 rfl rfl rfl ?_
  refine iloadN w X d22_1 2 rfl rfl ?_
  refine callVPI w X [(.int (8 : Int32))] (wd103 hw) (wd104 hw) (notFace_of_selects (args := #[]) (mvT w.2.2.2.2.1 (wd106 hw))) (wd106 hw) (wd105 hw) (wd41 hw) (wd107 hw) (by decide) E_t (rm_baG hw t arr [p0, p1, p2, p3, p4, p5, p6, p7, (59 : Int32), (32 : Int32), (111 : Int32), (114 : Int32), (10 : Int32), (60 : Int32), (10 : Int32), (45 : Int32), (45 : Int32), (10 : Int32), (32 : Int32)] 8 h n0 zn E_t F_bytes_t V_arr (Nat.le_of_ble_eq_true rfl) (Nat.le_of_ble_eq_true rfl)) d22_2 5 rfl 0 (by decide) (by decide) (lenOf pd8 rfl) rfl (Nat.le_of_eq rfl) rfl (by decide) (by decide) (fun r1 T X hq => ?_)
  obtain rfl : r1 = (59 : Int32) := hq
  refine istoreN w X (59 : Int32) d22_5 6 rfl rfl #[.val (.ref t), .val (.int (8 : Int32)), .val (.int (12 : Int32)), .val (.int (59 : Int32))] rfl ?_
  refine iloadN w X d22_6 7 rfl rfl ?_
  refine iloadN w X d22_7 8 rfl rfl ?_
  refine isub w X (4 : Int32) d22_8 9 rfl (by decide) ?_
  refine iconst w X (1 : Int32) d22_9 10 rfl rfl ?_
  refine icmp_ne w X d22_10 29 13 (by decide) (by decide) rfl (fun hc10_2 => ?_) (fun q => absurd q (by decide))
  refine iconst w X (0 : Int32) d22_29 30 rfl rfl ?_
  refine retN w X (t := .boolean) rfl (by simp) d22_30 (by decide) (by decide) ?_
  exact ⟨(0 : Int32), rfl, rfl, rfl⟩
set_option maxRecDepth 65536 in
set_option maxHeartbeats 40000000 in
theorem rm_digitsEnd_50 {l : Launch} {Z : State} {a0 : Array Value} (hw : ∀ d ∈ tables_1, d.before a0 Z = true) (t arr : Addr) (p0 p1 p2 p3 p4 p5 p6 p7 : Int32) (h : Heap) (n0 : Nat) (zn : n0 ≤ h.size) (E_t : Exa Z h t "com/example/clauseline/clauseline/ContractText") (F_bytes_t : Fld Z h t "com/example/clauseline/clauseline/ContractText" "bytes" "[B" (.ref arr)) (V_arr : PA Z h arr .byte [p0, p1, p2, p3, p4, p5, p6, p7, (59 : Int32), (32 : Int32), (111 : Int32), (114 : Int32), (10 : Int32), (60 : Int32), (10 : Int32), (45 : Int32), (45 : Int32), (10 : Int32), (32 : Int32)]) :
    Met l Z (⟨"com/example/clauseline/clauseline/ContractText", "digitsEnd", "(II)I"⟩ : MethodName) prog_22_method_22_code 4 (some .int) [] ({ frames := 1, cells := 0, slots := 0, locals := 12 } : Room) #[(.ref t), (.int (8 : Int32)), (.int (12 : Int32))] h n0 (RI fun r h' => h' = h ∧ r = (8 : Int32)) := by
  refine start (ls := #[.val (.ref t), .val (.int (8 : Int32)), .val (.int (12 : Int32)), .unset]) (plainFor_of_name pn16) (fun m => by first | (simp [entryFrame, mkF, argsToLocals, Value.category]; done) | rfl) ?_
  intro p e s m below meth c T G w X
  refine iloadN w X d24_0 1 rfl rfl ?_
  refine istoreN w X (8 : Int32) d24_1 2 rfl rfl #[.val (.ref t), .val (.int (8 : Int32)), .val (.int (12 : Int32)), .val (.int (8 : Int32))] rfl ?_
  refine iloadN w X d24_2 3 rfl rfl ?_
  refine iloadN w X d24_3 4 rfl rfl ?_
  refine icmp_ge w X d24_4 25 7 (by decide) (by decide) rfl (fun q => absurd q (by decide)) (fun hc4_1 => ?_)
  refine aloadN w X d24_7 8 rfl rfl rfl ?_
  refine getfield w X (wd66 hw) Via.refl F_bytes_t d24_8 11 rfl (fun T X => ?_)
  refine iloadN w X d24_11 12 rfl rfl ?_
  refine baload w X V_arr (by decide) 8 rfl (Nat.le_of_ble_eq_true rfl) d24_12 13 rfl (59 : Int32) rfl ?_
  refine callSPI w X [(.int (59 : Int32))] (wd128 hw) (wd129 hw) (wd41 hw) (wd130 hw) (by decide) (rm_own_dg hw (59 : Int32) h n0 zn) d24_13 16 rfl 0 (by decide) (by decide) (lenOf pd5 rfl) rfl (Nat.le_of_eq rfl) rfl (by decide) (by decide) (fun r2 T X hq => ?_)
  obtain rfl : r2 = (0 : Int32) := hq.trans (by decide)
  refine if_eq w X d24_16 25 19 (by decide) (by decide) rfl (fun hc16_3 => ?_) (fun q => absurd q (by decide))
  refine iloadN w X d24_25 26 rfl rfl ?_
  refine retI w X rfl d24_26 (by decide) (by decide) ?_
  exact ⟨(8 : Int32), rfl, rfl, rfl⟩
set_option maxRecDepth 65536 in
set_option maxHeartbeats 40000000 in
theorem rm_skipSpaces_51 {l : Launch} {Z : State} {a0 : Array Value} (hw : ∀ d ∈ tables_1, d.before a0 Z = true) (t arr : Addr) (p0 p1 p2 p3 p4 p5 p6 p7 : Int32) (h : Heap) (n0 : Nat) (zn : n0 ≤ h.size) (E_t : Exa Z h t "com/example/clauseline/clauseline/ContractText") (F_bytes_t : Fld Z h t "com/example/clauseline/clauseline/ContractText" "bytes" "[B" (.ref arr)) (V_arr : PA Z h arr .byte [p0, p1, p2, p3, p4, p5, p6, p7, (59 : Int32), (32 : Int32), (111 : Int32), (114 : Int32), (10 : Int32), (60 : Int32), (10 : Int32), (45 : Int32), (45 : Int32), (10 : Int32), (32 : Int32)]) :
    Met l Z (⟨"com/example/clauseline/clauseline/ContractText", "skipSpaces", "(II)I"⟩ : MethodName) prog_22_method_20_code 4 (some .int) [] ({ frames := 1, cells := 0, slots := 0, locals := 12 } : Room) #[(.ref t), (.int (8 : Int32)), (.int (12 : Int32))] h n0 (RI fun r h' => h' = h ∧ r = (8 : Int32)) := by
  refine start (ls := #[.val (.ref t), .val (.int (8 : Int32)), .val (.int (12 : Int32)), .unset]) (plainFor_of_name pn16) (fun m => by first | (simp [entryFrame, mkF, argsToLocals, Value.category]; done) | rfl) ?_
  intro p e s m below meth c T G w X
  refine iloadN w X d15_0 1 rfl rfl ?_
  refine istoreN w X (8 : Int32) d15_1 2 rfl rfl #[.val (.ref t), .val (.int (8 : Int32)), .val (.int (12 : Int32)), .val (.int (8 : Int32))] rfl ?_
  refine iloadN w X d15_2 3 rfl rfl ?_
  refine iloadN w X d15_3 4 rfl rfl ?_
  refine icmp_ge w X d15_4 25 7 (by decide) (by decide) rfl (fun q => absurd q (by decide)) (fun hc4_1 => ?_)
  refine aloadN w X d15_7 8 rfl rfl rfl ?_
  refine getfield w X (wd66 hw) Via.refl F_bytes_t d15_8 11 rfl (fun T X => ?_)
  refine iloadN w X d15_11 12 rfl rfl ?_
  refine baload w X V_arr (by decide) 8 rfl (Nat.le_of_ble_eq_true rfl) d15_12 13 rfl (59 : Int32) rfl ?_
  refine callSPI w X [(.int (59 : Int32))] (wd88 hw) (wd89 hw) (wd41 hw) (wd90 hw) (by decide) (rm_own_sp1 hw (59 : Int32) h n0 zn) d15_13 16 rfl 0 (by decide) (by decide) (lenOf pd5 rfl) rfl (Nat.le_of_eq rfl) rfl (by decide) (by decide) (fun r2 T X hq => ?_)
  obtain rfl : r2 = (0 : Int32) := hq.trans (by decide)
  refine if_eq w X d15_16 25 19 (by decide) (by decide) rfl (fun hc16_3 => ?_) (fun q => absurd q (by decide))
  refine iloadN w X d15_25 26 rfl rfl ?_
  refine retI w X rfl d15_26 (by decide) (by decide) ?_
  exact ⟨(8 : Int32), rfl, rfl, rfl⟩
set_option maxRecDepth 65536 in
set_option maxHeartbeats 40000000 in
theorem rm_startsWith_52 {l : Launch} {Z : State} {a0 : Array Value} (hw : ∀ d ∈ tables_1, d.before a0 Z = true) (t arr : Addr) (p0 p1 p2 p3 p4 p5 p6 p7 : Int32) (cs : Int32) (sio : Value) (qs qv : Addr) (h : Heap) (n0 : Nat) (zn : n0 ≤ h.size) (E_t : Exa Z h t "com/example/clauseline/clauseline/ContractText") (F_bytes_t : Fld Z h t "com/example/clauseline/clauseline/ContractText" "bytes" "[B" (.ref arr)) (V_arr : PA Z h arr .byte [p0, p1, p2, p3, p4, p5, p6, p7, (59 : Int32), (32 : Int32), (111 : Int32), (114 : Int32), (10 : Int32), (60 : Int32), (10 : Int32), (45 : Int32), (45 : Int32), (10 : Int32), (32 : Int32)]) (S_cs : Sta Z h "java/lang/String" "COMPACT_STRINGS" "Z" (.int cs)) (hcs : ¬ cs = 0) (S_sio : Sta Z h "jdk/internal/util/Preconditions" "SIOOBE_FORMATTER" "Ljava/util/function/BiFunction;" sio) (hsio : sio.isRef = true) (E_qs : Exa Z h qs "java/lang/String") (F_value_qs : Fld Z h qs "java/lang/String" "value" "[B" (.ref qv)) (V_qv : PA Z h qv .byte [(73 : Int32), (83 : Int32), (68 : Int32), (65 : Int32)]) (F_coder_qs : Fld Z h qs "java/lang/String" "coder" "B" (.int (0 : Int32))) :
    Met l Z (⟨"com/example/clauseline/clauseline/ContractText", "startsWith", "(IILjava/lang/String;)Z"⟩ : MethodName) prog_22_method_34_code 5 (some .boolean) [] ({ frames := 4, cells := 0, slots := 0, locals := 54 } : Room) #[(.ref t), (.int (8 : Int32)), (.int (12 : Int32)), (.ref qs)] h n0 (RI fun r h' => h' = h ∧ r = (0 : Int32)) := by
  refine start (ls := #[.val (.ref t), .val (.int (8 : Int32)), .val (.int (12 : Int32)), .val (.ref qs), .unset]) (plainFor_of_name pn16) (fun m => by first | (simp [entryFrame, mkF, argsToLocals, Value.category]; done) | rfl) ?_
  intro p e s m below meth c T G w X
  refine iloadN w X d26_0 1 rfl rfl ?_
  refine iloadN w X d26_1 2 rfl rfl ?_
  refine isub w X (4 : Int32) d26_2 3 rfl (by decide) ?_
  refine aloadN w X d26_3 4 rfl rfl rfl ?_
  refine callVPI w X [] (wd137 hw) (wd138 hw) (notFace_of_selects (args := #[]) (mvT w.2.2.2.2.1 (wd140 hw))) (wd140 hw) (wd139 hw) (wd3 hw) (wd141 hw) (by decide) E_qs (rm_length hw qs qv [(73 : Int32), (83 : Int32), (68 : Int32), (65 : Int32)] cs h n0 zn S_cs hcs E_qs F_value_qs V_qv F_coder_qs) d26_4 7 rfl 1 (by decide) (by decide) (lenOf pd11 rfl) rfl (Nat.le_of_eq rfl) rfl (by decide) (by decide) (fun r1 T X hq => ?_)
  obtain rfl : r1 = (4 : Int32) := hq.trans (by decide)
  refine icmp_ge w X d26_7 12 10 (by decide) (by decide) rfl (fun hc7_2 => ?_) (fun q => absurd q (by decide))
  refine iconst w X (0 : Int32) d26_12 13 rfl rfl ?_
  refine istore w X (0 : Int32) d26_13 15 rfl rfl #[.val (.ref t), .val (.int (8 : Int32)), .val (.int (12 : Int32)), .val (.ref qs), .val (.int (0 : Int32))] rfl ?_
  refine iload w X d26_15 17 rfl rfl ?_
  refine aloadN w X d26_17 18 rfl rfl rfl ?_
  refine callVPI w X [] (wd137 hw) (wd138 hw) (notFace_of_selects (args := #[]) (mvT w.2.2.2.2.1 (wd140 hw))) (wd140 hw) (wd139 hw) (wd3 hw) (wd141 hw) (by decide) E_qs (rm_length hw qs qv [(73 : Int32), (83 : Int32), (68 : Int32), (65 : Int32)] cs h n0 zn S_cs hcs E_qs F_value_qs V_qv F_coder_qs) d26_18 21 rfl 1 (by decide) (by decide) (lenOf pd11 rfl) rfl (Nat.le_of_eq rfl) rfl (by decide) (by decide) (fun r3 T X hq => ?_)
  obtain rfl : r3 = (4 : Int32) := hq.trans (by decide)
  refine icmp_ge w X d26_21 50 24 (by decide) (by decide) rfl (fun q => absurd q (by decide)) (fun hc21_4 => ?_)
  refine aloadN w X d26_24 25 rfl rfl rfl ?_
  refine getfield w X (wd66 hw) Via.refl F_bytes_t d26_25 28 rfl (fun T X => ?_)
  refine iloadN w X d26_28 29 rfl rfl ?_
  refine iload w X d26_29 31 rfl rfl ?_
  refine iadd w X (8 : Int32) d26_31 32 rfl (by decide) ?_
  refine baload w X V_arr (by decide) 8 rfl (Nat.le_of_ble_eq_true rfl) d26_32 33 rfl (59 : Int32) rfl ?_
  refine aloadN w X d26_33 34 rfl rfl rfl ?_
  refine iload w X d26_34 36 rfl rfl ?_
  refine callVPI w X [(.int (0 : Int32))] (wd151 hw) (wd15 hw) (notFace_of_selects (args := #[]) (mvT w.2.2.2.2.1 (wd17 hw))) (wd17 hw) (wd16 hw) (wd3 hw) (wd18 hw) (by decide) E_qs (rm_charAt hw qs qv (0 : Int32) [(73 : Int32), (83 : Int32), (68 : Int32), (65 : Int32)] (4 : Int32) cs sio h n0 zn S_cs hcs E_qs F_value_qs V_qv F_coder_qs rfl (by decide) (by decide) (Nat.le_of_ble_eq_true rfl) S_sio hsio) d26_36 39 rfl 1 (by decide) (by decide) (lenOf pd14 rfl) rfl (Nat.le_of_eq rfl) rfl (by decide) (by decide) (fun r5 T X hq => ?_)
  obtain rfl : r5 = (73 : Int32) := hq.trans (by decide)
  refine icmp_eq w X d26_39 44 42 (by decide) (by decide) rfl (fun q => absurd q (by decide)) (fun hc39_6 => ?_)
  refine iconst w X (0 : Int32) d26_42 43 rfl rfl ?_
  refine retN w X (t := .boolean) rfl (by simp) d26_43 (by decide) (by decide) ?_
  exact ⟨(0 : Int32), rfl, rfl, rfl⟩
set_option maxRecDepth 65536 in
set_option maxHeartbeats 40000000 in
theorem rm_isFooter_49 {l : Launch} {Z : State} {a0 : Array Value} (hw : ∀ d ∈ tables_1, d.before a0 Z = true) (t arr : Addr) (p0 p1 p2 p3 p4 p5 p6 p7 : Int32) (cs : Int32) (sio : Value) (h : Heap) (n0 : Nat) (zn : n0 ≤ h.size) (E_t : Exa Z h t "com/example/clauseline/clauseline/ContractText") (F_bytes_t : Fld Z h t "com/example/clauseline/clauseline/ContractText" "bytes" "[B" (.ref arr)) (V_arr : PA Z h arr .byte [p0, p1, p2, p3, p4, p5, p6, p7, (59 : Int32), (32 : Int32), (111 : Int32), (114 : Int32), (10 : Int32), (60 : Int32), (10 : Int32), (45 : Int32), (45 : Int32), (10 : Int32), (32 : Int32)]) (S_cs : Sta Z h "java/lang/String" "COMPACT_STRINGS" "Z" (.int cs)) (hcs : ¬ cs = 0) (S_sio : Sta Z h "jdk/internal/util/Preconditions" "SIOOBE_FORMATTER" "Ljava/util/function/BiFunction;" sio) (hsio : sio.isRef = true) :
    MetH consts_1 l Z (⟨"com/example/clauseline/clauseline/LineWrap", "isFooter", "(Lcom/example/clauseline/clauseline/ContractText;II)Z"⟩ : MethodName) prog_47_method_16_code 7 (some .boolean) [] ({ frames := 5, cells := 2, slots := 20, locals := 70 } : Room) #[(.ref t), (.int (8 : Int32)), (.int (12 : Int32))] h n0 (RI fun r h' => Keep h h' [] ∧ r = (0 : Int32)) := by
  refine startH (own_EW hw) (ls := #[.val (.ref t), .val (.int (8 : Int32)), .val (.int (12 : Int32)), .unset, .unset, .unset, .unset]) (plainFor_of_name pn20) (fun m => by first | (simp [entryFrame, mkF, argsToLocals, Value.category]; done) | rfl) ?_
  intro p e s0 m below meth c T G s k0 w X ws zk hC
  have K := Keep.refl h []
  refine aloadN w X d23_0 1 rfl rfl rfl ?_
  refine iloadN w X d23_1 2 rfl rfl ?_
  refine iloadN w X d23_2 3 rfl rfl ?_
  refine callVPI w X [(.int (8 : Int32)), (.int (12 : Int32))] (wd123 hw) (wd124 hw) (notFace_of_selects (args := #[]) (mvT w.2.2.2.2.1 (wd126 hw))) (wd126 hw) (wd125 hw) (wd41 hw) (wd127 hw) (by decide) E_t (rm_digitsEnd_50 hw t arr p0 p1 p2 p3 p4 p5 p6 p7 h n0 zn E_t F_bytes_t V_arr) d23_3 6 rfl 0 (by decide) (by decide) (lenOf pd6 rfl) rfl (Nat.le_of_eq rfl) rfl (by decide) (by decide) (fun r1 T X hq => ?_)
  subst hq
  refine istoreN w X (8 : Int32) d23_6 7 rfl rfl #[.val (.ref t), .val (.int (8 : Int32)), .val (.int (12 : Int32)), .val (.int (8 : Int32)), .unset, .unset, .unset] rfl ?_
  refine aloadN w X d23_7 8 rfl rfl rfl ?_
  refine iloadN w X d23_8 9 rfl rfl ?_
  refine iloadN w X d23_9 10 rfl rfl ?_
  refine callVPI w X [(.int (8 : Int32)), (.int (12 : Int32))] (wd83 hw) (wd84 hw) (notFace_of_selects (args := #[]) (mvT w.2.2.2.2.1 (wd86 hw))) (wd86 hw) (wd85 hw) (wd41 hw) (wd87 hw) (by decide) E_t (rm_skipSpaces_51 hw t arr p0 p1 p2 p3 p4 p5 p6 p7 h n0 zn E_t F_bytes_t V_arr) d23_10 13 rfl 0 (by decide) (by decide) (lenOf pd6 rfl) rfl (Nat.le_of_eq rfl) rfl (by decide) (by decide) (fun r2 T X hq => ?_)
  subst hq
  refine istore w X (8 : Int32) d23_13 15 rfl rfl #[.val (.ref t), .val (.int (8 : Int32)), .val (.int (12 : Int32)), .val (.int (8 : Int32)), .val (.int (8 : Int32)), .unset, .unset] rfl ?_
  refine aloadN w X d23_15 16 rfl rfl rfl ?_
  refine iload w X d23_16 18 rfl rfl ?_
  refine iloadN w X d23_18 19 rfl rfl ?_
  refine ldcHt w X ws zk hC (own_EW hw) (by decide) (wd131 hw) (own_wS hw) [(73 : Int32), (83 : Int32), (68 : Int32), (65 : Int32)] ⟨by decide, by decide⟩ (4 : Int32) (by decide) (by decide) d23_19 21 rfl 16 (by decide) (by decide) (by decide) (by decide) (fun s k0 T h3 sa4 sv5 w X ws zk hC E E_sa4 F_coder_sa4 F_value_sa4 V_sv5 hss => ?_)
  have zn : n0 ≤ h3.size := Nat.le_trans zn E.1
  have E_t := E_t.ext E
  have F_bytes_t := F_bytes_t.ext E
  have V_arr := V_arr.ext E
  have S_cs := S_cs.ext E
  have S_sio := S_sio.ext E
  have K := K.ext E
  refine callVPI w X [(.int (8 : Int32)), (.int (12 : Int32)), (.ref sa4)] (wd132 hw) (wd133 hw) (notFace_of_selects (args := #[]) (mvT w.2.2.2.2.1 (wd135 hw))) (wd135 hw) (wd134 hw) (wd41 hw) (wd136 hw) (by decide) E_t (rm_startsWith_52 hw t arr p0 p1 p2 p3 p4 p5 p6 p7 cs sio sa4 sv5 h3 n0 zn E_t F_bytes_t V_arr S_cs hcs S_sio hsio E_sa4 F_value_sa4 V_sv5 F_coder_sa4) d23_21 24 rfl 0 (by decide) (by decide) (lenOf pd12 rfl) rfl (Nat.le_of_eq rfl) rfl (by decide) (by decide) (fun r6 T X hq => ?_)
  subst hq
  refine if_ne w X d23_24 29 27 (by decide) (by decide) rfl (fun q => absurd q (by decide)) (fun hc24_7 => ?_)
  refine iconst w X (0 : Int32) d23_27 28 rfl rfl ?_
  refine retN w X (t := .boolean) rfl (by simp) d23_28 (by decide) (by decide) ?_
  refine And.intro zk (And.intro hC ?_)
  exact ⟨(0 : Int32), rfl, K, rfl⟩
set_option maxRecDepth 65536 in
set_option maxHeartbeats 40000000 in
theorem rm_isPageBreak_47 {l : Launch} {Z : State} {a0 : Array Value} (hw : ∀ d ∈ tables_1, d.before a0 Z = true) (t arr : Addr) (p0 p1 p2 p3 p4 p5 p6 p7 f0 : Int32) (cs : Int32) (sio : Value) (h : Heap) (n0 : Nat) (zn : n0 ≤ h.size) (E_t : Exa Z h t "com/example/clauseline/clauseline/ContractText") (F_bytes_t : Fld Z h t "com/example/clauseline/clauseline/ContractText" "bytes" "[B" (.ref arr)) (V_arr : PA Z h arr .byte [p0, p1, p2, p3, p4, p5, p6, p7, (59 : Int32), (32 : Int32), (111 : Int32), (114 : Int32), (10 : Int32), (60 : Int32), (10 : Int32), (45 : Int32), (45 : Int32), (10 : Int32), (32 : Int32)]) (S_cs : Sta Z h "java/lang/String" "COMPACT_STRINGS" "Z" (.int cs)) (hcs : ¬ cs = 0) (S_sio : Sta Z h "jdk/internal/util/Preconditions" "SIOOBE_FORMATTER" "Ljava/util/function/BiFunction;" sio) (hsio : sio.isRef = true) :
    MetH consts_1 l Z (⟨"com/example/clauseline/clauseline/LineWrap", "isPageBreak", "(Lcom/example/clauseline/clauseline/ContractText;III)Z"⟩ : MethodName) prog_47_method_15_code 4 (some .boolean) [] ({ frames := 6, cells := 2, slots := 20, locals := 88 } : Room) #[(.ref t), (.int f0), (.int (8 : Int32)), (.int (12 : Int32))] h n0 (RI fun r h' => Keep h h' [] ∧ r = (0 : Int32)) := by
  refine startH (own_EW hw) (ls := #[.val (.ref t), .val (.int f0), .val (.int (8 : Int32)), .val (.int (12 : Int32))]) (plainFor_of_name pn20) (fun m => by first | (simp [entryFrame, mkF, argsToLocals, Value.category]; done) | rfl) ?_
  intro p e s0 m below meth c T G s k0 w X ws zk hC
  have K := Keep.refl h []
  refine aloadN w X d21_0 1 rfl rfl rfl ?_
  refine iloadN w X d21_1 2 rfl rfl ?_
  refine iloadN w X d21_2 3 rfl rfl ?_
  refine callSPI w X [(.ref t), (.int (8 : Int32)), (.int (12 : Int32))] (wd114 hw) (wd115 hw) (wd70 hw) (wd116 hw) (by decide) (rm_isMark_48 hw t arr p0 p1 p2 p3 p4 p5 p6 p7 h n0 zn E_t F_bytes_t V_arr) d21_3 6 rfl 0 (by decide) (by decide) (lenOf pd9 rfl) rfl (Nat.le_of_eq rfl) rfl (by decide) (by decide) (fun r1 T X hq => ?_)
  subst hq
  refine if_ne w X d21_6 18 9 (by decide) (by decide) rfl (fun q => absurd q (by decide)) (fun hc6_2 => ?_)
  refine aloadN w X d21_9 10 rfl rfl rfl ?_
  refine iloadN w X d21_10 11 rfl rfl ?_
  refine iloadN w X d21_11 12 rfl rfl ?_
  refine callSH w X ws zk hC (own_EW hw) [(.ref t), (.int (8 : Int32)), (.int (12 : Int32))] (wd120 hw) (wd121 hw) (wd70 hw) (wd122 hw) (by decide) (rm_isFooter_49 hw t arr p0 p1 p2 p3 p4 p5 p6 p7 cs sio h n0 zn E_t F_bytes_t V_arr S_cs hcs S_sio hsio) d21_12 15 rfl 0 (by decide) (by decide) (lenOf pd9 rfl) rfl (Nat.le_of_eq rfl) rfl (by decide) (by decide) (fun s k0 v T h4 w X ws zk hC hq => ?_)
  obtain ⟨r3, rfl, hq⟩ := hq
  obtain ⟨Kq, rfl⟩ := hq
  have S_cs := Sta.keepN S_cs Kq all0
  have S_sio := Sta.keepN S_sio Kq all0
  have zn : n0 ≤ h4.size := Nat.le_trans zn Kq.1
  have E_t := E_t.keep Kq
  have F_bytes_t := F_bytes_t.keep Kq nin0
  have V_arr := V_arr.keep Kq nin0
  have K := K.trans Kq all0
  show G (T.setTop (mkF m 15 #[.val (.ref t), .val (.int f0), .val (.int (8 : Int32)), .val (.int (12 : Int32))] [(.int (0 : Int32))]))
  refine if_eq w X d21_15 20 18 (by decide) (by decide) rfl (fun hc15_5 => ?_) (fun q => absurd q (by decide))
  refine aloadN w X d21_20 21 rfl rfl rfl ?_
  refine iloadN w X d21_21 22 rfl rfl ?_
  refine iloadN w X d21_22 23 rfl rfl ?_
  refine callVPI w X [(.int (8 : Int32)), (.int (12 : Int32))] (wd123 hw) (wd124 hw) (notFace_of_selects (args := #[]) (mvT w.2.2.2.2.1 (wd126 hw))) (wd126 hw) (wd125 hw) (wd41 hw) (wd127 hw) (by decide) E_t (rm_digitsEnd_50 hw t arr p0 p1 p2 p3 p4 p5 p6 p7 h4 n0 zn E_t F_bytes_t V_arr) d21_23 26 rfl 0 (by decide) (by decide) (lenOf pd6 rfl) rfl (Nat.le_of_eq rfl) rfl (by decide) (by decide) (fun r6 T X hq => ?_)
  subst hq
  refine iloadN w X d21_26 27 rfl rfl ?_
  refine icmp_ne w X d21_27 42 30 (by decide) (by decide) rfl (fun hc27_7 => ?_) (fun q => absurd q (by decide))
  refine iconst w X (0 : Int32) d21_42 43 rfl rfl ?_
  refine retN w X (t := .boolean) rfl (by simp) d21_43 (by decide) (by decide) ?_
  refine And.intro zk (And.intro hC ?_)
  exact ⟨(0 : Int32), rfl, K, rfl⟩
set_option maxRecDepth 65536 in
set_option maxHeartbeats 40000000 in
theorem rm_isMark_54 {l : Launch} {Z : State} {a0 : Array Value} (hw : ∀ d ∈ tables_1, d.before a0 Z = true) (t arr : Addr) (p0 p1 p2 p3 p4 p5 p6 p7 : Int32) (h : Heap) (n0 : Nat) (zn : n0 ≤ h.size) (E_t : Exa Z h t "com/example/clauseline/clauseline/ContractText") (F_bytes_t : Fld Z h t "com/example/clauseline/clauseline/ContractText" "bytes" "[B" (.ref arr)) (V_arr : PA Z h arr .byte [p0, p1, p2, p3, p4, p5, p6, p7, (120 : Int32), (32 : Int32), (111 : Int32), (114 : Int32), (10 : Int32), (60 : Int32), (10 : Int32), (45 : Int32), (45 : Int32), (10 : Int32), (32 : Int32)]) :
    Met l Z (⟨"com/example/clauseline/clauseline/LineWrap", "isMark", "(Lcom/example/clauseline/clauseline/ContractText;II)Z"⟩ : MethodName) prog_47_method_18_code 4 (some .boolean) [] ({ frames := 1, cells := 0, slots := 0, locals := 13 } : Room) #[(.ref t), (.int (8 : Int32)), (.int (12 : Int32))] h n0 (RI fun r h' => h' = h ∧ r = (0 : Int32)) := by
  refine start (ls := #[.val (.ref t), .val (.int (8 : Int32)), .val (.int (12 : Int32)), .unset]) (plainFor_of_name pn20) (fun m => by first | (simp [entryFrame, mkF, argsToLocals, Value.category]; done) | rfl) ?_
  intro p e s m below meth c T G w X
  refine aloadN w X d22_0 1 rfl rfl rfl ?_
  refine iloadN w X d22_1 2 rfl rfl ?_
  refine callVPI w X [(.int (8 : Int32))] (wd103 hw) (wd104 hw) (notFace_of_selects (args := #[]) (mvT w.2.2.2.2.1 (wd106 hw))) (wd106 hw) (wd105 hw) (wd41 hw) (wd107 hw) (by decide) E_t (rm_baG hw t arr [p0, p1, p2, p3, p4, p5, p6, p7, (120 : Int32), (32 : Int32), (111 : Int32), (114 : Int32), (10 : Int32), (60 : Int32), (10 : Int32), (45 : Int32), (45 : Int32), (10 : Int32), (32 : Int32)] 8 h n0 zn E_t F_bytes_t V_arr (Nat.le_of_ble_eq_true rfl) (Nat.le_of_ble_eq_true rfl)) d22_2 5 rfl 0 (by decide) (by decide) (lenOf pd8 rfl) rfl (Nat.le_of_eq rfl) rfl (by decide) (by decide) (fun r1 T X hq => ?_)
  obtain rfl : r1 = (120 : Int32) := hq
  refine istoreN w X (120 : Int32) d22_5 6 rfl rfl #[.val (.ref t), .val (.int (8 : Int32)), .val (.int (12 : Int32)), .val (.int (120 : Int32))] rfl ?_
  refine iloadN w X d22_6 7 rfl rfl ?_
  refine iloadN w X d22_7 8 rfl rfl ?_
  refine isub w X (4 : Int32) d22_8 9 rfl (by decide) ?_
  refine iconst w X (1 : Int32) d22_9 10 rfl rfl ?_
  refine icmp_ne w X d22_10 29 13 (by decide) (by decide) rfl (fun hc10_2 => ?_) (fun q => absurd q (by decide))
  refine iconst w X (0 : Int32) d22_29 30 rfl rfl ?_
  refine retN w X (t := .boolean) rfl (by simp) d22_30 (by decide) (by decide) ?_
  exact ⟨(0 : Int32), rfl, rfl, rfl⟩
set_option maxRecDepth 65536 in
set_option maxHeartbeats 40000000 in
theorem rm_digitsEnd_56 {l : Launch} {Z : State} {a0 : Array Value} (hw : ∀ d ∈ tables_1, d.before a0 Z = true) (t arr : Addr) (p0 p1 p2 p3 p4 p5 p6 p7 : Int32) (h : Heap) (n0 : Nat) (zn : n0 ≤ h.size) (E_t : Exa Z h t "com/example/clauseline/clauseline/ContractText") (F_bytes_t : Fld Z h t "com/example/clauseline/clauseline/ContractText" "bytes" "[B" (.ref arr)) (V_arr : PA Z h arr .byte [p0, p1, p2, p3, p4, p5, p6, p7, (120 : Int32), (32 : Int32), (111 : Int32), (114 : Int32), (10 : Int32), (60 : Int32), (10 : Int32), (45 : Int32), (45 : Int32), (10 : Int32), (32 : Int32)]) :
    Met l Z (⟨"com/example/clauseline/clauseline/ContractText", "digitsEnd", "(II)I"⟩ : MethodName) prog_22_method_22_code 4 (some .int) [] ({ frames := 1, cells := 0, slots := 0, locals := 12 } : Room) #[(.ref t), (.int (8 : Int32)), (.int (12 : Int32))] h n0 (RI fun r h' => h' = h ∧ r = (8 : Int32)) := by
  refine start (ls := #[.val (.ref t), .val (.int (8 : Int32)), .val (.int (12 : Int32)), .unset]) (plainFor_of_name pn16) (fun m => by first | (simp [entryFrame, mkF, argsToLocals, Value.category]; done) | rfl) ?_
  intro p e s m below meth c T G w X
  refine iloadN w X d24_0 1 rfl rfl ?_
  refine istoreN w X (8 : Int32) d24_1 2 rfl rfl #[.val (.ref t), .val (.int (8 : Int32)), .val (.int (12 : Int32)), .val (.int (8 : Int32))] rfl ?_
  refine iloadN w X d24_2 3 rfl rfl ?_
  refine iloadN w X d24_3 4 rfl rfl ?_
  refine icmp_ge w X d24_4 25 7 (by decide) (by decide) rfl (fun q => absurd q (by decide)) (fun hc4_1 => ?_)
  refine aloadN w X d24_7 8 rfl rfl rfl ?_
  refine getfield w X (wd66 hw) Via.refl F_bytes_t d24_8 11 rfl (fun T X => ?_)
  refine iloadN w X d24_11 12 rfl rfl ?_
  refine baload w X V_arr (by decide) 8 rfl (Nat.le_of_ble_eq_true rfl) d24_12 13 rfl (120 : Int32) rfl ?_
  refine callSPI w X [(.int (120 : Int32))] (wd128 hw) (wd129 hw) (wd41 hw) (wd130 hw) (by decide) (rm_own_dg hw (120 : Int32) h n0 zn) d24_13 16 rfl 0 (by decide) (by decide) (lenOf pd5 rfl) rfl (Nat.le_of_eq rfl) rfl (by decide) (by decide) (fun r2 T X hq => ?_)
  obtain rfl : r2 = (0 : Int32) := hq.trans (by decide)
  refine if_eq w X d24_16 25 19 (by decide) (by decide) rfl (fun hc16_3 => ?_) (fun q => absurd q (by decide))
  refine iloadN w X d24_25 26 rfl rfl ?_
  refine retI w X rfl d24_26 (by decide) (by decide) ?_
  exact ⟨(8 : Int32), rfl, rfl, rfl⟩
set_option maxRecDepth 65536 in
set_option maxHeartbeats 40000000 in
theorem rm_skipSpaces_57 {l : Launch} {Z : State} {a0 : Array Value} (hw : ∀ d ∈ tables_1, d.before a0 Z = true) (t arr : Addr) (p0 p1 p2 p3 p4 p5 p6 p7 : Int32) (h : Heap) (n0 : Nat) (zn : n0 ≤ h.size) (E_t : Exa Z h t "com/example/clauseline/clauseline/ContractText") (F_bytes_t : Fld Z h t "com/example/clauseline/clauseline/ContractText" "bytes" "[B" (.ref arr)) (V_arr : PA Z h arr .byte [p0, p1, p2, p3, p4, p5, p6, p7, (120 : Int32), (32 : Int32), (111 : Int32), (114 : Int32), (10 : Int32), (60 : Int32), (10 : Int32), (45 : Int32), (45 : Int32), (10 : Int32), (32 : Int32)]) :
    Met l Z (⟨"com/example/clauseline/clauseline/ContractText", "skipSpaces", "(II)I"⟩ : MethodName) prog_22_method_20_code 4 (some .int) [] ({ frames := 1, cells := 0, slots := 0, locals := 12 } : Room) #[(.ref t), (.int (8 : Int32)), (.int (12 : Int32))] h n0 (RI fun r h' => h' = h ∧ r = (8 : Int32)) := by
  refine start (ls := #[.val (.ref t), .val (.int (8 : Int32)), .val (.int (12 : Int32)), .unset]) (plainFor_of_name pn16) (fun m => by first | (simp [entryFrame, mkF, argsToLocals, Value.category]; done) | rfl) ?_
  intro p e s m below meth c T G w X
  refine iloadN w X d15_0 1 rfl rfl ?_
  refine istoreN w X (8 : Int32) d15_1 2 rfl rfl #[.val (.ref t), .val (.int (8 : Int32)), .val (.int (12 : Int32)), .val (.int (8 : Int32))] rfl ?_
  refine iloadN w X d15_2 3 rfl rfl ?_
  refine iloadN w X d15_3 4 rfl rfl ?_
  refine icmp_ge w X d15_4 25 7 (by decide) (by decide) rfl (fun q => absurd q (by decide)) (fun hc4_1 => ?_)
  refine aloadN w X d15_7 8 rfl rfl rfl ?_
  refine getfield w X (wd66 hw) Via.refl F_bytes_t d15_8 11 rfl (fun T X => ?_)
  refine iloadN w X d15_11 12 rfl rfl ?_
  refine baload w X V_arr (by decide) 8 rfl (Nat.le_of_ble_eq_true rfl) d15_12 13 rfl (120 : Int32) rfl ?_
  refine callSPI w X [(.int (120 : Int32))] (wd88 hw) (wd89 hw) (wd41 hw) (wd90 hw) (by decide) (rm_own_sp1 hw (120 : Int32) h n0 zn) d15_13 16 rfl 0 (by decide) (by decide) (lenOf pd5 rfl) rfl (Nat.le_of_eq rfl) rfl (by decide) (by decide) (fun r2 T X hq => ?_)
  obtain rfl : r2 = (0 : Int32) := hq.trans (by decide)
  refine if_eq w X d15_16 25 19 (by decide) (by decide) rfl (fun hc16_3 => ?_) (fun q => absurd q (by decide))
  refine iloadN w X d15_25 26 rfl rfl ?_
  refine retI w X rfl d15_26 (by decide) (by decide) ?_
  exact ⟨(8 : Int32), rfl, rfl, rfl⟩
set_option maxRecDepth 65536 in
set_option maxHeartbeats 40000000 in
theorem rm_startsWith_58 {l : Launch} {Z : State} {a0 : Array Value} (hw : ∀ d ∈ tables_1, d.before a0 Z = true) (t arr : Addr) (p0 p1 p2 p3 p4 p5 p6 p7 : Int32) (cs : Int32) (sio : Value) (qs qv : Addr) (h : Heap) (n0 : Nat) (zn : n0 ≤ h.size) (E_t : Exa Z h t "com/example/clauseline/clauseline/ContractText") (F_bytes_t : Fld Z h t "com/example/clauseline/clauseline/ContractText" "bytes" "[B" (.ref arr)) (V_arr : PA Z h arr .byte [p0, p1, p2, p3, p4, p5, p6, p7, (120 : Int32), (32 : Int32), (111 : Int32), (114 : Int32), (10 : Int32), (60 : Int32), (10 : Int32), (45 : Int32), (45 : Int32), (10 : Int32), (32 : Int32)]) (S_cs : Sta Z h "java/lang/String" "COMPACT_STRINGS" "Z" (.int cs)) (hcs : ¬ cs = 0) (S_sio : Sta Z h "jdk/internal/util/Preconditions" "SIOOBE_FORMATTER" "Ljava/util/function/BiFunction;" sio) (hsio : sio.isRef = true) (E_qs : Exa Z h qs "java/lang/String") (F_value_qs : Fld Z h qs "java/lang/String" "value" "[B" (.ref qv)) (V_qv : PA Z h qv .byte [(73 : Int32), (83 : Int32), (68 : Int32), (65 : Int32)]) (F_coder_qs : Fld Z h qs "java/lang/String" "coder" "B" (.int (0 : Int32))) :
    Met l Z (⟨"com/example/clauseline/clauseline/ContractText", "startsWith", "(IILjava/lang/String;)Z"⟩ : MethodName) prog_22_method_34_code 5 (some .boolean) [] ({ frames := 4, cells := 0, slots := 0, locals := 54 } : Room) #[(.ref t), (.int (8 : Int32)), (.int (12 : Int32)), (.ref qs)] h n0 (RI fun r h' => h' = h ∧ r = (0 : Int32)) := by
  refine start (ls := #[.val (.ref t), .val (.int (8 : Int32)), .val (.int (12 : Int32)), .val (.ref qs), .unset]) (plainFor_of_name pn16) (fun m => by first | (simp [entryFrame, mkF, argsToLocals, Value.category]; done) | rfl) ?_
  intro p e s m below meth c T G w X
  refine iloadN w X d26_0 1 rfl rfl ?_
  refine iloadN w X d26_1 2 rfl rfl ?_
  refine isub w X (4 : Int32) d26_2 3 rfl (by decide) ?_
  refine aloadN w X d26_3 4 rfl rfl rfl ?_
  refine callVPI w X [] (wd137 hw) (wd138 hw) (notFace_of_selects (args := #[]) (mvT w.2.2.2.2.1 (wd140 hw))) (wd140 hw) (wd139 hw) (wd3 hw) (wd141 hw) (by decide) E_qs (rm_length hw qs qv [(73 : Int32), (83 : Int32), (68 : Int32), (65 : Int32)] cs h n0 zn S_cs hcs E_qs F_value_qs V_qv F_coder_qs) d26_4 7 rfl 1 (by decide) (by decide) (lenOf pd11 rfl) rfl (Nat.le_of_eq rfl) rfl (by decide) (by decide) (fun r1 T X hq => ?_)
  obtain rfl : r1 = (4 : Int32) := hq.trans (by decide)
  refine icmp_ge w X d26_7 12 10 (by decide) (by decide) rfl (fun hc7_2 => ?_) (fun q => absurd q (by decide))
  refine iconst w X (0 : Int32) d26_12 13 rfl rfl ?_
  refine istore w X (0 : Int32) d26_13 15 rfl rfl #[.val (.ref t), .val (.int (8 : Int32)), .val (.int (12 : Int32)), .val (.ref qs), .val (.int (0 : Int32))] rfl ?_
  refine iload w X d26_15 17 rfl rfl ?_
  refine aloadN w X d26_17 18 rfl rfl rfl ?_
  refine callVPI w X [] (wd137 hw) (wd138 hw) (notFace_of_selects (args := #[]) (mvT w.2.2.2.2.1 (wd140 hw))) (wd140 hw) (wd139 hw) (wd3 hw) (wd141 hw) (by decide) E_qs (rm_length hw qs qv [(73 : Int32), (83 : Int32), (68 : Int32), (65 : Int32)] cs h n0 zn S_cs hcs E_qs F_value_qs V_qv F_coder_qs) d26_18 21 rfl 1 (by decide) (by decide) (lenOf pd11 rfl) rfl (Nat.le_of_eq rfl) rfl (by decide) (by decide) (fun r3 T X hq => ?_)
  obtain rfl : r3 = (4 : Int32) := hq.trans (by decide)
  refine icmp_ge w X d26_21 50 24 (by decide) (by decide) rfl (fun q => absurd q (by decide)) (fun hc21_4 => ?_)
  refine aloadN w X d26_24 25 rfl rfl rfl ?_
  refine getfield w X (wd66 hw) Via.refl F_bytes_t d26_25 28 rfl (fun T X => ?_)
  refine iloadN w X d26_28 29 rfl rfl ?_
  refine iload w X d26_29 31 rfl rfl ?_
  refine iadd w X (8 : Int32) d26_31 32 rfl (by decide) ?_
  refine baload w X V_arr (by decide) 8 rfl (Nat.le_of_ble_eq_true rfl) d26_32 33 rfl (120 : Int32) rfl ?_
  refine aloadN w X d26_33 34 rfl rfl rfl ?_
  refine iload w X d26_34 36 rfl rfl ?_
  refine callVPI w X [(.int (0 : Int32))] (wd151 hw) (wd15 hw) (notFace_of_selects (args := #[]) (mvT w.2.2.2.2.1 (wd17 hw))) (wd17 hw) (wd16 hw) (wd3 hw) (wd18 hw) (by decide) E_qs (rm_charAt hw qs qv (0 : Int32) [(73 : Int32), (83 : Int32), (68 : Int32), (65 : Int32)] (4 : Int32) cs sio h n0 zn S_cs hcs E_qs F_value_qs V_qv F_coder_qs rfl (by decide) (by decide) (Nat.le_of_ble_eq_true rfl) S_sio hsio) d26_36 39 rfl 1 (by decide) (by decide) (lenOf pd14 rfl) rfl (Nat.le_of_eq rfl) rfl (by decide) (by decide) (fun r5 T X hq => ?_)
  obtain rfl : r5 = (73 : Int32) := hq.trans (by decide)
  refine icmp_eq w X d26_39 44 42 (by decide) (by decide) rfl (fun q => absurd q (by decide)) (fun hc39_6 => ?_)
  refine iconst w X (0 : Int32) d26_42 43 rfl rfl ?_
  refine retN w X (t := .boolean) rfl (by simp) d26_43 (by decide) (by decide) ?_
  exact ⟨(0 : Int32), rfl, rfl, rfl⟩
set_option maxRecDepth 65536 in
set_option maxHeartbeats 40000000 in
theorem rm_isFooter_55 {l : Launch} {Z : State} {a0 : Array Value} (hw : ∀ d ∈ tables_1, d.before a0 Z = true) (t arr : Addr) (p0 p1 p2 p3 p4 p5 p6 p7 : Int32) (cs : Int32) (sio : Value) (h : Heap) (n0 : Nat) (zn : n0 ≤ h.size) (E_t : Exa Z h t "com/example/clauseline/clauseline/ContractText") (F_bytes_t : Fld Z h t "com/example/clauseline/clauseline/ContractText" "bytes" "[B" (.ref arr)) (V_arr : PA Z h arr .byte [p0, p1, p2, p3, p4, p5, p6, p7, (120 : Int32), (32 : Int32), (111 : Int32), (114 : Int32), (10 : Int32), (60 : Int32), (10 : Int32), (45 : Int32), (45 : Int32), (10 : Int32), (32 : Int32)]) (S_cs : Sta Z h "java/lang/String" "COMPACT_STRINGS" "Z" (.int cs)) (hcs : ¬ cs = 0) (S_sio : Sta Z h "jdk/internal/util/Preconditions" "SIOOBE_FORMATTER" "Ljava/util/function/BiFunction;" sio) (hsio : sio.isRef = true) :
    MetH consts_1 l Z (⟨"com/example/clauseline/clauseline/LineWrap", "isFooter", "(Lcom/example/clauseline/clauseline/ContractText;II)Z"⟩ : MethodName) prog_47_method_16_code 7 (some .boolean) [] ({ frames := 5, cells := 2, slots := 20, locals := 70 } : Room) #[(.ref t), (.int (8 : Int32)), (.int (12 : Int32))] h n0 (RI fun r h' => Keep h h' [] ∧ r = (0 : Int32)) := by
  refine startH (own_EW hw) (ls := #[.val (.ref t), .val (.int (8 : Int32)), .val (.int (12 : Int32)), .unset, .unset, .unset, .unset]) (plainFor_of_name pn20) (fun m => by first | (simp [entryFrame, mkF, argsToLocals, Value.category]; done) | rfl) ?_
  intro p e s0 m below meth c T G s k0 w X ws zk hC
  have K := Keep.refl h []
  refine aloadN w X d23_0 1 rfl rfl rfl ?_
  refine iloadN w X d23_1 2 rfl rfl ?_
  refine iloadN w X d23_2 3 rfl rfl ?_
  refine callVPI w X [(.int (8 : Int32)), (.int (12 : Int32))] (wd123 hw) (wd124 hw) (notFace_of_selects (args := #[]) (mvT w.2.2.2.2.1 (wd126 hw))) (wd126 hw) (wd125 hw) (wd41 hw) (wd127 hw) (by decide) E_t (rm_digitsEnd_56 hw t arr p0 p1 p2 p3 p4 p5 p6 p7 h n0 zn E_t F_bytes_t V_arr) d23_3 6 rfl 0 (by decide) (by decide) (lenOf pd6 rfl) rfl (Nat.le_of_eq rfl) rfl (by decide) (by decide) (fun r1 T X hq => ?_)
  subst hq
  refine istoreN w X (8 : Int32) d23_6 7 rfl rfl #[.val (.ref t), .val (.int (8 : Int32)), .val (.int (12 : Int32)), .val (.int (8 : Int32)), .unset, .unset, .unset] rfl ?_
  refine aloadN w X d23_7 8 rfl rfl rfl ?_
  refine iloadN w X d23_8 9 rfl rfl ?_
  refine iloadN w X d23_9 10 rfl rfl ?_
  refine callVPI w X [(.int (8 : Int32)), (.int (12 : Int32))] (wd83 hw) (wd84 hw) (notFace_of_selects (args := #[]) (mvT w.2.2.2.2.1 (wd86 hw))) (wd86 hw) (wd85 hw) (wd41 hw) (wd87 hw) (by decide) E_t (rm_skipSpaces_57 hw t arr p0 p1 p2 p3 p4 p5 p6 p7 h n0 zn E_t F_bytes_t V_arr) d23_10 13 rfl 0 (by decide) (by decide) (lenOf pd6 rfl) rfl (Nat.le_of_eq rfl) rfl (by decide) (by decide) (fun r2 T X hq => ?_)
  subst hq
  refine istore w X (8 : Int32) d23_13 15 rfl rfl #[.val (.ref t), .val (.int (8 : Int32)), .val (.int (12 : Int32)), .val (.int (8 : Int32)), .val (.int (8 : Int32)), .unset, .unset] rfl ?_
  refine aloadN w X d23_15 16 rfl rfl rfl ?_
  refine iload w X d23_16 18 rfl rfl ?_
  refine iloadN w X d23_18 19 rfl rfl ?_
  refine ldcHt w X ws zk hC (own_EW hw) (by decide) (wd131 hw) (own_wS hw) [(73 : Int32), (83 : Int32), (68 : Int32), (65 : Int32)] ⟨by decide, by decide⟩ (4 : Int32) (by decide) (by decide) d23_19 21 rfl 16 (by decide) (by decide) (by decide) (by decide) (fun s k0 T h3 sa4 sv5 w X ws zk hC E E_sa4 F_coder_sa4 F_value_sa4 V_sv5 hss => ?_)
  have zn : n0 ≤ h3.size := Nat.le_trans zn E.1
  have E_t := E_t.ext E
  have F_bytes_t := F_bytes_t.ext E
  have V_arr := V_arr.ext E
  have S_cs := S_cs.ext E
  have S_sio := S_sio.ext E
  have K := K.ext E
  refine callVPI w X [(.int (8 : Int32)), (.int (12 : Int32)), (.ref sa4)] (wd132 hw) (wd133 hw) (notFace_of_selects (args := #[]) (mvT w.2.2.2.2.1 (wd135 hw))) (wd135 hw) (wd134 hw) (wd41 hw) (wd136 hw) (by decide) E_t (rm_startsWith_58 hw t arr p0 p1 p2 p3 p4 p5 p6 p7 cs sio sa4 sv5 h3 n0 zn E_t F_bytes_t V_arr S_cs hcs S_sio hsio E_sa4 F_value_sa4 V_sv5 F_coder_sa4) d23_21 24 rfl 0 (by decide) (by decide) (lenOf pd12 rfl) rfl (Nat.le_of_eq rfl) rfl (by decide) (by decide) (fun r6 T X hq => ?_)
  subst hq
  refine if_ne w X d23_24 29 27 (by decide) (by decide) rfl (fun q => absurd q (by decide)) (fun hc24_7 => ?_)
  refine iconst w X (0 : Int32) d23_27 28 rfl rfl ?_
  refine retN w X (t := .boolean) rfl (by simp) d23_28 (by decide) (by decide) ?_
  refine And.intro zk (And.intro hC ?_)
  exact ⟨(0 : Int32), rfl, K, rfl⟩
set_option maxRecDepth 65536 in
set_option maxHeartbeats 40000000 in
theorem rm_isPageBreak_53 {l : Launch} {Z : State} {a0 : Array Value} (hw : ∀ d ∈ tables_1, d.before a0 Z = true) (t arr : Addr) (p0 p1 p2 p3 p4 p5 p6 p7 f0 : Int32) (cs : Int32) (sio : Value) (h : Heap) (n0 : Nat) (zn : n0 ≤ h.size) (E_t : Exa Z h t "com/example/clauseline/clauseline/ContractText") (F_bytes_t : Fld Z h t "com/example/clauseline/clauseline/ContractText" "bytes" "[B" (.ref arr)) (V_arr : PA Z h arr .byte [p0, p1, p2, p3, p4, p5, p6, p7, (120 : Int32), (32 : Int32), (111 : Int32), (114 : Int32), (10 : Int32), (60 : Int32), (10 : Int32), (45 : Int32), (45 : Int32), (10 : Int32), (32 : Int32)]) (S_cs : Sta Z h "java/lang/String" "COMPACT_STRINGS" "Z" (.int cs)) (hcs : ¬ cs = 0) (S_sio : Sta Z h "jdk/internal/util/Preconditions" "SIOOBE_FORMATTER" "Ljava/util/function/BiFunction;" sio) (hsio : sio.isRef = true) :
    MetH consts_1 l Z (⟨"com/example/clauseline/clauseline/LineWrap", "isPageBreak", "(Lcom/example/clauseline/clauseline/ContractText;III)Z"⟩ : MethodName) prog_47_method_15_code 4 (some .boolean) [] ({ frames := 6, cells := 2, slots := 20, locals := 88 } : Room) #[(.ref t), (.int f0), (.int (8 : Int32)), (.int (12 : Int32))] h n0 (RI fun r h' => Keep h h' [] ∧ r = (0 : Int32)) := by
  refine startH (own_EW hw) (ls := #[.val (.ref t), .val (.int f0), .val (.int (8 : Int32)), .val (.int (12 : Int32))]) (plainFor_of_name pn20) (fun m => by first | (simp [entryFrame, mkF, argsToLocals, Value.category]; done) | rfl) ?_
  intro p e s0 m below meth c T G s k0 w X ws zk hC
  have K := Keep.refl h []
  refine aloadN w X d21_0 1 rfl rfl rfl ?_
  refine iloadN w X d21_1 2 rfl rfl ?_
  refine iloadN w X d21_2 3 rfl rfl ?_
  refine callSPI w X [(.ref t), (.int (8 : Int32)), (.int (12 : Int32))] (wd114 hw) (wd115 hw) (wd70 hw) (wd116 hw) (by decide) (rm_isMark_54 hw t arr p0 p1 p2 p3 p4 p5 p6 p7 h n0 zn E_t F_bytes_t V_arr) d21_3 6 rfl 0 (by decide) (by decide) (lenOf pd9 rfl) rfl (Nat.le_of_eq rfl) rfl (by decide) (by decide) (fun r1 T X hq => ?_)
  subst hq
  refine if_ne w X d21_6 18 9 (by decide) (by decide) rfl (fun q => absurd q (by decide)) (fun hc6_2 => ?_)
  refine aloadN w X d21_9 10 rfl rfl rfl ?_
  refine iloadN w X d21_10 11 rfl rfl ?_
  refine iloadN w X d21_11 12 rfl rfl ?_
  refine callSH w X ws zk hC (own_EW hw) [(.ref t), (.int (8 : Int32)), (.int (12 : Int32))] (wd120 hw) (wd121 hw) (wd70 hw) (wd122 hw) (by decide) (rm_isFooter_55 hw t arr p0 p1 p2 p3 p4 p5 p6 p7 cs sio h n0 zn E_t F_bytes_t V_arr S_cs hcs S_sio hsio) d21_12 15 rfl 0 (by decide) (by decide) (lenOf pd9 rfl) rfl (Nat.le_of_eq rfl) rfl (by decide) (by decide) (fun s k0 v T h4 w X ws zk hC hq => ?_)
  obtain ⟨r3, rfl, hq⟩ := hq
  obtain ⟨Kq, rfl⟩ := hq
  have S_cs := Sta.keepN S_cs Kq all0
  have S_sio := Sta.keepN S_sio Kq all0
  have zn : n0 ≤ h4.size := Nat.le_trans zn Kq.1
  have E_t := E_t.keep Kq
  have F_bytes_t := F_bytes_t.keep Kq nin0
  have V_arr := V_arr.keep Kq nin0
  have K := K.trans Kq all0
  show G (T.setTop (mkF m 15 #[.val (.ref t), .val (.int f0), .val (.int (8 : Int32)), .val (.int (12 : Int32))] [(.int (0 : Int32))]))
  refine if_eq w X d21_15 20 18 (by decide) (by decide) rfl (fun hc15_5 => ?_) (fun q => absurd q (by decide))
  refine aloadN w X d21_20 21 rfl rfl rfl ?_
  refine iloadN w X d21_21 22 rfl rfl ?_
  refine iloadN w X d21_22 23 rfl rfl ?_
  refine callVPI w X [(.int (8 : Int32)), (.int (12 : Int32))] (wd123 hw) (wd124 hw) (notFace_of_selects (args := #[]) (mvT w.2.2.2.2.1 (wd126 hw))) (wd126 hw) (wd125 hw) (wd41 hw) (wd127 hw) (by decide) E_t (rm_digitsEnd_56 hw t arr p0 p1 p2 p3 p4 p5 p6 p7 h4 n0 zn E_t F_bytes_t V_arr) d21_23 26 rfl 0 (by decide) (by decide) (lenOf pd6 rfl) rfl (Nat.le_of_eq rfl) rfl (by decide) (by decide) (fun r6 T X hq => ?_)
  subst hq
  refine iloadN w X d21_26 27 rfl rfl ?_
  refine icmp_ne w X d21_27 42 30 (by decide) (by decide) rfl (fun hc27_7 => ?_) (fun q => absurd q (by decide))
  refine iconst w X (0 : Int32) d21_42 43 rfl rfl ?_
  refine retN w X (t := .boolean) rfl (by simp) d21_43 (by decide) (by decide) ?_
  refine And.intro zk (And.intro hC ?_)
  exact ⟨(0 : Int32), rfl, K, rfl⟩
set_option maxRecDepth 65536 in
set_option maxHeartbeats 40000000 in
theorem rm_isMark_60 {l : Launch} {Z : State} {a0 : Array Value} (hw : ∀ d ∈ tables_1, d.before a0 Z = true) (t arr : Addr) (p0 p1 p2 p3 p4 p5 p6 p7 : Int32) (h : Heap) (n0 : Nat) (zn : n0 ≤ h.size) (E_t : Exa Z h t "com/example/clauseline/clauseline/ContractText") (F_bytes_t : Fld Z h t "com/example/clauseline/clauseline/ContractText" "bytes" "[B" (.ref arr)) (V_arr : PA Z h arr .byte [p0, p1, p2, p3, p4, p5, p6, p7, (97 : Int32), (46 : Int32), (98 : Int32), (99 : Int32), (10 : Int32), (60 : Int32), (10 : Int32), (45 : Int32), (45 : Int32), (10 : Int32), (32 : Int32)]) :
    Met l Z (⟨"com/example/clauseline/clauseline/LineWrap", "isMark", "(Lcom/example/clauseline/clauseline/ContractText;II)Z"⟩ : MethodName) prog_47_method_18_code 4 (some .boolean) [] ({ frames := 1, cells := 0, slots := 0, locals := 13 } : Room) #[(.ref t), (.int (8 : Int32)), (.int (12 : Int32))] h n0 (RI fun r h' => h' = h ∧ r = (0 : Int32)) := by
  refine start (ls := #[.val (.ref t), .val (.int (8 : Int32)), .val (.int (12 : Int32)), .unset]) (plainFor_of_name pn20) (fun m => by first | (simp [entryFrame, mkF, argsToLocals, Value.category]; done) | rfl) ?_
  intro p e s m below meth c T G w X
  refine aloadN w X d22_0 1 rfl rfl rfl ?_
  refine iloadN w X d22_1 2 rfl rfl ?_
  refine callVPI w X [(.int (8 : Int32))] (wd103 hw) (wd104 hw) (notFace_of_selects (args := #[]) (mvT w.2.2.2.2.1 (wd106 hw))) (wd106 hw) (wd105 hw) (wd41 hw) (wd107 hw) (by decide) E_t (rm_baG hw t arr [p0, p1, p2, p3, p4, p5, p6, p7, (97 : Int32), (46 : Int32), (98 : Int32), (99 : Int32), (10 : Int32), (60 : Int32), (10 : Int32), (45 : Int32), (45 : Int32), (10 : Int32), (32 : Int32)] 8 h n0 zn E_t F_bytes_t V_arr (Nat.le_of_ble_eq_true rfl) (Nat.le_of_ble_eq_true rfl)) d22_2 5 rfl 0 (by decide) (by decide) (lenOf pd8 rfl) rfl (Nat.le_of_eq rfl) rfl (by decide) (by decide) (fun r1 T X hq => ?_)
  obtain rfl : r1 = (97 : Int32) := hq
  refine istoreN w X (97 : Int32) d22_5 6 rfl rfl #[.val (.ref t), .val (.int (8 : Int32)), .val (.int (12 : Int32)), .val (.int (97 : Int32))] rfl ?_
  refine iloadN w X d22_6 7 rfl rfl ?_
  refine iloadN w X d22_7 8 rfl rfl ?_
  refine isub w X (4 : Int32) d22_8 9 rfl (by decide) ?_
  refine iconst w X (1 : Int32) d22_9 10 rfl rfl ?_
  refine icmp_ne w X d22_10 29 13 (by decide) (by decide) rfl (fun hc10_2 => ?_) (fun q => absurd q (by decide))
  refine iconst w X (0 : Int32) d22_29 30 rfl rfl ?_
  refine retN w X (t := .boolean) rfl (by simp) d22_30 (by decide) (by decide) ?_
  exact ⟨(0 : Int32), rfl, rfl, rfl⟩
set_option maxRecDepth 65536 in
set_option maxHeartbeats 40000000 in
theorem rm_digitsEnd_62 {l : Launch} {Z : State} {a0 : Array Value} (hw : ∀ d ∈ tables_1, d.before a0 Z = true) (t arr : Addr) (p0 p1 p2 p3 p4 p5 p6 p7 : Int32) (h : Heap) (n0 : Nat) (zn : n0 ≤ h.size) (E_t : Exa Z h t "com/example/clauseline/clauseline/ContractText") (F_bytes_t : Fld Z h t "com/example/clauseline/clauseline/ContractText" "bytes" "[B" (.ref arr)) (V_arr : PA Z h arr .byte [p0, p1, p2, p3, p4, p5, p6, p7, (97 : Int32), (46 : Int32), (98 : Int32), (99 : Int32), (10 : Int32), (60 : Int32), (10 : Int32), (45 : Int32), (45 : Int32), (10 : Int32), (32 : Int32)]) :
    Met l Z (⟨"com/example/clauseline/clauseline/ContractText", "digitsEnd", "(II)I"⟩ : MethodName) prog_22_method_22_code 4 (some .int) [] ({ frames := 1, cells := 0, slots := 0, locals := 12 } : Room) #[(.ref t), (.int (8 : Int32)), (.int (12 : Int32))] h n0 (RI fun r h' => h' = h ∧ r = (8 : Int32)) := by
  refine start (ls := #[.val (.ref t), .val (.int (8 : Int32)), .val (.int (12 : Int32)), .unset]) (plainFor_of_name pn16) (fun m => by first | (simp [entryFrame, mkF, argsToLocals, Value.category]; done) | rfl) ?_
  intro p e s m below meth c T G w X
  refine iloadN w X d24_0 1 rfl rfl ?_
  refine istoreN w X (8 : Int32) d24_1 2 rfl rfl #[.val (.ref t), .val (.int (8 : Int32)), .val (.int (12 : Int32)), .val (.int (8 : Int32))] rfl ?_
  refine iloadN w X d24_2 3 rfl rfl ?_
  refine iloadN w X d24_3 4 rfl rfl ?_
  refine icmp_ge w X d24_4 25 7 (by decide) (by decide) rfl (fun q => absurd q (by decide)) (fun hc4_1 => ?_)
  refine aloadN w X d24_7 8 rfl rfl rfl ?_
  refine getfield w X (wd66 hw) Via.refl F_bytes_t d24_8 11 rfl (fun T X => ?_)
  refine iloadN w X d24_11 12 rfl rfl ?_
  refine baload w X V_arr (by decide) 8 rfl (Nat.le_of_ble_eq_true rfl) d24_12 13 rfl (97 : Int32) rfl ?_
  refine callSPI w X [(.int (97 : Int32))] (wd128 hw) (wd129 hw) (wd41 hw) (wd130 hw) (by decide) (rm_own_dg hw (97 : Int32) h n0 zn) d24_13 16 rfl 0 (by decide) (by decide) (lenOf pd5 rfl) rfl (Nat.le_of_eq rfl) rfl (by decide) (by decide) (fun r2 T X hq => ?_)
  obtain rfl : r2 = (0 : Int32) := hq.trans (by decide)
  refine if_eq w X d24_16 25 19 (by decide) (by decide) rfl (fun hc16_3 => ?_) (fun q => absurd q (by decide))
  refine iloadN w X d24_25 26 rfl rfl ?_
  refine retI w X rfl d24_26 (by decide) (by decide) ?_
  exact ⟨(8 : Int32), rfl, rfl, rfl⟩
set_option maxRecDepth 65536 in
set_option maxHeartbeats 40000000 in
theorem rm_skipSpaces_63 {l : Launch} {Z : State} {a0 : Array Value} (hw : ∀ d ∈ tables_1, d.before a0 Z = true) (t arr : Addr) (p0 p1 p2 p3 p4 p5 p6 p7 : Int32) (h : Heap) (n0 : Nat) (zn : n0 ≤ h.size) (E_t : Exa Z h t "com/example/clauseline/clauseline/ContractText") (F_bytes_t : Fld Z h t "com/example/clauseline/clauseline/ContractText" "bytes" "[B" (.ref arr)) (V_arr : PA Z h arr .byte [p0, p1, p2, p3, p4, p5, p6, p7, (97 : Int32), (46 : Int32), (98 : Int32), (99 : Int32), (10 : Int32), (60 : Int32), (10 : Int32), (45 : Int32), (45 : Int32), (10 : Int32), (32 : Int32)]) :
    Met l Z (⟨"com/example/clauseline/clauseline/ContractText", "skipSpaces", "(II)I"⟩ : MethodName) prog_22_method_20_code 4 (some .int) [] ({ frames := 1, cells := 0, slots := 0, locals := 12 } : Room) #[(.ref t), (.int (8 : Int32)), (.int (12 : Int32))] h n0 (RI fun r h' => h' = h ∧ r = (8 : Int32)) := by
  refine start (ls := #[.val (.ref t), .val (.int (8 : Int32)), .val (.int (12 : Int32)), .unset]) (plainFor_of_name pn16) (fun m => by first | (simp [entryFrame, mkF, argsToLocals, Value.category]; done) | rfl) ?_
  intro p e s m below meth c T G w X
  refine iloadN w X d15_0 1 rfl rfl ?_
  refine istoreN w X (8 : Int32) d15_1 2 rfl rfl #[.val (.ref t), .val (.int (8 : Int32)), .val (.int (12 : Int32)), .val (.int (8 : Int32))] rfl ?_
  refine iloadN w X d15_2 3 rfl rfl ?_
  refine iloadN w X d15_3 4 rfl rfl ?_
  refine icmp_ge w X d15_4 25 7 (by decide) (by decide) rfl (fun q => absurd q (by decide)) (fun hc4_1 => ?_)
  refine aloadN w X d15_7 8 rfl rfl rfl ?_
  refine getfield w X (wd66 hw) Via.refl F_bytes_t d15_8 11 rfl (fun T X => ?_)
  refine iloadN w X d15_11 12 rfl rfl ?_
  refine baload w X V_arr (by decide) 8 rfl (Nat.le_of_ble_eq_true rfl) d15_12 13 rfl (97 : Int32) rfl ?_
  refine callSPI w X [(.int (97 : Int32))] (wd88 hw) (wd89 hw) (wd41 hw) (wd90 hw) (by decide) (rm_own_sp1 hw (97 : Int32) h n0 zn) d15_13 16 rfl 0 (by decide) (by decide) (lenOf pd5 rfl) rfl (Nat.le_of_eq rfl) rfl (by decide) (by decide) (fun r2 T X hq => ?_)
  obtain rfl : r2 = (0 : Int32) := hq.trans (by decide)
  refine if_eq w X d15_16 25 19 (by decide) (by decide) rfl (fun hc16_3 => ?_) (fun q => absurd q (by decide))
  refine iloadN w X d15_25 26 rfl rfl ?_
  refine retI w X rfl d15_26 (by decide) (by decide) ?_
  exact ⟨(8 : Int32), rfl, rfl, rfl⟩
set_option maxRecDepth 65536 in
set_option maxHeartbeats 40000000 in
theorem rm_startsWith_64 {l : Launch} {Z : State} {a0 : Array Value} (hw : ∀ d ∈ tables_1, d.before a0 Z = true) (t arr : Addr) (p0 p1 p2 p3 p4 p5 p6 p7 : Int32) (cs : Int32) (sio : Value) (qs qv : Addr) (h : Heap) (n0 : Nat) (zn : n0 ≤ h.size) (E_t : Exa Z h t "com/example/clauseline/clauseline/ContractText") (F_bytes_t : Fld Z h t "com/example/clauseline/clauseline/ContractText" "bytes" "[B" (.ref arr)) (V_arr : PA Z h arr .byte [p0, p1, p2, p3, p4, p5, p6, p7, (97 : Int32), (46 : Int32), (98 : Int32), (99 : Int32), (10 : Int32), (60 : Int32), (10 : Int32), (45 : Int32), (45 : Int32), (10 : Int32), (32 : Int32)]) (S_cs : Sta Z h "java/lang/String" "COMPACT_STRINGS" "Z" (.int cs)) (hcs : ¬ cs = 0) (S_sio : Sta Z h "jdk/internal/util/Preconditions" "SIOOBE_FORMATTER" "Ljava/util/function/BiFunction;" sio) (hsio : sio.isRef = true) (E_qs : Exa Z h qs "java/lang/String") (F_value_qs : Fld Z h qs "java/lang/String" "value" "[B" (.ref qv)) (V_qv : PA Z h qv .byte [(73 : Int32), (83 : Int32), (68 : Int32), (65 : Int32)]) (F_coder_qs : Fld Z h qs "java/lang/String" "coder" "B" (.int (0 : Int32))) :
    Met l Z (⟨"com/example/clauseline/clauseline/ContractText", "startsWith", "(IILjava/lang/String;)Z"⟩ : MethodName) prog_22_method_34_code 5 (some .boolean) [] ({ frames := 4, cells := 0, slots := 0, locals := 54 } : Room) #[(.ref t), (.int (8 : Int32)), (.int (12 : Int32)), (.ref qs)] h n0 (RI fun r h' => h' = h ∧ r = (0 : Int32)) := by
  refine start (ls := #[.val (.ref t), .val (.int (8 : Int32)), .val (.int (12 : Int32)), .val (.ref qs), .unset]) (plainFor_of_name pn16) (fun m => by first | (simp [entryFrame, mkF, argsToLocals, Value.category]; done) | rfl) ?_
  intro p e s m below meth c T G w X
  refine iloadN w X d26_0 1 rfl rfl ?_
  refine iloadN w X d26_1 2 rfl rfl ?_
  refine isub w X (4 : Int32) d26_2 3 rfl (by decide) ?_
  refine aloadN w X d26_3 4 rfl rfl rfl ?_
  refine callVPI w X [] (wd137 hw) (wd138 hw) (notFace_of_selects (args := #[]) (mvT w.2.2.2.2.1 (wd140 hw))) (wd140 hw) (wd139 hw) (wd3 hw) (wd141 hw) (by decide) E_qs (rm_length hw qs qv [(73 : Int32), (83 : Int32), (68 : Int32), (65 : Int32)] cs h n0 zn S_cs hcs E_qs F_value_qs V_qv F_coder_qs) d26_4 7 rfl 1 (by decide) (by decide) (lenOf pd11 rfl) rfl (Nat.le_of_eq rfl) rfl (by decide) (by decide) (fun r1 T X hq => ?_)
  obtain rfl : r1 = (4 : Int32) := hq.trans (by decide)
  refine icmp_ge w X d26_7 12 10 (by decide) (by decide) rfl (fun hc7_2 => ?_) (fun q => absurd q (by decide))
  refine iconst w X (0 : Int32) d26_12 13 rfl rfl ?_
  refine istore w X (0 : Int32) d26_13 15 rfl rfl #[.val (.ref t), .val (.int (8 : Int32)), .val (.int (12 : Int32)), .val (.ref qs), .val (.int (0 : Int32))] rfl ?_
  refine iload w X d26_15 17 rfl rfl ?_
  refine aloadN w X d26_17 18 rfl rfl rfl ?_
  refine callVPI w X [] (wd137 hw) (wd138 hw) (notFace_of_selects (args := #[]) (mvT w.2.2.2.2.1 (wd140 hw))) (wd140 hw) (wd139 hw) (wd3 hw) (wd141 hw) (by decide) E_qs (rm_length hw qs qv [(73 : Int32), (83 : Int32), (68 : Int32), (65 : Int32)] cs h n0 zn S_cs hcs E_qs F_value_qs V_qv F_coder_qs) d26_18 21 rfl 1 (by decide) (by decide) (lenOf pd11 rfl) rfl (Nat.le_of_eq rfl) rfl (by decide) (by decide) (fun r3 T X hq => ?_)
  obtain rfl : r3 = (4 : Int32) := hq.trans (by decide)
  refine icmp_ge w X d26_21 50 24 (by decide) (by decide) rfl (fun q => absurd q (by decide)) (fun hc21_4 => ?_)
  refine aloadN w X d26_24 25 rfl rfl rfl ?_
  refine getfield w X (wd66 hw) Via.refl F_bytes_t d26_25 28 rfl (fun T X => ?_)
  refine iloadN w X d26_28 29 rfl rfl ?_
  refine iload w X d26_29 31 rfl rfl ?_
  refine iadd w X (8 : Int32) d26_31 32 rfl (by decide) ?_
  refine baload w X V_arr (by decide) 8 rfl (Nat.le_of_ble_eq_true rfl) d26_32 33 rfl (97 : Int32) rfl ?_
  refine aloadN w X d26_33 34 rfl rfl rfl ?_
  refine iload w X d26_34 36 rfl rfl ?_
  refine callVPI w X [(.int (0 : Int32))] (wd151 hw) (wd15 hw) (notFace_of_selects (args := #[]) (mvT w.2.2.2.2.1 (wd17 hw))) (wd17 hw) (wd16 hw) (wd3 hw) (wd18 hw) (by decide) E_qs (rm_charAt hw qs qv (0 : Int32) [(73 : Int32), (83 : Int32), (68 : Int32), (65 : Int32)] (4 : Int32) cs sio h n0 zn S_cs hcs E_qs F_value_qs V_qv F_coder_qs rfl (by decide) (by decide) (Nat.le_of_ble_eq_true rfl) S_sio hsio) d26_36 39 rfl 1 (by decide) (by decide) (lenOf pd14 rfl) rfl (Nat.le_of_eq rfl) rfl (by decide) (by decide) (fun r5 T X hq => ?_)
  obtain rfl : r5 = (73 : Int32) := hq.trans (by decide)
  refine icmp_eq w X d26_39 44 42 (by decide) (by decide) rfl (fun q => absurd q (by decide)) (fun hc39_6 => ?_)
  refine iconst w X (0 : Int32) d26_42 43 rfl rfl ?_
  refine retN w X (t := .boolean) rfl (by simp) d26_43 (by decide) (by decide) ?_
  exact ⟨(0 : Int32), rfl, rfl, rfl⟩
set_option maxRecDepth 65536 in
set_option maxHeartbeats 40000000 in
theorem rm_isFooter_61 {l : Launch} {Z : State} {a0 : Array Value} (hw : ∀ d ∈ tables_1, d.before a0 Z = true) (t arr : Addr) (p0 p1 p2 p3 p4 p5 p6 p7 : Int32) (cs : Int32) (sio : Value) (h : Heap) (n0 : Nat) (zn : n0 ≤ h.size) (E_t : Exa Z h t "com/example/clauseline/clauseline/ContractText") (F_bytes_t : Fld Z h t "com/example/clauseline/clauseline/ContractText" "bytes" "[B" (.ref arr)) (V_arr : PA Z h arr .byte [p0, p1, p2, p3, p4, p5, p6, p7, (97 : Int32), (46 : Int32), (98 : Int32), (99 : Int32), (10 : Int32), (60 : Int32), (10 : Int32), (45 : Int32), (45 : Int32), (10 : Int32), (32 : Int32)]) (S_cs : Sta Z h "java/lang/String" "COMPACT_STRINGS" "Z" (.int cs)) (hcs : ¬ cs = 0) (S_sio : Sta Z h "jdk/internal/util/Preconditions" "SIOOBE_FORMATTER" "Ljava/util/function/BiFunction;" sio) (hsio : sio.isRef = true) :
    MetH consts_1 l Z (⟨"com/example/clauseline/clauseline/LineWrap", "isFooter", "(Lcom/example/clauseline/clauseline/ContractText;II)Z"⟩ : MethodName) prog_47_method_16_code 7 (some .boolean) [] ({ frames := 5, cells := 2, slots := 20, locals := 70 } : Room) #[(.ref t), (.int (8 : Int32)), (.int (12 : Int32))] h n0 (RI fun r h' => Keep h h' [] ∧ r = (0 : Int32)) := by
  refine startH (own_EW hw) (ls := #[.val (.ref t), .val (.int (8 : Int32)), .val (.int (12 : Int32)), .unset, .unset, .unset, .unset]) (plainFor_of_name pn20) (fun m => by first | (simp [entryFrame, mkF, argsToLocals, Value.category]; done) | rfl) ?_
  intro p e s0 m below meth c T G s k0 w X ws zk hC
  have K := Keep.refl h []
  refine aloadN w X d23_0 1 rfl rfl rfl ?_
  refine iloadN w X d23_1 2 rfl rfl ?_
  refine iloadN w X d23_2 3 rfl rfl ?_
  refine callVPI w X [(.int (8 : Int32)), (.int (12 : Int32))] (wd123 hw) (wd124 hw) (notFace_of_selects (args := #[]) (mvT w.2.2.2.2.1 (wd126 hw))) (wd126 hw) (wd125 hw) (wd41 hw) (wd127 hw) (by decide) E_t (rm_digitsEnd_62 hw t arr p0 p1 p2 p3 p4 p5 p6 p7 h n0 zn E_t F_bytes_t V_arr) d23_3 6 rfl 0 (by decide) (by decide) (lenOf pd6 rfl) rfl (Nat.le_of_eq rfl) rfl (by decide) (by decide) (fun r1 T X hq => ?_)
  subst hq
  refine istoreN w X (8 : Int32) d23_6 7 rfl rfl #[.val (.ref t), .val (.int (8 : Int32)), .val (.int (12 : Int32)), .val (.int (8 : Int32)), .unset, .unset, .unset] rfl ?_
  refine aloadN w X d23_7 8 rfl rfl rfl ?_
  refine iloadN w X d23_8 9 rfl rfl ?_
  refine iloadN w X d23_9 10 rfl rfl ?_
  refine callVPI w X [(.int (8 : Int32)), (.int (12 : Int32))] (wd83 hw) (wd84 hw) (notFace_of_selects (args := #[]) (mvT w.2.2.2.2.1 (wd86 hw))) (wd86 hw) (wd85 hw) (wd41 hw) (wd87 hw) (by decide) E_t (rm_skipSpaces_63 hw t arr p0 p1 p2 p3 p4 p5 p6 p7 h n0 zn E_t F_bytes_t V_arr) d23_10 13 rfl 0 (by decide) (by decide) (lenOf pd6 rfl) rfl (Nat.le_of_eq rfl) rfl (by decide) (by decide) (fun r2 T X hq => ?_)
  subst hq
  refine istore w X (8 : Int32) d23_13 15 rfl rfl #[.val (.ref t), .val (.int (8 : Int32)), .val (.int (12 : Int32)), .val (.int (8 : Int32)), .val (.int (8 : Int32)), .unset, .unset] rfl ?_
  refine aloadN w X d23_15 16 rfl rfl rfl ?_
  refine iload w X d23_16 18 rfl rfl ?_
  refine iloadN w X d23_18 19 rfl rfl ?_
  refine ldcHt w X ws zk hC (own_EW hw) (by decide) (wd131 hw) (own_wS hw) [(73 : Int32), (83 : Int32), (68 : Int32), (65 : Int32)] ⟨by decide, by decide⟩ (4 : Int32) (by decide) (by decide) d23_19 21 rfl 16 (by decide) (by decide) (by decide) (by decide) (fun s k0 T h3 sa4 sv5 w X ws zk hC E E_sa4 F_coder_sa4 F_value_sa4 V_sv5 hss => ?_)
  have zn : n0 ≤ h3.size := Nat.le_trans zn E.1
  have E_t := E_t.ext E
  have F_bytes_t := F_bytes_t.ext E
  have V_arr := V_arr.ext E
  have S_cs := S_cs.ext E
  have S_sio := S_sio.ext E
  have K := K.ext E
  refine callVPI w X [(.int (8 : Int32)), (.int (12 : Int32)), (.ref sa4)] (wd132 hw) (wd133 hw) (notFace_of_selects (args := #[]) (mvT w.2.2.2.2.1 (wd135 hw))) (wd135 hw) (wd134 hw) (wd41 hw) (wd136 hw) (by decide) E_t (rm_startsWith_64 hw t arr p0 p1 p2 p3 p4 p5 p6 p7 cs sio sa4 sv5 h3 n0 zn E_t F_bytes_t V_arr S_cs hcs S_sio hsio E_sa4 F_value_sa4 V_sv5 F_coder_sa4) d23_21 24 rfl 0 (by decide) (by decide) (lenOf pd12 rfl) rfl (Nat.le_of_eq rfl) rfl (by decide) (by decide) (fun r6 T X hq => ?_)
  subst hq
  refine if_ne w X d23_24 29 27 (by decide) (by decide) rfl (fun q => absurd q (by decide)) (fun hc24_7 => ?_)
  refine iconst w X (0 : Int32) d23_27 28 rfl rfl ?_
  refine retN w X (t := .boolean) rfl (by simp) d23_28 (by decide) (by decide) ?_
  refine And.intro zk (And.intro hC ?_)
  exact ⟨(0 : Int32), rfl, K, rfl⟩
set_option maxRecDepth 65536 in
set_option maxHeartbeats 40000000 in
theorem rm_isPageBreak_59 {l : Launch} {Z : State} {a0 : Array Value} (hw : ∀ d ∈ tables_1, d.before a0 Z = true) (t arr : Addr) (p0 p1 p2 p3 p4 p5 p6 p7 f0 : Int32) (cs : Int32) (sio : Value) (h : Heap) (n0 : Nat) (zn : n0 ≤ h.size) (E_t : Exa Z h t "com/example/clauseline/clauseline/ContractText") (F_bytes_t : Fld Z h t "com/example/clauseline/clauseline/ContractText" "bytes" "[B" (.ref arr)) (V_arr : PA Z h arr .byte [p0, p1, p2, p3, p4, p5, p6, p7, (97 : Int32), (46 : Int32), (98 : Int32), (99 : Int32), (10 : Int32), (60 : Int32), (10 : Int32), (45 : Int32), (45 : Int32), (10 : Int32), (32 : Int32)]) (S_cs : Sta Z h "java/lang/String" "COMPACT_STRINGS" "Z" (.int cs)) (hcs : ¬ cs = 0) (S_sio : Sta Z h "jdk/internal/util/Preconditions" "SIOOBE_FORMATTER" "Ljava/util/function/BiFunction;" sio) (hsio : sio.isRef = true) :
    MetH consts_1 l Z (⟨"com/example/clauseline/clauseline/LineWrap", "isPageBreak", "(Lcom/example/clauseline/clauseline/ContractText;III)Z"⟩ : MethodName) prog_47_method_15_code 4 (some .boolean) [] ({ frames := 6, cells := 2, slots := 20, locals := 88 } : Room) #[(.ref t), (.int f0), (.int (8 : Int32)), (.int (12 : Int32))] h n0 (RI fun r h' => Keep h h' [] ∧ r = (0 : Int32)) := by
  refine startH (own_EW hw) (ls := #[.val (.ref t), .val (.int f0), .val (.int (8 : Int32)), .val (.int (12 : Int32))]) (plainFor_of_name pn20) (fun m => by first | (simp [entryFrame, mkF, argsToLocals, Value.category]; done) | rfl) ?_
  intro p e s0 m below meth c T G s k0 w X ws zk hC
  have K := Keep.refl h []
  refine aloadN w X d21_0 1 rfl rfl rfl ?_
  refine iloadN w X d21_1 2 rfl rfl ?_
  refine iloadN w X d21_2 3 rfl rfl ?_
  refine callSPI w X [(.ref t), (.int (8 : Int32)), (.int (12 : Int32))] (wd114 hw) (wd115 hw) (wd70 hw) (wd116 hw) (by decide) (rm_isMark_60 hw t arr p0 p1 p2 p3 p4 p5 p6 p7 h n0 zn E_t F_bytes_t V_arr) d21_3 6 rfl 0 (by decide) (by decide) (lenOf pd9 rfl) rfl (Nat.le_of_eq rfl) rfl (by decide) (by decide) (fun r1 T X hq => ?_)
  subst hq
  refine if_ne w X d21_6 18 9 (by decide) (by decide) rfl (fun q => absurd q (by decide)) (fun hc6_2 => ?_)
  refine aloadN w X d21_9 10 rfl rfl rfl ?_
  refine iloadN w X d21_10 11 rfl rfl ?_
  refine iloadN w X d21_11 12 rfl rfl ?_
  refine callSH w X ws zk hC (own_EW hw) [(.ref t), (.int (8 : Int32)), (.int (12 : Int32))] (wd120 hw) (wd121 hw) (wd70 hw) (wd122 hw) (by decide) (rm_isFooter_61 hw t arr p0 p1 p2 p3 p4 p5 p6 p7 cs sio h n0 zn E_t F_bytes_t V_arr S_cs hcs S_sio hsio) d21_12 15 rfl 0 (by decide) (by decide) (lenOf pd9 rfl) rfl (Nat.le_of_eq rfl) rfl (by decide) (by decide) (fun s k0 v T h4 w X ws zk hC hq => ?_)
  obtain ⟨r3, rfl, hq⟩ := hq
  obtain ⟨Kq, rfl⟩ := hq
  have S_cs := Sta.keepN S_cs Kq all0
  have S_sio := Sta.keepN S_sio Kq all0
  have zn : n0 ≤ h4.size := Nat.le_trans zn Kq.1
  have E_t := E_t.keep Kq
  have F_bytes_t := F_bytes_t.keep Kq nin0
  have V_arr := V_arr.keep Kq nin0
  have K := K.trans Kq all0
  show G (T.setTop (mkF m 15 #[.val (.ref t), .val (.int f0), .val (.int (8 : Int32)), .val (.int (12 : Int32))] [(.int (0 : Int32))]))
  refine if_eq w X d21_15 20 18 (by decide) (by decide) rfl (fun hc15_5 => ?_) (fun q => absurd q (by decide))
  refine aloadN w X d21_20 21 rfl rfl rfl ?_
  refine iloadN w X d21_21 22 rfl rfl ?_
  refine iloadN w X d21_22 23 rfl rfl ?_
  refine callVPI w X [(.int (8 : Int32)), (.int (12 : Int32))] (wd123 hw) (wd124 hw) (notFace_of_selects (args := #[]) (mvT w.2.2.2.2.1 (wd126 hw))) (wd126 hw) (wd125 hw) (wd41 hw) (wd127 hw) (by decide) E_t (rm_digitsEnd_62 hw t arr p0 p1 p2 p3 p4 p5 p6 p7 h4 n0 zn E_t F_bytes_t V_arr) d21_23 26 rfl 0 (by decide) (by decide) (lenOf pd6 rfl) rfl (Nat.le_of_eq rfl) rfl (by decide) (by decide) (fun r6 T X hq => ?_)
  subst hq
  refine iloadN w X d21_26 27 rfl rfl ?_
  refine icmp_ne w X d21_27 42 30 (by decide) (by decide) rfl (fun hc27_7 => ?_) (fun q => absurd q (by decide))
  refine iconst w X (0 : Int32) d21_42 43 rfl rfl ?_
  refine retN w X (t := .boolean) rfl (by simp) d21_43 (by decide) (by decide) ?_
  refine And.intro zk (And.intro hC ?_)
  exact ⟨(0 : Int32), rfl, K, rfl⟩
set_option maxRecDepth 65536 in
set_option maxHeartbeats 40000000 in
theorem rm_isMark_66 {l : Launch} {Z : State} {a0 : Array Value} (hw : ∀ d ∈ tables_1, d.before a0 Z = true) (t arr : Addr) (p0 p1 p2 p3 p4 p5 p6 p7 : Int32) (h : Heap) (n0 : Nat) (zn : n0 ≤ h.size) (E_t : Exa Z h t "com/example/clauseline/clauseline/ContractText") (F_bytes_t : Fld Z h t "com/example/clauseline/clauseline/ContractText" "bytes" "[B" (.ref arr)) (V_arr : PA Z h arr .byte [p0, p1, p2, p3, p4, p5, p6, p7, (65 : Int32), (66 : Int32), (67 : Int32), (68 : Int32), (10 : Int32), (60 : Int32), (10 : Int32), (45 : Int32), (45 : Int32), (10 : Int32), (32 : Int32)]) :
    Met l Z (⟨"com/example/clauseline/clauseline/LineWrap", "isMark", "(Lcom/example/clauseline/clauseline/ContractText;II)Z"⟩ : MethodName) prog_47_method_18_code 4 (some .boolean) [] ({ frames := 1, cells := 0, slots := 0, locals := 13 } : Room) #[(.ref t), (.int (8 : Int32)), (.int (12 : Int32))] h n0 (RI fun r h' => h' = h ∧ r = (0 : Int32)) := by
  refine start (ls := #[.val (.ref t), .val (.int (8 : Int32)), .val (.int (12 : Int32)), .unset]) (plainFor_of_name pn20) (fun m => by first | (simp [entryFrame, mkF, argsToLocals, Value.category]; done) | rfl) ?_
  intro p e s m below meth c T G w X
  refine aloadN w X d22_0 1 rfl rfl rfl ?_
  refine iloadN w X d22_1 2 rfl rfl ?_
  refine callVPI w X [(.int (8 : Int32))] (wd103 hw) (wd104 hw) (notFace_of_selects (args := #[]) (mvT w.2.2.2.2.1 (wd106 hw))) (wd106 hw) (wd105 hw) (wd41 hw) (wd107 hw) (by decide) E_t (rm_baG hw t arr [p0, p1, p2, p3, p4, p5, p6, p7, (65 : Int32), (66 : Int32), (67 : Int32), (68 : Int32), (10 : Int32), (60 : Int32), (10 : Int32), (45 : Int32), (45 : Int32), (10 : Int32), (32 : Int32)] 8 h n0 zn E_t F_bytes_t V_arr (Nat.le_of_ble_eq_true rfl) (Nat.le_of_ble_eq_true rfl)) d22_2 5 rfl 0 (by decide) (by decide) (lenOf pd8 rfl) rfl (Nat.le_of_eq rfl) rfl (by decide) (by decide) (fun r1 T X hq => ?_)
  obtain rfl : r1 = (65 : Int32) := hq
  refine istoreN w X (65 : Int32) d22_5 6 rfl rfl #[.val (.ref t), .val (.int (8 : Int32)), .val (.int (12 : Int32)), .val (.int (65 : Int32))] rfl ?_
  refine iloadN w X d22_6 7 rfl rfl ?_
  refine iloadN w X d22_7 8 rfl rfl ?_
  refine isub w X (4 : Int32) d22_8 9 rfl (by decide) ?_
  refine iconst w X (1 : Int32) d22_9 10 rfl rfl ?_
  refine icmp_ne w X d22_10 29 13 (by decide) (by decide) rfl (fun hc10_2 => ?_) (fun q => absurd q (by decide))
  refine iconst w X (0 : Int32) d22_29 30 rfl rfl ?_
  refine retN w X (t := .boolean) rfl (by simp) d22_30 (by decide) (by decide) ?_
  exact ⟨(0 : Int32), rfl, rfl, rfl⟩
set_option maxRecDepth 65536 in
set_option maxHeartbeats 40000000 in
theorem rm_digitsEnd_68 {l : Launch} {Z : State} {a0 : Array Value} (hw : ∀ d ∈ tables_1, d.before a0 Z = true) (t arr : Addr) (p0 p1 p2 p3 p4 p5 p6 p7 : Int32) (h : Heap) (n0 : Nat) (zn : n0 ≤ h.size) (E_t : Exa Z h t "com/example/clauseline/clauseline/ContractText") (F_bytes_t : Fld Z h t "com/example/clauseline/clauseline/ContractText" "bytes" "[B" (.ref arr)) (V_arr : PA Z h arr .byte [p0, p1, p2, p3, p4, p5, p6, p7, (65 : Int32), (66 : Int32), (67 : Int32), (68 : Int32), (10 : Int32), (60 : Int32), (10 : Int32), (45 : Int32), (45 : Int32), (10 : Int32), (32 : Int32)]) :
    Met l Z (⟨"com/example/clauseline/clauseline/ContractText", "digitsEnd", "(II)I"⟩ : MethodName) prog_22_method_22_code 4 (some .int) [] ({ frames := 1, cells := 0, slots := 0, locals := 12 } : Room) #[(.ref t), (.int (8 : Int32)), (.int (12 : Int32))] h n0 (RI fun r h' => h' = h ∧ r = (8 : Int32)) := by
  refine start (ls := #[.val (.ref t), .val (.int (8 : Int32)), .val (.int (12 : Int32)), .unset]) (plainFor_of_name pn16) (fun m => by first | (simp [entryFrame, mkF, argsToLocals, Value.category]; done) | rfl) ?_
  intro p e s m below meth c T G w X
  refine iloadN w X d24_0 1 rfl rfl ?_
  refine istoreN w X (8 : Int32) d24_1 2 rfl rfl #[.val (.ref t), .val (.int (8 : Int32)), .val (.int (12 : Int32)), .val (.int (8 : Int32))] rfl ?_
  refine iloadN w X d24_2 3 rfl rfl ?_
  refine iloadN w X d24_3 4 rfl rfl ?_
  refine icmp_ge w X d24_4 25 7 (by decide) (by decide) rfl (fun q => absurd q (by decide)) (fun hc4_1 => ?_)
  refine aloadN w X d24_7 8 rfl rfl rfl ?_
  refine getfield w X (wd66 hw) Via.refl F_bytes_t d24_8 11 rfl (fun T X => ?_)
  refine iloadN w X d24_11 12 rfl rfl ?_
  refine baload w X V_arr (by decide) 8 rfl (Nat.le_of_ble_eq_true rfl) d24_12 13 rfl (65 : Int32) rfl ?_
  refine callSPI w X [(.int (65 : Int32))] (wd128 hw) (wd129 hw) (wd41 hw) (wd130 hw) (by decide) (rm_own_dg hw (65 : Int32) h n0 zn) d24_13 16 rfl 0 (by decide) (by decide) (lenOf pd5 rfl) rfl (Nat.le_of_eq rfl) rfl (by decide) (by decide) (fun r2 T X hq => ?_)
  obtain rfl : r2 = (0 : Int32) := hq.trans (by decide)
  refine if_eq w X d24_16 25 19 (by decide) (by decide) rfl (fun hc16_3 => ?_) (fun q => absurd q (by decide))
  refine iloadN w X d24_25 26 rfl rfl ?_
  refine retI w X rfl d24_26 (by decide) (by decide) ?_
  exact ⟨(8 : Int32), rfl, rfl, rfl⟩
set_option maxRecDepth 65536 in
set_option maxHeartbeats 40000000 in
theorem rm_skipSpaces_69 {l : Launch} {Z : State} {a0 : Array Value} (hw : ∀ d ∈ tables_1, d.before a0 Z = true) (t arr : Addr) (p0 p1 p2 p3 p4 p5 p6 p7 : Int32) (h : Heap) (n0 : Nat) (zn : n0 ≤ h.size) (E_t : Exa Z h t "com/example/clauseline/clauseline/ContractText") (F_bytes_t : Fld Z h t "com/example/clauseline/clauseline/ContractText" "bytes" "[B" (.ref arr)) (V_arr : PA Z h arr .byte [p0, p1, p2, p3, p4, p5, p6, p7, (65 : Int32), (66 : Int32), (67 : Int32), (68 : Int32), (10 : Int32), (60 : Int32), (10 : Int32), (45 : Int32), (45 : Int32), (10 : Int32), (32 : Int32)]) :
    Met l Z (⟨"com/example/clauseline/clauseline/ContractText", "skipSpaces", "(II)I"⟩ : MethodName) prog_22_method_20_code 4 (some .int) [] ({ frames := 1, cells := 0, slots := 0, locals := 12 } : Room) #[(.ref t), (.int (8 : Int32)), (.int (12 : Int32))] h n0 (RI fun r h' => h' = h ∧ r = (8 : Int32)) := by
  refine start (ls := #[.val (.ref t), .val (.int (8 : Int32)), .val (.int (12 : Int32)), .unset]) (plainFor_of_name pn16) (fun m => by first | (simp [entryFrame, mkF, argsToLocals, Value.category]; done) | rfl) ?_
  intro p e s m below meth c T G w X
  refine iloadN w X d15_0 1 rfl rfl ?_
  refine istoreN w X (8 : Int32) d15_1 2 rfl rfl #[.val (.ref t), .val (.int (8 : Int32)), .val (.int (12 : Int32)), .val (.int (8 : Int32))] rfl ?_
  refine iloadN w X d15_2 3 rfl rfl ?_
  refine iloadN w X d15_3 4 rfl rfl ?_
  refine icmp_ge w X d15_4 25 7 (by decide) (by decide) rfl (fun q => absurd q (by decide)) (fun hc4_1 => ?_)
  refine aloadN w X d15_7 8 rfl rfl rfl ?_
  refine getfield w X (wd66 hw) Via.refl F_bytes_t d15_8 11 rfl (fun T X => ?_)
  refine iloadN w X d15_11 12 rfl rfl ?_
  refine baload w X V_arr (by decide) 8 rfl (Nat.le_of_ble_eq_true rfl) d15_12 13 rfl (65 : Int32) rfl ?_
  refine callSPI w X [(.int (65 : Int32))] (wd88 hw) (wd89 hw) (wd41 hw) (wd90 hw) (by decide) (rm_own_sp1 hw (65 : Int32) h n0 zn) d15_13 16 rfl 0 (by decide) (by decide) (lenOf pd5 rfl) rfl (Nat.le_of_eq rfl) rfl (by decide) (by decide) (fun r2 T X hq => ?_)
  obtain rfl : r2 = (0 : Int32) := hq.trans (by decide)
  refine if_eq w X d15_16 25 19 (by decide) (by decide) rfl (fun hc16_3 => ?_) (fun q => absurd q (by decide))
  refine iloadN w X d15_25 26 rfl rfl ?_
  refine retI w X rfl d15_26 (by decide) (by decide) ?_
  exact ⟨(8 : Int32), rfl, rfl, rfl⟩
set_option maxRecDepth 65536 in
set_option maxHeartbeats 40000000 in
theorem rm_startsWith_70 {l : Launch} {Z : State} {a0 : Array Value} (hw : ∀ d ∈ tables_1, d.before a0 Z = true) (t arr : Addr) (p0 p1 p2 p3 p4 p5 p6 p7 : Int32) (cs : Int32) (sio : Value) (qs qv : Addr) (h : Heap) (n0 : Nat) (zn : n0 ≤ h.size) (E_t : Exa Z h t "com/example/clauseline/clauseline/ContractText") (F_bytes_t : Fld Z h t "com/example/clauseline/clauseline/ContractText" "bytes" "[B" (.ref arr)) (V_arr : PA Z h arr .byte [p0, p1, p2, p3, p4, p5, p6, p7, (65 : Int32), (66 : Int32), (67 : Int32), (68 : Int32), (10 : Int32), (60 : Int32), (10 : Int32), (45 : Int32), (45 : Int32), (10 : Int32), (32 : Int32)]) (S_cs : Sta Z h "java/lang/String" "COMPACT_STRINGS" "Z" (.int cs)) (hcs : ¬ cs = 0) (S_sio : Sta Z h "jdk/internal/util/Preconditions" "SIOOBE_FORMATTER" "Ljava/util/function/BiFunction;" sio) (hsio : sio.isRef = true) (E_qs : Exa Z h qs "java/lang/String") (F_value_qs : Fld Z h qs "java/lang/String" "value" "[B" (.ref qv)) (V_qv : PA Z h qv .byte [(73 : Int32), (83 : Int32), (68 : Int32), (65 : Int32)]) (F_coder_qs : Fld Z h qs "java/lang/String" "coder" "B" (.int (0 : Int32))) :
    Met l Z (⟨"com/example/clauseline/clauseline/ContractText", "startsWith", "(IILjava/lang/String;)Z"⟩ : MethodName) prog_22_method_34_code 5 (some .boolean) [] ({ frames := 4, cells := 0, slots := 0, locals := 54 } : Room) #[(.ref t), (.int (8 : Int32)), (.int (12 : Int32)), (.ref qs)] h n0 (RI fun r h' => h' = h ∧ r = (0 : Int32)) := by
  refine start (ls := #[.val (.ref t), .val (.int (8 : Int32)), .val (.int (12 : Int32)), .val (.ref qs), .unset]) (plainFor_of_name pn16) (fun m => by first | (simp [entryFrame, mkF, argsToLocals, Value.category]; done) | rfl) ?_
  intro p e s m below meth c T G w X
  refine iloadN w X d26_0 1 rfl rfl ?_
  refine iloadN w X d26_1 2 rfl rfl ?_
  refine isub w X (4 : Int32) d26_2 3 rfl (by decide) ?_
  refine aloadN w X d26_3 4 rfl rfl rfl ?_
  refine callVPI w X [] (wd137 hw) (wd138 hw) (notFace_of_selects (args := #[]) (mvT w.2.2.2.2.1 (wd140 hw))) (wd140 hw) (wd139 hw) (wd3 hw) (wd141 hw) (by decide) E_qs (rm_length hw qs qv [(73 : Int32), (83 : Int32), (68 : Int32), (65 : Int32)] cs h n0 zn S_cs hcs E_qs F_value_qs V_qv F_coder_qs) d26_4 7 rfl 1 (by decide) (by decide) (lenOf pd11 rfl) rfl (Nat.le_of_eq rfl) rfl (by decide) (by decide) (fun r1 T X hq => ?_)
  obtain rfl : r1 = (4 : Int32) := hq.trans (by decide)
  refine icmp_ge w X d26_7 12 10 (by decide) (by decide) rfl (fun hc7_2 => ?_) (fun q => absurd q (by decide))
  refine iconst w X (0 : Int32) d26_12 13 rfl rfl ?_
  refine istore w X (0 : Int32) d26_13 15 rfl rfl #[.val (.ref t), .val (.int (8 : Int32)), .val (.int (12 : Int32)), .val (.ref qs), .val (.int (0 : Int32))] rfl ?_
  refine iload w X d26_15 17 rfl rfl ?_
  refine aloadN w X d26_17 18 rfl rfl rfl ?_
  refine callVPI w X [] (wd137 hw) (wd138 hw) (notFace_of_selects (args := #[]) (mvT w.2.2.2.2.1 (wd140 hw))) (wd140 hw) (wd139 hw) (wd3 hw) (wd141 hw) (by decide) E_qs (rm_length hw qs qv [(73 : Int32), (83 : Int32), (68 : Int32), (65 : Int32)] cs h n0 zn S_cs hcs E_qs F_value_qs V_qv F_coder_qs) d26_18 21 rfl 1 (by decide) (by decide) (lenOf pd11 rfl) rfl (Nat.le_of_eq rfl) rfl (by decide) (by decide) (fun r3 T X hq => ?_)
  obtain rfl : r3 = (4 : Int32) := hq.trans (by decide)
  refine icmp_ge w X d26_21 50 24 (by decide) (by decide) rfl (fun q => absurd q (by decide)) (fun hc21_4 => ?_)
  refine aloadN w X d26_24 25 rfl rfl rfl ?_
  refine getfield w X (wd66 hw) Via.refl F_bytes_t d26_25 28 rfl (fun T X => ?_)
  refine iloadN w X d26_28 29 rfl rfl ?_
  refine iload w X d26_29 31 rfl rfl ?_
  refine iadd w X (8 : Int32) d26_31 32 rfl (by decide) ?_
  refine baload w X V_arr (by decide) 8 rfl (Nat.le_of_ble_eq_true rfl) d26_32 33 rfl (65 : Int32) rfl ?_
  refine aloadN w X d26_33 34 rfl rfl rfl ?_
  refine iload w X d26_34 36 rfl rfl ?_
  refine callVPI w X [(.int (0 : Int32))] (wd151 hw) (wd15 hw) (notFace_of_selects (args := #[]) (mvT w.2.2.2.2.1 (wd17 hw))) (wd17 hw) (wd16 hw) (wd3 hw) (wd18 hw) (by decide) E_qs (rm_charAt hw qs qv (0 : Int32) [(73 : Int32), (83 : Int32), (68 : Int32), (65 : Int32)] (4 : Int32) cs sio h n0 zn S_cs hcs E_qs F_value_qs V_qv F_coder_qs rfl (by decide) (by decide) (Nat.le_of_ble_eq_true rfl) S_sio hsio) d26_36 39 rfl 1 (by decide) (by decide) (lenOf pd14 rfl) rfl (Nat.le_of_eq rfl) rfl (by decide) (by decide) (fun r5 T X hq => ?_)
  obtain rfl : r5 = (73 : Int32) := hq.trans (by decide)
  refine icmp_eq w X d26_39 44 42 (by decide) (by decide) rfl (fun q => absurd q (by decide)) (fun hc39_6 => ?_)
  refine iconst w X (0 : Int32) d26_42 43 rfl rfl ?_
  refine retN w X (t := .boolean) rfl (by simp) d26_43 (by decide) (by decide) ?_
  exact ⟨(0 : Int32), rfl, rfl, rfl⟩
set_option maxRecDepth 65536 in
set_option maxHeartbeats 40000000 in
theorem rm_isFooter_67 {l : Launch} {Z : State} {a0 : Array Value} (hw : ∀ d ∈ tables_1, d.before a0 Z = true) (t arr : Addr) (p0 p1 p2 p3 p4 p5 p6 p7 : Int32) (cs : Int32) (sio : Value) (h : Heap) (n0 : Nat) (zn : n0 ≤ h.size) (E_t : Exa Z h t "com/example/clauseline/clauseline/ContractText") (F_bytes_t : Fld Z h t "com/example/clauseline/clauseline/ContractText" "bytes" "[B" (.ref arr)) (V_arr : PA Z h arr .byte [p0, p1, p2, p3, p4, p5, p6, p7, (65 : Int32), (66 : Int32), (67 : Int32), (68 : Int32), (10 : Int32), (60 : Int32), (10 : Int32), (45 : Int32), (45 : Int32), (10 : Int32), (32 : Int32)]) (S_cs : Sta Z h "java/lang/String" "COMPACT_STRINGS" "Z" (.int cs)) (hcs : ¬ cs = 0) (S_sio : Sta Z h "jdk/internal/util/Preconditions" "SIOOBE_FORMATTER" "Ljava/util/function/BiFunction;" sio) (hsio : sio.isRef = true) :
    MetH consts_1 l Z (⟨"com/example/clauseline/clauseline/LineWrap", "isFooter", "(Lcom/example/clauseline/clauseline/ContractText;II)Z"⟩ : MethodName) prog_47_method_16_code 7 (some .boolean) [] ({ frames := 5, cells := 2, slots := 20, locals := 70 } : Room) #[(.ref t), (.int (8 : Int32)), (.int (12 : Int32))] h n0 (RI fun r h' => Keep h h' [] ∧ r = (0 : Int32)) := by
  refine startH (own_EW hw) (ls := #[.val (.ref t), .val (.int (8 : Int32)), .val (.int (12 : Int32)), .unset, .unset, .unset, .unset]) (plainFor_of_name pn20) (fun m => by first | (simp [entryFrame, mkF, argsToLocals, Value.category]; done) | rfl) ?_
  intro p e s0 m below meth c T G s k0 w X ws zk hC
  have K := Keep.refl h []
  refine aloadN w X d23_0 1 rfl rfl rfl ?_
  refine iloadN w X d23_1 2 rfl rfl ?_
  refine iloadN w X d23_2 3 rfl rfl ?_
  refine callVPI w X [(.int (8 : Int32)), (.int (12 : Int32))] (wd123 hw) (wd124 hw) (notFace_of_selects (args := #[]) (mvT w.2.2.2.2.1 (wd126 hw))) (wd126 hw) (wd125 hw) (wd41 hw) (wd127 hw) (by decide) E_t (rm_digitsEnd_68 hw t arr p0 p1 p2 p3 p4 p5 p6 p7 h n0 zn E_t F_bytes_t V_arr) d23_3 6 rfl 0 (by decide) (by decide) (lenOf pd6 rfl) rfl (Nat.le_of_eq rfl) rfl (by decide) (by decide) (fun r1 T X hq => ?_)
  subst hq
  refine istoreN w X (8 : Int32) d23_6 7 rfl rfl #[.val (.ref t), .val (.int (8 : Int32)), .val (.int (12 : Int32)), .val (.int (8 : Int32)), .unset, .unset, .unset] rfl ?_
  refine aloadN w X d23_7 8 rfl rfl rfl ?_
  refine iloadN w X d23_8 9 rfl rfl ?_
  refine iloadN w X d23_9 10 rfl rfl ?_
  refine callVPI w X [(.int (8 : Int32)), (.int (12 : Int32))] (wd83 hw) (wd84 hw) (notFace_of_selects (args := #[]) (mvT w.2.2.2.2.1 (wd86 hw))) (wd86 hw) (wd85 hw) (wd41 hw) (wd87 hw) (by decide) E_t (rm_skipSpaces_69 hw t arr p0 p1 p2 p3 p4 p5 p6 p7 h n0 zn E_t F_bytes_t V_arr) d23_10 13 rfl 0 (by decide) (by decide) (lenOf pd6 rfl) rfl (Nat.le_of_eq rfl) rfl (by decide) (by decide) (fun r2 T X hq => ?_)
  subst hq
  refine istore w X (8 : Int32) d23_13 15 rfl rfl #[.val (.ref t), .val (.int (8 : Int32)), .val (.int (12 : Int32)), .val (.int (8 : Int32)), .val (.int (8 : Int32)), .unset, .unset] rfl ?_
  refine aloadN w X d23_15 16 rfl rfl rfl ?_
  refine iload w X d23_16 18 rfl rfl ?_
  refine iloadN w X d23_18 19 rfl rfl ?_
  refine ldcHt w X ws zk hC (own_EW hw) (by decide) (wd131 hw) (own_wS hw) [(73 : Int32), (83 : Int32), (68 : Int32), (65 : Int32)] ⟨by decide, by decide⟩ (4 : Int32) (by decide) (by decide) d23_19 21 rfl 16 (by decide) (by decide) (by decide) (by decide) (fun s k0 T h3 sa4 sv5 w X ws zk hC E E_sa4 F_coder_sa4 F_value_sa4 V_sv5 hss => ?_)
  have zn : n0 ≤ h3.size := Nat.le_trans zn E.1
  have E_t := E_t.ext E
  have F_bytes_t := F_bytes_t.ext E
  have V_arr := V_arr.ext E
  have S_cs := S_cs.ext E
  have S_sio := S_sio.ext E
  have K := K.ext E
  refine callVPI w X [(.int (8 : Int32)), (.int (12 : Int32)), (.ref sa4)] (wd132 hw) (wd133 hw) (notFace_of_selects (args := #[]) (mvT w.2.2.2.2.1 (wd135 hw))) (wd135 hw) (wd134 hw) (wd41 hw) (wd136 hw) (by decide) E_t (rm_startsWith_70 hw t arr p0 p1 p2 p3 p4 p5 p6 p7 cs sio sa4 sv5 h3 n0 zn E_t F_bytes_t V_arr S_cs hcs S_sio hsio E_sa4 F_value_sa4 V_sv5 F_coder_sa4) d23_21 24 rfl 0 (by decide) (by decide) (lenOf pd12 rfl) rfl (Nat.le_of_eq rfl) rfl (by decide) (by decide) (fun r6 T X hq => ?_)
  subst hq
  refine if_ne w X d23_24 29 27 (by decide) (by decide) rfl (fun q => absurd q (by decide)) (fun hc24_7 => ?_)
  refine iconst w X (0 : Int32) d23_27 28 rfl rfl ?_
  refine retN w X (t := .boolean) rfl (by simp) d23_28 (by decide) (by decide) ?_
  refine And.intro zk (And.intro hC ?_)
  exact ⟨(0 : Int32), rfl, K, rfl⟩
set_option maxRecDepth 65536 in
set_option maxHeartbeats 40000000 in
theorem rm_isPageBreak_65 {l : Launch} {Z : State} {a0 : Array Value} (hw : ∀ d ∈ tables_1, d.before a0 Z = true) (t arr : Addr) (p0 p1 p2 p3 p4 p5 p6 p7 f0 : Int32) (cs : Int32) (sio : Value) (h : Heap) (n0 : Nat) (zn : n0 ≤ h.size) (E_t : Exa Z h t "com/example/clauseline/clauseline/ContractText") (F_bytes_t : Fld Z h t "com/example/clauseline/clauseline/ContractText" "bytes" "[B" (.ref arr)) (V_arr : PA Z h arr .byte [p0, p1, p2, p3, p4, p5, p6, p7, (65 : Int32), (66 : Int32), (67 : Int32), (68 : Int32), (10 : Int32), (60 : Int32), (10 : Int32), (45 : Int32), (45 : Int32), (10 : Int32), (32 : Int32)]) (S_cs : Sta Z h "java/lang/String" "COMPACT_STRINGS" "Z" (.int cs)) (hcs : ¬ cs = 0) (S_sio : Sta Z h "jdk/internal/util/Preconditions" "SIOOBE_FORMATTER" "Ljava/util/function/BiFunction;" sio) (hsio : sio.isRef = true) :
    MetH consts_1 l Z (⟨"com/example/clauseline/clauseline/LineWrap", "isPageBreak", "(Lcom/example/clauseline/clauseline/ContractText;III)Z"⟩ : MethodName) prog_47_method_15_code 4 (some .boolean) [] ({ frames := 6, cells := 2, slots := 20, locals := 88 } : Room) #[(.ref t), (.int f0), (.int (8 : Int32)), (.int (12 : Int32))] h n0 (RI fun r h' => Keep h h' [] ∧ r = (0 : Int32)) := by
  refine startH (own_EW hw) (ls := #[.val (.ref t), .val (.int f0), .val (.int (8 : Int32)), .val (.int (12 : Int32))]) (plainFor_of_name pn20) (fun m => by first | (simp [entryFrame, mkF, argsToLocals, Value.category]; done) | rfl) ?_
  intro p e s0 m below meth c T G s k0 w X ws zk hC
  have K := Keep.refl h []
  refine aloadN w X d21_0 1 rfl rfl rfl ?_
  refine iloadN w X d21_1 2 rfl rfl ?_
  refine iloadN w X d21_2 3 rfl rfl ?_
  refine callSPI w X [(.ref t), (.int (8 : Int32)), (.int (12 : Int32))] (wd114 hw) (wd115 hw) (wd70 hw) (wd116 hw) (by decide) (rm_isMark_66 hw t arr p0 p1 p2 p3 p4 p5 p6 p7 h n0 zn E_t F_bytes_t V_arr) d21_3 6 rfl 0 (by decide) (by decide) (lenOf pd9 rfl) rfl (Nat.le_of_eq rfl) rfl (by decide) (by decide) (fun r1 T X hq => ?_)
  subst hq
  refine if_ne w X d21_6 18 9 (by decide) (by decide) rfl (fun q => absurd q (by decide)) (fun hc6_2 => ?_)
  refine aloadN w X d21_9 10 rfl rfl rfl ?_
  refine iloadN w X d21_10 11 rfl rfl ?_
  refine iloadN w X d21_11 12 rfl rfl ?_
  refine callSH w X ws zk hC (own_EW hw) [(.ref t), (.int (8 : Int32)), (.int (12 : Int32))] (wd120 hw) (wd121 hw) (wd70 hw) (wd122 hw) (by decide) (rm_isFooter_67 hw t arr p0 p1 p2 p3 p4 p5 p6 p7 cs sio h n0 zn E_t F_bytes_t V_arr S_cs hcs S_sio hsio) d21_12 15 rfl 0 (by decide) (by decide) (lenOf pd9 rfl) rfl (Nat.le_of_eq rfl) rfl (by decide) (by decide) (fun s k0 v T h4 w X ws zk hC hq => ?_)
  obtain ⟨r3, rfl, hq⟩ := hq
  obtain ⟨Kq, rfl⟩ := hq
  have S_cs := Sta.keepN S_cs Kq all0
  have S_sio := Sta.keepN S_sio Kq all0
  have zn : n0 ≤ h4.size := Nat.le_trans zn Kq.1
  have E_t := E_t.keep Kq
  have F_bytes_t := F_bytes_t.keep Kq nin0
  have V_arr := V_arr.keep Kq nin0
  have K := K.trans Kq all0
  show G (T.setTop (mkF m 15 #[.val (.ref t), .val (.int f0), .val (.int (8 : Int32)), .val (.int (12 : Int32))] [(.int (0 : Int32))]))
  refine if_eq w X d21_15 20 18 (by decide) (by decide) rfl (fun hc15_5 => ?_) (fun q => absurd q (by decide))
  refine aloadN w X d21_20 21 rfl rfl rfl ?_
  refine iloadN w X d21_21 22 rfl rfl ?_
  refine iloadN w X d21_22 23 rfl rfl ?_
  refine callVPI w X [(.int (8 : Int32)), (.int (12 : Int32))] (wd123 hw) (wd124 hw) (notFace_of_selects (args := #[]) (mvT w.2.2.2.2.1 (wd126 hw))) (wd126 hw) (wd125 hw) (wd41 hw) (wd127 hw) (by decide) E_t (rm_digitsEnd_68 hw t arr p0 p1 p2 p3 p4 p5 p6 p7 h4 n0 zn E_t F_bytes_t V_arr) d21_23 26 rfl 0 (by decide) (by decide) (lenOf pd6 rfl) rfl (Nat.le_of_eq rfl) rfl (by decide) (by decide) (fun r6 T X hq => ?_)
  subst hq
  refine iloadN w X d21_26 27 rfl rfl ?_
  refine icmp_ne w X d21_27 42 30 (by decide) (by decide) rfl (fun hc27_7 => ?_) (fun q => absurd q (by decide))
  refine iconst w X (0 : Int32) d21_42 43 rfl rfl ?_
  refine retN w X (t := .boolean) rfl (by simp) d21_43 (by decide) (by decide) ?_
  refine And.intro zk (And.intro hC ?_)
  exact ⟨(0 : Int32), rfl, K, rfl⟩
set_option maxRecDepth 65536 in
set_option maxHeartbeats 40000000 in
theorem rm_isPageBreak_T {l : Launch} {Z : State} {a0 : Array Value} (hw : ∀ d ∈ tables_1, d.before a0 Z = true) (t arr : Addr) (p0 p1 p2 p3 p4 p5 p6 p7 u0 u1 u2 u3 f0 op : Int32) (cs : Int32) (sio : Value) (h : Heap) (n0 : Nat) (zn : n0 ≤ h.size) (E_t : Exa Z h t "com/example/clauseline/clauseline/ContractText") (F_bytes_t : Fld Z h t "com/example/clauseline/clauseline/ContractText" "bytes" "[B" (.ref arr)) (V_arr : PA Z h arr .byte [p0, p1, p2, p3, p4, p5, p6, p7, u0, u1, u2, u3, (10 : Int32), (60 : Int32), (10 : Int32), (45 : Int32), (45 : Int32), (10 : Int32), (32 : Int32)]) (S_cs : Sta Z h "java/lang/String" "COMPACT_STRINGS" "Z" (.int cs)) (hcs : ¬ cs = 0) (S_sio : Sta Z h "jdk/internal/util/Preconditions" "SIOOBE_FORMATTER" "Ljava/util/function/BiFunction;" sio) (hsio : sio.isRef = true) (hU : (u0 = (97 : Int32) ∧ u1 = (98 : Int32) ∧ u2 = (99 : Int32) ∧ u3 = (44 : Int32) ∧ op = (1 : Int32)) ∨ (u0 = (120 : Int32) ∧ u1 = (32 : Int32) ∧ u2 = (97 : Int32) ∧ u3 = (98 : Int32) ∧ op = (1 : Int32)) ∨ (u0 = (120 : Int32) ∧ u1 = (32 : Int32) ∧ u2 = (65 : Int32) ∧ u3 = (98 : Int32) ∧ op = (0 : Int32)) ∨ (u0 = (97 : Int32) ∧ u1 = (98 : Int32) ∧ u2 = (99 : Int32) ∧ u3 = (46 : Int32) ∧ op = (0 : Int32)) ∨ (u0 = (59 : Int32) ∧ u1 = (32 : Int32) ∧ u2 = (111 : Int32) ∧ u3 = (114 : Int32) ∧ op = (0 : Int32)) ∨ (u0 = (120 : Int32) ∧ u1 = (32 : Int32) ∧ u2 = (111 : Int32) ∧ u3 = (114 : Int32) ∧ op = (1 : Int32)) ∨ (u0 = (97 : Int32) ∧ u1 = (46 : Int32) ∧ u2 = (98 : Int32) ∧ u3 = (99 : Int32) ∧ op = (0 : Int32)) ∨ (u0 = (65 : Int32) ∧ u1 = (66 : Int32) ∧ u2 = (67 : Int32) ∧ u3 = (68 : Int32) ∧ op = (0 : Int32))) :
    MetH consts_1 l Z (⟨"com/example/clauseline/clauseline/LineWrap", "isPageBreak", "(Lcom/example/clauseline/clauseline/ContractText;III)Z"⟩ : MethodName) prog_47_method_15_code 4 (some .boolean) [] ({ frames := 6, cells := 2, slots := 20, locals := 88 } : Room) #[.ref t, .int f0, .int (8 : Int32), .int (12 : Int32)] h n0 (RI fun r h' => Keep h h' [] ∧ r = (0 : Int32)) := by
  rcases hU with ⟨rfl, rfl, rfl, rfl, rfl⟩ | ⟨rfl, rfl, rfl, rfl, rfl⟩ | ⟨rfl, rfl, rfl, rfl, rfl⟩ | ⟨rfl, rfl, rfl, rfl, rfl⟩ | ⟨rfl, rfl, rfl, rfl, rfl⟩ | ⟨rfl, rfl, rfl, rfl, rfl⟩ | ⟨rfl, rfl, rfl, rfl, rfl⟩ | ⟨rfl, rfl, rfl, rfl, rfl⟩
  · exact rm_isPageBreak_23 hw t arr p0 p1 p2 p3 p4 p5 p6 p7 f0 cs sio h n0 zn E_t F_bytes_t V_arr S_cs hcs S_sio hsio
  · exact rm_isPageBreak_29 hw t arr p0 p1 p2 p3 p4 p5 p6 p7 f0 cs sio h n0 zn E_t F_bytes_t V_arr S_cs hcs S_sio hsio
  · exact rm_isPageBreak_35 hw t arr p0 p1 p2 p3 p4 p5 p6 p7 f0 cs sio h n0 zn E_t F_bytes_t V_arr S_cs hcs S_sio hsio
  · exact rm_isPageBreak_41 hw t arr p0 p1 p2 p3 p4 p5 p6 p7 f0 cs sio h n0 zn E_t F_bytes_t V_arr S_cs hcs S_sio hsio
  · exact rm_isPageBreak_47 hw t arr p0 p1 p2 p3 p4 p5 p6 p7 f0 cs sio h n0 zn E_t F_bytes_t V_arr S_cs hcs S_sio hsio
  · exact rm_isPageBreak_53 hw t arr p0 p1 p2 p3 p4 p5 p6 p7 f0 cs sio h n0 zn E_t F_bytes_t V_arr S_cs hcs S_sio hsio
  · exact rm_isPageBreak_59 hw t arr p0 p1 p2 p3 p4 p5 p6 p7 f0 cs sio h n0 zn E_t F_bytes_t V_arr S_cs hcs S_sio hsio
  · exact rm_isPageBreak_65 hw t arr p0 p1 p2 p3 p4 p5 p6 p7 f0 cs sio h n0 zn E_t F_bytes_t V_arr S_cs hcs S_sio hsio
theorem d29_21 : decode prog_47_method_20_code 21 = .ok (.iload 4, 2) := by decide +kernel
theorem d29_23 : decode prog_47_method_20_code 23 = .ok (.invokestatic 132, 3) := by decide +kernel
theorem d29_26 : decode prog_47_method_20_code 26 = .ok (.ifCond .ne 5, 3) := by decide +kernel
theorem d29_29 : decode prog_47_method_20_code 29 = .ok (.iconst 0, 1) := by decide +kernel
theorem d29_30 : decode prog_47_method_20_code 30 = .ok (.ireturn, 1) := by decide +kernel
set_option maxRecDepth 65536 in
set_option maxHeartbeats 40000000 in
theorem rm_isRule_71 {l : Launch} {Z : State} {a0 : Array Value} (hw : ∀ d ∈ tables_1, d.before a0 Z = true) (t arr : Addr) (p0 p1 p2 p3 p4 p5 p6 p7 : Int32) (h : Heap) (n0 : Nat) (zn : n0 ≤ h.size) (E_t : Exa Z h t "com/example/clauseline/clauseline/ContractText") (F_bytes_t : Fld Z h t "com/example/clauseline/clauseline/ContractText" "bytes" "[B" (.ref arr)) (V_arr : PA Z h arr .byte [p0, p1, p2, p3, p4, p5, p6, p7, (97 : Int32), (98 : Int32), (99 : Int32), (44 : Int32), (10 : Int32), (60 : Int32), (10 : Int32), (45 : Int32), (45 : Int32), (10 : Int32), (32 : Int32)]) :
    Met l Z (⟨"com/example/clauseline/clauseline/LineWrap", "isRule", "(Lcom/example/clauseline/clauseline/ContractText;II)Z"⟩ : MethodName) prog_47_method_20_code 5 (some .boolean) [] ({ frames := 1, cells := 0, slots := 0, locals := 13 } : Room) #[(.ref t), (.int (8 : Int32)), (.int (12 : Int32))] h n0 (RI fun r h' => h' = h ∧ r = (0 : Int32)) := by
  refine start (ls := #[.val (.ref t), .val (.int (8 : Int32)), .val (.int (12 : Int32)), .unset, .unset]) (plainFor_of_name pn20) (fun m => by first | (simp [entryFrame, mkF, argsToLocals, Value.category]; done) | rfl) ?_
  intro p e s m below meth c T G w X
  refine iloadN w X d29_0 1 rfl rfl ?_
  refine istoreN w X (8 : Int32) d29_1 2 rfl rfl #[.val (.ref t), .val (.int (8 : Int32)), .val (.int (12 : Int32)), .val (.int (8 : Int32)), .unset] rfl ?_
  refine iloadN w X d29_2 3 rfl rfl ?_
  refine iloadN w X d29_3 4 rfl rfl ?_
  refine icmp_ge w X d29_4 37 7 (by decide) (by decide) rfl (fun q => absurd q (by decide)) (fun hc4_1 => ?_)
  refine aloadN w X d29_7 8 rfl rfl rfl ?_
  refine iloadN w X d29_8 9 rfl rfl ?_
  refine callVPI w X [(.int (8 : Int32))] (wd103 hw) (wd104 hw) (notFace_of_selects (args := #[]) (mvT w.2.2.2.2.1 (wd106 hw))) (wd106 hw) (wd105 hw) (wd41 hw) (wd107 hw) (by decide) E_t (rm_baG hw t arr [p0, p1, p2, p3, p4, p5, p6, p7, (97 : Int32), (98 : Int32), (99 : Int32), (44 : Int32), (10 : Int32), (60 : Int32), (10 : Int32), (45 : Int32), (45 : Int32), (10 : Int32), (32 : Int32)] 8 h n0 zn E_t F_bytes_t V_arr (Nat.le_of_ble_eq_true rfl) (Nat.le_of_ble_eq_true rfl)) d29_9 12 rfl 0 (by decide) (by decide) (lenOf pd8 rfl) rfl (Nat.le_of_eq rfl) rfl (by decide) (by decide) (fun r2 T X hq => ?_)
  obtain rfl : r2 = (97 : Int32) := hq
  refine istore w X (97 : Int32) d29_12 14 rfl rfl #[.val (.ref t), .val (.int (8 : Int32)), .val (.int (12 : Int32)), .val (.int (8 : Int32)), .val (.int (97 : Int32))] rfl ?_
  refine iload w X d29_14 16 rfl rfl ?_
  refine bipush w X (45 : Int32) d29_16 18 rfl rfl ?_
  refine icmp_eq w X d29_18 31 21 (by decide) (by decide) rfl (fun q => absurd q (by decide)) (fun hc18_3 => ?_)
  refine iload w X d29_21 23 rfl rfl ?_
  refine callSPI w X [(.int (97 : Int32))] (wd108 hw) (wd109 hw) (wd70 hw) (wd110 hw) (by decide) (rm_own_sp2 hw (97 : Int32) h n0 zn) d29_23 26 rfl 0 (by decide) (by decide) (lenOf pd5 rfl) rfl (Nat.le_of_eq rfl) rfl (by decide) (by decide) (fun r4 T X hq => ?_)
  obtain rfl : r4 = (0 : Int32) := hq.trans (by decide)
  refine if_ne w X d29_26 31 29 (by decide) (by decide) rfl (fun q => absurd q (by decide)) (fun hc26_5 => ?_)
  refine iconst w X (0 : Int32) d29_29 30 rfl rfl ?_
  refine retN w X (t := .boolean) rfl (by simp) d29_30 (by decide) (by decide) ?_
  exact ⟨(0 : Int32), rfl, rfl, rfl⟩
set_option maxRecDepth 65536 in
set_option maxHeartbeats 40000000 in
theorem rm_isRule_72 {l : Launch} {Z : State} {a0 : Array Value} (hw : ∀ d ∈ tables_1, d.before a0 Z = true) (t arr : Addr) (p0 p1 p2 p3 p4 p5 p6 p7 : Int32) (h : Heap) (n0 : Nat) (zn : n0 ≤ h.size) (E_t : Exa Z h t "com/example/clauseline/clauseline/ContractText") (F_bytes_t : Fld Z h t "com/example/clauseline/clauseline/ContractText" "bytes" "[B" (.ref arr)) (V_arr : PA Z h arr .byte [p0, p1, p2, p3, p4, p5, p6, p7, (120 : Int32), (32 : Int32), (97 : Int32), (98 : Int32), (10 : Int32), (60 : Int32), (10 : Int32), (45 : Int32), (45 : Int32), (10 : Int32), (32 : Int32)]) :
    Met l Z (⟨"com/example/clauseline/clauseline/LineWrap", "isRule", "(Lcom/example/clauseline/clauseline/ContractText;II)Z"⟩ : MethodName) prog_47_method_20_code 5 (some .boolean) [] ({ frames := 1, cells := 0, slots := 0, locals := 13 } : Room) #[(.ref t), (.int (8 : Int32)), (.int (12 : Int32))] h n0 (RI fun r h' => h' = h ∧ r = (0 : Int32)) := by
  refine start (ls := #[.val (.ref t), .val (.int (8 : Int32)), .val (.int (12 : Int32)), .unset, .unset]) (plainFor_of_name pn20) (fun m => by first | (simp [entryFrame, mkF, argsToLocals, Value.category]; done) | rfl) ?_
  intro p e s m below meth c T G w X
  refine iloadN w X d29_0 1 rfl rfl ?_
  refine istoreN w X (8 : Int32) d29_1 2 rfl rfl #[.val (.ref t), .val (.int (8 : Int32)), .val (.int (12 : Int32)), .val (.int (8 : Int32)), .unset] rfl ?_
  refine iloadN w X d29_2 3 rfl rfl ?_
  refine iloadN w X d29_3 4 rfl rfl ?_
  refine icmp_ge w X d29_4 37 7 (by decide) (by decide) rfl (fun q => absurd q (by decide)) (fun hc4_1 => ?_)
  refine aloadN w X d29_7 8 rfl rfl rfl ?_
  refine iloadN w X d29_8 9 rfl rfl ?_
  refine callVPI w X [(.int (8 : Int32))] (wd103 hw) (wd104 hw) (notFace_of_selects (args := #[]) (mvT w.2.2.2.2.1 (wd106 hw))) (wd106 hw) (wd105 hw) (wd41 hw) (wd107 hw) (by decide) E_t (rm_baG hw t arr [p0, p1, p2, p3, p4, p5, p6, p7, (120 : Int32), (32 : Int32), (97 : Int32), (98 : Int32), (10 : Int32), (60 : Int32), (10 : Int32), (45 : Int32), (45 : Int32), (10 : Int32), (32 : Int32)] 8 h n0 zn E_t F_bytes_t V_arr (Nat.le_of_ble_eq_true rfl) (Nat.le_of_ble_eq_true rfl)) d29_9 12 rfl 0 (by decide) (by decide) (lenOf pd8 rfl) rfl (Nat.le_of_eq rfl) rfl (by decide) (by decide) (fun r2 T X hq => ?_)
  obtain rfl : r2 = (120 : Int32) := hq
  refine istore w X (120 : Int32) d29_12 14 rfl rfl #[.val (.ref t), .val (.int (8 : Int32)), .val (.int (12 : Int32)), .val (.int (8 : Int32)), .val (.int (120 : Int32))] rfl ?_
  refine iload w X d29_14 16 rfl rfl ?_
  refine bipush w X (45 : Int32) d29_16 18 rfl rfl ?_
  refine icmp_eq w X d29_18 31 21 (by decide) (by decide) rfl (fun q => absurd q (by decide)) (fun hc18_3 => ?_)
  refine iload w X d29_21 23 rfl rfl ?_
  refine callSPI w X [(.int (120 : Int32))] (wd108 hw) (wd109 hw) (wd70 hw) (wd110 hw) (by decide) (rm_own_sp2 hw (120 : Int32) h n0 zn) d29_23 26 rfl 0 (by decide) (by decide) (lenOf pd5 rfl) rfl (Nat.le_of_eq rfl) rfl (by decide) (by decide) (fun r4 T X hq => ?_)
  obtain rfl : r4 = (0 : Int32) := hq.trans (by decide)
  refine if_ne w X d29_26 31 29 (by decide) (by decide) rfl (fun q => absurd q (by decide)) (fun hc26_5 => ?_)
  refine iconst w X (0 : Int32) d29_29 30 rfl rfl ?_
  refine retN w X (t := .boolean) rfl (by simp) d29_30 (by decide) (by decide) ?_
  exact ⟨(0 : Int32), rfl, rfl, rfl⟩
set_option maxRecDepth 65536 in
set_option maxHeartbeats 40000000 in
theorem rm_isRule_73 {l : Launch} {Z : State} {a0 : Array Value} (hw : ∀ d ∈ tables_1, d.before a0 Z = true) (t arr : Addr) (p0 p1 p2 p3 p4 p5 p6 p7 : Int32) (h : Heap) (n0 : Nat) (zn : n0 ≤ h.size) (E_t : Exa Z h t "com/example/clauseline/clauseline/ContractText") (F_bytes_t : Fld Z h t "com/example/clauseline/clauseline/ContractText" "bytes" "[B" (.ref arr)) (V_arr : PA Z h arr .byte [p0, p1, p2, p3, p4, p5, p6, p7, (120 : Int32), (32 : Int32), (65 : Int32), (98 : Int32), (10 : Int32), (60 : Int32), (10 : Int32), (45 : Int32), (45 : Int32), (10 : Int32), (32 : Int32)]) :
    Met l Z (⟨"com/example/clauseline/clauseline/LineWrap", "isRule", "(Lcom/example/clauseline/clauseline/ContractText;II)Z"⟩ : MethodName) prog_47_method_20_code 5 (some .boolean) [] ({ frames := 1, cells := 0, slots := 0, locals := 13 } : Room) #[(.ref t), (.int (8 : Int32)), (.int (12 : Int32))] h n0 (RI fun r h' => h' = h ∧ r = (0 : Int32)) := by
  refine start (ls := #[.val (.ref t), .val (.int (8 : Int32)), .val (.int (12 : Int32)), .unset, .unset]) (plainFor_of_name pn20) (fun m => by first | (simp [entryFrame, mkF, argsToLocals, Value.category]; done) | rfl) ?_
  intro p e s m below meth c T G w X
  refine iloadN w X d29_0 1 rfl rfl ?_
  refine istoreN w X (8 : Int32) d29_1 2 rfl rfl #[.val (.ref t), .val (.int (8 : Int32)), .val (.int (12 : Int32)), .val (.int (8 : Int32)), .unset] rfl ?_
  refine iloadN w X d29_2 3 rfl rfl ?_
  refine iloadN w X d29_3 4 rfl rfl ?_
  refine icmp_ge w X d29_4 37 7 (by decide) (by decide) rfl (fun q => absurd q (by decide)) (fun hc4_1 => ?_)
  refine aloadN w X d29_7 8 rfl rfl rfl ?_
  refine iloadN w X d29_8 9 rfl rfl ?_
  refine callVPI w X [(.int (8 : Int32))] (wd103 hw) (wd104 hw) (notFace_of_selects (args := #[]) (mvT w.2.2.2.2.1 (wd106 hw))) (wd106 hw) (wd105 hw) (wd41 hw) (wd107 hw) (by decide) E_t (rm_baG hw t arr [p0, p1, p2, p3, p4, p5, p6, p7, (120 : Int32), (32 : Int32), (65 : Int32), (98 : Int32), (10 : Int32), (60 : Int32), (10 : Int32), (45 : Int32), (45 : Int32), (10 : Int32), (32 : Int32)] 8 h n0 zn E_t F_bytes_t V_arr (Nat.le_of_ble_eq_true rfl) (Nat.le_of_ble_eq_true rfl)) d29_9 12 rfl 0 (by decide) (by decide) (lenOf pd8 rfl) rfl (Nat.le_of_eq rfl) rfl (by decide) (by decide) (fun r2 T X hq => ?_)
  obtain rfl : r2 = (120 : Int32) := hq
  refine istore w X (120 : Int32) d29_12 14 rfl rfl #[.val (.ref t), .val (.int (8 : Int32)), .val (.int (12 : Int32)), .val (.int (8 : Int32)), .val (.int (120 : Int32))] rfl ?_
  refine iload w X d29_14 16 rfl rfl ?_
  refine bipush w X (45 : Int32) d29_16 18 rfl rfl ?_
  refine icmp_eq w X d29_18 31 21 (by decide) (by decide) rfl (fun q => absurd q (by decide)) (fun hc18_3 => ?_)
  refine iload w X d29_21 23 rfl rfl ?_
  refine callSPI w X [(.int (120 : Int32))] (wd108 hw) (wd109 hw) (wd70 hw) (wd110 hw) (by decide) (rm_own_sp2 hw (120 : Int32) h n0 zn) d29_23 26 rfl 0 (by decide) (by decide) (lenOf pd5 rfl) rfl (Nat.le_of_eq rfl) rfl (by decide) (by decide) (fun r4 T X hq => ?_)
  obtain rfl : r4 = (0 : Int32) := hq.trans (by decide)
  refine if_ne w X d29_26 31 29 (by decide) (by decide) rfl (fun q => absurd q (by decide)) (fun hc26_5 => ?_)
  refine iconst w X (0 : Int32) d29_29 30 rfl rfl ?_
  refine retN w X (t := .boolean) rfl (by simp) d29_30 (by decide) (by decide) ?_
  exact ⟨(0 : Int32), rfl, rfl, rfl⟩
set_option maxRecDepth 65536 in
set_option maxHeartbeats 40000000 in
theorem rm_isRule_74 {l : Launch} {Z : State} {a0 : Array Value} (hw : ∀ d ∈ tables_1, d.before a0 Z = true) (t arr : Addr) (p0 p1 p2 p3 p4 p5 p6 p7 : Int32) (h : Heap) (n0 : Nat) (zn : n0 ≤ h.size) (E_t : Exa Z h t "com/example/clauseline/clauseline/ContractText") (F_bytes_t : Fld Z h t "com/example/clauseline/clauseline/ContractText" "bytes" "[B" (.ref arr)) (V_arr : PA Z h arr .byte [p0, p1, p2, p3, p4, p5, p6, p7, (97 : Int32), (98 : Int32), (99 : Int32), (46 : Int32), (10 : Int32), (60 : Int32), (10 : Int32), (45 : Int32), (45 : Int32), (10 : Int32), (32 : Int32)]) :
    Met l Z (⟨"com/example/clauseline/clauseline/LineWrap", "isRule", "(Lcom/example/clauseline/clauseline/ContractText;II)Z"⟩ : MethodName) prog_47_method_20_code 5 (some .boolean) [] ({ frames := 1, cells := 0, slots := 0, locals := 13 } : Room) #[(.ref t), (.int (8 : Int32)), (.int (12 : Int32))] h n0 (RI fun r h' => h' = h ∧ r = (0 : Int32)) := by
  refine start (ls := #[.val (.ref t), .val (.int (8 : Int32)), .val (.int (12 : Int32)), .unset, .unset]) (plainFor_of_name pn20) (fun m => by first | (simp [entryFrame, mkF, argsToLocals, Value.category]; done) | rfl) ?_
  intro p e s m below meth c T G w X
  refine iloadN w X d29_0 1 rfl rfl ?_
  refine istoreN w X (8 : Int32) d29_1 2 rfl rfl #[.val (.ref t), .val (.int (8 : Int32)), .val (.int (12 : Int32)), .val (.int (8 : Int32)), .unset] rfl ?_
  refine iloadN w X d29_2 3 rfl rfl ?_
  refine iloadN w X d29_3 4 rfl rfl ?_
  refine icmp_ge w X d29_4 37 7 (by decide) (by decide) rfl (fun q => absurd q (by decide)) (fun hc4_1 => ?_)
  refine aloadN w X d29_7 8 rfl rfl rfl ?_
  refine iloadN w X d29_8 9 rfl rfl ?_
  refine callVPI w X [(.int (8 : Int32))] (wd103 hw) (wd104 hw) (notFace_of_selects (args := #[]) (mvT w.2.2.2.2.1 (wd106 hw))) (wd106 hw) (wd105 hw) (wd41 hw) (wd107 hw) (by decide) E_t (rm_baG hw t arr [p0, p1, p2, p3, p4, p5, p6, p7, (97 : Int32), (98 : Int32), (99 : Int32), (46 : Int32), (10 : Int32), (60 : Int32), (10 : Int32), (45 : Int32), (45 : Int32), (10 : Int32), (32 : Int32)] 8 h n0 zn E_t F_bytes_t V_arr (Nat.le_of_ble_eq_true rfl) (Nat.le_of_ble_eq_true rfl)) d29_9 12 rfl 0 (by decide) (by decide) (lenOf pd8 rfl) rfl (Nat.le_of_eq rfl) rfl (by decide) (by decide) (fun r2 T X hq => ?_)
  obtain rfl : r2 = (97 : Int32) := hq
  refine istore w X (97 : Int32) d29_12 14 rfl rfl #[.val (.ref t), .val (.int (8 : Int32)), .val (.int (12 : Int32)), .val (.int (8 : Int32)), .val (.int (97 : Int32))] rfl ?_
  refine iload w X d29_14 16 rfl rfl ?_
  refine bipush w X (45 : Int32) d29_16 18 rfl rfl ?_
  refine icmp_eq w X d29_18 31 21 (by decide) (by decide) rfl (fun q => absurd q (by decide)) (fun hc18_3 => ?_)
  refine iload w X d29_21 23 rfl rfl ?_
  refine callSPI w X [(.int (97 : Int32))] (wd108 hw) (wd109 hw) (wd70 hw) (wd110 hw) (by decide) (rm_own_sp2 hw (97 : Int32) h n0 zn) d29_23 26 rfl 0 (by decide) (by decide) (lenOf pd5 rfl) rfl (Nat.le_of_eq rfl) rfl (by decide) (by decide) (fun r4 T X hq => ?_)
  obtain rfl : r4 = (0 : Int32) := hq.trans (by decide)
  refine if_ne w X d29_26 31 29 (by decide) (by decide) rfl (fun q => absurd q (by decide)) (fun hc26_5 => ?_)
  refine iconst w X (0 : Int32) d29_29 30 rfl rfl ?_
  refine retN w X (t := .boolean) rfl (by simp) d29_30 (by decide) (by decide) ?_
  exact ⟨(0 : Int32), rfl, rfl, rfl⟩
set_option maxRecDepth 65536 in
set_option maxHeartbeats 40000000 in
theorem rm_isRule_75 {l : Launch} {Z : State} {a0 : Array Value} (hw : ∀ d ∈ tables_1, d.before a0 Z = true) (t arr : Addr) (p0 p1 p2 p3 p4 p5 p6 p7 : Int32) (h : Heap) (n0 : Nat) (zn : n0 ≤ h.size) (E_t : Exa Z h t "com/example/clauseline/clauseline/ContractText") (F_bytes_t : Fld Z h t "com/example/clauseline/clauseline/ContractText" "bytes" "[B" (.ref arr)) (V_arr : PA Z h arr .byte [p0, p1, p2, p3, p4, p5, p6, p7, (59 : Int32), (32 : Int32), (111 : Int32), (114 : Int32), (10 : Int32), (60 : Int32), (10 : Int32), (45 : Int32), (45 : Int32), (10 : Int32), (32 : Int32)]) :
    Met l Z (⟨"com/example/clauseline/clauseline/LineWrap", "isRule", "(Lcom/example/clauseline/clauseline/ContractText;II)Z"⟩ : MethodName) prog_47_method_20_code 5 (some .boolean) [] ({ frames := 1, cells := 0, slots := 0, locals := 13 } : Room) #[(.ref t), (.int (8 : Int32)), (.int (12 : Int32))] h n0 (RI fun r h' => h' = h ∧ r = (0 : Int32)) := by
  refine start (ls := #[.val (.ref t), .val (.int (8 : Int32)), .val (.int (12 : Int32)), .unset, .unset]) (plainFor_of_name pn20) (fun m => by first | (simp [entryFrame, mkF, argsToLocals, Value.category]; done) | rfl) ?_
  intro p e s m below meth c T G w X
  refine iloadN w X d29_0 1 rfl rfl ?_
  refine istoreN w X (8 : Int32) d29_1 2 rfl rfl #[.val (.ref t), .val (.int (8 : Int32)), .val (.int (12 : Int32)), .val (.int (8 : Int32)), .unset] rfl ?_
  refine iloadN w X d29_2 3 rfl rfl ?_
  refine iloadN w X d29_3 4 rfl rfl ?_
  refine icmp_ge w X d29_4 37 7 (by decide) (by decide) rfl (fun q => absurd q (by decide)) (fun hc4_1 => ?_)
  refine aloadN w X d29_7 8 rfl rfl rfl ?_
  refine iloadN w X d29_8 9 rfl rfl ?_
  refine callVPI w X [(.int (8 : Int32))] (wd103 hw) (wd104 hw) (notFace_of_selects (args := #[]) (mvT w.2.2.2.2.1 (wd106 hw))) (wd106 hw) (wd105 hw) (wd41 hw) (wd107 hw) (by decide) E_t (rm_baG hw t arr [p0, p1, p2, p3, p4, p5, p6, p7, (59 : Int32), (32 : Int32), (111 : Int32), (114 : Int32), (10 : Int32), (60 : Int32), (10 : Int32), (45 : Int32), (45 : Int32), (10 : Int32), (32 : Int32)] 8 h n0 zn E_t F_bytes_t V_arr (Nat.le_of_ble_eq_true rfl) (Nat.le_of_ble_eq_true rfl)) d29_9 12 rfl 0 (by decide) (by decide) (lenOf pd8 rfl) rfl (Nat.le_of_eq rfl) rfl (by decide) (by decide) (fun r2 T X hq => ?_)
  obtain rfl : r2 = (59 : Int32) := hq
  refine istore w X (59 : Int32) d29_12 14 rfl rfl #[.val (.ref t), .val (.int (8 : Int32)), .val (.int (12 : Int32)), .val (.int (8 : Int32)), .val (.int (59 : Int32))] rfl ?_
  refine iload w X d29_14 16 rfl rfl ?_
  refine bipush w X (45 : Int32) d29_16 18 rfl rfl ?_
  refine icmp_eq w X d29_18 31 21 (by decide) (by decide) rfl (fun q => absurd q (by decide)) (fun hc18_3 => ?_)
  refine iload w X d29_21 23 rfl rfl ?_
  refine callSPI w X [(.int (59 : Int32))] (wd108 hw) (wd109 hw) (wd70 hw) (wd110 hw) (by decide) (rm_own_sp2 hw (59 : Int32) h n0 zn) d29_23 26 rfl 0 (by decide) (by decide) (lenOf pd5 rfl) rfl (Nat.le_of_eq rfl) rfl (by decide) (by decide) (fun r4 T X hq => ?_)
  obtain rfl : r4 = (0 : Int32) := hq.trans (by decide)
  refine if_ne w X d29_26 31 29 (by decide) (by decide) rfl (fun q => absurd q (by decide)) (fun hc26_5 => ?_)
  refine iconst w X (0 : Int32) d29_29 30 rfl rfl ?_
  refine retN w X (t := .boolean) rfl (by simp) d29_30 (by decide) (by decide) ?_
  exact ⟨(0 : Int32), rfl, rfl, rfl⟩
set_option maxRecDepth 65536 in
set_option maxHeartbeats 40000000 in
theorem rm_isRule_76 {l : Launch} {Z : State} {a0 : Array Value} (hw : ∀ d ∈ tables_1, d.before a0 Z = true) (t arr : Addr) (p0 p1 p2 p3 p4 p5 p6 p7 : Int32) (h : Heap) (n0 : Nat) (zn : n0 ≤ h.size) (E_t : Exa Z h t "com/example/clauseline/clauseline/ContractText") (F_bytes_t : Fld Z h t "com/example/clauseline/clauseline/ContractText" "bytes" "[B" (.ref arr)) (V_arr : PA Z h arr .byte [p0, p1, p2, p3, p4, p5, p6, p7, (120 : Int32), (32 : Int32), (111 : Int32), (114 : Int32), (10 : Int32), (60 : Int32), (10 : Int32), (45 : Int32), (45 : Int32), (10 : Int32), (32 : Int32)]) :
    Met l Z (⟨"com/example/clauseline/clauseline/LineWrap", "isRule", "(Lcom/example/clauseline/clauseline/ContractText;II)Z"⟩ : MethodName) prog_47_method_20_code 5 (some .boolean) [] ({ frames := 1, cells := 0, slots := 0, locals := 13 } : Room) #[(.ref t), (.int (8 : Int32)), (.int (12 : Int32))] h n0 (RI fun r h' => h' = h ∧ r = (0 : Int32)) := by
  refine start (ls := #[.val (.ref t), .val (.int (8 : Int32)), .val (.int (12 : Int32)), .unset, .unset]) (plainFor_of_name pn20) (fun m => by first | (simp [entryFrame, mkF, argsToLocals, Value.category]; done) | rfl) ?_
  intro p e s m below meth c T G w X
  refine iloadN w X d29_0 1 rfl rfl ?_
  refine istoreN w X (8 : Int32) d29_1 2 rfl rfl #[.val (.ref t), .val (.int (8 : Int32)), .val (.int (12 : Int32)), .val (.int (8 : Int32)), .unset] rfl ?_
  refine iloadN w X d29_2 3 rfl rfl ?_
  refine iloadN w X d29_3 4 rfl rfl ?_
  refine icmp_ge w X d29_4 37 7 (by decide) (by decide) rfl (fun q => absurd q (by decide)) (fun hc4_1 => ?_)
  refine aloadN w X d29_7 8 rfl rfl rfl ?_
  refine iloadN w X d29_8 9 rfl rfl ?_
  refine callVPI w X [(.int (8 : Int32))] (wd103 hw) (wd104 hw) (notFace_of_selects (args := #[]) (mvT w.2.2.2.2.1 (wd106 hw))) (wd106 hw) (wd105 hw) (wd41 hw) (wd107 hw) (by decide) E_t (rm_baG hw t arr [p0, p1, p2, p3, p4, p5, p6, p7, (120 : Int32), (32 : Int32), (111 : Int32), (114 : Int32), (10 : Int32), (60 : Int32), (10 : Int32), (45 : Int32), (45 : Int32), (10 : Int32), (32 : Int32)] 8 h n0 zn E_t F_bytes_t V_arr (Nat.le_of_ble_eq_true rfl) (Nat.le_of_ble_eq_true rfl)) d29_9 12 rfl 0 (by decide) (by decide) (lenOf pd8 rfl) rfl (Nat.le_of_eq rfl) rfl (by decide) (by decide) (fun r2 T X hq => ?_)
  obtain rfl : r2 = (120 : Int32) := hq
  refine istore w X (120 : Int32) d29_12 14 rfl rfl #[.val (.ref t), .val (.int (8 : Int32)), .val (.int (12 : Int32)), .val (.int (8 : Int32)), .val (.int (120 : Int32))] rfl ?_
  refine iload w X d29_14 16 rfl rfl ?_
  refine bipush w X (45 : Int32) d29_16 18 rfl rfl ?_
  refine icmp_eq w X d29_18 31 21 (by decide) (by decide) rfl (fun q => absurd q (by decide)) (fun hc18_3 => ?_)
  refine iload w X d29_21 23 rfl rfl ?_
  refine callSPI w X [(.int (120 : Int32))] (wd108 hw) (wd109 hw) (wd70 hw) (wd110 hw) (by decide) (rm_own_sp2 hw (120 : Int32) h n0 zn) d29_23 26 rfl 0 (by decide) (by decide) (lenOf pd5 rfl) rfl (Nat.le_of_eq rfl) rfl (by decide) (by decide) (fun r4 T X hq => ?_)
  obtain rfl : r4 = (0 : Int32) := hq.trans (by decide)
  refine if_ne w X d29_26 31 29 (by decide) (by decide) rfl (fun q => absurd q (by decide)) (fun hc26_5 => ?_)
  refine iconst w X (0 : Int32) d29_29 30 rfl rfl ?_
  refine retN w X (t := .boolean) rfl (by simp) d29_30 (by decide) (by decide) ?_
  exact ⟨(0 : Int32), rfl, rfl, rfl⟩
set_option maxRecDepth 65536 in
set_option maxHeartbeats 40000000 in
theorem rm_isRule_77 {l : Launch} {Z : State} {a0 : Array Value} (hw : ∀ d ∈ tables_1, d.before a0 Z = true) (t arr : Addr) (p0 p1 p2 p3 p4 p5 p6 p7 : Int32) (h : Heap) (n0 : Nat) (zn : n0 ≤ h.size) (E_t : Exa Z h t "com/example/clauseline/clauseline/ContractText") (F_bytes_t : Fld Z h t "com/example/clauseline/clauseline/ContractText" "bytes" "[B" (.ref arr)) (V_arr : PA Z h arr .byte [p0, p1, p2, p3, p4, p5, p6, p7, (97 : Int32), (46 : Int32), (98 : Int32), (99 : Int32), (10 : Int32), (60 : Int32), (10 : Int32), (45 : Int32), (45 : Int32), (10 : Int32), (32 : Int32)]) :
    Met l Z (⟨"com/example/clauseline/clauseline/LineWrap", "isRule", "(Lcom/example/clauseline/clauseline/ContractText;II)Z"⟩ : MethodName) prog_47_method_20_code 5 (some .boolean) [] ({ frames := 1, cells := 0, slots := 0, locals := 13 } : Room) #[(.ref t), (.int (8 : Int32)), (.int (12 : Int32))] h n0 (RI fun r h' => h' = h ∧ r = (0 : Int32)) := by
  refine start (ls := #[.val (.ref t), .val (.int (8 : Int32)), .val (.int (12 : Int32)), .unset, .unset]) (plainFor_of_name pn20) (fun m => by first | (simp [entryFrame, mkF, argsToLocals, Value.category]; done) | rfl) ?_
  intro p e s m below meth c T G w X
  refine iloadN w X d29_0 1 rfl rfl ?_
  refine istoreN w X (8 : Int32) d29_1 2 rfl rfl #[.val (.ref t), .val (.int (8 : Int32)), .val (.int (12 : Int32)), .val (.int (8 : Int32)), .unset] rfl ?_
  refine iloadN w X d29_2 3 rfl rfl ?_
  refine iloadN w X d29_3 4 rfl rfl ?_
  refine icmp_ge w X d29_4 37 7 (by decide) (by decide) rfl (fun q => absurd q (by decide)) (fun hc4_1 => ?_)
  refine aloadN w X d29_7 8 rfl rfl rfl ?_
  refine iloadN w X d29_8 9 rfl rfl ?_
  refine callVPI w X [(.int (8 : Int32))] (wd103 hw) (wd104 hw) (notFace_of_selects (args := #[]) (mvT w.2.2.2.2.1 (wd106 hw))) (wd106 hw) (wd105 hw) (wd41 hw) (wd107 hw) (by decide) E_t (rm_baG hw t arr [p0, p1, p2, p3, p4, p5, p6, p7, (97 : Int32), (46 : Int32), (98 : Int32), (99 : Int32), (10 : Int32), (60 : Int32), (10 : Int32), (45 : Int32), (45 : Int32), (10 : Int32), (32 : Int32)] 8 h n0 zn E_t F_bytes_t V_arr (Nat.le_of_ble_eq_true rfl) (Nat.le_of_ble_eq_true rfl)) d29_9 12 rfl 0 (by decide) (by decide) (lenOf pd8 rfl) rfl (Nat.le_of_eq rfl) rfl (by decide) (by decide) (fun r2 T X hq => ?_)
  obtain rfl : r2 = (97 : Int32) := hq
  refine istore w X (97 : Int32) d29_12 14 rfl rfl #[.val (.ref t), .val (.int (8 : Int32)), .val (.int (12 : Int32)), .val (.int (8 : Int32)), .val (.int (97 : Int32))] rfl ?_
  refine iload w X d29_14 16 rfl rfl ?_
  refine bipush w X (45 : Int32) d29_16 18 rfl rfl ?_
  refine icmp_eq w X d29_18 31 21 (by decide) (by decide) rfl (fun q => absurd q (by decide)) (fun hc18_3 => ?_)
  refine iload w X d29_21 23 rfl rfl ?_
  refine callSPI w X [(.int (97 : Int32))] (wd108 hw) (wd109 hw) (wd70 hw) (wd110 hw) (by decide) (rm_own_sp2 hw (97 : Int32) h n0 zn) d29_23 26 rfl 0 (by decide) (by decide) (lenOf pd5 rfl) rfl (Nat.le_of_eq rfl) rfl (by decide) (by decide) (fun r4 T X hq => ?_)
  obtain rfl : r4 = (0 : Int32) := hq.trans (by decide)
  refine if_ne w X d29_26 31 29 (by decide) (by decide) rfl (fun q => absurd q (by decide)) (fun hc26_5 => ?_)
  refine iconst w X (0 : Int32) d29_29 30 rfl rfl ?_
  refine retN w X (t := .boolean) rfl (by simp) d29_30 (by decide) (by decide) ?_
  exact ⟨(0 : Int32), rfl, rfl, rfl⟩
set_option maxRecDepth 65536 in
set_option maxHeartbeats 40000000 in
theorem rm_isRule_78 {l : Launch} {Z : State} {a0 : Array Value} (hw : ∀ d ∈ tables_1, d.before a0 Z = true) (t arr : Addr) (p0 p1 p2 p3 p4 p5 p6 p7 : Int32) (h : Heap) (n0 : Nat) (zn : n0 ≤ h.size) (E_t : Exa Z h t "com/example/clauseline/clauseline/ContractText") (F_bytes_t : Fld Z h t "com/example/clauseline/clauseline/ContractText" "bytes" "[B" (.ref arr)) (V_arr : PA Z h arr .byte [p0, p1, p2, p3, p4, p5, p6, p7, (65 : Int32), (66 : Int32), (67 : Int32), (68 : Int32), (10 : Int32), (60 : Int32), (10 : Int32), (45 : Int32), (45 : Int32), (10 : Int32), (32 : Int32)]) :
    Met l Z (⟨"com/example/clauseline/clauseline/LineWrap", "isRule", "(Lcom/example/clauseline/clauseline/ContractText;II)Z"⟩ : MethodName) prog_47_method_20_code 5 (some .boolean) [] ({ frames := 1, cells := 0, slots := 0, locals := 13 } : Room) #[(.ref t), (.int (8 : Int32)), (.int (12 : Int32))] h n0 (RI fun r h' => h' = h ∧ r = (0 : Int32)) := by
  refine start (ls := #[.val (.ref t), .val (.int (8 : Int32)), .val (.int (12 : Int32)), .unset, .unset]) (plainFor_of_name pn20) (fun m => by first | (simp [entryFrame, mkF, argsToLocals, Value.category]; done) | rfl) ?_
  intro p e s m below meth c T G w X
  refine iloadN w X d29_0 1 rfl rfl ?_
  refine istoreN w X (8 : Int32) d29_1 2 rfl rfl #[.val (.ref t), .val (.int (8 : Int32)), .val (.int (12 : Int32)), .val (.int (8 : Int32)), .unset] rfl ?_
  refine iloadN w X d29_2 3 rfl rfl ?_
  refine iloadN w X d29_3 4 rfl rfl ?_
  refine icmp_ge w X d29_4 37 7 (by decide) (by decide) rfl (fun q => absurd q (by decide)) (fun hc4_1 => ?_)
  refine aloadN w X d29_7 8 rfl rfl rfl ?_
  refine iloadN w X d29_8 9 rfl rfl ?_
  refine callVPI w X [(.int (8 : Int32))] (wd103 hw) (wd104 hw) (notFace_of_selects (args := #[]) (mvT w.2.2.2.2.1 (wd106 hw))) (wd106 hw) (wd105 hw) (wd41 hw) (wd107 hw) (by decide) E_t (rm_baG hw t arr [p0, p1, p2, p3, p4, p5, p6, p7, (65 : Int32), (66 : Int32), (67 : Int32), (68 : Int32), (10 : Int32), (60 : Int32), (10 : Int32), (45 : Int32), (45 : Int32), (10 : Int32), (32 : Int32)] 8 h n0 zn E_t F_bytes_t V_arr (Nat.le_of_ble_eq_true rfl) (Nat.le_of_ble_eq_true rfl)) d29_9 12 rfl 0 (by decide) (by decide) (lenOf pd8 rfl) rfl (Nat.le_of_eq rfl) rfl (by decide) (by decide) (fun r2 T X hq => ?_)
  obtain rfl : r2 = (65 : Int32) := hq
  refine istore w X (65 : Int32) d29_12 14 rfl rfl #[.val (.ref t), .val (.int (8 : Int32)), .val (.int (12 : Int32)), .val (.int (8 : Int32)), .val (.int (65 : Int32))] rfl ?_
  refine iload w X d29_14 16 rfl rfl ?_
  refine bipush w X (45 : Int32) d29_16 18 rfl rfl ?_
  refine icmp_eq w X d29_18 31 21 (by decide) (by decide) rfl (fun q => absurd q (by decide)) (fun hc18_3 => ?_)
  refine iload w X d29_21 23 rfl rfl ?_
  refine callSPI w X [(.int (65 : Int32))] (wd108 hw) (wd109 hw) (wd70 hw) (wd110 hw) (by decide) (rm_own_sp2 hw (65 : Int32) h n0 zn) d29_23 26 rfl 0 (by decide) (by decide) (lenOf pd5 rfl) rfl (Nat.le_of_eq rfl) rfl (by decide) (by decide) (fun r4 T X hq => ?_)
  obtain rfl : r4 = (0 : Int32) := hq.trans (by decide)
  refine if_ne w X d29_26 31 29 (by decide) (by decide) rfl (fun q => absurd q (by decide)) (fun hc26_5 => ?_)
  refine iconst w X (0 : Int32) d29_29 30 rfl rfl ?_
  refine retN w X (t := .boolean) rfl (by simp) d29_30 (by decide) (by decide) ?_
  exact ⟨(0 : Int32), rfl, rfl, rfl⟩
set_option maxRecDepth 65536 in
set_option maxHeartbeats 40000000 in
theorem rm_isRule_T {l : Launch} {Z : State} {a0 : Array Value} (hw : ∀ d ∈ tables_1, d.before a0 Z = true) (t arr : Addr) (p0 p1 p2 p3 p4 p5 p6 p7 u0 u1 u2 u3 op : Int32) (h : Heap) (n0 : Nat) (zn : n0 ≤ h.size) (E_t : Exa Z h t "com/example/clauseline/clauseline/ContractText") (F_bytes_t : Fld Z h t "com/example/clauseline/clauseline/ContractText" "bytes" "[B" (.ref arr)) (V_arr : PA Z h arr .byte [p0, p1, p2, p3, p4, p5, p6, p7, u0, u1, u2, u3, (10 : Int32), (60 : Int32), (10 : Int32), (45 : Int32), (45 : Int32), (10 : Int32), (32 : Int32)]) (hU : (u0 = (97 : Int32) ∧ u1 = (98 : Int32) ∧ u2 = (99 : Int32) ∧ u3 = (44 : Int32) ∧ op = (1 : Int32)) ∨ (u0 = (120 : Int32) ∧ u1 = (32 : Int32) ∧ u2 = (97 : Int32) ∧ u3 = (98 : Int32) ∧ op = (1 : Int32)) ∨ (u0 = (120 : Int32) ∧ u1 = (32 : Int32) ∧ u2 = (65 : Int32) ∧ u3 = (98 : Int32) ∧ op = (0 : Int32)) ∨ (u0 = (97 : Int32) ∧ u1 = (98 : Int32) ∧ u2 = (99 : Int32) ∧ u3 = (46 : Int32) ∧ op = (0 : Int32)) ∨ (u0 = (59 : Int32) ∧ u1 = (32 : Int32) ∧ u2 = (111 : Int32) ∧ u3 = (114 : Int32) ∧ op = (0 : Int32)) ∨ (u0 = (120 : Int32) ∧ u1 = (32 : Int32) ∧ u2 = (111 : Int32) ∧ u3 = (114 : Int32) ∧ op = (1 : Int32)) ∨ (u0 = (97 : Int32) ∧ u1 = (46 : Int32) ∧ u2 = (98 : Int32) ∧ u3 = (99 : Int32) ∧ op = (0 : Int32)) ∨ (u0 = (65 : Int32) ∧ u1 = (66 : Int32) ∧ u2 = (67 : Int32) ∧ u3 = (68 : Int32) ∧ op = (0 : Int32))) :
    Met l Z (⟨"com/example/clauseline/clauseline/LineWrap", "isRule", "(Lcom/example/clauseline/clauseline/ContractText;II)Z"⟩ : MethodName) prog_47_method_20_code 5 (some .boolean) [] ({ frames := 1, cells := 0, slots := 0, locals := 13 } : Room) #[.ref t, .int (8 : Int32), .int (12 : Int32)] h n0 (RI fun r h' => h' = h ∧ r = (0 : Int32)) := by
  rcases hU with ⟨rfl, rfl, rfl, rfl, rfl⟩ | ⟨rfl, rfl, rfl, rfl, rfl⟩ | ⟨rfl, rfl, rfl, rfl, rfl⟩ | ⟨rfl, rfl, rfl, rfl, rfl⟩ | ⟨rfl, rfl, rfl, rfl, rfl⟩ | ⟨rfl, rfl, rfl, rfl, rfl⟩ | ⟨rfl, rfl, rfl, rfl, rfl⟩ | ⟨rfl, rfl, rfl, rfl, rfl⟩
  · exact rm_isRule_71 hw t arr p0 p1 p2 p3 p4 p5 p6 p7 h n0 zn E_t F_bytes_t V_arr
  · exact rm_isRule_72 hw t arr p0 p1 p2 p3 p4 p5 p6 p7 h n0 zn E_t F_bytes_t V_arr
  · exact rm_isRule_73 hw t arr p0 p1 p2 p3 p4 p5 p6 p7 h n0 zn E_t F_bytes_t V_arr
  · exact rm_isRule_74 hw t arr p0 p1 p2 p3 p4 p5 p6 p7 h n0 zn E_t F_bytes_t V_arr
  · exact rm_isRule_75 hw t arr p0 p1 p2 p3 p4 p5 p6 p7 h n0 zn E_t F_bytes_t V_arr
  · exact rm_isRule_76 hw t arr p0 p1 p2 p3 p4 p5 p6 p7 h n0 zn E_t F_bytes_t V_arr
  · exact rm_isRule_77 hw t arr p0 p1 p2 p3 p4 p5 p6 p7 h n0 zn E_t F_bytes_t V_arr
  · exact rm_isRule_78 hw t arr p0 p1 p2 p3 p4 p5 p6 p7 h n0 zn E_t F_bytes_t V_arr
theorem d30_0 : decode prog_47_method_21_code 0 = .ok (.aload_n 0, 1) := by decide +kernel
theorem d30_1 : decode prog_47_method_21_code 1 = .ok (.iload_n 2, 1) := by decide +kernel
theorem d30_2 : decode prog_47_method_21_code 2 = .ok (.iconst 1, 1) := by decide +kernel
theorem d30_3 : decode prog_47_method_21_code 3 = .ok (.isub, 1) := by decide +kernel
theorem d30_4 : decode prog_47_method_21_code 4 = .ok (.invokevirtual 47, 3) := by decide +kernel
theorem d30_7 : decode prog_47_method_21_code 7 = .ok (.bipush 44, 2) := by decide +kernel
theorem d30_9 : decode prog_47_method_21_code 9 = .ok (.if_icmp .ne 5, 3) := by decide +kernel
theorem d30_12 : decode prog_47_method_21_code 12 = .ok (.iconst 1, 1) := by decide +kernel
theorem d30_13 : decode prog_47_method_21_code 13 = .ok (.ireturn, 1) := by decide +kernel
set_option maxRecDepth 65536 in
set_option maxHeartbeats 40000000 in
theorem rm_startsWith_81 {l : Launch} {Z : State} {a0 : Array Value} (hw : ∀ d ∈ tables_1, d.before a0 Z = true) (t arr : Addr) (p0 p1 p2 p3 p4 p5 p6 p7 : Int32) (cs : Int32) (sio : Value) (qs qv : Addr) (h : Heap) (n0 : Nat) (zn : n0 ≤ h.size) (E_t : Exa Z h t "com/example/clauseline/clauseline/ContractText") (F_bytes_t : Fld Z h t "com/example/clauseline/clauseline/ContractText" "bytes" "[B" (.ref arr)) (V_arr : PA Z h arr .byte [p0, p1, p2, p3, p4, p5, p6, p7, (120 : Int32), (32 : Int32), (97 : Int32), (98 : Int32), (10 : Int32), (60 : Int32), (10 : Int32), (45 : Int32), (45 : Int32), (10 : Int32), (32 : Int32)]) (S_cs : Sta Z h "java/lang/String" "COMPACT_STRINGS" "Z" (.int cs)) (hcs : ¬ cs = 0) (S_sio : Sta Z h "jdk/internal/util/Preconditions" "SIOOBE_FORMATTER" "Ljava/util/function/BiFunction;" sio) (hsio : sio.isRef = true) (E_qs : Exa Z h qs "java/lang/String") (F_value_qs : Fld Z h qs "java/lang/String" "value" "[B" (.ref qv)) (V_qv : PA Z h qv .byte [(111 : Int32), (114 : Int32)]) (F_coder_qs : Fld Z h qs "java/lang/String" "coder" "B" (.int (0 : Int32))) :
    Met l Z (⟨"com/example/clauseline/clauseline/ContractText", "startsWith", "(IILjava/lang/String;)Z"⟩ : MethodName) prog_22_method_34_code 5 (some .boolean) [] ({ frames := 4, cells := 0, slots := 0, locals := 54 } : Room) #[(.ref t), (.int (10 : Int32)), (.int (12 : Int32)), (.ref qs)] h n0 (RI fun r h' => h' = h ∧ r = (0 : Int32)) := by
  refine start (ls := #[.val (.ref t), .val (.int (10 : Int32)), .val (.int (12 : Int32)), .val (.ref qs), .unset]) (plainFor_of_name pn16) (fun m => by first | (simp [entryFrame, mkF, argsToLocals, Value.category]; done) | rfl) ?_
  intro p e s m below meth c T G w X
  refine iloadN w X d26_0 1 rfl rfl ?_
  refine iloadN w X d26_1 2 rfl rfl ?_
  refine isub w X (2 : Int32) d26_2 3 rfl (by decide) ?_
  refine aloadN w X d26_3 4 rfl rfl rfl ?_
  refine callVPI w X [] (wd137 hw) (wd138 hw) (notFace_of_selects (args := #[]) (mvT w.2.2.2.2.1 (wd140 hw))) (wd140 hw) (wd139 hw) (wd3 hw) (wd141 hw) (by decide) E_qs (rm_length hw qs qv [(111 : Int32), (114 : Int32)] cs h n0 zn S_cs hcs E_qs F_value_qs V_qv F_coder_qs) d26_4 7 rfl 1 (by decide) (by decide) (lenOf pd11 rfl) rfl (Nat.le_of_eq rfl) rfl (by decide) (by decide) (fun r1 T X hq => ?_)
  obtain rfl : r1 = (2 : Int32) := hq.trans (by decide)
  refine icmp_ge w X d26_7 12 10 (by decide) (by decide) rfl (fun hc7_2 => ?_) (fun q => absurd q (by decide))
  refine iconst w X (0 : Int32) d26_12 13 rfl rfl ?_
  refine istore w X (0 : Int32) d26_13 15 rfl rfl #[.val (.ref t), .val (.int (10 : Int32)), .val (.int (12 : Int32)), .val (.ref qs), .val (.int (0 : Int32))] rfl ?_
  refine iload w X d26_15 17 rfl rfl ?_
  refine aloadN w X d26_17 18 rfl rfl rfl ?_
  refine callVPI w X [] (wd137 hw) (wd138 hw) (notFace_of_selects (args := #[]) (mvT w.2.2.2.2.1 (wd140 hw))) (wd140 hw) (wd139 hw) (wd3 hw) (wd141 hw) (by decide) E_qs (rm_length hw qs qv [(111 : Int32), (114 : Int32)] cs h n0 zn S_cs hcs E_qs F_value_qs V_qv F_coder_qs) d26_18 21 rfl 1 (by decide) (by decide) (lenOf pd11 rfl) rfl (Nat.le_of_eq rfl) rfl (by decide) (by decide) (fun r3 T X hq => ?_)
  obtain rfl : r3 = (2 : Int32) := hq.trans (by decide)
  refine icmp_ge w X d26_21 50 24 (by decide) (by decide) rfl (fun q => absurd q (by decide)) (fun hc21_4 => ?_)
  refine aloadN w X d26_24 25 rfl rfl rfl ?_
  refine getfield w X (wd66 hw) Via.refl F_bytes_t d26_25 28 rfl (fun T X => ?_)
  refine iloadN w X d26_28 29 rfl rfl ?_
  refine iload w X d26_29 31 rfl rfl ?_
  refine iadd w X (10 : Int32) d26_31 32 rfl (by decide) ?_
  refine baload w X V_arr (by decide) 10 rfl (Nat.le_of_ble_eq_true rfl) d26_32 33 rfl (97 : Int32) rfl ?_
  refine aloadN w X d26_33 34 rfl rfl rfl ?_
  refine iload w X d26_34 36 rfl rfl ?_
  refine callVPI w X [(.int (0 : Int32))] (wd151 hw) (wd15 hw) (notFace_of_selects (args := #[]) (mvT w.2.2.2.2.1 (wd17 hw))) (wd17 hw) (wd16 hw) (wd3 hw) (wd18 hw) (by decide) E_qs (rm_charAt hw qs qv (0 : Int32) [(111 : Int32), (114 : Int32)] (2 : Int32) cs sio h n0 zn S_cs hcs E_qs F_value_qs V_qv F_coder_qs rfl (by decide) (by decide) (Nat.le_of_ble_eq_true rfl) S_sio hsio) d26_36 39 rfl 1 (by decide) (by decide) (lenOf pd14 rfl) rfl (Nat.le_of_eq rfl) rfl (by decide) (by decide) (fun r5 T X hq => ?_)
  obtain rfl : r5 = (111 : Int32) := hq.trans (by decide)
  refine icmp_eq w X d26_39 44 42 (by decide) (by decide) rfl (fun q => absurd q (by decide)) (fun hc39_6 => ?_)
  refine iconst w X (0 : Int32) d26_42 43 rfl rfl ?_
  refine retN w X (t := .boolean) rfl (by simp) d26_43 (by decide) (by decide) ?_
  exact ⟨(0 : Int32), rfl, rfl, rfl⟩
theorem d30_14 : decode prog_47_method_21_code 14 = .ok (.iload_n 2, 1) := by decide +kernel
theorem d30_15 : decode prog_47_method_21_code 15 = .ok (.istore_n 3, 1) := by decide +kernel
theorem d30_16 : decode prog_47_method_21_code 16 = .ok (.iload_n 3, 1) := by decide +kernel
theorem d30_17 : decode prog_47_method_21_code 17 = .ok (.iload_n 1, 1) := by decide +kernel
theorem d30_18 : decode prog_47_method_21_code 18 = .ok (.if_icmp .le 22, 3) := by decide +kernel
theorem d30_21 : decode prog_47_method_21_code 21 = .ok (.aload_n 0, 1) := by decide +kernel
theorem d30_22 : decode prog_47_method_21_code 22 = .ok (.iload_n 3, 1) := by decide +kernel
theorem d30_23 : decode prog_47_method_21_code 23 = .ok (.iconst 1, 1) := by decide +kernel
theorem d30_24 : decode prog_47_method_21_code 24 = .ok (.isub, 1) := by decide +kernel
theorem d30_25 : decode prog_47_method_21_code 25 = .ok (.invokevirtual 47, 3) := by decide +kernel
theorem d30_28 : decode prog_47_method_21_code 28 = .ok (.invokestatic 164, 3) := by decide +kernel
theorem d30_31 : decode prog_47_method_21_code 31 = .ok (.ifCond .eq 9, 3) := by decide +kernel
theorem d30_34 : decode prog_47_method_21_code 34 = .ok (.iinc 3 (-1), 3) := by decide +kernel
theorem d30_37 : decode prog_47_method_21_code 37 = .ok (.goto (-21), 3) := by decide +kernel
theorem d30_40 : decode prog_47_method_21_code 40 = .ok (.iload_n 3, 1) := by decide +kernel
theorem d30_41 : decode prog_47_method_21_code 41 = .ok (.iload_n 2, 1) := by decide +kernel
theorem d30_42 : decode prog_47_method_21_code 42 = .ok (.if_icmp .eq 14, 3) := by decide +kernel
theorem d30_45 : decode prog_47_method_21_code 45 = .ok (.aload_n 0, 1) := by decide +kernel
theorem d30_46 : decode prog_47_method_21_code 46 = .ok (.iload_n 3, 1) := by decide +kernel
theorem d30_47 : decode prog_47_method_21_code 47 = .ok (.invokevirtual 47, 3) := by decide +kernel
theorem d30_50 : decode prog_47_method_21_code 50 = .ok (.invokestatic 167, 3) := by decide +kernel
theorem d30_53 : decode prog_47_method_21_code 53 = .ok (.ifCond .ne 5, 3) := by decide +kernel
theorem d30_58 : decode prog_47_method_21_code 58 = .ok (.iload_n 3, 1) := by decide +kernel
theorem d30_59 : decode prog_47_method_21_code 59 = .ok (.iload_n 1, 1) := by decide +kernel
theorem d30_60 : decode prog_47_method_21_code 60 = .ok (.if_icmp .le 17, 3) := by decide +kernel
theorem d30_63 : decode prog_47_method_21_code 63 = .ok (.aload_n 0, 1) := by decide +kernel
theorem d30_64 : decode prog_47_method_21_code 64 = .ok (.iload_n 3, 1) := by decide +kernel
theorem d30_65 : decode prog_47_method_21_code 65 = .ok (.iconst 1, 1) := by decide +kernel
theorem d30_66 : decode prog_47_method_21_code 66 = .ok (.isub, 1) := by decide +kernel
theorem d30_67 : decode prog_47_method_21_code 67 = .ok (.invokevirtual 47, 3) := by decide +kernel
theorem d30_70 : decode prog_47_method_21_code 70 = .ok (.bipush 46, 2) := by decide +kernel
theorem d30_72 : decode prog_47_method_21_code 72 = .ok (.if_icmp .ne 5, 3) := by decide +kernel
theorem d30_77 : decode prog_47_method_21_code 77 = .ok (.iload_n 2, 1) := by decide +kernel
theorem d30_78 : decode prog_47_method_21_code 78 = .ok (.iload_n 3, 1) := by decide +kernel
theorem d30_79 : decode prog_47_method_21_code 79 = .ok (.isub, 1) := by decide +kernel
theorem d30_80 : decode prog_47_method_21_code 80 = .ok (.iconst 3, 1) := by decide +kernel
theorem d30_81 : decode prog_47_method_21_code 81 = .ok (.if_icmp .ne 14, 3) := by decide +kernel
theorem d30_95 : decode prog_47_method_21_code 95 = .ok (.iload_n 2, 1) := by decide +kernel
theorem d30_96 : decode prog_47_method_21_code 96 = .ok (.iload_n 3, 1) := by decide +kernel
theorem d30_97 : decode prog_47_method_21_code 97 = .ok (.isub, 1) := by decide +kernel
theorem d30_98 : decode prog_47_method_21_code 98 = .ok (.iconst 2, 1) := by decide +kernel
theorem d30_99 : decode prog_47_method_21_code 99 = .ok (.if_icmp .ne 18, 3) := by decide +kernel
theorem d30_102 : decode prog_47_method_21_code 102 = .ok (.aload_n 0, 1) := by decide +kernel
theorem d30_103 : decode prog_47_method_21_code 103 = .ok (.iload_n 3, 1) := by decide +kernel
theorem d30_104 : decode prog_47_method_21_code 104 = .ok (.iload_n 2, 1) := by decide +kernel
theorem d30_105 : decode prog_47_method_21_code 105 = .ok (.ldc 172, 2) := by decide +kernel
theorem d30_107 : decode prog_47_method_21_code 107 = .ok (.invokevirtual 149, 3) := by decide +kernel
theorem d30_110 : decode prog_47_method_21_code 110 = .ok (.ifCond .eq 7, 3) := by decide +kernel
theorem d30_117 : decode prog_47_method_21_code 117 = .ok (.iconst 0, 1) := by decide +kernel
theorem d30_118 : decode prog_47_method_21_code 118 = .ok (.istore 4, 2) := by decide +kernel
theorem d30_120 : decode prog_47_method_21_code 120 = .ok (.iload 4, 2) := by decide +kernel
theorem d30_122 : decode prog_47_method_21_code 122 = .ok (.ifCond .ne 5, 3) := by decide +kernel
theorem d30_125 : decode prog_47_method_21_code 125 = .ok (.iconst 1, 1) := by decide +kernel
theorem d30_126 : decode prog_47_method_21_code 126 = .ok (.ireturn, 1) := by decide +kernel
set_option maxRecDepth 65536 in
set_option maxHeartbeats 40000000 in
theorem rm_endsMidSentence_80 {l : Launch} {Z : State} {a0 : Array Value} (hw : ∀ d ∈ tables_1, d.before a0 Z = true) (t arr : Addr) (p0 p1 p2 p3 p4 p5 p6 p7 : Int32) (cs : Int32) (sio : Value) (h : Heap) (n0 : Nat) (zn : n0 ≤ h.size) (E_t : Exa Z h t "com/example/clauseline/clauseline/ContractText") (F_bytes_t : Fld Z h t "com/example/clauseline/clauseline/ContractText" "bytes" "[B" (.ref arr)) (V_arr : PA Z h arr .byte [p0, p1, p2, p3, p4, p5, p6, p7, (120 : Int32), (32 : Int32), (97 : Int32), (98 : Int32), (10 : Int32), (60 : Int32), (10 : Int32), (45 : Int32), (45 : Int32), (10 : Int32), (32 : Int32)]) (S_cs : Sta Z h "java/lang/String" "COMPACT_STRINGS" "Z" (.int cs)) (hcs : ¬ cs = 0) (S_sio : Sta Z h "jdk/internal/util/Preconditions" "SIOOBE_FORMATTER" "Ljava/util/function/BiFunction;" sio) (hsio : sio.isRef = true) :
    MetH consts_1 l Z (⟨"com/example/clauseline/clauseline/LineWrap", "endsMidSentence", "(Lcom/example/clauseline/clauseline/ContractText;II)Z"⟩ : MethodName) prog_47_method_21_code 6 (some .boolean) [] ({ frames := 5, cells := 2, slots := 12, locals := 70 } : Room) #[(.ref t), (.int (8 : Int32)), (.int (12 : Int32))] h n0 (RI fun r h' => Keep h h' [] ∧ r = (1 : Int32)) := by
  refine startH (own_EW hw) (ls := #[.val (.ref t), .val (.int (8 : Int32)), .val (.int (12 : Int32)), .unset, .unset, .unset]) (plainFor_of_name pn20) (fun m => by first | (simp [entryFrame, mkF, argsToLocals, Value.category]; done) | rfl) ?_
  intro p e s0 m below meth c T G s k0 w X ws zk hC
  have K := Keep.refl h []
  refine aloadN w X d30_0 1 rfl rfl rfl ?_
  refine iloadN w X d30_1 2 rfl rfl ?_
  refine iconst w X (1 : Int32) d30_2 3 rfl rfl ?_
  refine isub w X (11 : Int32) d30_3 4 rfl (by decide) ?_
  refine callVPI w X [(.int (11 : Int32))] (wd103 hw) (wd104 hw) (notFace_of_selects (args := #[]) (mvT w.2.2.2.2.1 (wd106 hw))) (wd106 hw) (wd105 hw) (wd41 hw) (wd107 hw) (by decide) E_t (rm_baG hw t arr [p0, p1, p2, p3, p4, p5, p6, p7, (120 : Int32), (32 : Int32), (97 : Int32), (98 : Int32), (10 : Int32), (60 : Int32), (10 : Int32), (45 : Int32), (45 : Int32), (10 : Int32), (32 : Int32)] 11 h n0 zn E_t F_bytes_t V_arr (Nat.le_of_ble_eq_true rfl) (Nat.le_of_ble_eq_true rfl)) d30_4 7 rfl 0 (by decide) (by decide) (lenOf pd8 rfl) rfl (Nat.le_of_eq rfl) rfl (by decide) (by decide) (fun r1 T X hq => ?_)
  obtain rfl : r1 = (98 : Int32) := hq
  refine bipush w X (44 : Int32) d30_7 9 rfl rfl ?_
  refine icmp_ne w X d30_9 14 12 (by decide) (by decide) rfl (fun hc9_2 => ?_) (fun q => absurd q (by decide))
  refine iloadN w X d30_14 15 rfl rfl ?_
  refine istoreN w X (12 : Int32) d30_15 16 rfl rfl #[.val (.ref t), .val (.int (8 : Int32)), .val (.int (12 : Int32)), .val (.int (12 : Int32)), .unset, .unset] rfl ?_
  refine iloadN w X d30_16 17 rfl rfl ?_
  refine iloadN w X d30_17 18 rfl rfl ?_
  refine icmp_le w X d30_18 40 21 (by decide) (by decide) rfl (fun q => absurd q (by decide)) (fun hc18_3 => ?_)
  refine aloadN w X d30_21 22 rfl rfl rfl ?_
  refine iloadN w X d30_22 23 rfl rfl ?_
  refine iconst w X (1 : Int32) d30_23 24 rfl rfl ?_
  refine isub w X (11 : Int32) d30_24 25 rfl (by decide) ?_
  refine callVPI w X [(.int (11 : Int32))] (wd103 hw) (wd104 hw) (notFace_of_selects (args := #[]) (mvT w.2.2.2.2.1 (wd106 hw))) (wd106 hw) (wd105 hw) (wd41 hw) (wd107 hw) (by decide) E_t (rm_baG hw t arr [p0, p1, p2, p3, p4, p5, p6, p7, (120 : Int32), (32 : Int32), (97 : Int32), (98 : Int32), (10 : Int32), (60 : Int32), (10 : Int32), (45 : Int32), (45 : Int32), (10 : Int32), (32 : Int32)] 11 h n0 zn E_t F_bytes_t V_arr (Nat.le_of_ble_eq_true rfl) (Nat.le_of_ble_eq_true rfl)) d30_25 28 rfl 0 (by decide) (by decide) (lenOf pd8 rfl) rfl (Nat.le_of_eq rfl) rfl (by decide) (by decide) (fun r4 T X hq => ?_)
  obtain rfl : r4 = (98 : Int32) := hq
  refine callSPI w X [(.int (98 : Int32))] (wd155 hw) (wd156 hw) (wd41 hw) (wd157 hw) (by decide) (rm_own_lt hw (98 : Int32) h n0 zn) d30_28 31 rfl 0 (by decide) (by decide) (lenOf pd5 rfl) rfl (Nat.le_of_eq rfl) rfl (by decide) (by decide) (fun r5 T X hq => ?_)
  obtain rfl : r5 = (1 : Int32) := hq.trans (by decide)
  refine if_eq w X d30_31 40 34 (by decide) (by decide) rfl (fun q => absurd q (by decide)) (fun hc31_6 => ?_)
  refine iinc w X (11 : Int32) d30_34 37 rfl rfl (by decide) #[.val (.ref t), .val (.int (8 : Int32)), .val (.int (12 : Int32)), .val (.int (11 : Int32)), .unset, .unset] rfl ?_
  refine goto w X d30_37 16 (by decide) (by decide) ?_
  refine iloadN w X d30_16 17 rfl rfl ?_
  refine iloadN w X d30_17 18 rfl rfl ?_
  refine icmp_le w X d30_18 40 21 (by decide) (by decide) rfl (fun q => absurd q (by decide)) (fun hc18_7 => ?_)
  refine aloadN w X d30_21 22 rfl rfl rfl ?_
  refine iloadN w X d30_22 23 rfl rfl ?_
  refine iconst w X (1 : Int32) d30_23 24 rfl rfl ?_
  refine isub w X (10 : Int32) d30_24 25 rfl (by decide) ?_
  refine callVPI w X [(.int (10 : Int32))] (wd103 hw) (wd104 hw) (notFace_of_selects (args := #[]) (mvT w.2.2.2.2.1 (wd106 hw))) (wd106 hw) (wd105 hw) (wd41 hw) (wd107 hw) (by decide) E_t (rm_baG hw t arr [p0, p1, p2, p3, p4, p5, p6, p7, (120 : Int32), (32 : Int32), (97 : Int32), (98 : Int32), (10 : Int32), (60 : Int32), (10 : Int32), (45 : Int32), (45 : Int32), (10 : Int32), (32 : Int32)] 10 h n0 zn E_t F_bytes_t V_arr (Nat.le_of_ble_eq_true rfl) (Nat.le_of_ble_eq_true rfl)) d30_25 28 rfl 0 (by decide) (by decide) (lenOf pd8 rfl) rfl (Nat.le_of_eq rfl) rfl (by decide) (by decide) (fun r8 T X hq => ?_)
  obtain rfl : r8 = (97 : Int32) := hq
  refine callSPI w X [(.int (97 : Int32))] (wd155 hw) (wd156 hw) (wd41 hw) (wd157 hw) (by decide) (rm_own_lt hw (97 : Int32) h n0 zn) d30_28 31 rfl 0 (by decide) (by decide) (lenOf pd5 rfl) rfl (Nat.le_of_eq rfl) rfl (by decide) (by decide) (fun r9 T X hq => ?_)
  obtain rfl : r9 = (1 : Int32) := hq.trans (by decide)
  refine if_eq w X d30_31 40 34 (by decide) (by decide) rfl (fun q => absurd q (by decide)) (fun hc31_10 => ?_)
  refine iinc w X (10 : Int32) d30_34 37 rfl rfl (by decide) #[.val (.ref t), .val (.int (8 : Int32)), .val (.int (12 : Int32)), .val (.int (10 : Int32)), .unset, .unset] rfl ?_
  refine goto w X d30_37 16 (by decide) (by decide) ?_
  refine iloadN w X d30_16 17 rfl rfl ?_
  refine iloadN w X d30_17 18 rfl rfl ?_
  refine icmp_le w X d30_18 40 21 (by decide) (by decide) rfl (fun q => absurd q (by decide)) (fun hc18_11 => ?_)
  refine aloadN w X d30_21 22 rfl rfl rfl ?_
  refine iloadN w X d30_22 23 rfl rfl ?_
  refine iconst w X (1 : Int32) d30_23 24 rfl rfl ?_
  refine isub w X (9 : Int32) d30_24 25 rfl (by decide) ?_
  refine callVPI w X [(.int (9 : Int32))] (wd103 hw) (wd104 hw) (notFace_of_selects (args := #[]) (mvT w.2.2.2.2.1 (wd106 hw))) (wd106 hw) (wd105 hw) (wd41 hw) (wd107 hw) (by decide) E_t (rm_baG hw t arr [p0, p1, p2, p3, p4, p5, p6, p7, (120 : Int32), (32 : Int32), (97 : Int32), (98 : Int32), (10 : Int32), (60 : Int32), (10 : Int32), (45 : Int32), (45 : Int32), (10 : Int32), (32 : Int32)] 9 h n0 zn E_t F_bytes_t V_arr (Nat.le_of_ble_eq_true rfl) (Nat.le_of_ble_eq_true rfl)) d30_25 28 rfl 0 (by decide) (by decide) (lenOf pd8 rfl) rfl (Nat.le_of_eq rfl) rfl (by decide) (by decide) (fun r12 T X hq => ?_)
  obtain rfl : r12 = (32 : Int32) := hq
  refine callSPI w X [(.int (32 : Int32))] (wd155 hw) (wd156 hw) (wd41 hw) (wd157 hw) (by decide) (rm_own_lt hw (32 : Int32) h n0 zn) d30_28 31 rfl 0 (by decide) (by decide) (lenOf pd5 rfl) rfl (Nat.le_of_eq rfl) rfl (by decide) (by decide) (fun r13 T X hq => ?_)
  obtain rfl : r13 = (0 : Int32) := hq.trans (by decide)
  refine if_eq w X d30_31 40 34 (by decide) (by decide) rfl (fun hc31_14 => ?_) (fun q => absurd q (by decide))
  refine iloadN w X d30_40 41 rfl rfl ?_
  refine iloadN w X d30_41 42 rfl rfl ?_
  refine icmp_eq w X d30_42 56 45 (by decide) (by decide) rfl (fun q => absurd q (by decide)) (fun hc42_15 => ?_)
  refine aloadN w X d30_45 46 rfl rfl rfl ?_
  refine iloadN w X d30_46 47 rfl rfl ?_
  refine callVPI w X [(.int (10 : Int32))] (wd103 hw) (wd104 hw) (notFace_of_selects (args := #[]) (mvT w.2.2.2.2.1 (wd106 hw))) (wd106 hw) (wd105 hw) (wd41 hw) (wd107 hw) (by decide) E_t (rm_baG hw t arr [p0, p1, p2, p3, p4, p5, p6, p7, (120 : Int32), (32 : Int32), (97 : Int32), (98 : Int32), (10 : Int32), (60 : Int32), (10 : Int32), (45 : Int32), (45 : Int32), (10 : Int32), (32 : Int32)] 10 h n0 zn E_t F_bytes_t V_arr (Nat.le_of_ble_eq_true rfl) (Nat.le_of_ble_eq_true rfl)) d30_47 50 rfl 0 (by decide) (by decide) (lenOf pd8 rfl) rfl (Nat.le_of_eq rfl) rfl (by decide) (by decide) (fun r16 T X hq => ?_)
  obtain rfl : r16 = (97 : Int32) := hq
  refine callSPI w X [(.int (97 : Int32))] (wd164 hw) (wd162 hw) (wd41 hw) (wd163 hw) (by decide) (rm_own_lw hw (97 : Int32) h n0 zn) d30_50 53 rfl 0 (by decide) (by decide) (lenOf pd5 rfl) rfl (Nat.le_of_eq rfl) rfl (by decide) (by decide) (fun r17 T X hq => ?_)
  obtain rfl : r17 = (1 : Int32) := hq.trans (by decide)
  refine if_ne w X d30_53 58 56 (by decide) (by decide) rfl (fun hc53_18 => ?_) (fun q => absurd q (by decide))
  refine iloadN w X d30_58 59 rfl rfl ?_
  refine iloadN w X d30_59 60 rfl rfl ?_
  refine icmp_le w X d30_60 77 63 (by decide) (by decide) rfl (fun q => absurd q (by decide)) (fun hc60_19 => ?_)
  refine aloadN w X d30_63 64 rfl rfl rfl ?_
  refine iloadN w X d30_64 65 rfl rfl ?_
  refine iconst w X (1 : Int32) d30_65 66 rfl rfl ?_
  refine isub w X (9 : Int32) d30_66 67 rfl (by decide) ?_
  refine callVPI w X [(.int (9 : Int32))] (wd103 hw) (wd104 hw) (notFace_of_selects (args := #[]) (mvT w.2.2.2.2.1 (wd106 hw))) (wd106 hw) (wd105 hw) (wd41 hw) (wd107 hw) (by decide) E_t (rm_baG hw t arr [p0, p1, p2, p3, p4, p5, p6, p7, (120 : Int32), (32 : Int32), (97 : Int32), (98 : Int32), (10 : Int32), (60 : Int32), (10 : Int32), (45 : Int32), (45 : Int32), (10 : Int32), (32 : Int32)] 9 h n0 zn E_t F_bytes_t V_arr (Nat.le_of_ble_eq_true rfl) (Nat.le_of_ble_eq_true rfl)) d30_67 70 rfl 0 (by decide) (by decide) (lenOf pd8 rfl) rfl (Nat.le_of_eq rfl) rfl (by decide) (by decide) (fun r20 T X hq => ?_)
  obtain rfl : r20 = (32 : Int32) := hq
  refine bipush w X (46 : Int32) d30_70 72 rfl rfl ?_
  refine icmp_ne w X d30_72 77 75 (by decide) (by decide) rfl (fun hc72_21 => ?_) (fun q => absurd q (by decide))
  refine iloadN w X d30_77 78 rfl rfl ?_
  refine iloadN w X d30_78 79 rfl rfl ?_
  refine isub w X (2 : Int32) d30_79 80 rfl (by decide) ?_
  refine iconst w X (3 : Int32) d30_80 81 rfl rfl ?_
  refine icmp_ne w X d30_81 95 84 (by decide) (by decide) rfl (fun hc81_22 => ?_) (fun q => absurd q (by decide))
  refine iloadN w X d30_95 96 rfl rfl ?_
  refine iloadN w X d30_96 97 rfl rfl ?_
  refine isub w X (2 : Int32) d30_97 98 rfl (by decide) ?_
  refine iconst w X (2 : Int32) d30_98 99 rfl rfl ?_
  refine icmp_ne w X d30_99 117 102 (by decide) (by decide) rfl (fun q => absurd q (by decide)) (fun hc99_23 => ?_)
  refine aloadN w X d30_102 103 rfl rfl rfl ?_
  refine iloadN w X d30_103 104 rfl rfl ?_
  refine iloadN w X d30_104 105 rfl rfl ?_
  refine ldcHt w X ws zk hC (own_EW hw) (by decide) (wd183 hw) (own_wS hw) [(111 : Int32), (114 : Int32)] ⟨by decide, by decide⟩ (2 : Int32) (by decide) (by decide) d30_105 107 rfl 8 (by decide) (by decide) (by decide) (by decide) (fun s k0 T h24 sa25 sv26 w X ws zk hC E E_sa25 F_coder_sa25 F_value_sa25 V_sv26 hss => ?_)
  have zn : n0 ≤ h24.size := Nat.le_trans zn E.1
  have E_t := E_t.ext E
  have F_bytes_t := F_bytes_t.ext E
  have V_arr := V_arr.ext E
  have S_cs := S_cs.ext E
  have S_sio := S_sio.ext E
  have K := K.ext E
  refine callVPI w X [(.int (10 : Int32)), (.int (12 : Int32)), (.ref sa25)] (wd132 hw) (wd133 hw) (notFace_of_selects (args := #[]) (mvT w.2.2.2.2.1 (wd135 hw))) (wd135 hw) (wd134 hw) (wd41 hw) (wd136 hw) (by decide) E_t (rm_startsWith_81 hw t arr p0 p1 p2 p3 p4 p5 p6 p7 cs sio sa25 sv26 h24 n0 zn E_t F_bytes_t V_arr S_cs hcs S_sio hsio E_sa25 F_value_sa25 V_sv26 F_coder_sa25) d30_107 110 rfl 0 (by decide) (by decide) (lenOf pd12 rfl) rfl (Nat.le_of_eq rfl) rfl (by decide) (by decide) (fun r27 T X hq => ?_)
  subst hq
  refine if_eq w X d30_110 117 113 (by decide) (by decide) rfl (fun hc110_28 => ?_) (fun q => absurd q (by decide))
  refine iconst w X (0 : Int32) d30_117 118 rfl rfl ?_
  refine istore w X (0 : Int32) d30_118 120 rfl rfl #[.val (.ref t), .val (.int (8 : Int32)), .val (.int (12 : Int32)), .val (.int (10 : Int32)), .val (.int (0 : Int32)), .unset] rfl ?_
  refine iload w X d30_120 122 rfl rfl ?_
  refine if_ne w X d30_122 127 125 (by decide) (by decide) rfl (fun q => absurd q (by decide)) (fun hc122_29 => ?_)
  refine iconst w X (1 : Int32) d30_125 126 rfl rfl ?_
  refine retN w X (t := .boolean) rfl (by simp) d30_126 (by decide) (by decide) ?_
  refine And.intro zk (And.intro hC ?_)
  exact ⟨(1 : Int32), rfl, K, rfl⟩
theorem d30_56 : decode prog_47_method_21_code 56 = .ok (.iconst 0, 1) := by decide +kernel
theorem d30_57 : decode prog_47_method_21_code 57 = .ok (.ireturn, 1) := by decide +kernel
theorem d26_44 : decode prog_22_method_34_code 44 = .ok (.iinc 4 1, 3) := by decide +kernel
theorem d26_47 : decode prog_22_method_34_code 47 = .ok (.goto (-32), 3) := by decide +kernel
theorem d26_50 : decode prog_22_method_34_code 50 = .ok (.iconst 1, 1) := by decide +kernel
theorem d26_51 : decode prog_22_method_34_code 51 = .ok (.ireturn, 1) := by decide +kernel
set_option maxRecDepth 65536 in
set_option maxHeartbeats 40000000 in
theorem rm_startsWith_85 {l : Launch} {Z : State} {a0 : Array Value} (hw : ∀ d ∈ tables_1, d.before a0 Z = true) (t arr : Addr) (p0 p1 p2 p3 p4 p5 p6 p7 : Int32) (cs : Int32) (sio : Value) (qs qv : Addr) (h : Heap) (n0 : Nat) (zn : n0 ≤ h.size) (E_t : Exa Z h t "com/example/clauseline/clauseline/ContractText") (F_bytes_t : Fld Z h t "com/example/clauseline/clauseline/ContractText" "bytes" "[B" (.ref arr)) (V_arr : PA Z h arr .byte [p0, p1, p2, p3, p4, p5, p6, p7, (59 : Int32), (32 : Int32), (111 : Int32), (114 : Int32), (10 : Int32), (60 : Int32), (10 : Int32), (45 : Int32), (45 : Int32), (10 : Int32), (32 : Int32)]) (S_cs : Sta Z h "java/lang/String" "COMPACT_STRINGS" "Z" (.int cs)) (hcs : ¬ cs = 0) (S_sio : Sta Z h "jdk/internal/util/Preconditions" "SIOOBE_FORMATTER" "Ljava/util/function/BiFunction;" sio) (hsio : sio.isRef = true) (E_qs : Exa Z h qs "java/lang/String") (F_value_qs : Fld Z h qs "java/lang/String" "value" "[B" (.ref qv)) (V_qv : PA Z h qv .byte [(111 : Int32), (114 : Int32)]) (F_coder_qs : Fld Z h qs "java/lang/String" "coder" "B" (.int (0 : Int32))) :
    Met l Z (⟨"com/example/clauseline/clauseline/ContractText", "startsWith", "(IILjava/lang/String;)Z"⟩ : MethodName) prog_22_method_34_code 5 (some .boolean) [] ({ frames := 4, cells := 0, slots := 0, locals := 54 } : Room) #[(.ref t), (.int (10 : Int32)), (.int (12 : Int32)), (.ref qs)] h n0 (RI fun r h' => h' = h ∧ r = (1 : Int32)) := by
  refine start (ls := #[.val (.ref t), .val (.int (10 : Int32)), .val (.int (12 : Int32)), .val (.ref qs), .unset]) (plainFor_of_name pn16) (fun m => by first | (simp [entryFrame, mkF, argsToLocals, Value.category]; done) | rfl) ?_
  intro p e s m below meth c T G w X
  refine iloadN w X d26_0 1 rfl rfl ?_
  refine iloadN w X d26_1 2 rfl rfl ?_
  refine isub w X (2 : Int32) d26_2 3 rfl (by decide) ?_
  refine aloadN w X d26_3 4 rfl rfl rfl ?_
  refine callVPI w X [] (wd137 hw) (wd138 hw) (notFace_of_selects (args := #[]) (mvT w.2.2.2.2.1 (wd140 hw))) (wd140 hw) (wd139 hw) (wd3 hw) (wd141 hw) (by decide) E_qs (rm_length hw qs qv [(111 : Int32), (114 : Int32)] cs h n0 zn S_cs hcs E_qs F_value_qs V_qv F_coder_qs) d26_4 7 rfl 1 (by decide) (by decide) (lenOf pd11 rfl) rfl (Nat.le_of_eq rfl) rfl (by decide) (by decide) (fun r1 T X hq => ?_)
  obtain rfl : r1 = (2 : Int32) := hq.trans (by decide)
  refine icmp_ge w X d26_7 12 10 (by decide) (by decide) rfl (fun hc7_2 => ?_) (fun q => absurd q (by decide))
  refine iconst w X (0 : Int32) d26_12 13 rfl rfl ?_
  refine istore w X (0 : Int32) d26_13 15 rfl rfl #[.val (.ref t), .val (.int (10 : Int32)), .val (.int (12 : Int32)), .val (.ref qs), .val (.int (0 : Int32))] rfl ?_
  refine iload w X d26_15 17 rfl rfl ?_
  refine aloadN w X d26_17 18 rfl rfl rfl ?_
  refine callVPI w X [] (wd137 hw) (wd138 hw) (notFace_of_selects (args := #[]) (mvT w.2.2.2.2.1 (wd140 hw))) (wd140 hw) (wd139 hw) (wd3 hw) (wd141 hw) (by decide) E_qs (rm_length hw qs qv [(111 : Int32), (114 : Int32)] cs h n0 zn S_cs hcs E_qs F_value_qs V_qv F_coder_qs) d26_18 21 rfl 1 (by decide) (by decide) (lenOf pd11 rfl) rfl (Nat.le_of_eq rfl) rfl (by decide) (by decide) (fun r3 T X hq => ?_)
  obtain rfl : r3 = (2 : Int32) := hq.trans (by decide)
  refine icmp_ge w X d26_21 50 24 (by decide) (by decide) rfl (fun q => absurd q (by decide)) (fun hc21_4 => ?_)
  refine aloadN w X d26_24 25 rfl rfl rfl ?_
  refine getfield w X (wd66 hw) Via.refl F_bytes_t d26_25 28 rfl (fun T X => ?_)
  refine iloadN w X d26_28 29 rfl rfl ?_
  refine iload w X d26_29 31 rfl rfl ?_
  refine iadd w X (10 : Int32) d26_31 32 rfl (by decide) ?_
  refine baload w X V_arr (by decide) 10 rfl (Nat.le_of_ble_eq_true rfl) d26_32 33 rfl (111 : Int32) rfl ?_
  refine aloadN w X d26_33 34 rfl rfl rfl ?_
  refine iload w X d26_34 36 rfl rfl ?_
  refine callVPI w X [(.int (0 : Int32))] (wd151 hw) (wd15 hw) (notFace_of_selects (args := #[]) (mvT w.2.2.2.2.1 (wd17 hw))) (wd17 hw) (wd16 hw) (wd3 hw) (wd18 hw) (by decide) E_qs (rm_charAt hw qs qv (0 : Int32) [(111 : Int32), (114 : Int32)] (2 : Int32) cs sio h n0 zn S_cs hcs E_qs F_value_qs V_qv F_coder_qs rfl (by decide) (by decide) (Nat.le_of_ble_eq_true rfl) S_sio hsio) d26_36 39 rfl 1 (by decide) (by decide) (lenOf pd14 rfl) rfl (Nat.le_of_eq rfl) rfl (by decide) (by decide) (fun r5 T X hq => ?_)
  obtain rfl : r5 = (111 : Int32) := hq.trans (by decide)
  refine icmp_eq w X d26_39 44 42 (by decide) (by decide) rfl (fun hc39_6 => ?_) (fun q => absurd q (by decide))
  refine iinc w X (1 : Int32) d26_44 47 rfl rfl (by decide) #[.val (.ref t), .val (.int (10 : Int32)), .val (.int (12 : Int32)), .val (.ref qs), .val (.int (1 : Int32))] rfl ?_
  refine goto w X d26_47 15 (by decide) (by decide) ?_
  refine iload w X d26_15 17 rfl rfl ?_
  refine aloadN w X d26_17 18 rfl rfl rfl ?_
  refine callVPI w X [] (wd137 hw) (wd138 hw) (notFace_of_selects (args := #[]) (mvT w.2.2.2.2.1 (wd140 hw))) (wd140 hw) (wd139 hw) (wd3 hw) (wd141 hw) (by decide) E_qs (rm_length hw qs qv [(111 : Int32), (114 : Int32)] cs h n0 zn S_cs hcs E_qs F_value_qs V_qv F_coder_qs) d26_18 21 rfl 1 (by decide) (by decide) (lenOf pd11 rfl) rfl (Nat.le_of_eq rfl) rfl (by decide) (by decide) (fun r7 T X hq => ?_)
  obtain rfl : r7 = (2 : Int32) := hq.trans (by decide)
  refine icmp_ge w X d26_21 50 24 (by decide) (by decide) rfl (fun q => absurd q (by decide)) (fun hc21_8 => ?_)
  refine aloadN w X d26_24 25 rfl rfl rfl ?_
  refine getfield w X (wd66 hw) Via.refl F_bytes_t d26_25 28 rfl (fun T X => ?_)
  refine iloadN w X d26_28 29 rfl rfl ?_
  refine iload w X d26_29 31 rfl rfl ?_
  refine iadd w X (11 : Int32) d26_31 32 rfl (by decide) ?_
  refine baload w X V_arr (by decide) 11 rfl (Nat.le_of_ble_eq_true rfl) d26_32 33 rfl (114 : Int32) rfl ?_
  refine aloadN w X d26_33 34 rfl rfl rfl ?_
  refine iload w X d26_34 36 rfl rfl ?_
  refine callVPI w X [(.int (1 : Int32))] (wd151 hw) (wd15 hw) (notFace_of_selects (args := #[]) (mvT w.2.2.2.2.1 (wd17 hw))) (wd17 hw) (wd16 hw) (wd3 hw) (wd18 hw) (by decide) E_qs (rm_charAt hw qs qv (1 : Int32) [(111 : Int32), (114 : Int32)] (2 : Int32) cs sio h n0 zn S_cs hcs E_qs F_value_qs V_qv F_coder_qs rfl (by decide) (by decide) (Nat.le_of_ble_eq_true rfl) S_sio hsio) d26_36 39 rfl 1 (by decide) (by decide) (lenOf pd14 rfl) rfl (Nat.le_of_eq rfl) rfl (by decide) (by decide) (fun r9 T X hq => ?_)
  obtain rfl : r9 = (114 : Int32) := hq.trans (by decide)
  refine icmp_eq w X d26_39 44 42 (by decide) (by decide) rfl (fun hc39_10 => ?_) (fun q => absurd q (by decide))
  refine iinc w X (2 : Int32) d26_44 47 rfl rfl (by decide) #[.val (.ref t), .val (.int (10 : Int32)), .val (.int (12 : Int32)), .val (.ref qs), .val (.int (2 : Int32))] rfl ?_
  refine goto w X d26_47 15 (by decide) (by decide) ?_
  refine iload w X d26_15 17 rfl rfl ?_
  refine aloadN w X d26_17 18 rfl rfl rfl ?_
  refine callVPI w X [] (wd137 hw) (wd138 hw) (notFace_of_selects (args := #[]) (mvT w.2.2.2.2.1 (wd140 hw))) (wd140 hw) (wd139 hw) (wd3 hw) (wd141 hw) (by decide) E_qs (rm_length hw qs qv [(111 : Int32), (114 : Int32)] cs h n0 zn S_cs hcs E_qs F_value_qs V_qv F_coder_qs) d26_18 21 rfl 1 (by decide) (by decide) (lenOf pd11 rfl) rfl (Nat.le_of_eq rfl) rfl (by decide) (by decide) (fun r11 T X hq => ?_)
  obtain rfl : r11 = (2 : Int32) := hq.trans (by decide)
  refine icmp_ge w X d26_21 50 24 (by decide) (by decide) rfl (fun hc21_12 => ?_) (fun q => absurd q (by decide))
  refine iconst w X (1 : Int32) d26_50 51 rfl rfl ?_
  refine retN w X (t := .boolean) rfl (by simp) d26_51 (by decide) (by decide) ?_
  exact ⟨(1 : Int32), rfl, rfl, rfl⟩
theorem d30_113 : decode prog_47_method_21_code 113 = .ok (.iconst 1, 1) := by decide +kernel
theorem d30_114 : decode prog_47_method_21_code 114 = .ok (.goto 4, 3) := by decide +kernel
theorem d30_127 : decode prog_47_method_21_code 127 = .ok (.iload_n 3, 1) := by decide +kernel
theorem d30_128 : decode prog_47_method_21_code 128 = .ok (.istore 5, 2) := by decide +kernel
theorem d30_130 : decode prog_47_method_21_code 130 = .ok (.iload 5, 2) := by decide +kernel
theorem d30_132 : decode prog_47_method_21_code 132 = .ok (.iload_n 1, 1) := by decide +kernel
theorem d30_133 : decode prog_47_method_21_code 133 = .ok (.if_icmp .le 23, 3) := by decide +kernel
theorem d30_136 : decode prog_47_method_21_code 136 = .ok (.aload_n 0, 1) := by decide +kernel
theorem d30_137 : decode prog_47_method_21_code 137 = .ok (.iload 5, 2) := by decide +kernel
theorem d30_139 : decode prog_47_method_21_code 139 = .ok (.iconst 1, 1) := by decide +kernel
theorem d30_140 : decode prog_47_method_21_code 140 = .ok (.isub, 1) := by decide +kernel
theorem d30_141 : decode prog_47_method_21_code 141 = .ok (.invokevirtual 47, 3) := by decide +kernel
theorem d30_144 : decode prog_47_method_21_code 144 = .ok (.invokestatic 132, 3) := by decide +kernel
theorem d30_147 : decode prog_47_method_21_code 147 = .ok (.ifCond .eq 9, 3) := by decide +kernel
theorem d30_150 : decode prog_47_method_21_code 150 = .ok (.iinc 5 (-1), 3) := by decide +kernel
theorem d30_153 : decode prog_47_method_21_code 153 = .ok (.goto (-23), 3) := by decide +kernel
theorem d30_156 : decode prog_47_method_21_code 156 = .ok (.iload 5, 2) := by decide +kernel
theorem d30_158 : decode prog_47_method_21_code 158 = .ok (.iload_n 1, 1) := by decide +kernel
theorem d30_159 : decode prog_47_method_21_code 159 = .ok (.if_icmp .le 20, 3) := by decide +kernel
theorem d30_162 : decode prog_47_method_21_code 162 = .ok (.aload_n 0, 1) := by decide +kernel
theorem d30_163 : decode prog_47_method_21_code 163 = .ok (.iload 5, 2) := by decide +kernel
theorem d30_165 : decode prog_47_method_21_code 165 = .ok (.iconst 1, 1) := by decide +kernel
theorem d30_166 : decode prog_47_method_21_code 166 = .ok (.isub, 1) := by decide +kernel
theorem d30_167 : decode prog_47_method_21_code 167 = .ok (.invokevirtual 47, 3) := by decide +kernel
theorem d30_170 : decode prog_47_method_21_code 170 = .ok (.bipush 59, 2) := by decide +kernel
theorem d30_172 : decode prog_47_method_21_code 172 = .ok (.if_icmp .eq 7, 3) := by decide +kernel
theorem d30_179 : decode prog_47_method_21_code 179 = .ok (.iconst 0, 1) := by decide +kernel
theorem d30_180 : decode prog_47_method_21_code 180 = .ok (.ireturn, 1) := by decide +kernel
set_option maxRecDepth 65536 in
set_option maxHeartbeats 40000000 in
theorem rm_endsMidSentence_84 {l : Launch} {Z : State} {a0 : Array Value} (hw : ∀ d ∈ tables_1, d.before a0 Z = true) (t arr : Addr) (p0 p1 p2 p3 p4 p5 p6 p7 : Int32) (cs : Int32) (sio : Value) (h : Heap) (n0 : Nat) (zn : n0 ≤ h.size) (E_t : Exa Z h t "com/example/clauseline/clauseline/ContractText") (F_bytes_t : Fld Z h t "com/example/clauseline/clauseline/ContractText" "bytes" "[B" (.ref arr)) (V_arr : PA Z h arr .byte [p0, p1, p2, p3, p4, p5, p6, p7, (59 : Int32), (32 : Int32), (111 : Int32), (114 : Int32), (10 : Int32), (60 : Int32), (10 : Int32), (45 : Int32), (45 : Int32), (10 : Int32), (32 : Int32)]) (S_cs : Sta Z h "java/lang/String" "COMPACT_STRINGS" "Z" (.int cs)) (hcs : ¬ cs = 0) (S_sio : Sta Z h "jdk/internal/util/Preconditions" "SIOOBE_FORMATTER" "Ljava/util/function/BiFunction;" sio) (hsio : sio.isRef = true) :
    MetH consts_1 l Z (⟨"com/example/clauseline/clauseline/LineWrap", "endsMidSentence", "(Lcom/example/clauseline/clauseline/ContractText;II)Z"⟩ : MethodName) prog_47_method_21_code 6 (some .boolean) [] ({ frames := 5, cells := 2, slots := 12, locals := 70 } : Room) #[(.ref t), (.int (8 : Int32)), (.int (12 : Int32))] h n0 (RI fun r h' => Keep h h' [] ∧ r = (0 : Int32)) := by
  refine startH (own_EW hw) (ls := #[.val (.ref t), .val (.int (8 : Int32)), .val (.int (12 : Int32)), .unset, .unset, .unset]) (plainFor_of_name pn20) (fun m => by first | (simp [entryFrame, mkF, argsToLocals, Value.category]; done) | rfl) ?_
  intro p e s0 m below meth c T G s k0 w X ws zk hC
  have K := Keep.refl h []
  refine aloadN w X d30_0 1 rfl rfl rfl ?_
  refine iloadN w X d30_1 2 rfl rfl ?_
  refine iconst w X (1 : Int32) d30_2 3 rfl rfl ?_
  refine isub w X (11 : Int32) d30_3 4 rfl (by decide) ?_
  refine callVPI w X [(.int (11 : Int32))] (wd103 hw) (wd104 hw) (notFace_of_selects (args := #[]) (mvT w.2.2.2.2.1 (wd106 hw))) (wd106 hw) (wd105 hw) (wd41 hw) (wd107 hw) (by decide) E_t (rm_baG hw t arr [p0, p1, p2, p3, p4, p5, p6, p7, (59 : Int32), (32 : Int32), (111 : Int32), (114 : Int32), (10 : Int32), (60 : Int32), (10 : Int32), (45 : Int32), (45 : Int32), (10 : Int32), (32 : Int32)] 11 h n0 zn E_t F_bytes_t V_arr (Nat.le_of_ble_eq_true rfl) (Nat.le_of_ble_eq_true rfl)) d30_4 7 rfl 0 (by decide) (by decide) (lenOf pd8 rfl) rfl (Nat.le_of_eq rfl) rfl (by decide) (by decide) (fun r1 T X hq => ?_)
  obtain rfl : r1 = (114 : Int32) := hq
  refine bipush w X (44 : Int32) d30_7 9 rfl rfl ?_
  refine icmp_ne w X d30_9 14 12 (by decide) (by decide) rfl (fun hc9_2 => ?_) (fun q => absurd q (by decide))
  refine iloadN w X d30_14 15 rfl rfl ?_
  refine istoreN w X (12 : Int32) d30_15 16 rfl rfl #[.val (.ref t), .val (.int (8 : Int32)), .val (.int (12 : Int32)), .val (.int (12 : Int32)), .unset, .unset] rfl ?_
  refine iloadN w X d30_16 17 rfl rfl ?_
  refine iloadN w X d30_17 18 rfl rfl ?_
  refine icmp_le w X d30_18 40 21 (by decide) (by decide) rfl (fun q => absurd q (by decide)) (fun hc18_3 => ?_)
  refine aloadN w X d30_21 22 rfl rfl rfl ?_
  refine iloadN w X d30_22 23 rfl rfl ?_
  refine iconst w X (1 : Int32) d30_23 24 rfl rfl ?_
  refine isub w X (11 : Int32) d30_24 25 rfl (by decide) ?_
  refine callVPI w X [(.int (11 : Int32))] (wd103 hw) (wd104 hw) (notFace_of_selects (args := #[]) (mvT w.2.2.2.2.1 (wd106 hw))) (wd106 hw) (wd105 hw) (wd41 hw) (wd107 hw) (by decide) E_t (rm_baG hw t arr [p0, p1, p2, p3, p4, p5, p6, p7, (59 : Int32), (32 : Int32), (111 : Int32), (114 : Int32), (10 : Int32), (60 : Int32), (10 : Int32), (45 : Int32), (45 : Int32), (10 : Int32), (32 : Int32)] 11 h n0 zn E_t F_bytes_t V_arr (Nat.le_of_ble_eq_true rfl) (Nat.le_of_ble_eq_true rfl)) d30_25 28 rfl 0 (by decide) (by decide) (lenOf pd8 rfl) rfl (Nat.le_of_eq rfl) rfl (by decide) (by decide) (fun r4 T X hq => ?_)
  obtain rfl : r4 = (114 : Int32) := hq
  refine callSPI w X [(.int (114 : Int32))] (wd155 hw) (wd156 hw) (wd41 hw) (wd157 hw) (by decide) (rm_own_lt hw (114 : Int32) h n0 zn) d30_28 31 rfl 0 (by decide) (by decide) (lenOf pd5 rfl) rfl (Nat.le_of_eq rfl) rfl (by decide) (by decide) (fun r5 T X hq => ?_)
  obtain rfl : r5 = (1 : Int32) := hq.trans (by decide)
  refine if_eq w X d30_31 40 34 (by decide) (by decide) rfl (fun q => absurd q (by decide)) (fun hc31_6 => ?_)
  refine iinc w X (11 : Int32) d30_34 37 rfl rfl (by decide) #[.val (.ref t), .val (.int (8 : Int32)), .val (.int (12 : Int32)), .val (.int (11 : Int32)), .unset, .unset] rfl ?_
  refine goto w X d30_37 16 (by decide) (by decide) ?_
  refine iloadN w X d30_16 17 rfl rfl ?_
  refine iloadN w X d30_17 18 rfl rfl ?_
  refine icmp_le w X d30_18 40 21 (by decide) (by decide) rfl (fun q => absurd q (by decide)) (fun hc18_7 => ?_)
  refine aloadN w X d30_21 22 rfl rfl rfl ?_
  refine iloadN w X d30_22 23 rfl rfl ?_
  refine iconst w X (1 : Int32) d30_23 24 rfl rfl ?_
  refine isub w X (10 : Int32) d30_24 25 rfl (by decide) ?_
  refine callVPI w X [(.int (10 : Int32))] (wd103 hw) (wd104 hw) (notFace_of_selects (args := #[]) (mvT w.2.2.2.2.1 (wd106 hw))) (wd106 hw) (wd105 hw) (wd41 hw) (wd107 hw) (by decide) E_t (rm_baG hw t arr [p0, p1, p2, p3, p4, p5, p6, p7, (59 : Int32), (32 : Int32), (111 : Int32), (114 : Int32), (10 : Int32), (60 : Int32), (10 : Int32), (45 : Int32), (45 : Int32), (10 : Int32), (32 : Int32)] 10 h n0 zn E_t F_bytes_t V_arr (Nat.le_of_ble_eq_true rfl) (Nat.le_of_ble_eq_true rfl)) d30_25 28 rfl 0 (by decide) (by decide) (lenOf pd8 rfl) rfl (Nat.le_of_eq rfl) rfl (by decide) (by decide) (fun r8 T X hq => ?_)
  obtain rfl : r8 = (111 : Int32) := hq
  refine callSPI w X [(.int (111 : Int32))] (wd155 hw) (wd156 hw) (wd41 hw) (wd157 hw) (by decide) (rm_own_lt hw (111 : Int32) h n0 zn) d30_28 31 rfl 0 (by decide) (by decide) (lenOf pd5 rfl) rfl (Nat.le_of_eq rfl) rfl (by decide) (by decide) (fun r9 T X hq => ?_)
  obtain rfl : r9 = (1 : Int32) := hq.trans (by decide)
  refine if_eq w X d30_31 40 34 (by decide) (by decide) rfl (fun q => absurd q (by decide)) (fun hc31_10 => ?_)
  refine iinc w X (10 : Int32) d30_34 37 rfl rfl (by decide) #[.val (.ref t), .val (.int (8 : Int32)), .val (.int (12 : Int32)), .val (.int (10 : Int32)), .unset, .unset] rfl ?_
  refine goto w X d30_37 16 (by decide) (by decide) ?_
  refine iloadN w X d30_16 17 rfl rfl ?_
  refine iloadN w X d30_17 18 rfl rfl ?_
  refine icmp_le w X d30_18 40 21 (by decide) (by decide) rfl (fun q => absurd q (by decide)) (fun hc18_11 => ?_)
  refine aloadN w X d30_21 22 rfl rfl rfl ?_
  refine iloadN w X d30_22 23 rfl rfl ?_
  refine iconst w X (1 : Int32) d30_23 24 rfl rfl ?_
  refine isub w X (9 : Int32) d30_24 25 rfl (by decide) ?_
  refine callVPI w X [(.int (9 : Int32))] (wd103 hw) (wd104 hw) (notFace_of_selects (args := #[]) (mvT w.2.2.2.2.1 (wd106 hw))) (wd106 hw) (wd105 hw) (wd41 hw) (wd107 hw) (by decide) E_t (rm_baG hw t arr [p0, p1, p2, p3, p4, p5, p6, p7, (59 : Int32), (32 : Int32), (111 : Int32), (114 : Int32), (10 : Int32), (60 : Int32), (10 : Int32), (45 : Int32), (45 : Int32), (10 : Int32), (32 : Int32)] 9 h n0 zn E_t F_bytes_t V_arr (Nat.le_of_ble_eq_true rfl) (Nat.le_of_ble_eq_true rfl)) d30_25 28 rfl 0 (by decide) (by decide) (lenOf pd8 rfl) rfl (Nat.le_of_eq rfl) rfl (by decide) (by decide) (fun r12 T X hq => ?_)
  obtain rfl : r12 = (32 : Int32) := hq
  refine callSPI w X [(.int (32 : Int32))] (wd155 hw) (wd156 hw) (wd41 hw) (wd157 hw) (by decide) (rm_own_lt hw (32 : Int32) h n0 zn) d30_28 31 rfl 0 (by decide) (by decide) (lenOf pd5 rfl) rfl (Nat.le_of_eq rfl) rfl (by decide) (by decide) (fun r13 T X hq => ?_)
  obtain rfl : r13 = (0 : Int32) := hq.trans (by decide)
  refine if_eq w X d30_31 40 34 (by decide) (by decide) rfl (fun hc31_14 => ?_) (fun q => absurd q (by decide))
  refine iloadN w X d30_40 41 rfl rfl ?_
  refine iloadN w X d30_41 42 rfl rfl ?_
  refine icmp_eq w X d30_42 56 45 (by decide) (by decide) rfl (fun q => absurd q (by decide)) (fun hc42_15 => ?_)
  refine aloadN w X d30_45 46 rfl rfl rfl ?_
  refine iloadN w X d30_46 47 rfl rfl ?_
  refine callVPI w X [(.int (10 : Int32))] (wd103 hw) (wd104 hw) (notFace_of_selects (args := #[]) (mvT w.2.2.2.2.1 (wd106 hw))) (wd106 hw) (wd105 hw) (wd41 hw) (wd107 hw) (by decide) E_t (rm_baG hw t arr [p0, p1, p2, p3, p4, p5, p6, p7, (59 : Int32), (32 : Int32), (111 : Int32), (114 : Int32), (10 : Int32), (60 : Int32), (10 : Int32), (45 : Int32), (45 : Int32), (10 : Int32), (32 : Int32)] 10 h n0 zn E_t F_bytes_t V_arr (Nat.le_of_ble_eq_true rfl) (Nat.le_of_ble_eq_true rfl)) d30_47 50 rfl 0 (by decide) (by decide) (lenOf pd8 rfl) rfl (Nat.le_of_eq rfl) rfl (by decide) (by decide) (fun r16 T X hq => ?_)
  obtain rfl : r16 = (111 : Int32) := hq
  refine callSPI w X [(.int (111 : Int32))] (wd164 hw) (wd162 hw) (wd41 hw) (wd163 hw) (by decide) (rm_own_lw hw (111 : Int32) h n0 zn) d30_50 53 rfl 0 (by decide) (by decide) (lenOf pd5 rfl) rfl (Nat.le_of_eq rfl) rfl (by decide) (by decide) (fun r17 T X hq => ?_)
  obtain rfl : r17 = (1 : Int32) := hq.trans (by decide)
  refine if_ne w X d30_53 58 56 (by decide) (by decide) rfl (fun hc53_18 => ?_) (fun q => absurd q (by decide))
  refine iloadN w X d30_58 59 rfl rfl ?_
  refine iloadN w X d30_59 60 rfl rfl ?_
  refine icmp_le w X d30_60 77 63 (by decide) (by decide) rfl (fun q => absurd q (by decide)) (fun hc60_19 => ?_)
  refine aloadN w X d30_63 64 rfl rfl rfl ?_
  refine iloadN w X d30_64 65 rfl rfl ?_
  refine iconst w X (1 : Int32) d30_65 66 rfl rfl ?_
  refine isub w X (9 : Int32) d30_66 67 rfl (by decide) ?_
  refine callVPI w X [(.int (9 : Int32))] (wd103 hw) (wd104 hw) (notFace_of_selects (args := #[]) (mvT w.2.2.2.2.1 (wd106 hw))) (wd106 hw) (wd105 hw) (wd41 hw) (wd107 hw) (by decide) E_t (rm_baG hw t arr [p0, p1, p2, p3, p4, p5, p6, p7, (59 : Int32), (32 : Int32), (111 : Int32), (114 : Int32), (10 : Int32), (60 : Int32), (10 : Int32), (45 : Int32), (45 : Int32), (10 : Int32), (32 : Int32)] 9 h n0 zn E_t F_bytes_t V_arr (Nat.le_of_ble_eq_true rfl) (Nat.le_of_ble_eq_true rfl)) d30_67 70 rfl 0 (by decide) (by decide) (lenOf pd8 rfl) rfl (Nat.le_of_eq rfl) rfl (by decide) (by decide) (fun r20 T X hq => ?_)
  obtain rfl : r20 = (32 : Int32) := hq
  refine bipush w X (46 : Int32) d30_70 72 rfl rfl ?_
  refine icmp_ne w X d30_72 77 75 (by decide) (by decide) rfl (fun hc72_21 => ?_) (fun q => absurd q (by decide))
  refine iloadN w X d30_77 78 rfl rfl ?_
  refine iloadN w X d30_78 79 rfl rfl ?_
  refine isub w X (2 : Int32) d30_79 80 rfl (by decide) ?_
  refine iconst w X (3 : Int32) d30_80 81 rfl rfl ?_
  refine icmp_ne w X d30_81 95 84 (by decide) (by decide) rfl (fun hc81_22 => ?_) (fun q => absurd q (by decide))
  refine iloadN w X d30_95 96 rfl rfl ?_
  refine iloadN w X d30_96 97 rfl rfl ?_
  refine isub w X (2 : Int32) d30_97 98 rfl (by decide) ?_
  refine iconst w X (2 : Int32) d30_98 99 rfl rfl ?_
  refine icmp_ne w X d30_99 117 102 (by decide) (by decide) rfl (fun q => absurd q (by decide)) (fun hc99_23 => ?_)
  refine aloadN w X d30_102 103 rfl rfl rfl ?_
  refine iloadN w X d30_103 104 rfl rfl ?_
  refine iloadN w X d30_104 105 rfl rfl ?_
  refine ldcHt w X ws zk hC (own_EW hw) (by decide) (wd183 hw) (own_wS hw) [(111 : Int32), (114 : Int32)] ⟨by decide, by decide⟩ (2 : Int32) (by decide) (by decide) d30_105 107 rfl 8 (by decide) (by decide) (by decide) (by decide) (fun s k0 T h24 sa25 sv26 w X ws zk hC E E_sa25 F_coder_sa25 F_value_sa25 V_sv26 hss => ?_)
  have zn : n0 ≤ h24.size := Nat.le_trans zn E.1
  have E_t := E_t.ext E
  have F_bytes_t := F_bytes_t.ext E
  have V_arr := V_arr.ext E
  have S_cs := S_cs.ext E
  have S_sio := S_sio.ext E
  have K := K.ext E
  refine callVPI w X [(.int (10 : Int32)), (.int (12 : Int32)), (.ref sa25)] (wd132 hw) (wd133 hw) (notFace_of_selects (args := #[]) (mvT w.2.2.2.2.1 (wd135 hw))) (wd135 hw) (wd134 hw) (wd41 hw) (wd136 hw) (by decide) E_t (rm_startsWith_85 hw t arr p0 p1 p2 p3 p4 p5 p6 p7 cs sio sa25 sv26 h24 n0 zn E_t F_bytes_t V_arr S_cs hcs S_sio hsio E_sa25 F_value_sa25 V_sv26 F_coder_sa25) d30_107 110 rfl 0 (by decide) (by decide) (lenOf pd12 rfl) rfl (Nat.le_of_eq rfl) rfl (by decide) (by decide) (fun r27 T X hq => ?_)
  subst hq
  refine if_eq w X d30_110 117 113 (by decide) (by decide) rfl (fun q => absurd q (by decide)) (fun hc110_28 => ?_)
  refine iconst w X (1 : Int32) d30_113 114 rfl rfl ?_
  refine goto w X d30_114 118 (by decide) (by decide) ?_
  refine istore w X (1 : Int32) d30_118 120 rfl rfl #[.val (.ref t), .val (.int (8 : Int32)), .val (.int (12 : Int32)), .val (.int (10 : Int32)), .val (.int (1 : Int32)), .unset] rfl ?_
  refine iload w X d30_120 122 rfl rfl ?_
  refine if_ne w X d30_122 127 125 (by decide) (by decide) rfl (fun hc122_29 => ?_) (fun q => absurd q (by decide))
  refine iloadN w X d30_127 128 rfl rfl ?_
  refine istore w X (10 : Int32) d30_128 130 rfl rfl #[.val (.ref t), .val (.int (8 : Int32)), .val (.int (12 : Int32)), .val (.int (10 : Int32)), .val (.int (1 : Int32)), .val (.int (10 : Int32))] rfl ?_
  refine iload w X d30_130 132 rfl rfl ?_
  refine iloadN w X d30_132 133 rfl rfl ?_
  refine icmp_le w X d30_133 156 136 (by decide) (by decide) rfl (fun q => absurd q (by decide)) (fun hc133_30 => ?_)
  refine aloadN w X d30_136 137 rfl rfl rfl ?_
  refine iload w X d30_137 139 rfl rfl ?_
  refine iconst w X (1 : Int32) d30_139 140 rfl rfl ?_
  refine isub w X (9 : Int32) d30_140 141 rfl (by decide) ?_
  refine callVPI w X [(.int (9 : Int32))] (wd103 hw) (wd104 hw) (notFace_of_selects (args := #[]) (mvT w.2.2.2.2.1 (wd106 hw))) (wd106 hw) (wd105 hw) (wd41 hw) (wd107 hw) (by decide) E_t (rm_baG hw t arr [p0, p1, p2, p3, p4, p5, p6, p7, (59 : Int32), (32 : Int32), (111 : Int32), (114 : Int32), (10 : Int32), (60 : Int32), (10 : Int32), (45 : Int32), (45 : Int32), (10 : Int32), (32 : Int32)] 9 h24 n0 zn E_t F_bytes_t V_arr (Nat.le_of_ble_eq_true rfl) (Nat.le_of_ble_eq_true rfl)) d30_141 144 rfl 0 (by decide) (by decide) (lenOf pd8 rfl) rfl (Nat.le_of_eq rfl) rfl (by decide) (by decide) (fun r31 T X hq => ?_)
  obtain rfl : r31 = (32 : Int32) := hq
  refine callSPI w X [(.int (32 : Int32))] (wd108 hw) (wd109 hw) (wd70 hw) (wd110 hw) (by decide) (rm_own_sp2 hw (32 : Int32) h24 n0 zn) d30_144 147 rfl 0 (by decide) (by decide) (lenOf pd5 rfl) rfl (Nat.le_of_eq rfl) rfl (by decide) (by decide) (fun r32 T X hq => ?_)
  obtain rfl : r32 = (1 : Int32) := hq.trans (by decide)
  refine if_eq w X d30_147 156 150 (by decide) (by decide) rfl (fun q => absurd q (by decide)) (fun hc147_33 => ?_)
  refine iinc w X (9 : Int32) d30_150 153 rfl rfl (by decide) #[.val (.ref t), .val (.int (8 : Int32)), .val (.int (12 : Int32)), .val (.int (10 : Int32)), .val (.int (1 : Int32)), .val (.int (9 : Int32))] rfl ?_
  refine goto w X d30_153 130 (by decide) (by decide) ?_
  refine iload w X d30_130 132 rfl rfl ?_
  refine iloadN w X d30_132 133 rfl rfl ?_
  refine icmp_le w X d30_133 156 136 (by decide) (by decide) rfl (fun q => absurd q (by decide)) (fun hc133_34 => ?_)
  refine aloadN w X d30_136 137 rfl rfl rfl ?_
  refine iload w X d30_137 139 rfl rfl ?_
  refine iconst w X (1 : Int32) d30_139 140 rfl rfl ?_
  refine isub w X (8 : Int32) d30_140 141 rfl (by decide) ?_
  refine callVPI w X [(.int (8 : Int32))] (wd103 hw) (wd104 hw) (notFace_of_selects (args := #[]) (mvT w.2.2.2.2.1 (wd106 hw))) (wd106 hw) (wd105 hw) (wd41 hw) (wd107 hw) (by decide) E_t (rm_baG hw t arr [p0, p1, p2, p3, p4, p5, p6, p7, (59 : Int32), (32 : Int32), (111 : Int32), (114 : Int32), (10 : Int32), (60 : Int32), (10 : Int32), (45 : Int32), (45 : Int32), (10 : Int32), (32 : Int32)] 8 h24 n0 zn E_t F_bytes_t V_arr (Nat.le_of_ble_eq_true rfl) (Nat.le_of_ble_eq_true rfl)) d30_141 144 rfl 0 (by decide) (by decide) (lenOf pd8 rfl) rfl (Nat.le_of_eq rfl) rfl (by decide) (by decide) (fun r35 T X hq => ?_)
  obtain rfl : r35 = (59 : Int32) := hq
  refine callSPI w X [(.int (59 : Int32))] (wd108 hw) (wd109 hw) (wd70 hw) (wd110 hw) (by decide) (rm_own_sp2 hw (59 : Int32) h24 n0 zn) d30_144 147 rfl 0 (by decide) (by decide) (lenOf pd5 rfl) rfl (Nat.le_of_eq rfl) rfl (by decide) (by decide) (fun r36 T X hq => ?_)
  obtain rfl : r36 = (0 : Int32) := hq.trans (by decide)
  refine if_eq w X d30_147 156 150 (by decide) (by decide) rfl (fun hc147_37 => ?_) (fun q => absurd q (by decide))
  refine iload w X d30_156 158 rfl rfl ?_
  refine iloadN w X d30_158 159 rfl rfl ?_
  refine icmp_le w X d30_159 179 162 (by decide) (by decide) rfl (fun q => absurd q (by decide)) (fun hc159_38 => ?_)
  refine aloadN w X d30_162 163 rfl rfl rfl ?_
  refine iload w X d30_163 165 rfl rfl ?_
  refine iconst w X (1 : Int32) d30_165 166 rfl rfl ?_
  refine isub w X (8 : Int32) d30_166 167 rfl (by decide) ?_
  refine callVPI w X [(.int (8 : Int32))] (wd103 hw) (wd104 hw) (notFace_of_selects (args := #[]) (mvT w.2.2.2.2.1 (wd106 hw))) (wd106 hw) (wd105 hw) (wd41 hw) (wd107 hw) (by decide) E_t (rm_baG hw t arr [p0, p1, p2, p3, p4, p5, p6, p7, (59 : Int32), (32 : Int32), (111 : Int32), (114 : Int32), (10 : Int32), (60 : Int32), (10 : Int32), (45 : Int32), (45 : Int32), (10 : Int32), (32 : Int32)] 8 h24 n0 zn E_t F_bytes_t V_arr (Nat.le_of_ble_eq_true rfl) (Nat.le_of_ble_eq_true rfl)) d30_167 170 rfl 0 (by decide) (by decide) (lenOf pd8 rfl) rfl (Nat.le_of_eq rfl) rfl (by decide) (by decide) (fun r39 T X hq => ?_)
  obtain rfl : r39 = (59 : Int32) := hq
  refine bipush w X (59 : Int32) d30_170 172 rfl rfl ?_
  refine icmp_eq w X d30_172 179 175 (by decide) (by decide) rfl (fun hc172_40 => ?_) (fun q => absurd q (by decide))
  refine iconst w X (0 : Int32) d30_179 180 rfl rfl ?_
  refine retN w X (t := .boolean) rfl (by simp) d30_180 (by decide) (by decide) ?_
  refine And.intro zk (And.intro hC ?_)
  exact ⟨(0 : Int32), rfl, K, rfl⟩
set_option maxRecDepth 65536 in
set_option maxHeartbeats 40000000 in
theorem rm_startsWith_87 {l : Launch} {Z : State} {a0 : Array Value} (hw : ∀ d ∈ tables_1, d.before a0 Z = true) (t arr : Addr) (p0 p1 p2 p3 p4 p5 p6 p7 : Int32) (cs : Int32) (sio : Value) (qs qv : Addr) (h : Heap) (n0 : Nat) (zn : n0 ≤ h.size) (E_t : Exa Z h t "com/example/clauseline/clauseline/ContractText") (F_bytes_t : Fld Z h t "com/example/clauseline/clauseline/ContractText" "bytes" "[B" (.ref arr)) (V_arr : PA Z h arr .byte [p0, p1, p2, p3, p4, p5, p6, p7, (120 : Int32), (32 : Int32), (111 : Int32), (114 : Int32), (10 : Int32), (60 : Int32), (10 : Int32), (45 : Int32), (45 : Int32), (10 : Int32), (32 : Int32)]) (S_cs : Sta Z h "java/lang/String" "COMPACT_STRINGS" "Z" (.int cs)) (hcs : ¬ cs = 0) (S_sio : Sta Z h "jdk/internal/util/Preconditions" "SIOOBE_FORMATTER" "Ljava/util/function/BiFunction;" sio) (hsio : sio.isRef = true) (E_qs : Exa Z h qs "java/lang/String") (F_value_qs : Fld Z h qs "java/lang/String" "value" "[B" (.ref qv)) (V_qv : PA Z h qv .byte [(111 : Int32), (114 : Int32)]) (F_coder_qs : Fld Z h qs "java/lang/String" "coder" "B" (.int (0 : Int32))) :
    Met l Z (⟨"com/example/clauseline/clauseline/ContractText", "startsWith", "(IILjava/lang/String;)Z"⟩ : MethodName) prog_22_method_34_code 5 (some .boolean) [] ({ frames := 4, cells := 0, slots := 0, locals := 54 } : Room) #[(.ref t), (.int (10 : Int32)), (.int (12 : Int32)), (.ref qs)] h n0 (RI fun r h' => h' = h ∧ r = (1 : Int32)) := by
  refine start (ls := #[.val (.ref t), .val (.int (10 : Int32)), .val (.int (12 : Int32)), .val (.ref qs), .unset]) (plainFor_of_name pn16) (fun m => by first | (simp [entryFrame, mkF, argsToLocals, Value.category]; done) | rfl) ?_
  intro p e s m below meth c T G w X
  refine iloadN w X d26_0 1 rfl rfl ?_
  refine iloadN w X d26_1 2 rfl rfl ?_
  refine isub w X (2 : Int32) d26_2 3 rfl (by decide) ?_
  refine aloadN w X d26_3 4 rfl rfl rfl ?_
  refine callVPI w X [] (wd137 hw) (wd138 hw) (notFace_of_selects (args := #[]) (mvT w.2.2.2.2.1 (wd140 hw))) (wd140 hw) (wd139 hw) (wd3 hw) (wd141 hw) (by decide) E_qs (rm_length hw qs qv [(111 : Int32), (114 : Int32)] cs h n0 zn S_cs hcs E_qs F_value_qs V_qv F_coder_qs) d26_4 7 rfl 1 (by decide) (by decide) (lenOf pd11 rfl) rfl (Nat.le_of_eq rfl) rfl (by decide) (by decide) (fun r1 T X hq => ?_)
  obtain rfl : r1 = (2 : Int32) := hq.trans (by decide)
  refine icmp_ge w X d26_7 12 10 (by decide) (by decide) rfl (fun hc7_2 => ?_) (fun q => absurd q (by decide))
  refine iconst w X (0 : Int32) d26_12 13 rfl rfl ?_
  refine istore w X (0 : Int32) d26_13 15 rfl rfl #[.val (.ref t), .val (.int (10 : Int32)), .val (.int (12 : Int32)), .val (.ref qs), .val (.int (0 : Int32))] rfl ?_
  refine iload w X d26_15 17 rfl rfl ?_
  refine aloadN w X d26_17 18 rfl rfl rfl ?_
  refine callVPI w X [] (wd137 hw) (wd138 hw) (notFace_of_selects (args := #[]) (mvT w.2.2.2.2.1 (wd140 hw))) (wd140 hw) (wd139 hw) (wd3 hw) (wd141 hw) (by decide) E_qs (rm_length hw qs qv [(111 : Int32), (114 : Int32)] cs h n0 zn S_cs hcs E_qs F_value_qs V_qv F_coder_qs) d26_18 21 rfl 1 (by decide) (by decide) (lenOf pd11 rfl) rfl (Nat.le_of_eq rfl) rfl (by decide) (by decide) (fun r3 T X hq => ?_)
  obtain rfl : r3 = (2 : Int32) := hq.trans (by decide)
  refine icmp_ge w X d26_21 50 24 (by decide) (by decide) rfl (fun q => absurd q (by decide)) (fun hc21_4 => ?_)
  refine aloadN w X d26_24 25 rfl rfl rfl ?_
  refine getfield w X (wd66 hw) Via.refl F_bytes_t d26_25 28 rfl (fun T X => ?_)
  refine iloadN w X d26_28 29 rfl rfl ?_
  refine iload w X d26_29 31 rfl rfl ?_
  refine iadd w X (10 : Int32) d26_31 32 rfl (by decide) ?_
  refine baload w X V_arr (by decide) 10 rfl (Nat.le_of_ble_eq_true rfl) d26_32 33 rfl (111 : Int32) rfl ?_
  refine aloadN w X d26_33 34 rfl rfl rfl ?_
  refine iload w X d26_34 36 rfl rfl ?_
  refine callVPI w X [(.int (0 : Int32))] (wd151 hw) (wd15 hw) (notFace_of_selects (args := #[]) (mvT w.2.2.2.2.1 (wd17 hw))) (wd17 hw) (wd16 hw) (wd3 hw) (wd18 hw) (by decide) E_qs (rm_charAt hw qs qv (0 : Int32) [(111 : Int32), (114 : Int32)] (2 : Int32) cs sio h n0 zn S_cs hcs E_qs F_value_qs V_qv F_coder_qs rfl (by decide) (by decide) (Nat.le_of_ble_eq_true rfl) S_sio hsio) d26_36 39 rfl 1 (by decide) (by decide) (lenOf pd14 rfl) rfl (Nat.le_of_eq rfl) rfl (by decide) (by decide) (fun r5 T X hq => ?_)
  obtain rfl : r5 = (111 : Int32) := hq.trans (by decide)
  refine icmp_eq w X d26_39 44 42 (by decide) (by decide) rfl (fun hc39_6 => ?_) (fun q => absurd q (by decide))
  refine iinc w X (1 : Int32) d26_44 47 rfl rfl (by decide) #[.val (.ref t), .val (.int (10 : Int32)), .val (.int (12 : Int32)), .val (.ref qs), .val (.int (1 : Int32))] rfl ?_
  refine goto w X d26_47 15 (by decide) (by decide) ?_
  refine iload w X d26_15 17 rfl rfl ?_
  refine aloadN w X d26_17 18 rfl rfl rfl ?_
  refine callVPI w X [] (wd137 hw) (wd138 hw) (notFace_of_selects (args := #[]) (mvT w.2.2.2.2.1 (wd140 hw))) (wd140 hw) (wd139 hw) (wd3 hw) (wd141 hw) (by decide) E_qs (rm_length hw qs qv [(111 : Int32), (114 : Int32)] cs h n0 zn S_cs hcs E_qs F_value_qs V_qv F_coder_qs) d26_18 21 rfl 1 (by decide) (by decide) (lenOf pd11 rfl) rfl (Nat.le_of_eq rfl) rfl (by decide) (by decide) (fun r7 T X hq => ?_)
  obtain rfl : r7 = (2 : Int32) := hq.trans (by decide)
  refine icmp_ge w X d26_21 50 24 (by decide) (by decide) rfl (fun q => absurd q (by decide)) (fun hc21_8 => ?_)
  refine aloadN w X d26_24 25 rfl rfl rfl ?_
  refine getfield w X (wd66 hw) Via.refl F_bytes_t d26_25 28 rfl (fun T X => ?_)
  refine iloadN w X d26_28 29 rfl rfl ?_
  refine iload w X d26_29 31 rfl rfl ?_
  refine iadd w X (11 : Int32) d26_31 32 rfl (by decide) ?_
  refine baload w X V_arr (by decide) 11 rfl (Nat.le_of_ble_eq_true rfl) d26_32 33 rfl (114 : Int32) rfl ?_
  refine aloadN w X d26_33 34 rfl rfl rfl ?_
  refine iload w X d26_34 36 rfl rfl ?_
  refine callVPI w X [(.int (1 : Int32))] (wd151 hw) (wd15 hw) (notFace_of_selects (args := #[]) (mvT w.2.2.2.2.1 (wd17 hw))) (wd17 hw) (wd16 hw) (wd3 hw) (wd18 hw) (by decide) E_qs (rm_charAt hw qs qv (1 : Int32) [(111 : Int32), (114 : Int32)] (2 : Int32) cs sio h n0 zn S_cs hcs E_qs F_value_qs V_qv F_coder_qs rfl (by decide) (by decide) (Nat.le_of_ble_eq_true rfl) S_sio hsio) d26_36 39 rfl 1 (by decide) (by decide) (lenOf pd14 rfl) rfl (Nat.le_of_eq rfl) rfl (by decide) (by decide) (fun r9 T X hq => ?_)
  obtain rfl : r9 = (114 : Int32) := hq.trans (by decide)
  refine icmp_eq w X d26_39 44 42 (by decide) (by decide) rfl (fun hc39_10 => ?_) (fun q => absurd q (by decide))
  refine iinc w X (2 : Int32) d26_44 47 rfl rfl (by decide) #[.val (.ref t), .val (.int (10 : Int32)), .val (.int (12 : Int32)), .val (.ref qs), .val (.int (2 : Int32))] rfl ?_
  refine goto w X d26_47 15 (by decide) (by decide) ?_
  refine iload w X d26_15 17 rfl rfl ?_
  refine aloadN w X d26_17 18 rfl rfl rfl ?_
  refine callVPI w X [] (wd137 hw) (wd138 hw) (notFace_of_selects (args := #[]) (mvT w.2.2.2.2.1 (wd140 hw))) (wd140 hw) (wd139 hw) (wd3 hw) (wd141 hw) (by decide) E_qs (rm_length hw qs qv [(111 : Int32), (114 : Int32)] cs h n0 zn S_cs hcs E_qs F_value_qs V_qv F_coder_qs) d26_18 21 rfl 1 (by decide) (by decide) (lenOf pd11 rfl) rfl (Nat.le_of_eq rfl) rfl (by decide) (by decide) (fun r11 T X hq => ?_)
  obtain rfl : r11 = (2 : Int32) := hq.trans (by decide)
  refine icmp_ge w X d26_21 50 24 (by decide) (by decide) rfl (fun hc21_12 => ?_) (fun q => absurd q (by decide))
  refine iconst w X (1 : Int32) d26_50 51 rfl rfl ?_
  refine retN w X (t := .boolean) rfl (by simp) d26_51 (by decide) (by decide) ?_
  exact ⟨(1 : Int32), rfl, rfl, rfl⟩
theorem d30_175 : decode prog_47_method_21_code 175 = .ok (.iconst 1, 1) := by decide +kernel
theorem d30_176 : decode prog_47_method_21_code 176 = .ok (.goto 4, 3) := by decide +kernel
set_option maxRecDepth 65536 in
set_option maxHeartbeats 40000000 in
theorem rm_endsMidSentence_86 {l : Launch} {Z : State} {a0 : Array Value} (hw : ∀ d ∈ tables_1, d.before a0 Z = true) (t arr : Addr) (p0 p1 p2 p3 p4 p5 p6 p7 : Int32) (cs : Int32) (sio : Value) (h : Heap) (n0 : Nat) (zn : n0 ≤ h.size) (E_t : Exa Z h t "com/example/clauseline/clauseline/ContractText") (F_bytes_t : Fld Z h t "com/example/clauseline/clauseline/ContractText" "bytes" "[B" (.ref arr)) (V_arr : PA Z h arr .byte [p0, p1, p2, p3, p4, p5, p6, p7, (120 : Int32), (32 : Int32), (111 : Int32), (114 : Int32), (10 : Int32), (60 : Int32), (10 : Int32), (45 : Int32), (45 : Int32), (10 : Int32), (32 : Int32)]) (S_cs : Sta Z h "java/lang/String" "COMPACT_STRINGS" "Z" (.int cs)) (hcs : ¬ cs = 0) (S_sio : Sta Z h "jdk/internal/util/Preconditions" "SIOOBE_FORMATTER" "Ljava/util/function/BiFunction;" sio) (hsio : sio.isRef = true) :
    MetH consts_1 l Z (⟨"com/example/clauseline/clauseline/LineWrap", "endsMidSentence", "(Lcom/example/clauseline/clauseline/ContractText;II)Z"⟩ : MethodName) prog_47_method_21_code 6 (some .boolean) [] ({ frames := 5, cells := 2, slots := 12, locals := 70 } : Room) #[(.ref t), (.int (8 : Int32)), (.int (12 : Int32))] h n0 (RI fun r h' => Keep h h' [] ∧ r = (1 : Int32)) := by
  refine startH (own_EW hw) (ls := #[.val (.ref t), .val (.int (8 : Int32)), .val (.int (12 : Int32)), .unset, .unset, .unset]) (plainFor_of_name pn20) (fun m => by first | (simp [entryFrame, mkF, argsToLocals, Value.category]; done) | rfl) ?_
  intro p e s0 m below meth c T G s k0 w X ws zk hC
  have K := Keep.refl h []
  refine aloadN w X d30_0 1 rfl rfl rfl ?_
  refine iloadN w X d30_1 2 rfl rfl ?_
  refine iconst w X (1 : Int32) d30_2 3 rfl rfl ?_
  refine isub w X (11 : Int32) d30_3 4 rfl (by decide) ?_
  refine callVPI w X [(.int (11 : Int32))] (wd103 hw) (wd104 hw) (notFace_of_selects (args := #[]) (mvT w.2.2.2.2.1 (wd106 hw))) (wd106 hw) (wd105 hw) (wd41 hw) (wd107 hw) (by decide) E_t (rm_baG hw t arr [p0, p1, p2, p3, p4, p5, p6, p7, (120 : Int32), (32 : Int32), (111 : Int32), (114 : Int32), (10 : Int32), (60 : Int32), (10 : Int32), (45 : Int32), (45 : Int32), (10 : Int32), (32 : Int32)] 11 h n0 zn E_t F_bytes_t V_arr (Nat.le_of_ble_eq_true rfl) (Nat.le_of_ble_eq_true rfl)) d30_4 7 rfl 0 (by decide) (by decide) (lenOf pd8 rfl) rfl (Nat.le_of_eq rfl) rfl (by decide) (by decide) (fun r1 T X hq => ?_)
  obtain rfl : r1 = (114 : Int32) := hq
  refine bipush w X (44 : Int32) d30_7 9 rfl rfl ?_
  refine icmp_ne w X d30_9 14 12 (by decide) (by decide) rfl (fun hc9_2 => ?_) (fun q => absurd q (by decide))
  refine iloadN w X d30_14 15 rfl rfl ?_
  refine istoreN w X (12 : Int32) d30_15 16 rfl rfl #[.val (.ref t), .val (.int (8 : Int32)), .val (.int (12 : Int32)), .val (.int (12 : Int32)), .unset, .unset] rfl ?_
  refine iloadN w X d30_16 17 rfl rfl ?_
  refine iloadN w X d30_17 18 rfl rfl ?_
  refine icmp_le w X d30_18 40 21 (by decide) (by decide) rfl (fun q => absurd q (by decide)) (fun hc18_3 => ?_)
  refine aloadN w X d30_21 22 rfl rfl rfl ?_
  refine iloadN w X d30_22 23 rfl rfl ?_
  refine iconst w X (1 : Int32) d30_23 24 rfl rfl ?_
  refine isub w X (11 : Int32) d30_24 25 rfl (by decide) ?_
  refine callVPI w X [(.int (11 : Int32))] (wd103 hw) (wd104 hw) (notFace_of_selects (args := #[]) (mvT w.2.2.2.2.1 (wd106 hw))) (wd106 hw) (wd105 hw) (wd41 hw) (wd107 hw) (by decide) E_t (rm_baG hw t arr [p0, p1, p2, p3, p4, p5, p6, p7, (120 : Int32), (32 : Int32), (111 : Int32), (114 : Int32), (10 : Int32), (60 : Int32), (10 : Int32), (45 : Int32), (45 : Int32), (10 : Int32), (32 : Int32)] 11 h n0 zn E_t F_bytes_t V_arr (Nat.le_of_ble_eq_true rfl) (Nat.le_of_ble_eq_true rfl)) d30_25 28 rfl 0 (by decide) (by decide) (lenOf pd8 rfl) rfl (Nat.le_of_eq rfl) rfl (by decide) (by decide) (fun r4 T X hq => ?_)
  obtain rfl : r4 = (114 : Int32) := hq
  refine callSPI w X [(.int (114 : Int32))] (wd155 hw) (wd156 hw) (wd41 hw) (wd157 hw) (by decide) (rm_own_lt hw (114 : Int32) h n0 zn) d30_28 31 rfl 0 (by decide) (by decide) (lenOf pd5 rfl) rfl (Nat.le_of_eq rfl) rfl (by decide) (by decide) (fun r5 T X hq => ?_)
  obtain rfl : r5 = (1 : Int32) := hq.trans (by decide)
  refine if_eq w X d30_31 40 34 (by decide) (by decide) rfl (fun q => absurd q (by decide)) (fun hc31_6 => ?_)
  refine iinc w X (11 : Int32) d30_34 37 rfl rfl (by decide) #[.val (.ref t), .val (.int (8 : Int32)), .val (.int (12 : Int32)), .val (.int (11 : Int32)), .unset, .unset] rfl ?_
  refine goto w X d30_37 16 (by decide) (by decide) ?_
  refine iloadN w X d30_16 17 rfl rfl ?_
  refine iloadN w X d30_17 18 rfl rfl ?_
  refine icmp_le w X d30_18 40 21 (by decide) (by decide) rfl (fun q => absurd q (by decide)) (fun hc18_7 => ?_)
  refine aloadN w X d30_21 22 rfl rfl rfl ?_
  refine iloadN w X d30_22 23 rfl rfl ?_
  refine iconst w X (1 : Int32) d30_23 24 rfl rfl ?_
  refine isub w X (10 : Int32) d30_24 25 rfl (by decide) ?_
  refine callVPI w X [(.int (10 : Int32))] (wd103 hw) (wd104 hw) (notFace_of_selects (args := #[]) (mvT w.2.2.2.2.1 (wd106 hw))) (wd106 hw) (wd105 hw) (wd41 hw) (wd107 hw) (by decide) E_t (rm_baG hw t arr [p0, p1, p2, p3, p4, p5, p6, p7, (120 : Int32), (32 : Int32), (111 : Int32), (114 : Int32), (10 : Int32), (60 : Int32), (10 : Int32), (45 : Int32), (45 : Int32), (10 : Int32), (32 : Int32)] 10 h n0 zn E_t F_bytes_t V_arr (Nat.le_of_ble_eq_true rfl) (Nat.le_of_ble_eq_true rfl)) d30_25 28 rfl 0 (by decide) (by decide) (lenOf pd8 rfl) rfl (Nat.le_of_eq rfl) rfl (by decide) (by decide) (fun r8 T X hq => ?_)
  obtain rfl : r8 = (111 : Int32) := hq
  refine callSPI w X [(.int (111 : Int32))] (wd155 hw) (wd156 hw) (wd41 hw) (wd157 hw) (by decide) (rm_own_lt hw (111 : Int32) h n0 zn) d30_28 31 rfl 0 (by decide) (by decide) (lenOf pd5 rfl) rfl (Nat.le_of_eq rfl) rfl (by decide) (by decide) (fun r9 T X hq => ?_)
  obtain rfl : r9 = (1 : Int32) := hq.trans (by decide)
  refine if_eq w X d30_31 40 34 (by decide) (by decide) rfl (fun q => absurd q (by decide)) (fun hc31_10 => ?_)
  refine iinc w X (10 : Int32) d30_34 37 rfl rfl (by decide) #[.val (.ref t), .val (.int (8 : Int32)), .val (.int (12 : Int32)), .val (.int (10 : Int32)), .unset, .unset] rfl ?_
  refine goto w X d30_37 16 (by decide) (by decide) ?_
  refine iloadN w X d30_16 17 rfl rfl ?_
  refine iloadN w X d30_17 18 rfl rfl ?_
  refine icmp_le w X d30_18 40 21 (by decide) (by decide) rfl (fun q => absurd q (by decide)) (fun hc18_11 => ?_)
  refine aloadN w X d30_21 22 rfl rfl rfl ?_
  refine iloadN w X d30_22 23 rfl rfl ?_
  refine iconst w X (1 : Int32) d30_23 24 rfl rfl ?_
  refine isub w X (9 : Int32) d30_24 25 rfl (by decide) ?_
  refine callVPI w X [(.int (9 : Int32))] (wd103 hw) (wd104 hw) (notFace_of_selects (args := #[]) (mvT w.2.2.2.2.1 (wd106 hw))) (wd106 hw) (wd105 hw) (wd41 hw) (wd107 hw) (by decide) E_t (rm_baG hw t arr [p0, p1, p2, p3, p4, p5, p6, p7, (120 : Int32), (32 : Int32), (111 : Int32), (114 : Int32), (10 : Int32), (60 : Int32), (10 : Int32), (45 : Int32), (45 : Int32), (10 : Int32), (32 : Int32)] 9 h n0 zn E_t F_bytes_t V_arr (Nat.le_of_ble_eq_true rfl) (Nat.le_of_ble_eq_true rfl)) d30_25 28 rfl 0 (by decide) (by decide) (lenOf pd8 rfl) rfl (Nat.le_of_eq rfl) rfl (by decide) (by decide) (fun r12 T X hq => ?_)
  obtain rfl : r12 = (32 : Int32) := hq
  refine callSPI w X [(.int (32 : Int32))] (wd155 hw) (wd156 hw) (wd41 hw) (wd157 hw) (by decide) (rm_own_lt hw (32 : Int32) h n0 zn) d30_28 31 rfl 0 (by decide) (by decide) (lenOf pd5 rfl) rfl (Nat.le_of_eq rfl) rfl (by decide) (by decide) (fun r13 T X hq => ?_)
  obtain rfl : r13 = (0 : Int32) := hq.trans (by decide)
  refine if_eq w X d30_31 40 34 (by decide) (by decide) rfl (fun hc31_14 => ?_) (fun q => absurd q (by decide))
  refine iloadN w X d30_40 41 rfl rfl ?_
  refine iloadN w X d30_41 42 rfl rfl ?_
  refine icmp_eq w X d30_42 56 45 (by decide) (by decide) rfl (fun q => absurd q (by decide)) (fun hc42_15 => ?_)
  refine aloadN w X d30_45 46 rfl rfl rfl ?_
  refine iloadN w X d30_46 47 rfl rfl ?_
  refine callVPI w X [(.int (10 : Int32))] (wd103 hw) (wd104 hw) (notFace_of_selects (args := #[]) (mvT w.2.2.2.2.1 (wd106 hw))) (wd106 hw) (wd105 hw) (wd41 hw) (wd107 hw) (by decide) E_t (rm_baG hw t arr [p0, p1, p2, p3, p4, p5, p6, p7, (120 : Int32), (32 : Int32), (111 : Int32), (114 : Int32), (10 : Int32), (60 : Int32), (10 : Int32), (45 : Int32), (45 : Int32), (10 : Int32), (32 : Int32)] 10 h n0 zn E_t F_bytes_t V_arr (Nat.le_of_ble_eq_true rfl) (Nat.le_of_ble_eq_true rfl)) d30_47 50 rfl 0 (by decide) (by decide) (lenOf pd8 rfl) rfl (Nat.le_of_eq rfl) rfl (by decide) (by decide) (fun r16 T X hq => ?_)
  obtain rfl : r16 = (111 : Int32) := hq
  refine callSPI w X [(.int (111 : Int32))] (wd164 hw) (wd162 hw) (wd41 hw) (wd163 hw) (by decide) (rm_own_lw hw (111 : Int32) h n0 zn) d30_50 53 rfl 0 (by decide) (by decide) (lenOf pd5 rfl) rfl (Nat.le_of_eq rfl) rfl (by decide) (by decide) (fun r17 T X hq => ?_)
  obtain rfl : r17 = (1 : Int32) := hq.trans (by decide)
  refine if_ne w X d30_53 58 56 (by decide) (by decide) rfl (fun hc53_18 => ?_) (fun q => absurd q (by decide))
  refine iloadN w X d30_58 59 rfl rfl ?_
  refine iloadN w X d30_59 60 rfl rfl ?_
  refine icmp_le w X d30_60 77 63 (by decide) (by decide) rfl (fun q => absurd q (by decide)) (fun hc60_19 => ?_)
  refine aloadN w X d30_63 64 rfl rfl rfl ?_
  refine iloadN w X d30_64 65 rfl rfl ?_
  refine iconst w X (1 : Int32) d30_65 66 rfl rfl ?_
  refine isub w X (9 : Int32) d30_66 67 rfl (by decide) ?_
  refine callVPI w X [(.int (9 : Int32))] (wd103 hw) (wd104 hw) (notFace_of_selects (args := #[]) (mvT w.2.2.2.2.1 (wd106 hw))) (wd106 hw) (wd105 hw) (wd41 hw) (wd107 hw) (by decide) E_t (rm_baG hw t arr [p0, p1, p2, p3, p4, p5, p6, p7, (120 : Int32), (32 : Int32), (111 : Int32), (114 : Int32), (10 : Int32), (60 : Int32), (10 : Int32), (45 : Int32), (45 : Int32), (10 : Int32), (32 : Int32)] 9 h n0 zn E_t F_bytes_t V_arr (Nat.le_of_ble_eq_true rfl) (Nat.le_of_ble_eq_true rfl)) d30_67 70 rfl 0 (by decide) (by decide) (lenOf pd8 rfl) rfl (Nat.le_of_eq rfl) rfl (by decide) (by decide) (fun r20 T X hq => ?_)
  obtain rfl : r20 = (32 : Int32) := hq
  refine bipush w X (46 : Int32) d30_70 72 rfl rfl ?_
  refine icmp_ne w X d30_72 77 75 (by decide) (by decide) rfl (fun hc72_21 => ?_) (fun q => absurd q (by decide))
  refine iloadN w X d30_77 78 rfl rfl ?_
  refine iloadN w X d30_78 79 rfl rfl ?_
  refine isub w X (2 : Int32) d30_79 80 rfl (by decide) ?_
  refine iconst w X (3 : Int32) d30_80 81 rfl rfl ?_
  refine icmp_ne w X d30_81 95 84 (by decide) (by decide) rfl (fun hc81_22 => ?_) (fun q => absurd q (by decide))
  refine iloadN w X d30_95 96 rfl rfl ?_
  refine iloadN w X d30_96 97 rfl rfl ?_
  refine isub w X (2 : Int32) d30_97 98 rfl (by decide) ?_
  refine iconst w X (2 : Int32) d30_98 99 rfl rfl ?_
  refine icmp_ne w X d30_99 117 102 (by decide) (by decide) rfl (fun q => absurd q (by decide)) (fun hc99_23 => ?_)
  refine aloadN w X d30_102 103 rfl rfl rfl ?_
  refine iloadN w X d30_103 104 rfl rfl ?_
  refine iloadN w X d30_104 105 rfl rfl ?_
  refine ldcHt w X ws zk hC (own_EW hw) (by decide) (wd183 hw) (own_wS hw) [(111 : Int32), (114 : Int32)] ⟨by decide, by decide⟩ (2 : Int32) (by decide) (by decide) d30_105 107 rfl 8 (by decide) (by decide) (by decide) (by decide) (fun s k0 T h24 sa25 sv26 w X ws zk hC E E_sa25 F_coder_sa25 F_value_sa25 V_sv26 hss => ?_)
  have zn : n0 ≤ h24.size := Nat.le_trans zn E.1
  have E_t := E_t.ext E
  have F_bytes_t := F_bytes_t.ext E
  have V_arr := V_arr.ext E
  have S_cs := S_cs.ext E
  have S_sio := S_sio.ext E
  have K := K.ext E
  refine callVPI w X [(.int (10 : Int32)), (.int (12 : Int32)), (.ref sa25)] (wd132 hw) (wd133 hw) (notFace_of_selects (args := #[]) (mvT w.2.2.2.2.1 (wd135 hw))) (wd135 hw) (wd134 hw) (wd41 hw) (wd136 hw) (by decide) E_t (rm_startsWith_87 hw t arr p0 p1 p2 p3 p4 p5 p6 p7 cs sio sa25 sv26 h24 n0 zn E_t F_bytes_t V_arr S_cs hcs S_sio hsio E_sa25 F_value_sa25 V_sv26 F_coder_sa25) d30_107 110 rfl 0 (by decide) (by decide) (lenOf pd12 rfl) rfl (Nat.le_of_eq rfl) rfl (by decide) (by decide) (fun r27 T X hq => ?_)
  subst hq
  refine if_eq w X d30_110 117 113 (by decide) (by decide) rfl (fun q => absurd q (by decide)) (fun hc110_28 => ?_)
  refine iconst w X (1 : Int32) d30_113 114 rfl rfl ?_
  refine goto w X d30_114 118 (by decide) (by decide) ?_
  refine istore w X (1 : Int32) d30_118 120 rfl rfl #[.val (.ref t), .val (.int (8 : Int32)), .val (.int (12 : Int32)), .val (.int (10 : Int32)), .val (.int (1 : Int32)), .unset] rfl ?_
  refine iload w X d30_120 122 rfl rfl ?_
  refine if_ne w X d30_122 127 125 (by decide) (by decide) rfl (fun hc122_29 => ?_) (fun q => absurd q (by decide))
  refine iloadN w X d30_127 128 rfl rfl ?_
  refine istore w X (10 : Int32) d30_128 130 rfl rfl #[.val (.ref t), .val (.int (8 : Int32)), .val (.int (12 : Int32)), .val (.int (10 : Int32)), .val (.int (1 : Int32)), .val (.int (10 : Int32))] rfl ?_
  refine iload w X d30_130 132 rfl rfl ?_
  refine iloadN w X d30_132 133 rfl rfl ?_
  refine icmp_le w X d30_133 156 136 (by decide) (by decide) rfl (fun q => absurd q (by decide)) (fun hc133_30 => ?_)
  refine aloadN w X d30_136 137 rfl rfl rfl ?_
  refine iload w X d30_137 139 rfl rfl ?_
  refine iconst w X (1 : Int32) d30_139 140 rfl rfl ?_
  refine isub w X (9 : Int32) d30_140 141 rfl (by decide) ?_
  refine callVPI w X [(.int (9 : Int32))] (wd103 hw) (wd104 hw) (notFace_of_selects (args := #[]) (mvT w.2.2.2.2.1 (wd106 hw))) (wd106 hw) (wd105 hw) (wd41 hw) (wd107 hw) (by decide) E_t (rm_baG hw t arr [p0, p1, p2, p3, p4, p5, p6, p7, (120 : Int32), (32 : Int32), (111 : Int32), (114 : Int32), (10 : Int32), (60 : Int32), (10 : Int32), (45 : Int32), (45 : Int32), (10 : Int32), (32 : Int32)] 9 h24 n0 zn E_t F_bytes_t V_arr (Nat.le_of_ble_eq_true rfl) (Nat.le_of_ble_eq_true rfl)) d30_141 144 rfl 0 (by decide) (by decide) (lenOf pd8 rfl) rfl (Nat.le_of_eq rfl) rfl (by decide) (by decide) (fun r31 T X hq => ?_)
  obtain rfl : r31 = (32 : Int32) := hq
  refine callSPI w X [(.int (32 : Int32))] (wd108 hw) (wd109 hw) (wd70 hw) (wd110 hw) (by decide) (rm_own_sp2 hw (32 : Int32) h24 n0 zn) d30_144 147 rfl 0 (by decide) (by decide) (lenOf pd5 rfl) rfl (Nat.le_of_eq rfl) rfl (by decide) (by decide) (fun r32 T X hq => ?_)
  obtain rfl : r32 = (1 : Int32) := hq.trans (by decide)
  refine if_eq w X d30_147 156 150 (by decide) (by decide) rfl (fun q => absurd q (by decide)) (fun hc147_33 => ?_)
  refine iinc w X (9 : Int32) d30_150 153 rfl rfl (by decide) #[.val (.ref t), .val (.int (8 : Int32)), .val (.int (12 : Int32)), .val (.int (10 : Int32)), .val (.int (1 : Int32)), .val (.int (9 : Int32))] rfl ?_
  refine goto w X d30_153 130 (by decide) (by decide) ?_
  refine iload w X d30_130 132 rfl rfl ?_
  refine iloadN w X d30_132 133 rfl rfl ?_
  refine icmp_le w X d30_133 156 136 (by decide) (by decide) rfl (fun q => absurd q (by decide)) (fun hc133_34 => ?_)
  refine aloadN w X d30_136 137 rfl rfl rfl ?_
  refine iload w X d30_137 139 rfl rfl ?_
  refine iconst w X (1 : Int32) d30_139 140 rfl rfl ?_
  refine isub w X (8 : Int32) d30_140 141 rfl (by decide) ?_
  refine callVPI w X [(.int (8 : Int32))] (wd103 hw) (wd104 hw) (notFace_of_selects (args := #[]) (mvT w.2.2.2.2.1 (wd106 hw))) (wd106 hw) (wd105 hw) (wd41 hw) (wd107 hw) (by decide) E_t (rm_baG hw t arr [p0, p1, p2, p3, p4, p5, p6, p7, (120 : Int32), (32 : Int32), (111 : Int32), (114 : Int32), (10 : Int32), (60 : Int32), (10 : Int32), (45 : Int32), (45 : Int32), (10 : Int32), (32 : Int32)] 8 h24 n0 zn E_t F_bytes_t V_arr (Nat.le_of_ble_eq_true rfl) (Nat.le_of_ble_eq_true rfl)) d30_141 144 rfl 0 (by decide) (by decide) (lenOf pd8 rfl) rfl (Nat.le_of_eq rfl) rfl (by decide) (by decide) (fun r35 T X hq => ?_)
  obtain rfl : r35 = (120 : Int32) := hq
  refine callSPI w X [(.int (120 : Int32))] (wd108 hw) (wd109 hw) (wd70 hw) (wd110 hw) (by decide) (rm_own_sp2 hw (120 : Int32) h24 n0 zn) d30_144 147 rfl 0 (by decide) (by decide) (lenOf pd5 rfl) rfl (Nat.le_of_eq rfl) rfl (by decide) (by decide) (fun r36 T X hq => ?_)
  obtain rfl : r36 = (0 : Int32) := hq.trans (by decide)
  refine if_eq w X d30_147 156 150 (by decide) (by decide) rfl (fun hc147_37 => ?_) (fun q => absurd q (by decide))
  refine iload w X d30_156 158 rfl rfl ?_
  refine iloadN w X d30_158 159 rfl rfl ?_
  refine icmp_le w X d30_159 179 162 (by decide) (by decide) rfl (fun q => absurd q (by decide)) (fun hc159_38 => ?_)
  refine aloadN w X d30_162 163 rfl rfl rfl ?_
  refine iload w X d30_163 165 rfl rfl ?_
  refine iconst w X (1 : Int32) d30_165 166 rfl rfl ?_
  refine isub w X (8 : Int32) d30_166 167 rfl (by decide) ?_
  refine callVPI w X [(.int (8 : Int32))] (wd103 hw) (wd104 hw) (notFace_of_selects (args := #[]) (mvT w.2.2.2.2.1 (wd106 hw))) (wd106 hw) (wd105 hw) (wd41 hw) (wd107 hw) (by decide) E_t (rm_baG hw t arr [p0, p1, p2, p3, p4, p5, p6, p7, (120 : Int32), (32 : Int32), (111 : Int32), (114 : Int32), (10 : Int32), (60 : Int32), (10 : Int32), (45 : Int32), (45 : Int32), (10 : Int32), (32 : Int32)] 8 h24 n0 zn E_t F_bytes_t V_arr (Nat.le_of_ble_eq_true rfl) (Nat.le_of_ble_eq_true rfl)) d30_167 170 rfl 0 (by decide) (by decide) (lenOf pd8 rfl) rfl (Nat.le_of_eq rfl) rfl (by decide) (by decide) (fun r39 T X hq => ?_)
  obtain rfl : r39 = (120 : Int32) := hq
  refine bipush w X (59 : Int32) d30_170 172 rfl rfl ?_
  refine icmp_eq w X d30_172 179 175 (by decide) (by decide) rfl (fun q => absurd q (by decide)) (fun hc172_40 => ?_)
  refine iconst w X (1 : Int32) d30_175 176 rfl rfl ?_
  refine goto w X d30_176 180 (by decide) (by decide) ?_
  refine retN w X (t := .boolean) rfl (by simp) d30_180 (by decide) (by decide) ?_
  refine And.intro zk (And.intro hC ?_)
  exact ⟨(1 : Int32), rfl, K, rfl⟩
theorem d30_75 : decode prog_47_method_21_code 75 = .ok (.iconst 0, 1) := by decide +kernel
theorem d30_76 : decode prog_47_method_21_code 76 = .ok (.ireturn, 1) := by decide +kernel
set_option maxRecDepth 65536 in
set_option maxHeartbeats 40000000 in
theorem rm_endsMidSentence_90 {l : Launch} {Z : State} {a0 : Array Value} (hw : ∀ d ∈ tables_1, d.before a0 Z = true) (t arr : Addr) (p0 p1 p2 p3 p4 p5 p6 p7 : Int32) (cs : Int32) (sio : Value) (h : Heap) (n0 : Nat) (zn : n0 ≤ h.size) (E_t : Exa Z h t "com/example/clauseline/clauseline/ContractText") (F_bytes_t : Fld Z h t "com/example/clauseline/clauseline/ContractText" "bytes" "[B" (.ref arr)) (V_arr : PA Z h arr .byte [p0, p1, p2, p3, p4, p5, p6, p7, (97 : Int32), (98 : Int32), (99 : Int32), (44 : Int32), (10 : Int32), (60 : Int32), (10 : Int32), (45 : Int32), (45 : Int32), (10 : Int32), (32 : Int32)]) (S_cs : Sta Z h "java/lang/String" "COMPACT_STRINGS" "Z" (.int cs)) (hcs : ¬ cs = 0) (S_sio : Sta Z h "jdk/internal/util/Preconditions" "SIOOBE_FORMATTER" "Ljava/util/function/BiFunction;" sio) (hsio : sio.isRef = true) :
    MetH consts_1 l Z (⟨"com/example/clauseline/clauseline/LineWrap", "endsMidSentence", "(Lcom/example/clauseline/clauseline/ContractText;II)Z"⟩ : MethodName) prog_47_method_21_code 6 (some .boolean) [] ({ frames := 5, cells := 2, slots := 12, locals := 70 } : Room) #[(.ref t), (.int (8 : Int32)), (.int (12 : Int32))] h n0 (RI fun r h' => Keep h h' [] ∧ r = (1 : Int32)) := by
  refine startH (own_EW hw) (ls := #[.val (.ref t), .val (.int (8 : Int32)), .val (.int (12 : Int32)), .unset, .unset, .unset]) (plainFor_of_name pn20) (fun m => by first | (simp [entryFrame, mkF, argsToLocals, Value.category]; done) | rfl) ?_
  intro p e s0 m below meth c T G s k0 w X ws zk hC
  have K := Keep.refl h []
  refine aloadN w X d30_0 1 rfl rfl rfl ?_
  refine iloadN w X d30_1 2 rfl rfl ?_
  refine iconst w X (1 : Int32) d30_2 3 rfl rfl ?_
  refine isub w X (11 : Int32) d30_3 4 rfl (by decide) ?_
  refine callVPI w X [(.int (11 : Int32))] (wd103 hw) (wd104 hw) (notFace_of_selects (args := #[]) (mvT w.2.2.2.2.1 (wd106 hw))) (wd106 hw) (wd105 hw) (wd41 hw) (wd107 hw) (by decide) E_t (rm_baG hw t arr [p0, p1, p2, p3, p4, p5, p6, p7, (97 : Int32), (98 : Int32), (99 : Int32), (44 : Int32), (10 : Int32), (60 : Int32), (10 : Int32), (45 : Int32), (45 : Int32), (10 : Int32), (32 : Int32)] 11 h n0 zn E_t F_bytes_t V_arr (Nat.le_of_ble_eq_true rfl) (Nat.le_of_ble_eq_true rfl)) d30_4 7 rfl 0 (by decide) (by decide) (lenOf pd8 rfl) rfl (Nat.le_of_eq rfl) rfl (by decide) (by decide) (fun r1 T X hq => ?_)
  obtain rfl : r1 = (44 : Int32) := hq
  refine bipush w X (44 : Int32) d30_7 9 rfl rfl ?_
  refine icmp_ne w X d30_9 14 12 (by decide) (by decide) rfl (fun q => absurd q (by decide)) (fun hc9_2 => ?_)
  refine iconst w X (1 : Int32) d30_12 13 rfl rfl ?_
  refine retN w X (t := .boolean) rfl (by simp) d30_13 (by decide) (by decide) ?_
  refine And.intro zk (And.intro hC ?_)
  exact ⟨(1 : Int32), rfl, K, rfl⟩
set_option maxRecDepth 65536 in
set_option maxHeartbeats 40000000 in
theorem rm_endsMidSentence_91 {l : Launch} {Z : State} {a0 : Array Value} (hw : ∀ d ∈ tables_1, d.before a0 Z = true) (t arr : Addr) (p0 p1 p2 p3 p4 p5 p6 p7 : Int32) (cs : Int32) (sio : Value) (h : Heap) (n0 : Nat) (zn : n0 ≤ h.size) (E_t : Exa Z h t "com/example/clauseline/clauseline/ContractText") (F_bytes_t : Fld Z h t "com/example/clauseline/clauseline/ContractText" "bytes" "[B" (.ref arr)) (V_arr : PA Z h arr .byte [p0, p1, p2, p3, p4, p5, p6, p7, (120 : Int32), (32 : Int32), (65 : Int32), (98 : Int32), (10 : Int32), (60 : Int32), (10 : Int32), (45 : Int32), (45 : Int32), (10 : Int32), (32 : Int32)]) (S_cs : Sta Z h "java/lang/String" "COMPACT_STRINGS" "Z" (.int cs)) (hcs : ¬ cs = 0) (S_sio : Sta Z h "jdk/internal/util/Preconditions" "SIOOBE_FORMATTER" "Ljava/util/function/BiFunction;" sio) (hsio : sio.isRef = true) :
    MetH consts_1 l Z (⟨"com/example/clauseline/clauseline/LineWrap", "endsMidSentence", "(Lcom/example/clauseline/clauseline/ContractText;II)Z"⟩ : MethodName) prog_47_method_21_code 6 (some .boolean) [] ({ frames := 5, cells := 2, slots := 12, locals := 70 } : Room) #[(.ref t), (.int (8 : Int32)), (.int (12 : Int32))] h n0 (RI fun r h' => Keep h h' [] ∧ r = (0 : Int32)) := by
  refine startH (own_EW hw) (ls := #[.val (.ref t), .val (.int (8 : Int32)), .val (.int (12 : Int32)), .unset, .unset, .unset]) (plainFor_of_name pn20) (fun m => by first | (simp [entryFrame, mkF, argsToLocals, Value.category]; done) | rfl) ?_
  intro p e s0 m below meth c T G s k0 w X ws zk hC
  have K := Keep.refl h []
  refine aloadN w X d30_0 1 rfl rfl rfl ?_
  refine iloadN w X d30_1 2 rfl rfl ?_
  refine iconst w X (1 : Int32) d30_2 3 rfl rfl ?_
  refine isub w X (11 : Int32) d30_3 4 rfl (by decide) ?_
  refine callVPI w X [(.int (11 : Int32))] (wd103 hw) (wd104 hw) (notFace_of_selects (args := #[]) (mvT w.2.2.2.2.1 (wd106 hw))) (wd106 hw) (wd105 hw) (wd41 hw) (wd107 hw) (by decide) E_t (rm_baG hw t arr [p0, p1, p2, p3, p4, p5, p6, p7, (120 : Int32), (32 : Int32), (65 : Int32), (98 : Int32), (10 : Int32), (60 : Int32), (10 : Int32), (45 : Int32), (45 : Int32), (10 : Int32), (32 : Int32)] 11 h n0 zn E_t F_bytes_t V_arr (Nat.le_of_ble_eq_true rfl) (Nat.le_of_ble_eq_true rfl)) d30_4 7 rfl 0 (by decide) (by decide) (lenOf pd8 rfl) rfl (Nat.le_of_eq rfl) rfl (by decide) (by decide) (fun r1 T X hq => ?_)
  obtain rfl : r1 = (98 : Int32) := hq
  refine bipush w X (44 : Int32) d30_7 9 rfl rfl ?_
  refine icmp_ne w X d30_9 14 12 (by decide) (by decide) rfl (fun hc9_2 => ?_) (fun q => absurd q (by decide))
  refine iloadN w X d30_14 15 rfl rfl ?_
  refine istoreN w X (12 : Int32) d30_15 16 rfl rfl #[.val (.ref t), .val (.int (8 : Int32)), .val (.int (12 : Int32)), .val (.int (12 : Int32)), .unset, .unset] rfl ?_
  refine iloadN w X d30_16 17 rfl rfl ?_
  refine iloadN w X d30_17 18 rfl rfl ?_
  refine icmp_le w X d30_18 40 21 (by decide) (by decide) rfl (fun q => absurd q (by decide)) (fun hc18_3 => ?_)
  refine aloadN w X d30_21 22 rfl rfl rfl ?_
  refine iloadN w X d30_22 23 rfl rfl ?_
  refine iconst w X (1 : Int32) d30_23 24 rfl rfl ?_
  refine isub w X (11 : Int32) d30_24 25 rfl (by decide) ?_
  refine callVPI w X [(.int (11 : Int32))] (wd103 hw) (wd104 hw) (notFace_of_selects (args := #[]) (mvT w.2.2.2.2.1 (wd106 hw))) (wd106 hw) (wd105 hw) (wd41 hw) (wd107 hw) (by decide) E_t (rm_baG hw t arr [p0, p1, p2, p3, p4, p5, p6, p7, (120 : Int32), (32 : Int32), (65 : Int32), (98 : Int32), (10 : Int32), (60 : Int32), (10 : Int32), (45 : Int32), (45 : Int32), (10 : Int32), (32 : Int32)] 11 h n0 zn E_t F_bytes_t V_arr (Nat.le_of_ble_eq_true rfl) (Nat.le_of_ble_eq_true rfl)) d30_25 28 rfl 0 (by decide) (by decide) (lenOf pd8 rfl) rfl (Nat.le_of_eq rfl) rfl (by decide) (by decide) (fun r4 T X hq => ?_)
  obtain rfl : r4 = (98 : Int32) := hq
  refine callSPI w X [(.int (98 : Int32))] (wd155 hw) (wd156 hw) (wd41 hw) (wd157 hw) (by decide) (rm_own_lt hw (98 : Int32) h n0 zn) d30_28 31 rfl 0 (by decide) (by decide) (lenOf pd5 rfl) rfl (Nat.le_of_eq rfl) rfl (by decide) (by decide) (fun r5 T X hq => ?_)
  obtain rfl : r5 = (1 : Int32) := hq.trans (by decide)
  refine if_eq w X d30_31 40 34 (by decide) (by decide) rfl (fun q => absurd q (by decide)) (fun hc31_6 => ?_)
  refine iinc w X (11 : Int32) d30_34 37 rfl rfl (by decide) #[.val (.ref t), .val (.int (8 : Int32)), .val (.int (12 : Int32)), .val (.int (11 : Int32)), .unset, .unset] rfl ?_
  refine goto w X d30_37 16 (by decide) (by decide) ?_
  refine iloadN w X d30_16 17 rfl rfl ?_
  refine iloadN w X d30_17 18 rfl rfl ?_
  refine icmp_le w X d30_18 40 21 (by decide) (by decide) rfl (fun q => absurd q (by decide)) (fun hc18_7 => ?_)
  refine aloadN w X d30_21 22 rfl rfl rfl ?_
  refine iloadN w X d30_22 23 rfl rfl ?_
  refine iconst w X (1 : Int32) d30_23 24 rfl rfl ?_
  refine isub w X (10 : Int32) d30_24 25 rfl (by decide) ?_
  refine callVPI w X [(.int (10 : Int32))] (wd103 hw) (wd104 hw) (notFace_of_selects (args := #[]) (mvT w.2.2.2.2.1 (wd106 hw))) (wd106 hw) (wd105 hw) (wd41 hw) (wd107 hw) (by decide) E_t (rm_baG hw t arr [p0, p1, p2, p3, p4, p5, p6, p7, (120 : Int32), (32 : Int32), (65 : Int32), (98 : Int32), (10 : Int32), (60 : Int32), (10 : Int32), (45 : Int32), (45 : Int32), (10 : Int32), (32 : Int32)] 10 h n0 zn E_t F_bytes_t V_arr (Nat.le_of_ble_eq_true rfl) (Nat.le_of_ble_eq_true rfl)) d30_25 28 rfl 0 (by decide) (by decide) (lenOf pd8 rfl) rfl (Nat.le_of_eq rfl) rfl (by decide) (by decide) (fun r8 T X hq => ?_)
  obtain rfl : r8 = (65 : Int32) := hq
  refine callSPI w X [(.int (65 : Int32))] (wd155 hw) (wd156 hw) (wd41 hw) (wd157 hw) (by decide) (rm_own_lt hw (65 : Int32) h n0 zn) d30_28 31 rfl 0 (by decide) (by decide) (lenOf pd5 rfl) rfl (Nat.le_of_eq rfl) rfl (by decide) (by decide) (fun r9 T X hq => ?_)
  obtain rfl : r9 = (1 : Int32) := hq.trans (by decide)
  refine if_eq w X d30_31 40 34 (by decide) (by decide) rfl (fun q => absurd q (by decide)) (fun hc31_10 => ?_)
  refine iinc w X (10 : Int32) d30_34 37 rfl rfl (by decide) #[.val (.ref t), .val (.int (8 : Int32)), .val (.int (12 : Int32)), .val (.int (10 : Int32)), .unset, .unset] rfl ?_
  refine goto w X d30_37 16 (by decide) (by decide) ?_
  refine iloadN w X d30_16 17 rfl rfl ?_
  refine iloadN w X d30_17 18 rfl rfl ?_
  refine icmp_le w X d30_18 40 21 (by decide) (by decide) rfl (fun q => absurd q (by decide)) (fun hc18_11 => ?_)
  refine aloadN w X d30_21 22 rfl rfl rfl ?_
  refine iloadN w X d30_22 23 rfl rfl ?_
  refine iconst w X (1 : Int32) d30_23 24 rfl rfl ?_
  refine isub w X (9 : Int32) d30_24 25 rfl (by decide) ?_
  refine callVPI w X [(.int (9 : Int32))] (wd103 hw) (wd104 hw) (notFace_of_selects (args := #[]) (mvT w.2.2.2.2.1 (wd106 hw))) (wd106 hw) (wd105 hw) (wd41 hw) (wd107 hw) (by decide) E_t (rm_baG hw t arr [p0, p1, p2, p3, p4, p5, p6, p7, (120 : Int32), (32 : Int32), (65 : Int32), (98 : Int32), (10 : Int32), (60 : Int32), (10 : Int32), (45 : Int32), (45 : Int32), (10 : Int32), (32 : Int32)] 9 h n0 zn E_t F_bytes_t V_arr (Nat.le_of_ble_eq_true rfl) (Nat.le_of_ble_eq_true rfl)) d30_25 28 rfl 0 (by decide) (by decide) (lenOf pd8 rfl) rfl (Nat.le_of_eq rfl) rfl (by decide) (by decide) (fun r12 T X hq => ?_)
  obtain rfl : r12 = (32 : Int32) := hq
  refine callSPI w X [(.int (32 : Int32))] (wd155 hw) (wd156 hw) (wd41 hw) (wd157 hw) (by decide) (rm_own_lt hw (32 : Int32) h n0 zn) d30_28 31 rfl 0 (by decide) (by decide) (lenOf pd5 rfl) rfl (Nat.le_of_eq rfl) rfl (by decide) (by decide) (fun r13 T X hq => ?_)
  obtain rfl : r13 = (0 : Int32) := hq.trans (by decide)
  refine if_eq w X d30_31 40 34 (by decide) (by decide) rfl (fun hc31_14 => ?_) (fun q => absurd q (by decide))
  refine iloadN w X d30_40 41 rfl rfl ?_
  refine iloadN w X d30_41 42 rfl rfl ?_
  refine icmp_eq w X d30_42 56 45 (by decide) (by decide) rfl (fun q => absurd q (by decide)) (fun hc42_15 => ?_)
  refine aloadN w X d30_45 46 rfl rfl rfl ?_
  refine iloadN w X d30_46 47 rfl rfl ?_
  refine callVPI w X [(.int (10 : Int32))] (wd103 hw) (wd104 hw) (notFace_of_selects (args := #[]) (mvT w.2.2.2.2.1 (wd106 hw))) (wd106 hw) (wd105 hw) (wd41 hw) (wd107 hw) (by decide) E_t (rm_baG hw t arr [p0, p1, p2, p3, p4, p5, p6, p7, (120 : Int32), (32 : Int32), (65 : Int32), (98 : Int32), (10 : Int32), (60 : Int32), (10 : Int32), (45 : Int32), (45 : Int32), (10 : Int32), (32 : Int32)] 10 h n0 zn E_t F_bytes_t V_arr (Nat.le_of_ble_eq_true rfl) (Nat.le_of_ble_eq_true rfl)) d30_47 50 rfl 0 (by decide) (by decide) (lenOf pd8 rfl) rfl (Nat.le_of_eq rfl) rfl (by decide) (by decide) (fun r16 T X hq => ?_)
  obtain rfl : r16 = (65 : Int32) := hq
  refine callSPI w X [(.int (65 : Int32))] (wd164 hw) (wd162 hw) (wd41 hw) (wd163 hw) (by decide) (rm_own_lw hw (65 : Int32) h n0 zn) d30_50 53 rfl 0 (by decide) (by decide) (lenOf pd5 rfl) rfl (Nat.le_of_eq rfl) rfl (by decide) (by decide) (fun r17 T X hq => ?_)
  obtain rfl : r17 = (0 : Int32) := hq.trans (by decide)
  refine if_ne w X d30_53 58 56 (by decide) (by decide) rfl (fun q => absurd q (by decide)) (fun hc53_18 => ?_)
  refine iconst w X (0 : Int32) d30_56 57 rfl rfl ?_
  refine retN w X (t := .boolean) rfl (by simp) d30_57 (by decide) (by decide) ?_
  refine And.intro zk (And.intro hC ?_)
  exact ⟨(0 : Int32), rfl, K, rfl⟩
set_option maxRecDepth 65536 in
set_option maxHeartbeats 40000000 in
theorem rm_endsMidSentence_92 {l : Launch} {Z : State} {a0 : Array Value} (hw : ∀ d ∈ tables_1, d.before a0 Z = true) (t arr : Addr) (p0 p1 p2 p3 p4 p5 p6 p7 : Int32) (cs : Int32) (sio : Value) (h : Heap) (n0 : Nat) (zn : n0 ≤ h.size) (E_t : Exa Z h t "com/example/clauseline/clauseline/ContractText") (F_bytes_t : Fld Z h t "com/example/clauseline/clauseline/ContractText" "bytes" "[B" (.ref arr)) (V_arr : PA Z h arr .byte [p0, p1, p2, p3, p4, p5, p6, p7, (97 : Int32), (98 : Int32), (99 : Int32), (46 : Int32), (10 : Int32), (60 : Int32), (10 : Int32), (45 : Int32), (45 : Int32), (10 : Int32), (32 : Int32)]) (S_cs : Sta Z h "java/lang/String" "COMPACT_STRINGS" "Z" (.int cs)) (hcs : ¬ cs = 0) (S_sio : Sta Z h "jdk/internal/util/Preconditions" "SIOOBE_FORMATTER" "Ljava/util/function/BiFunction;" sio) (hsio : sio.isRef = true) :
    MetH consts_1 l Z (⟨"com/example/clauseline/clauseline/LineWrap", "endsMidSentence", "(Lcom/example/clauseline/clauseline/ContractText;II)Z"⟩ : MethodName) prog_47_method_21_code 6 (some .boolean) [] ({ frames := 5, cells := 2, slots := 12, locals := 70 } : Room) #[(.ref t), (.int (8 : Int32)), (.int (12 : Int32))] h n0 (RI fun r h' => Keep h h' [] ∧ r = (0 : Int32)) := by
  refine startH (own_EW hw) (ls := #[.val (.ref t), .val (.int (8 : Int32)), .val (.int (12 : Int32)), .unset, .unset, .unset]) (plainFor_of_name pn20) (fun m => by first | (simp [entryFrame, mkF, argsToLocals, Value.category]; done) | rfl) ?_
  intro p e s0 m below meth c T G s k0 w X ws zk hC
  have K := Keep.refl h []
  refine aloadN w X d30_0 1 rfl rfl rfl ?_
  refine iloadN w X d30_1 2 rfl rfl ?_
  refine iconst w X (1 : Int32) d30_2 3 rfl rfl ?_
  refine isub w X (11 : Int32) d30_3 4 rfl (by decide) ?_
  refine callVPI w X [(.int (11 : Int32))] (wd103 hw) (wd104 hw) (notFace_of_selects (args := #[]) (mvT w.2.2.2.2.1 (wd106 hw))) (wd106 hw) (wd105 hw) (wd41 hw) (wd107 hw) (by decide) E_t (rm_baG hw t arr [p0, p1, p2, p3, p4, p5, p6, p7, (97 : Int32), (98 : Int32), (99 : Int32), (46 : Int32), (10 : Int32), (60 : Int32), (10 : Int32), (45 : Int32), (45 : Int32), (10 : Int32), (32 : Int32)] 11 h n0 zn E_t F_bytes_t V_arr (Nat.le_of_ble_eq_true rfl) (Nat.le_of_ble_eq_true rfl)) d30_4 7 rfl 0 (by decide) (by decide) (lenOf pd8 rfl) rfl (Nat.le_of_eq rfl) rfl (by decide) (by decide) (fun r1 T X hq => ?_)
  obtain rfl : r1 = (46 : Int32) := hq
  refine bipush w X (44 : Int32) d30_7 9 rfl rfl ?_
  refine icmp_ne w X d30_9 14 12 (by decide) (by decide) rfl (fun hc9_2 => ?_) (fun q => absurd q (by decide))
  refine iloadN w X d30_14 15 rfl rfl ?_
  refine istoreN w X (12 : Int32) d30_15 16 rfl rfl #[.val (.ref t), .val (.int (8 : Int32)), .val (.int (12 : Int32)), .val (.int (12 : Int32)), .unset, .unset] rfl ?_
  refine iloadN w X d30_16 17 rfl rfl ?_
  refine iloadN w X d30_17 18 rfl rfl ?_
  refine icmp_le w X d30_18 40 21 (by decide) (by decide) rfl (fun q => absurd q (by decide)) (fun hc18_3 => ?_)
  refine aloadN w X d30_21 22 rfl rfl rfl ?_
  refine iloadN w X d30_22 23 rfl rfl ?_
  refine iconst w X (1 : Int32) d30_23 24 rfl rfl ?_
  refine isub w X (11 : Int32) d30_24 25 rfl (by decide) ?_
  refine callVPI w X [(.int (11 : Int32))] (wd103 hw) (wd104 hw) (notFace_of_selects (args := #[]) (mvT w.2.2.2.2.1 (wd106 hw))) (wd106 hw) (wd105 hw) (wd41 hw) (wd107 hw) (by decide) E_t (rm_baG hw t arr [p0, p1, p2, p3, p4, p5, p6, p7, (97 : Int32), (98 : Int32), (99 : Int32), (46 : Int32), (10 : Int32), (60 : Int32), (10 : Int32), (45 : Int32), (45 : Int32), (10 : Int32), (32 : Int32)] 11 h n0 zn E_t F_bytes_t V_arr (Nat.le_of_ble_eq_true rfl) (Nat.le_of_ble_eq_true rfl)) d30_25 28 rfl 0 (by decide) (by decide) (lenOf pd8 rfl) rfl (Nat.le_of_eq rfl) rfl (by decide) (by decide) (fun r4 T X hq => ?_)
  obtain rfl : r4 = (46 : Int32) := hq
  refine callSPI w X [(.int (46 : Int32))] (wd155 hw) (wd156 hw) (wd41 hw) (wd157 hw) (by decide) (rm_own_lt hw (46 : Int32) h n0 zn) d30_28 31 rfl 0 (by decide) (by decide) (lenOf pd5 rfl) rfl (Nat.le_of_eq rfl) rfl (by decide) (by decide) (fun r5 T X hq => ?_)
  obtain rfl : r5 = (0 : Int32) := hq.trans (by decide)
  refine if_eq w X d30_31 40 34 (by decide) (by decide) rfl (fun hc31_6 => ?_) (fun q => absurd q (by decide))
  refine iloadN w X d30_40 41 rfl rfl ?_
  refine iloadN w X d30_41 42 rfl rfl ?_
  refine icmp_eq w X d30_42 56 45 (by decide) (by decide) rfl (fun hc42_7 => ?_) (fun q => absurd q (by decide))
  refine iconst w X (0 : Int32) d30_56 57 rfl rfl ?_
  refine retN w X (t := .boolean) rfl (by simp) d30_57 (by decide) (by decide) ?_
  refine And.intro zk (And.intro hC ?_)
  exact ⟨(0 : Int32), rfl, K, rfl⟩
set_option maxRecDepth 65536 in
set_option maxHeartbeats 40000000 in
theorem rm_endsMidSentence_93 {l : Launch} {Z : State} {a0 : Array Value} (hw : ∀ d ∈ tables_1, d.before a0 Z = true) (t arr : Addr) (p0 p1 p2 p3 p4 p5 p6 p7 : Int32) (cs : Int32) (sio : Value) (h : Heap) (n0 : Nat) (zn : n0 ≤ h.size) (E_t : Exa Z h t "com/example/clauseline/clauseline/ContractText") (F_bytes_t : Fld Z h t "com/example/clauseline/clauseline/ContractText" "bytes" "[B" (.ref arr)) (V_arr : PA Z h arr .byte [p0, p1, p2, p3, p4, p5, p6, p7, (97 : Int32), (46 : Int32), (98 : Int32), (99 : Int32), (10 : Int32), (60 : Int32), (10 : Int32), (45 : Int32), (45 : Int32), (10 : Int32), (32 : Int32)]) (S_cs : Sta Z h "java/lang/String" "COMPACT_STRINGS" "Z" (.int cs)) (hcs : ¬ cs = 0) (S_sio : Sta Z h "jdk/internal/util/Preconditions" "SIOOBE_FORMATTER" "Ljava/util/function/BiFunction;" sio) (hsio : sio.isRef = true) :
    MetH consts_1 l Z (⟨"com/example/clauseline/clauseline/LineWrap", "endsMidSentence", "(Lcom/example/clauseline/clauseline/ContractText;II)Z"⟩ : MethodName) prog_47_method_21_code 6 (some .boolean) [] ({ frames := 5, cells := 2, slots := 12, locals := 70 } : Room) #[(.ref t), (.int (8 : Int32)), (.int (12 : Int32))] h n0 (RI fun r h' => Keep h h' [] ∧ r = (0 : Int32)) := by
  refine startH (own_EW hw) (ls := #[.val (.ref t), .val (.int (8 : Int32)), .val (.int (12 : Int32)), .unset, .unset, .unset]) (plainFor_of_name pn20) (fun m => by first | (simp [entryFrame, mkF, argsToLocals, Value.category]; done) | rfl) ?_
  intro p e s0 m below meth c T G s k0 w X ws zk hC
  have K := Keep.refl h []
  refine aloadN w X d30_0 1 rfl rfl rfl ?_
  refine iloadN w X d30_1 2 rfl rfl ?_
  refine iconst w X (1 : Int32) d30_2 3 rfl rfl ?_
  refine isub w X (11 : Int32) d30_3 4 rfl (by decide) ?_
  refine callVPI w X [(.int (11 : Int32))] (wd103 hw) (wd104 hw) (notFace_of_selects (args := #[]) (mvT w.2.2.2.2.1 (wd106 hw))) (wd106 hw) (wd105 hw) (wd41 hw) (wd107 hw) (by decide) E_t (rm_baG hw t arr [p0, p1, p2, p3, p4, p5, p6, p7, (97 : Int32), (46 : Int32), (98 : Int32), (99 : Int32), (10 : Int32), (60 : Int32), (10 : Int32), (45 : Int32), (45 : Int32), (10 : Int32), (32 : Int32)] 11 h n0 zn E_t F_bytes_t V_arr (Nat.le_of_ble_eq_true rfl) (Nat.le_of_ble_eq_true rfl)) d30_4 7 rfl 0 (by decide) (by decide) (lenOf pd8 rfl) rfl (Nat.le_of_eq rfl) rfl (by decide) (by decide) (fun r1 T X hq => ?_)
  obtain rfl : r1 = (99 : Int32) := hq
  refine bipush w X (44 : Int32) d30_7 9 rfl rfl ?_
  refine icmp_ne w X d30_9 14 12 (by decide) (by decide) rfl (fun hc9_2 => ?_) (fun q => absurd q (by decide))
  refine iloadN w X d30_14 15 rfl rfl ?_
  refine istoreN w X (12 : Int32) d30_15 16 rfl rfl #[.val (.ref t), .val (.int (8 : Int32)), .val (.int (12 : Int32)), .val (.int (12 : Int32)), .unset, .unset] rfl ?_
  refine iloadN w X d30_16 17 rfl rfl ?_
  refine iloadN w X d30_17 18 rfl rfl ?_
  refine icmp_le w X d30_18 40 21 (by decide) (by decide) rfl (fun q => absurd q (by decide)) (fun hc18_3 => ?_)
  refine aloadN w X d30_21 22 rfl rfl rfl ?_
  refine iloadN w X d30_22 23 rfl rfl ?_
  refine iconst w X (1 : Int32) d30_23 24 rfl rfl ?_
  refine isub w X (11 : Int32) d30_24 25 rfl (by decide) ?_
  refine callVPI w X [(.int (11 : Int32))] (wd103 hw) (wd104 hw) (notFace_of_selects (args := #[]) (mvT w.2.2.2.2.1 (wd106 hw))) (wd106 hw) (wd105 hw) (wd41 hw) (wd107 hw) (by decide) E_t (rm_baG hw t arr [p0, p1, p2, p3, p4, p5, p6, p7, (97 : Int32), (46 : Int32), (98 : Int32), (99 : Int32), (10 : Int32), (60 : Int32), (10 : Int32), (45 : Int32), (45 : Int32), (10 : Int32), (32 : Int32)] 11 h n0 zn E_t F_bytes_t V_arr (Nat.le_of_ble_eq_true rfl) (Nat.le_of_ble_eq_true rfl)) d30_25 28 rfl 0 (by decide) (by decide) (lenOf pd8 rfl) rfl (Nat.le_of_eq rfl) rfl (by decide) (by decide) (fun r4 T X hq => ?_)
  obtain rfl : r4 = (99 : Int32) := hq
  refine callSPI w X [(.int (99 : Int32))] (wd155 hw) (wd156 hw) (wd41 hw) (wd157 hw) (by decide) (rm_own_lt hw (99 : Int32) h n0 zn) d30_28 31 rfl 0 (by decide) (by decide) (lenOf pd5 rfl) rfl (Nat.le_of_eq rfl) rfl (by decide) (by decide) (fun r5 T X hq => ?_)
  obtain rfl : r5 = (1 : Int32) := hq.trans (by decide)
  refine if_eq w X d30_31 40 34 (by decide) (by decide) rfl (fun q => absurd q (by decide)) (fun hc31_6 => ?_)
  refine iinc w X (11 : Int32) d30_34 37 rfl rfl (by decide) #[.val (.ref t), .val (.int (8 : Int32)), .val (.int (12 : Int32)), .val (.int (11 : Int32)), .unset, .unset] rfl ?_
  refine goto w X d30_37 16 (by decide) (by decide) ?_
  refine iloadN w X d30_16 17 rfl rfl ?_
  refine iloadN w X d30_17 18 rfl rfl ?_
  refine icmp_le w X d30_18 40 21 (by decide) (by decide) rfl (fun q => absurd q (by decide)) (fun hc18_7 => ?_)
  refine aloadN w X d30_21 22 rfl rfl rfl ?_
  refine iloadN w X d30_22 23 rfl rfl ?_
  refine iconst w X (1 : Int32) d30_23 24 rfl rfl ?_
  refine isub w X (10 : Int32) d30_24 25 rfl (by decide) ?_
  refine callVPI w X [(.int (10 : Int32))] (wd103 hw) (wd104 hw) (notFace_of_selects (args := #[]) (mvT w.2.2.2.2.1 (wd106 hw))) (wd106 hw) (wd105 hw) (wd41 hw) (wd107 hw) (by decide) E_t (rm_baG hw t arr [p0, p1, p2, p3, p4, p5, p6, p7, (97 : Int32), (46 : Int32), (98 : Int32), (99 : Int32), (10 : Int32), (60 : Int32), (10 : Int32), (45 : Int32), (45 : Int32), (10 : Int32), (32 : Int32)] 10 h n0 zn E_t F_bytes_t V_arr (Nat.le_of_ble_eq_true rfl) (Nat.le_of_ble_eq_true rfl)) d30_25 28 rfl 0 (by decide) (by decide) (lenOf pd8 rfl) rfl (Nat.le_of_eq rfl) rfl (by decide) (by decide) (fun r8 T X hq => ?_)
  obtain rfl : r8 = (98 : Int32) := hq
  refine callSPI w X [(.int (98 : Int32))] (wd155 hw) (wd156 hw) (wd41 hw) (wd157 hw) (by decide) (rm_own_lt hw (98 : Int32) h n0 zn) d30_28 31 rfl 0 (by decide) (by decide) (lenOf pd5 rfl) rfl (Nat.le_of_eq rfl) rfl (by decide) (by decide) (fun r9 T X hq => ?_)
  obtain rfl : r9 = (1 : Int32) := hq.trans (by decide)
  refine if_eq w X d30_31 40 34 (by decide) (by decide) rfl (fun q => absurd q (by decide)) (fun hc31_10 => ?_)
  refine iinc w X (10 : Int32) d30_34 37 rfl rfl (by decide) #[.val (.ref t), .val (.int (8 : Int32)), .val (.int (12 : Int32)), .val (.int (10 : Int32)), .unset, .unset] rfl ?_
  refine goto w X d30_37 16 (by decide) (by decide) ?_
  refine iloadN w X d30_16 17 rfl rfl ?_
  refine iloadN w X d30_17 18 rfl rfl ?_
  refine icmp_le w X d30_18 40 21 (by decide) (by decide) rfl (fun q => absurd q (by decide)) (fun hc18_11 => ?_)
  refine aloadN w X d30_21 22 rfl rfl rfl ?_
  refine iloadN w X d30_22 23 rfl rfl ?_
  refine iconst w X (1 : Int32) d30_23 24 rfl rfl ?_
  refine isub w X (9 : Int32) d30_24 25 rfl (by decide) ?_
  refine callVPI w X [(.int (9 : Int32))] (wd103 hw) (wd104 hw) (notFace_of_selects (args := #[]) (mvT w.2.2.2.2.1 (wd106 hw))) (wd106 hw) (wd105 hw) (wd41 hw) (wd107 hw) (by decide) E_t (rm_baG hw t arr [p0, p1, p2, p3, p4, p5, p6, p7, (97 : Int32), (46 : Int32), (98 : Int32), (99 : Int32), (10 : Int32), (60 : Int32), (10 : Int32), (45 : Int32), (45 : Int32), (10 : Int32), (32 : Int32)] 9 h n0 zn E_t F_bytes_t V_arr (Nat.le_of_ble_eq_true rfl) (Nat.le_of_ble_eq_true rfl)) d30_25 28 rfl 0 (by decide) (by decide) (lenOf pd8 rfl) rfl (Nat.le_of_eq rfl) rfl (by decide) (by decide) (fun r12 T X hq => ?_)
  obtain rfl : r12 = (46 : Int32) := hq
  refine callSPI w X [(.int (46 : Int32))] (wd155 hw) (wd156 hw) (wd41 hw) (wd157 hw) (by decide) (rm_own_lt hw (46 : Int32) h n0 zn) d30_28 31 rfl 0 (by decide) (by decide) (lenOf pd5 rfl) rfl (Nat.le_of_eq rfl) rfl (by decide) (by decide) (fun r13 T X hq => ?_)
  obtain rfl : r13 = (0 : Int32) := hq.trans (by decide)
  refine if_eq w X d30_31 40 34 (by decide) (by decide) rfl (fun hc31_14 => ?_) (fun q => absurd q (by decide))
  refine iloadN w X d30_40 41 rfl rfl ?_
  refine iloadN w X d30_41 42 rfl rfl ?_
  refine icmp_eq w X d30_42 56 45 (by decide) (by decide) rfl (fun q => absurd q (by decide)) (fun hc42_15 => ?_)
  refine aloadN w X d30_45 46 rfl rfl rfl ?_
  refine iloadN w X d30_46 47 rfl rfl ?_
  refine callVPI w X [(.int (10 : Int32))] (wd103 hw) (wd104 hw) (notFace_of_selects (args := #[]) (mvT w.2.2.2.2.1 (wd106 hw))) (wd106 hw) (wd105 hw) (wd41 hw) (wd107 hw) (by decide) E_t (rm_baG hw t arr [p0, p1, p2, p3, p4, p5, p6, p7, (97 : Int32), (46 : Int32), (98 : Int32), (99 : Int32), (10 : Int32), (60 : Int32), (10 : Int32), (45 : Int32), (45 : Int32), (10 : Int32), (32 : Int32)] 10 h n0 zn E_t F_bytes_t V_arr (Nat.le_of_ble_eq_true rfl) (Nat.le_of_ble_eq_true rfl)) d30_47 50 rfl 0 (by decide) (by decide) (lenOf pd8 rfl) rfl (Nat.le_of_eq rfl) rfl (by decide) (by decide) (fun r16 T X hq => ?_)
  obtain rfl : r16 = (98 : Int32) := hq
  refine callSPI w X [(.int (98 : Int32))] (wd164 hw) (wd162 hw) (wd41 hw) (wd163 hw) (by decide) (rm_own_lw hw (98 : Int32) h n0 zn) d30_50 53 rfl 0 (by decide) (by decide) (lenOf pd5 rfl) rfl (Nat.le_of_eq rfl) rfl (by decide) (by decide) (fun r17 T X hq => ?_)
  obtain rfl : r17 = (1 : Int32) := hq.trans (by decide)
  refine if_ne w X d30_53 58 56 (by decide) (by decide) rfl (fun hc53_18 => ?_) (fun q => absurd q (by decide))
  refine iloadN w X d30_58 59 rfl rfl ?_
  refine iloadN w X d30_59 60 rfl rfl ?_
  refine icmp_le w X d30_60 77 63 (by decide) (by decide) rfl (fun q => absurd q (by decide)) (fun hc60_19 => ?_)
  refine aloadN w X d30_63 64 rfl rfl rfl ?_
  refine iloadN w X d30_64 65 rfl rfl ?_
  refine iconst w X (1 : Int32) d30_65 66 rfl rfl ?_
  refine isub w X (9 : Int32) d30_66 67 rfl (by decide) ?_
  refine callVPI w X [(.int (9 : Int32))] (wd103 hw) (wd104 hw) (notFace_of_selects (args := #[]) (mvT w.2.2.2.2.1 (wd106 hw))) (wd106 hw) (wd105 hw) (wd41 hw) (wd107 hw) (by decide) E_t (rm_baG hw t arr [p0, p1, p2, p3, p4, p5, p6, p7, (97 : Int32), (46 : Int32), (98 : Int32), (99 : Int32), (10 : Int32), (60 : Int32), (10 : Int32), (45 : Int32), (45 : Int32), (10 : Int32), (32 : Int32)] 9 h n0 zn E_t F_bytes_t V_arr (Nat.le_of_ble_eq_true rfl) (Nat.le_of_ble_eq_true rfl)) d30_67 70 rfl 0 (by decide) (by decide) (lenOf pd8 rfl) rfl (Nat.le_of_eq rfl) rfl (by decide) (by decide) (fun r20 T X hq => ?_)
  obtain rfl : r20 = (46 : Int32) := hq
  refine bipush w X (46 : Int32) d30_70 72 rfl rfl ?_
  refine icmp_ne w X d30_72 77 75 (by decide) (by decide) rfl (fun q => absurd q (by decide)) (fun hc72_21 => ?_)
  refine iconst w X (0 : Int32) d30_75 76 rfl rfl ?_
  refine retN w X (t := .boolean) rfl (by simp) d30_76 (by decide) (by decide) ?_
  refine And.intro zk (And.intro hC ?_)
  exact ⟨(0 : Int32), rfl, K, rfl⟩
set_option maxRecDepth 65536 in
set_option maxHeartbeats 40000000 in
theorem rm_endsMidSentence_94 {l : Launch} {Z : State} {a0 : Array Value} (hw : ∀ d ∈ tables_1, d.before a0 Z = true) (t arr : Addr) (p0 p1 p2 p3 p4 p5 p6 p7 : Int32) (cs : Int32) (sio : Value) (h : Heap) (n0 : Nat) (zn : n0 ≤ h.size) (E_t : Exa Z h t "com/example/clauseline/clauseline/ContractText") (F_bytes_t : Fld Z h t "com/example/clauseline/clauseline/ContractText" "bytes" "[B" (.ref arr)) (V_arr : PA Z h arr .byte [p0, p1, p2, p3, p4, p5, p6, p7, (65 : Int32), (66 : Int32), (67 : Int32), (68 : Int32), (10 : Int32), (60 : Int32), (10 : Int32), (45 : Int32), (45 : Int32), (10 : Int32), (32 : Int32)]) (S_cs : Sta Z h "java/lang/String" "COMPACT_STRINGS" "Z" (.int cs)) (hcs : ¬ cs = 0) (S_sio : Sta Z h "jdk/internal/util/Preconditions" "SIOOBE_FORMATTER" "Ljava/util/function/BiFunction;" sio) (hsio : sio.isRef = true) :
    MetH consts_1 l Z (⟨"com/example/clauseline/clauseline/LineWrap", "endsMidSentence", "(Lcom/example/clauseline/clauseline/ContractText;II)Z"⟩ : MethodName) prog_47_method_21_code 6 (some .boolean) [] ({ frames := 5, cells := 2, slots := 12, locals := 70 } : Room) #[(.ref t), (.int (8 : Int32)), (.int (12 : Int32))] h n0 (RI fun r h' => Keep h h' [] ∧ r = (0 : Int32)) := by
  refine startH (own_EW hw) (ls := #[.val (.ref t), .val (.int (8 : Int32)), .val (.int (12 : Int32)), .unset, .unset, .unset]) (plainFor_of_name pn20) (fun m => by first | (simp [entryFrame, mkF, argsToLocals, Value.category]; done) | rfl) ?_
  intro p e s0 m below meth c T G s k0 w X ws zk hC
  have K := Keep.refl h []
  refine aloadN w X d30_0 1 rfl rfl rfl ?_
  refine iloadN w X d30_1 2 rfl rfl ?_
  refine iconst w X (1 : Int32) d30_2 3 rfl rfl ?_
  refine isub w X (11 : Int32) d30_3 4 rfl (by decide) ?_
  refine callVPI w X [(.int (11 : Int32))] (wd103 hw) (wd104 hw) (notFace_of_selects (args := #[]) (mvT w.2.2.2.2.1 (wd106 hw))) (wd106 hw) (wd105 hw) (wd41 hw) (wd107 hw) (by decide) E_t (rm_baG hw t arr [p0, p1, p2, p3, p4, p5, p6, p7, (65 : Int32), (66 : Int32), (67 : Int32), (68 : Int32), (10 : Int32), (60 : Int32), (10 : Int32), (45 : Int32), (45 : Int32), (10 : Int32), (32 : Int32)] 11 h n0 zn E_t F_bytes_t V_arr (Nat.le_of_ble_eq_true rfl) (Nat.le_of_ble_eq_true rfl)) d30_4 7 rfl 0 (by decide) (by decide) (lenOf pd8 rfl) rfl (Nat.le_of_eq rfl) rfl (by decide) (by decide) (fun r1 T X hq => ?_)
  obtain rfl : r1 = (68 : Int32) := hq
  refine bipush w X (44 : Int32) d30_7 9 rfl rfl ?_
  refine icmp_ne w X d30_9 14 12 (by decide) (by decide) rfl (fun hc9_2 => ?_) (fun q => absurd q (by decide))
  refine iloadN w X d30_14 15 rfl rfl ?_
  refine istoreN w X (12 : Int32) d30_15 16 rfl rfl #[.val (.ref t), .val (.int (8 : Int32)), .val (.int (12 : Int32)), .val (.int (12 : Int32)), .unset, .unset] rfl ?_
  refine iloadN w X d30_16 17 rfl rfl ?_
  refine iloadN w X d30_17 18 rfl rfl ?_
  refine icmp_le w X d30_18 40 21 (by decide) (by decide) rfl (fun q => absurd q (by decide)) (fun hc18_3 => ?_)
  refine aloadN w X d30_21 22 rfl rfl rfl ?_
  refine iloadN w X d30_22 23 rfl rfl ?_
  refine iconst w X (1 : Int32) d30_23 24 rfl rfl ?_
  refine isub w X (11 : Int32) d30_24 25 rfl (by decide) ?_
  refine callVPI w X [(.int (11 : Int32))] (wd103 hw) (wd104 hw) (notFace_of_selects (args := #[]) (mvT w.2.2.2.2.1 (wd106 hw))) (wd106 hw) (wd105 hw) (wd41 hw) (wd107 hw) (by decide) E_t (rm_baG hw t arr [p0, p1, p2, p3, p4, p5, p6, p7, (65 : Int32), (66 : Int32), (67 : Int32), (68 : Int32), (10 : Int32), (60 : Int32), (10 : Int32), (45 : Int32), (45 : Int32), (10 : Int32), (32 : Int32)] 11 h n0 zn E_t F_bytes_t V_arr (Nat.le_of_ble_eq_true rfl) (Nat.le_of_ble_eq_true rfl)) d30_25 28 rfl 0 (by decide) (by decide) (lenOf pd8 rfl) rfl (Nat.le_of_eq rfl) rfl (by decide) (by decide) (fun r4 T X hq => ?_)
  obtain rfl : r4 = (68 : Int32) := hq
  refine callSPI w X [(.int (68 : Int32))] (wd155 hw) (wd156 hw) (wd41 hw) (wd157 hw) (by decide) (rm_own_lt hw (68 : Int32) h n0 zn) d30_28 31 rfl 0 (by decide) (by decide) (lenOf pd5 rfl) rfl (Nat.le_of_eq rfl) rfl (by decide) (by decide) (fun r5 T X hq => ?_)
  obtain rfl : r5 = (1 : Int32) := hq.trans (by decide)
  refine if_eq w X d30_31 40 34 (by decide) (by decide) rfl (fun q => absurd q (by decide)) (fun hc31_6 => ?_)
  refine iinc w X (11 : Int32) d30_34 37 rfl rfl (by decide) #[.val (.ref t), .val (.int (8 : Int32)), .val (.int (12 : Int32)), .val (.int (11 : Int32)), .unset, .unset] rfl ?_
  refine goto w X d30_37 16 (by decide) (by decide) ?_
  refine iloadN w X d30_16 17 rfl rfl ?_
  refine iloadN w X d30_17 18 rfl rfl ?_
  refine icmp_le w X d30_18 40 21 (by decide) (by decide) rfl (fun q => absurd q (by decide)) (fun hc18_7 => ?_)
  refine aloadN w X d30_21 22 rfl rfl rfl ?_
  refine iloadN w X d30_22 23 rfl rfl ?_
  refine iconst w X (1 : Int32) d30_23 24 rfl rfl ?_
  refine isub w X (10 : Int32) d30_24 25 rfl (by decide) ?_
  refine callVPI w X [(.int (10 : Int32))] (wd103 hw) (wd104 hw) (notFace_of_selects (args := #[]) (mvT w.2.2.2.2.1 (wd106 hw))) (wd106 hw) (wd105 hw) (wd41 hw) (wd107 hw) (by decide) E_t (rm_baG hw t arr [p0, p1, p2, p3, p4, p5, p6, p7, (65 : Int32), (66 : Int32), (67 : Int32), (68 : Int32), (10 : Int32), (60 : Int32), (10 : Int32), (45 : Int32), (45 : Int32), (10 : Int32), (32 : Int32)] 10 h n0 zn E_t F_bytes_t V_arr (Nat.le_of_ble_eq_true rfl) (Nat.le_of_ble_eq_true rfl)) d30_25 28 rfl 0 (by decide) (by decide) (lenOf pd8 rfl) rfl (Nat.le_of_eq rfl) rfl (by decide) (by decide) (fun r8 T X hq => ?_)
  obtain rfl : r8 = (67 : Int32) := hq
  refine callSPI w X [(.int (67 : Int32))] (wd155 hw) (wd156 hw) (wd41 hw) (wd157 hw) (by decide) (rm_own_lt hw (67 : Int32) h n0 zn) d30_28 31 rfl 0 (by decide) (by decide) (lenOf pd5 rfl) rfl (Nat.le_of_eq rfl) rfl (by decide) (by decide) (fun r9 T X hq => ?_)
  obtain rfl : r9 = (1 : Int32) := hq.trans (by decide)
  refine if_eq w X d30_31 40 34 (by decide) (by decide) rfl (fun q => absurd q (by decide)) (fun hc31_10 => ?_)
  refine iinc w X (10 : Int32) d30_34 37 rfl rfl (by decide) #[.val (.ref t), .val (.int (8 : Int32)), .val (.int (12 : Int32)), .val (.int (10 : Int32)), .unset, .unset] rfl ?_
  refine goto w X d30_37 16 (by decide) (by decide) ?_
  refine iloadN w X d30_16 17 rfl rfl ?_
  refine iloadN w X d30_17 18 rfl rfl ?_
  refine icmp_le w X d30_18 40 21 (by decide) (by decide) rfl (fun q => absurd q (by decide)) (fun hc18_11 => ?_)
  refine aloadN w X d30_21 22 rfl rfl rfl ?_
  refine iloadN w X d30_22 23 rfl rfl ?_
  refine iconst w X (1 : Int32) d30_23 24 rfl rfl ?_
  refine isub w X (9 : Int32) d30_24 25 rfl (by decide) ?_
  refine callVPI w X [(.int (9 : Int32))] (wd103 hw) (wd104 hw) (notFace_of_selects (args := #[]) (mvT w.2.2.2.2.1 (wd106 hw))) (wd106 hw) (wd105 hw) (wd41 hw) (wd107 hw) (by decide) E_t (rm_baG hw t arr [p0, p1, p2, p3, p4, p5, p6, p7, (65 : Int32), (66 : Int32), (67 : Int32), (68 : Int32), (10 : Int32), (60 : Int32), (10 : Int32), (45 : Int32), (45 : Int32), (10 : Int32), (32 : Int32)] 9 h n0 zn E_t F_bytes_t V_arr (Nat.le_of_ble_eq_true rfl) (Nat.le_of_ble_eq_true rfl)) d30_25 28 rfl 0 (by decide) (by decide) (lenOf pd8 rfl) rfl (Nat.le_of_eq rfl) rfl (by decide) (by decide) (fun r12 T X hq => ?_)
  obtain rfl : r12 = (66 : Int32) := hq
  refine callSPI w X [(.int (66 : Int32))] (wd155 hw) (wd156 hw) (wd41 hw) (wd157 hw) (by decide) (rm_own_lt hw (66 : Int32) h n0 zn) d30_28 31 rfl 0 (by decide) (by decide) (lenOf pd5 rfl) rfl (Nat.le_of_eq rfl) rfl (by decide) (by decide) (fun r13 T X hq => ?_)
  obtain rfl : r13 = (1 : Int32) := hq.trans (by decide)
  refine if_eq w X d30_31 40 34 (by decide) (by decide) rfl (fun q => absurd q (by decide)) (fun hc31_14 => ?_)
  refine iinc w X (9 : Int32) d30_34 37 rfl rfl (by decide) #[.val (.ref t), .val (.int (8 : Int32)), .val (.int (12 : Int32)), .val (.int (9 : Int32)), .unset, .unset] rfl ?_
  refine goto w X d30_37 16 (by decide) (by decide) ?_
  refine iloadN w X d30_16 17 rfl rfl ?_
  refine iloadN w X d30_17 18 rfl rfl ?_
  refine icmp_le w X d30_18 40 21 (by decide) (by decide) rfl (fun q => absurd q (by decide)) (fun hc18_15 => ?_)
  refine aloadN w X d30_21 22 rfl rfl rfl ?_
  refine iloadN w X d30_22 23 rfl rfl ?_
  refine iconst w X (1 : Int32) d30_23 24 rfl rfl ?_
  refine isub w X (8 : Int32) d30_24 25 rfl (by decide) ?_
  refine callVPI w X [(.int (8 : Int32))] (wd103 hw) (wd104 hw) (notFace_of_selects (args := #[]) (mvT w.2.2.2.2.1 (wd106 hw))) (wd106 hw) (wd105 hw) (wd41 hw) (wd107 hw) (by decide) E_t (rm_baG hw t arr [p0, p1, p2, p3, p4, p5, p6, p7, (65 : Int32), (66 : Int32), (67 : Int32), (68 : Int32), (10 : Int32), (60 : Int32), (10 : Int32), (45 : Int32), (45 : Int32), (10 : Int32), (32 : Int32)] 8 h n0 zn E_t F_bytes_t V_arr (Nat.le_of_ble_eq_true rfl) (Nat.le_of_ble_eq_true rfl)) d30_25 28 rfl 0 (by decide) (by decide) (lenOf pd8 rfl) rfl (Nat.le_of_eq rfl) rfl (by decide) (by decide) (fun r16 T X hq => ?_)
  obtain rfl : r16 = (65 : Int32) := hq
  refine callSPI w X [(.int (65 : Int32))] (wd155 hw) (wd156 hw) (wd41 hw) (wd157 hw) (by decide) (rm_own_lt hw (65 : Int32) h n0 zn) d30_28 31 rfl 0 (by decide) (by decide) (lenOf pd5 rfl) rfl (Nat.le_of_eq rfl) rfl (by decide) (by decide) (fun r17 T X hq => ?_)
  obtain rfl : r17 = (1 : Int32) := hq.trans (by decide)
  refine if_eq w X d30_31 40 34 (by decide) (by decide) rfl (fun q => absurd q (by decide)) (fun hc31_18 => ?_)
  refine iinc w X (8 : Int32) d30_34 37 rfl rfl (by decide) #[.val (.ref t), .val (.int (8 : Int32)), .val (.int (12 : Int32)), .val (.int (8 : Int32)), .unset, .unset] rfl ?_
  refine goto w X d30_37 16 (by decide) (by decide) ?_
  refine iloadN w X d30_16 17 rfl rfl ?_
  refine iloadN w X d30_17 18 rfl rfl ?_
  refine icmp_le w X d30_18 40 21 (by decide) (by decide) rfl (fun hc18_19 => ?_) (fun q => absurd q (by decide))
  refine iloadN w X d30_40 41 rfl rfl ?_
  refine iloadN w X d30_41 42 rfl rfl ?_
  refine icmp_eq w X d30_42 56 45 (by decide) (by decide) rfl (fun q => absurd q (by decide)) (fun hc42_20 => ?_)
  refine aloadN w X d30_45 46 rfl rfl rfl ?_
  refine iloadN w X d30_46 47 rfl rfl ?_
  refine callVPI w X [(.int (8 : Int32))] (wd103 hw) (wd104 hw) (notFace_of_selects (args := #[]) (mvT w.2.2.2.2.1 (wd106 hw))) (wd106 hw) (wd105 hw) (wd41 hw) (wd107 hw) (by decide) E_t (rm_baG hw t arr [p0, p1, p2, p3, p4, p5, p6, p7, (65 : Int32), (66 : Int32), (67 : Int32), (68 : Int32), (10 : Int32), (60 : Int32), (10 : Int32), (45 : Int32), (45 : Int32), (10 : Int32), (32 : Int32)] 8 h n0 zn E_t F_bytes_t V_arr (Nat.le_of_ble_eq_true rfl) (Nat.le_of_ble_eq_true rfl)) d30_47 50 rfl 0 (by decide) (by decide) (lenOf pd8 rfl) rfl (Nat.le_of_eq rfl) rfl (by decide) (by decide) (fun r21 T X hq => ?_)
  obtain rfl : r21 = (65 : Int32) := hq
  refine callSPI w X [(.int (65 : Int32))] (wd164 hw) (wd162 hw) (wd41 hw) (wd163 hw) (by decide) (rm_own_lw hw (65 : Int32) h n0 zn) d30_50 53 rfl 0 (by decide) (by decide) (lenOf pd5 rfl) rfl (Nat.le_of_eq rfl) rfl (by decide) (by decide) (fun r22 T X hq => ?_)
  obtain rfl : r22 = (0 : Int32) := hq.trans (by decide)
  refine if_ne w X d30_53 58 56 (by decide) (by decide) rfl (fun q => absurd q (by decide)) (fun hc53_23 => ?_)
  refine iconst w X (0 : Int32) d30_56 57 rfl rfl ?_
  refine retN w X (t := .boolean) rfl (by simp) d30_57 (by decide) (by decide) ?_
  refine And.intro zk (And.intro hC ?_)
  exact ⟨(0 : Int32), rfl, K, rfl⟩
set_option maxRecDepth 65536 in
set_option maxHeartbeats 40000000 in
theorem rm_endsMidSentence_T {l : Launch} {Z : State} {a0 : Array Value} (hw : ∀ d ∈ tables_1, d.before a0 Z = true) (t arr : Addr) (p0 p1 p2 p3 p4 p5 p6 p7 u0 u1 u2 u3 op : Int32) (cs : Int32) (sio : Value) (h : Heap) (n0 : Nat) (zn : n0 ≤ h.size) (E_t : Exa Z h t "com/example/clauseline/clauseline/ContractText") (F_bytes_t : Fld Z h t "com/example/clauseline/clauseline/ContractText" "bytes" "[B" (.ref arr)) (V_arr : PA Z h arr .byte [p0, p1, p2, p3, p4, p5, p6, p7, u0, u1, u2, u3, (10 : Int32), (60 : Int32), (10 : Int32), (45 : Int32), (45 : Int32), (10 : Int32), (32 : Int32)]) (S_cs : Sta Z h "java/lang/String" "COMPACT_STRINGS" "Z" (.int cs)) (hcs : ¬ cs = 0) (S_sio : Sta Z h "jdk/internal/util/Preconditions" "SIOOBE_FORMATTER" "Ljava/util/function/BiFunction;" sio) (hsio : sio.isRef = true) (hU : (u0 = (97 : Int32) ∧ u1 = (98 : Int32) ∧ u2 = (99 : Int32) ∧ u3 = (44 : Int32) ∧ op = (1 : Int32)) ∨ (u0 = (120 : Int32) ∧ u1 = (32 : Int32) ∧ u2 = (97 : Int32) ∧ u3 = (98 : Int32) ∧ op = (1 : Int32)) ∨ (u0 = (120 : Int32) ∧ u1 = (32 : Int32) ∧ u2 = (65 : Int32) ∧ u3 = (98 : Int32) ∧ op = (0 : Int32)) ∨ (u0 = (97 : Int32) ∧ u1 = (98 : Int32) ∧ u2 = (99 : Int32) ∧ u3 = (46 : Int32) ∧ op = (0 : Int32)) ∨ (u0 = (59 : Int32) ∧ u1 = (32 : Int32) ∧ u2 = (111 : Int32) ∧ u3 = (114 : Int32) ∧ op = (0 : Int32)) ∨ (u0 = (120 : Int32) ∧ u1 = (32 : Int32) ∧ u2 = (111 : Int32) ∧ u3 = (114 : Int32) ∧ op = (1 : Int32)) ∨ (u0 = (97 : Int32) ∧ u1 = (46 : Int32) ∧ u2 = (98 : Int32) ∧ u3 = (99 : Int32) ∧ op = (0 : Int32)) ∨ (u0 = (65 : Int32) ∧ u1 = (66 : Int32) ∧ u2 = (67 : Int32) ∧ u3 = (68 : Int32) ∧ op = (0 : Int32))) :
    MetH consts_1 l Z (⟨"com/example/clauseline/clauseline/LineWrap", "endsMidSentence", "(Lcom/example/clauseline/clauseline/ContractText;II)Z"⟩ : MethodName) prog_47_method_21_code 6 (some .boolean) [] ({ frames := 5, cells := 2, slots := 12, locals := 70 } : Room) #[.ref t, .int (8 : Int32), .int (12 : Int32)] h n0 (RI fun r h' => Keep h h' [] ∧ r = op) := by
  rcases hU with ⟨rfl, rfl, rfl, rfl, rfl⟩ | ⟨rfl, rfl, rfl, rfl, rfl⟩ | ⟨rfl, rfl, rfl, rfl, rfl⟩ | ⟨rfl, rfl, rfl, rfl, rfl⟩ | ⟨rfl, rfl, rfl, rfl, rfl⟩ | ⟨rfl, rfl, rfl, rfl, rfl⟩ | ⟨rfl, rfl, rfl, rfl, rfl⟩ | ⟨rfl, rfl, rfl, rfl, rfl⟩
  · exact rm_endsMidSentence_90 hw t arr p0 p1 p2 p3 p4 p5 p6 p7 cs sio h n0 zn E_t F_bytes_t V_arr S_cs hcs S_sio hsio
  · exact rm_endsMidSentence_80 hw t arr p0 p1 p2 p3 p4 p5 p6 p7 cs sio h n0 zn E_t F_bytes_t V_arr S_cs hcs S_sio hsio
  · exact rm_endsMidSentence_91 hw t arr p0 p1 p2 p3 p4 p5 p6 p7 cs sio h n0 zn E_t F_bytes_t V_arr S_cs hcs S_sio hsio
  · exact rm_endsMidSentence_92 hw t arr p0 p1 p2 p3 p4 p5 p6 p7 cs sio h n0 zn E_t F_bytes_t V_arr S_cs hcs S_sio hsio
  · exact rm_endsMidSentence_84 hw t arr p0 p1 p2 p3 p4 p5 p6 p7 cs sio h n0 zn E_t F_bytes_t V_arr S_cs hcs S_sio hsio
  · exact rm_endsMidSentence_86 hw t arr p0 p1 p2 p3 p4 p5 p6 p7 cs sio h n0 zn E_t F_bytes_t V_arr S_cs hcs S_sio hsio
  · exact rm_endsMidSentence_93 hw t arr p0 p1 p2 p3 p4 p5 p6 p7 cs sio h n0 zn E_t F_bytes_t V_arr S_cs hcs S_sio hsio
  · exact rm_endsMidSentence_94 hw t arr p0 p1 p2 p3 p4 p5 p6 p7 cs sio h n0 zn E_t F_bytes_t V_arr S_cs hcs S_sio hsio
theorem d14_63 : decode prog_47_method_4_code 63 = .ok (.aload_n 0, 1) := by decide +kernel
theorem d14_64 : decode prog_47_method_4_code 64 = .ok (.aload_n 1, 1) := by decide +kernel
theorem d14_65 : decode prog_47_method_4_code 65 = .ok (.iload 4, 2) := by decide +kernel
theorem d14_67 : decode prog_47_method_4_code 67 = .ok (.iload 5, 2) := by decide +kernel
theorem d14_69 : decode prog_47_method_4_code 69 = .ok (.invokestatic 44, 3) := by decide +kernel
theorem d14_72 : decode prog_47_method_4_code 72 = .ok (.putfield 7, 3) := by decide +kernel
theorem d14_75 : decode prog_47_method_4_code 75 = .ok (.aload_n 0, 1) := by decide +kernel
theorem d14_76 : decode prog_47_method_4_code 76 = .ok (.aload_n 1, 1) := by decide +kernel
theorem d14_77 : decode prog_47_method_4_code 77 = .ok (.iload 5, 2) := by decide +kernel
theorem d14_79 : decode prog_47_method_4_code 79 = .ok (.iconst 1, 1) := by decide +kernel
theorem d14_80 : decode prog_47_method_4_code 80 = .ok (.isub, 1) := by decide +kernel
theorem d14_81 : decode prog_47_method_4_code 81 = .ok (.invokevirtual 47, 3) := by decide +kernel
theorem d14_84 : decode prog_47_method_4_code 84 = .ok (.bipush 44, 2) := by decide +kernel
theorem d14_86 : decode prog_47_method_4_code 86 = .ok (.if_icmp .ne 7, 3) := by decide +kernel
theorem d14_89 : decode prog_47_method_4_code 89 = .ok (.iconst 1, 1) := by decide +kernel
theorem d14_90 : decode prog_47_method_4_code 90 = .ok (.goto 4, 3) := by decide +kernel
theorem d14_93 : decode prog_47_method_4_code 93 = .ok (.iconst 0, 1) := by decide +kernel
theorem d14_94 : decode prog_47_method_4_code 94 = .ok (.putfield 23, 3) := by decide +kernel
theorem d14_97 : decode prog_47_method_4_code 97 = .ok (.aload_n 0, 1) := by decide +kernel
theorem d14_98 : decode prog_47_method_4_code 98 = .ok (.aload_n 1, 1) := by decide +kernel
theorem d14_99 : decode prog_47_method_4_code 99 = .ok (.iload_n 2, 1) := by decide +kernel
theorem d14_100 : decode prog_47_method_4_code 100 = .ok (.iload 5, 2) := by decide +kernel
theorem d14_102 : decode prog_47_method_4_code 102 = .ok (.invokestatic 51, 3) := by decide +kernel
theorem d14_105 : decode prog_47_method_4_code 105 = .ok (.putfield 19, 3) := by decide +kernel
theorem d14_108 : decode prog_47_method_4_code 108 = .ok (.aload_n 0, 1) := by decide +kernel
theorem d14_109 : decode prog_47_method_4_code 109 = .ok (.iconst 0, 1) := by decide +kernel
theorem d14_110 : decode prog_47_method_4_code 110 = .ok (.putfield 13, 3) := by decide +kernel
theorem d14_113 : decode prog_47_method_4_code 113 = .ok (.aload_n 0, 1) := by decide +kernel
theorem d14_114 : decode prog_47_method_4_code 114 = .ok (.iconst 0, 1) := by decide +kernel
theorem d14_115 : decode prog_47_method_4_code 115 = .ok (.putfield 16, 3) := by decide +kernel
theorem d14_118 : decode prog_47_method_4_code 118 = .ok (.iconst 1, 1) := by decide +kernel
theorem d14_119 : decode prog_47_method_4_code 119 = .ok (.ireturn, 1) := by decide +kernel
set_option maxRecDepth 65536 in
set_option maxHeartbeats 40000000 in
theorem rm_addT {l : Launch} {Z : State} {a0 : Array Value} (hw : ∀ d ∈ tables_1, d.before a0 Z = true) (lw t arr : Addr) (p0 p1 p2 p3 p4 p5 p6 p7 u0 u1 u2 u3 op : Int32) (cs : Int32) (sio : Value) (o bl pb cm wd : Int32) (kk : Nat) (h : Heap) (n0 : Nat) (zn : n0 ≤ h.size) (E_t : Exa Z h t "com/example/clauseline/clauseline/ContractText") (F_bytes_t : Fld Z h t "com/example/clauseline/clauseline/ContractText" "bytes" "[B" (.ref arr)) (V_arr : PA Z h arr .byte [p0, p1, p2, p3, p4, p5, p6, p7, u0, u1, u2, u3, (10 : Int32), (60 : Int32), (10 : Int32), (45 : Int32), (45 : Int32), (10 : Int32), (32 : Int32)]) (S_cs : Sta Z h "java/lang/String" "COMPACT_STRINGS" "Z" (.int cs)) (hcs : ¬ cs = 0) (S_sio : Sta Z h "jdk/internal/util/Preconditions" "SIOOBE_FORMATTER" "Ljava/util/function/BiFunction;" sio) (hsio : sio.isRef = true) (E_lw : Exa Z h lw "com/example/clauseline/clauseline/LineWrap") (F_open_lw : Fld Z h lw "com/example/clauseline/clauseline/LineWrap" "open" "Z" (.int o)) (F_blank_lw : Fld Z h lw "com/example/clauseline/clauseline/LineWrap" "blank" "Z" (.int bl)) (F_pageBreak_lw : Fld Z h lw "com/example/clauseline/clauseline/LineWrap" "pageBreak" "Z" (.int pb)) (F_comma_lw : Fld Z h lw "com/example/clauseline/clauseline/LineWrap" "comma" "Z" (.int cm)) (F_width_lw : Fld Z h lw "com/example/clauseline/clauseline/LineWrap" "width" "I" (.int wd)) (g_lw : n0 ≤ lw) (ne_t_lw : t ≠ lw) (ne_arr_lw : arr ≠ lw) (hkk : kk ≤ 8) (hpad : ∀ i, 8 - kk ≤ i → i < 8 → [p0, p1, p2, p3, p4, p5, p6, p7, u0, u1, u2, u3, (10 : Int32), (60 : Int32), (10 : Int32), (45 : Int32), (45 : Int32), (10 : Int32), (32 : Int32)].getD i 0 = 32) (hU : (u0 = (97 : Int32) ∧ u1 = (98 : Int32) ∧ u2 = (99 : Int32) ∧ u3 = (44 : Int32) ∧ op = (1 : Int32)) ∨ (u0 = (120 : Int32) ∧ u1 = (32 : Int32) ∧ u2 = (97 : Int32) ∧ u3 = (98 : Int32) ∧ op = (1 : Int32)) ∨ (u0 = (120 : Int32) ∧ u1 = (32 : Int32) ∧ u2 = (65 : Int32) ∧ u3 = (98 : Int32) ∧ op = (0 : Int32)) ∨ (u0 = (97 : Int32) ∧ u1 = (98 : Int32) ∧ u2 = (99 : Int32) ∧ u3 = (46 : Int32) ∧ op = (0 : Int32)) ∨ (u0 = (59 : Int32) ∧ u1 = (32 : Int32) ∧ u2 = (111 : Int32) ∧ u3 = (114 : Int32) ∧ op = (0 : Int32)) ∨ (u0 = (120 : Int32) ∧ u1 = (32 : Int32) ∧ u2 = (111 : Int32) ∧ u3 = (114 : Int32) ∧ op = (1 : Int32)) ∨ (u0 = (97 : Int32) ∧ u1 = (46 : Int32) ∧ u2 = (98 : Int32) ∧ u3 = (99 : Int32) ∧ op = (0 : Int32)) ∨ (u0 = (65 : Int32) ∧ u1 = (66 : Int32) ∧ u2 = (67 : Int32) ∧ u3 = (68 : Int32) ∧ op = (0 : Int32))) :
    MetH consts_1 l Z (⟨"com/example/clauseline/clauseline/LineWrap", "add", "(Lcom/example/clauseline/clauseline/ContractText;II)Z"⟩ : MethodName) prog_47_method_4_code 6 (some .boolean) [] ({ frames := 7, cells := 4, slots := 32, locals := 103 } : Room) #[(.ref lw), (.ref t), (.int (Int32.ofNat (8 - kk))), (.int (12 : Int32))] h n0 (RI fun r h' => Keep h h' [lw] ∧ ∃ cm1 : Int32, Exa Z h' lw "com/example/clauseline/clauseline/LineWrap" ∧ Fld Z h' lw "com/example/clauseline/clauseline/LineWrap" "open" "Z" (.int op) ∧ Fld Z h' lw "com/example/clauseline/clauseline/LineWrap" "blank" "Z" (.int (0 : Int32)) ∧ Fld Z h' lw "com/example/clauseline/clauseline/LineWrap" "pageBreak" "Z" (.int (0 : Int32)) ∧ Fld Z h' lw "com/example/clauseline/clauseline/LineWrap" "comma" "Z" (.int cm1) ∧ Fld Z h' lw "com/example/clauseline/clauseline/LineWrap" "width" "I" (.int (Int32.ofNat (4 + kk)))) := by
  refine startH (own_EW hw) (ls := #[.val (.ref lw), .val (.ref t), .val (.int (Int32.ofNat (8 - kk))), .val (.int (12 : Int32)), .unset, .unset]) (plainFor_of_name pn20) (fun m => by first | (simp [entryFrame, mkF, argsToLocals, Value.category]; done) | rfl) ?_
  intro p e s0 m below meth c T G s k0 w X ws zk hC
  have K := Keep.refl h [lw]
  refine aloadN w X d14_0 1 rfl rfl rfl ?_
  refine iloadN w X d14_1 2 rfl rfl ?_
  refine iloadN w X d14_2 3 rfl rfl ?_
  refine callVPI w X [(.int (Int32.ofNat (8 - kk))), (.int (12 : Int32))] (wd83 hw) (wd84 hw) (notFace_of_selects (args := #[]) (mvT w.2.2.2.2.1 (wd86 hw))) (wd86 hw) (wd85 hw) (wd41 hw) (wd87 hw) (by decide) E_t (rm_skG hw t arr [p0, p1, p2, p3, p4, p5, p6, p7, u0, u1, u2, u3, (10 : Int32), (60 : Int32), (10 : Int32), (45 : Int32), (45 : Int32), (10 : Int32), (32 : Int32)] kk h n0 zn E_t F_bytes_t V_arr rfl hkk hpad (own_h8 hU)) d14_3 6 rfl 0 (by decide) (by decide) (lenOf pd6 rfl) rfl (Nat.le_of_eq rfl) rfl (by decide) (by decide) (fun r1 T X hq => ?_)
  subst hq
  refine istore w X (8 : Int32) d14_6 8 rfl rfl #[.val (.ref lw), .val (.ref t), .val (.int (Int32.ofNat (8 - kk))), .val (.int (12 : Int32)), .val (.int (8 : Int32)), .unset] rfl ?_
  refine aloadN w X d14_8 9 rfl rfl rfl ?_
  refine iload w X d14_9 11 rfl rfl ?_
  refine iloadN w X d14_11 12 rfl rfl ?_
  refine callSPI w X [(.ref t), (.int (8 : Int32)), (.int (12 : Int32))] (wd91 hw) (wd92 hw) (wd70 hw) (wd93 hw) (by decide) (rm_textEnd_T hw t arr p0 p1 p2 p3 p4 p5 p6 p7 u0 u1 u2 u3 op h n0 zn E_t F_bytes_t V_arr hU) d14_12 15 rfl 0 (by decide) (by decide) (lenOf pd7 rfl) rfl (Nat.le_of_eq rfl) rfl (by decide) (by decide) (fun r2 T X hq => ?_)
  subst hq
  refine istore w X (12 : Int32) d14_15 17 rfl rfl #[.val (.ref lw), .val (.ref t), .val (.int (Int32.ofNat (8 - kk))), .val (.int (12 : Int32)), .val (.int (8 : Int32)), .val (.int (12 : Int32))] rfl ?_
  refine iload w X d14_17 19 rfl rfl ?_
  refine iload w X d14_19 21 rfl rfl ?_
  refine icmp_ne w X d14_21 31 24 (by decide) (by decide) rfl (fun hc21_3 => ?_) (fun q => absurd q (by decide))
  refine aloadN w X d14_31 32 rfl rfl rfl ?_
  refine iloadN w X d14_32 33 rfl rfl ?_
  refine iload w X d14_33 35 rfl rfl ?_
  refine iload w X d14_35 37 rfl rfl ?_
  refine callSH w X ws zk hC (own_EW hw) [(.ref t), (.int (Int32.ofNat (8 - kk))), (.int (8 : Int32)), (.int (12 : Int32))] (wd111 hw) (wd112 hw) (wd70 hw) (wd113 hw) (by decide) (rm_isPageBreak_T hw t arr p0 p1 p2 p3 p4 p5 p6 p7 u0 u1 u2 u3 (Int32.ofNat (8 - kk)) op cs sio h n0 zn E_t F_bytes_t V_arr S_cs hcs S_sio hsio hU) d14_37 40 rfl 0 (by decide) (by decide) (lenOf pd10 rfl) rfl (Nat.le_of_eq rfl) rfl (by decide) (by decide) (fun s k0 v T h5 w X ws zk hC hq => ?_)
  obtain ⟨r4, rfl, hq⟩ := hq
  obtain ⟨Kq, hqr⟩ := hq
  subst r4
  have S_cs := Sta.keepN S_cs Kq all0
  have S_sio := Sta.keepN S_sio Kq all0
  have zn : n0 ≤ h5.size := Nat.le_trans zn Kq.1
  have E_t := E_t.keep Kq
  have F_bytes_t := F_bytes_t.keep Kq nin0
  have V_arr := V_arr.keep Kq nin0
  have E_lw := E_lw.keep Kq
  have F_open_lw := F_open_lw.keep Kq nin0
  have F_blank_lw := F_blank_lw.keep Kq nin0
  have F_pageBreak_lw := F_pageBreak_lw.keep Kq nin0
  have F_comma_lw := F_comma_lw.keep Kq nin0
  have F_width_lw := F_width_lw.keep Kq nin0
  have K := K.trans Kq all0
  show G (T.setTop (mkF m 40 #[.val (.ref lw), .val (.ref t), .val (.int (Int32.ofNat (8 - kk))), .val (.int (12 : Int32)), .val (.int (8 : Int32)), .val (.int (12 : Int32))] [(.int (0 : Int32))]))
  refine if_eq w X d14_40 50 43 (by decide) (by decide) rfl (fun hc40_6 => ?_) (fun q => absurd q (by decide))
  refine aloadN w X d14_50 51 rfl rfl rfl ?_
  refine iload w X d14_51 53 rfl rfl ?_
  refine iload w X d14_53 55 rfl rfl ?_
  refine callSPI w X [(.ref t), (.int (8 : Int32)), (.int (12 : Int32))] (wd147 hw) (wd148 hw) (wd70 hw) (wd149 hw) (by decide) (rm_isRule_T hw t arr p0 p1 p2 p3 p4 p5 p6 p7 u0 u1 u2 u3 op h5 n0 zn E_t F_bytes_t V_arr hU) d14_55 58 rfl 0 (by decide) (by decide) (lenOf pd9 rfl) rfl (Nat.le_of_eq rfl) rfl (by decide) (by decide) (fun r7 T X hq => ?_)
  subst hq
  refine if_eq w X d14_58 63 61 (by decide) (by decide) rfl (fun hc58_8 => ?_) (fun q => absurd q (by decide))
  refine aloadN w X d14_63 64 rfl rfl rfl ?_
  refine aloadN w X d14_64 65 rfl rfl rfl ?_
  refine iload w X d14_65 67 rfl rfl ?_
  refine iload w X d14_67 69 rfl rfl ?_
  refine callSH w X ws zk hC (own_EW hw) [(.ref t), (.int (8 : Int32)), (.int (12 : Int32))] (wd152 hw) (wd153 hw) (wd70 hw) (wd154 hw) (by decide) (rm_endsMidSentence_T hw t arr p0 p1 p2 p3 p4 p5 p6 p7 u0 u1 u2 u3 op cs sio h5 n0 zn E_t F_bytes_t V_arr S_cs hcs S_sio hsio hU) d14_69 72 rfl 1 (by decide) (by decide) (lenOf pd9 rfl) rfl (Nat.le_of_eq rfl) rfl (by decide) (by decide) (fun s k0 v T h10 w X ws zk hC hq => ?_)
  obtain ⟨r9, rfl, hq⟩ := hq
  obtain ⟨Kq, hqr⟩ := hq
  subst r9
  have S_cs := Sta.keepN S_cs Kq all0
  have S_sio := Sta.keepN S_sio Kq all0
  have zn : n0 ≤ h10.size := Nat.le_trans zn Kq.1
  have E_t := E_t.keep Kq
  have F_bytes_t := F_bytes_t.keep Kq nin0
  have V_arr := V_arr.keep Kq nin0
  have E_lw := E_lw.keep Kq
  have F_open_lw := F_open_lw.keep Kq nin0
  have F_blank_lw := F_blank_lw.keep Kq nin0
  have F_pageBreak_lw := F_pageBreak_lw.keep Kq nin0
  have F_comma_lw := F_comma_lw.keep Kq nin0
  have F_width_lw := F_width_lw.keep Kq nin0
  have K := K.trans Kq all0
  show G (T.setTop (mkF m 72 #[.val (.ref lw), .val (.ref t), .val (.int (Int32.ofNat (8 - kk))), .val (.int (12 : Int32)), .val (.int (8 : Int32)), .val (.int (12 : Int32))] [(.int op), (.ref lw)]))
  refine putfieldN w X (wd101 hw) Via.refl F_open_lw E_lw (Or.inl (wd102 hw)) (wd69 hw) (ty := .boolean) (v' := (.int (op &&& 1))) (by decide) rfl (fits_nar_bool _) g_lw d14_72 75 rfl (fun T h11 X W => ?_)
  have hsafe := (Safe.exa (EL := consts_1) w.2.2.2.2.1.alike E_lw (by decide) (by decide))
  have hC := hC.trans (CHr.wr W hsafe hC.1)
  have zn : n0 ≤ h11.size := W.size ▸ zn
  have E_t := E_t.wr W
  have F_bytes_t := F_bytes_t.other W (Or.inl ne_t_lw)
  have V_arr := V_arr.other W ne_arr_lw
  have S_cs := S_cs.wr W
  have S_sio := S_sio.wr W
  have E_lw := E_lw.wr W
  have F_open_lw := F_open_lw.same W
  have F_blank_lw := F_blank_lw.other W (Or.inr (slot_ne (Or.inl (wd95 hw)) (Or.inl (wd102 hw)) (by decide) (t := .boolean) (t' := .boolean) (by decide) (by decide)))
  have F_pageBreak_lw := F_pageBreak_lw.other W (Or.inr (slot_ne (Or.inl (wd118 hw)) (Or.inl (wd102 hw)) (by decide) (t := .boolean) (t' := .boolean) (by decide) (by decide)))
  have F_comma_lw := F_comma_lw.other W (Or.inr (slot_ne (Or.inl (wd166 hw)) (Or.inl (wd102 hw)) (by decide) (t := .boolean) (t' := .boolean) (by decide) (by decide)))
  have F_width_lw := F_width_lw.other W (Or.inr (slot_ne (Or.inl (wd179 hw)) (Or.inl (wd102 hw)) (by decide) (t := .int) (t' := .boolean) (by decide) (by decide)))
  have K := K.wr W (Or.inl (List.mem_of_getElem? (i := 0) rfl))
  have zk : k0 ≤ h11.size := W.size ▸ zk
  refine aloadN w X d14_75 76 rfl rfl rfl ?_
  refine aloadN w X d14_76 77 rfl rfl rfl ?_
  refine iload w X d14_77 79 rfl rfl ?_
  refine iconst w X (1 : Int32) d14_79 80 rfl rfl ?_
  refine isub w X (11 : Int32) d14_80 81 rfl (by decide) ?_
  refine callVPI w X [(.int (11 : Int32))] (wd103 hw) (wd104 hw) (notFace_of_selects (args := #[]) (mvT w.2.2.2.2.1 (wd106 hw))) (wd106 hw) (wd105 hw) (wd41 hw) (wd107 hw) (by decide) E_t (rm_baG hw t arr [p0, p1, p2, p3, p4, p5, p6, p7, u0, u1, u2, u3, (10 : Int32), (60 : Int32), (10 : Int32), (45 : Int32), (45 : Int32), (10 : Int32), (32 : Int32)] 11 h11 n0 zn E_t F_bytes_t V_arr (Nat.le_of_ble_eq_true rfl) (Nat.le_of_ble_eq_true rfl)) d14_81 84 rfl 1 (by decide) (by decide) (lenOf pd8 rfl) rfl (Nat.le_of_eq rfl) rfl (by decide) (by decide) (fun r12 T X hq => ?_)
  have hqr : r12 = u3 := hq
  subst r12
  refine bipush w X (44 : Int32) d14_84 86 rfl rfl ?_
  have J14 : ∀ (T : State) (x15 : Int32), Sd p l e ({ frames := 7, cells := 4, slots := 32, locals := 103 } : Room) s m #[(.ref lw), (.ref t), (.int (Int32.ofNat (8 - kk))), (.int (12 : Int32))] below meth c n0 T h11 4 32 → (((¬ (u3 = (44 : Int32))) ∧ (x15 = (0 : Int32))) ∨ ((u3 = (44 : Int32)) ∧ (x15 = (1 : Int32)))) → G (T.setTop (mkF m 94 #[.val (.ref lw), .val (.ref t), .val (.int (Int32.ofNat (8 - kk))), .val (.int (12 : Int32)), .val (.int (8 : Int32)), .val (.int (12 : Int32))] [(.int x15), (.ref lw)])) := by
    intro T x15 X hjJ14
    refine putfieldN w X (wd165 hw) Via.refl F_comma_lw E_lw (Or.inl (wd166 hw)) (wd69 hw) (ty := .boolean) (v' := (.int (x15 &&& 1))) (by decide) rfl (fits_nar_bool _) g_lw d14_94 97 rfl (fun T h16 X W => ?_)
    have hsafe := (Safe.exa (EL := consts_1) w.2.2.2.2.1.alike E_lw (by decide) (by decide))
    have hC := hC.trans (CHr.wr W hsafe hC.1)
    have zn : n0 ≤ h16.size := W.size ▸ zn
    have E_t := E_t.wr W
    have F_bytes_t := F_bytes_t.other W (Or.inl ne_t_lw)
    have V_arr := V_arr.other W ne_arr_lw
    have S_cs := S_cs.wr W
    have S_sio := S_sio.wr W
    have E_lw := E_lw.wr W
    have F_open_lw := F_open_lw.other W (Or.inr (slot_ne (Or.inl (wd102 hw)) (Or.inl (wd166 hw)) (by decide) (t := .boolean) (t' := .boolean) (by decide) (by decide)))
    have F_blank_lw := F_blank_lw.other W (Or.inr (slot_ne (Or.inl (wd95 hw)) (Or.inl (wd166 hw)) (by decide) (t := .boolean) (t' := .boolean) (by decide) (by decide)))
    have F_pageBreak_lw := F_pageBreak_lw.other W (Or.inr (slot_ne (Or.inl (wd118 hw)) (Or.inl (wd166 hw)) (by decide) (t := .boolean) (t' := .boolean) (by decide) (by decide)))
    have F_comma_lw := F_comma_lw.same W
    have F_width_lw := F_width_lw.other W (Or.inr (slot_ne (Or.inl (wd179 hw)) (Or.inl (wd166 hw)) (by decide) (t := .int) (t' := .boolean) (by decide) (by decide)))
    have K := K.wr W (Or.inl (List.mem_of_getElem? (i := 0) rfl))
    have zk : k0 ≤ h16.size := W.size ▸ zk
    refine aloadN w X d14_97 98 rfl rfl rfl ?_
    refine aloadN w X d14_98 99 rfl rfl rfl ?_
    refine iloadN w X d14_99 100 rfl rfl ?_
    refine iload w X d14_100 102 rfl rfl ?_
    refine callSPI w X [(.ref t), (.int (Int32.ofNat (8 - kk))), (.int (12 : Int32))] (wd167 hw) (wd168 hw) (wd169 hw) (wd170 hw) (by decide) (rm_wdG hw t arr [p0, p1, p2, p3, p4, p5, p6, p7, u0, u1, u2, u3, (10 : Int32), (60 : Int32), (10 : Int32), (45 : Int32), (45 : Int32), (10 : Int32), (32 : Int32)] kk h16 n0 zn E_t F_bytes_t V_arr rfl hkk (own_hct hpad (own_h9 hU).1 (own_h9 hU).2.1 (own_h9 hU).2.2.1 (own_h9 hU).2.2.2)) d14_102 105 rfl 1 (by decide) (by decide) (lenOf pd7 rfl) rfl (Nat.le_of_eq rfl) rfl (by decide) (by decide) (fun r17 T X hq => ?_)
    subst hq
    refine putfield w X (wd178 hw) Via.refl F_width_lw E_lw (Or.inl (wd179 hw)) (wd69 hw) (ty := .int) (by decide) rfl rfl g_lw d14_105 108 rfl (fun T h18 X W => ?_)
    have hsafe := (Safe.exa (EL := consts_1) w.2.2.2.2.1.alike E_lw (by decide) (by decide))
    have hC := hC.trans (CHr.wr W hsafe hC.1)
    have zn : n0 ≤ h18.size := W.size ▸ zn
    have E_t := E_t.wr W
    have F_bytes_t := F_bytes_t.other W (Or.inl ne_t_lw)
    have V_arr := V_arr.other W ne_arr_lw
    have S_cs := S_cs.wr W
    have S_sio := S_sio.wr W
    have E_lw := E_lw.wr W
    have F_open_lw := F_open_lw.other W (Or.inr (slot_ne (Or.inl (wd102 hw)) (Or.inl (wd179 hw)) (by decide) (t := .boolean) (t' := .int) (by decide) (by decide)))
    have F_blank_lw := F_blank_lw.other W (Or.inr (slot_ne (Or.inl (wd95 hw)) (Or.inl (wd179 hw)) (by decide) (t := .boolean) (t' := .int) (by decide) (by decide)))
    have F_pageBreak_lw := F_pageBreak_lw.other W (Or.inr (slot_ne (Or.inl (wd118 hw)) (Or.inl (wd179 hw)) (by decide) (t := .boolean) (t' := .int) (by decide) (by decide)))
    have F_comma_lw := F_comma_lw.other W (Or.inr (slot_ne (Or.inl (wd166 hw)) (Or.inl (wd179 hw)) (by decide) (t := .boolean) (t' := .int) (by decide) (by decide)))
    have F_width_lw := F_width_lw.same W
    have K := K.wr W (Or.inl (List.mem_of_getElem? (i := 0) rfl))
    have zk : k0 ≤ h18.size := W.size ▸ zk
    refine aloadN w X d14_108 109 rfl rfl rfl ?_
    refine iconst w X (0 : Int32) d14_109 110 rfl rfl ?_
    refine putfieldN w X (wd94 hw) Via.refl F_blank_lw E_lw (Or.inl (wd95 hw)) (wd69 hw) (ty := .boolean) (v' := (.int (0 : Int32))) (by decide) rfl (by decide) g_lw d14_110 113 rfl (fun T h19 X W => ?_)
    have hsafe := (Safe.exa (EL := consts_1) w.2.2.2.2.1.alike E_lw (by decide) (by decide))
    have hC := hC.trans (CHr.wr W hsafe hC.1)
    have zn : n0 ≤ h19.size := W.size ▸ zn
    have E_t := E_t.wr W
    have F_bytes_t := F_bytes_t.other W (Or.inl ne_t_lw)
    have V_arr := V_arr.other W ne_arr_lw
    have S_cs := S_cs.wr W
    have S_sio := S_sio.wr W
    have E_lw := E_lw.wr W
    have F_open_lw := F_open_lw.other W (Or.inr (slot_ne (Or.inl (wd102 hw)) (Or.inl (wd95 hw)) (by decide) (t := .boolean) (t' := .boolean) (by decide) (by decide)))
    have F_blank_lw := F_blank_lw.same W
    have F_pageBreak_lw := F_pageBreak_lw.other W (Or.inr (slot_ne (Or.inl (wd118 hw)) (Or.inl (wd95 hw)) (by decide) (t := .boolean) (t' := .boolean) (by decide) (by decide)))
    have F_comma_lw := F_comma_lw.other W (Or.inr (slot_ne (Or.inl (wd166 hw)) (Or.inl (wd95 hw)) (by decide) (t := .boolean) (t' := .boolean) (by decide) (by decide)))
    have F_width_lw := F_width_lw.other W (Or.inr (slot_ne (Or.inl (wd179 hw)) (Or.inl (wd95 hw)) (by decide) (t := .int) (t' := .boolean) (by decide) (by decide)))
    have K := K.wr W (Or.inl (List.mem_of_getElem? (i := 0) rfl))
    have zk : k0 ≤ h19.size := W.size ▸ zk
    refine aloadN w X d14_113 114 rfl rfl rfl ?_
    refine iconst w X (0 : Int32) d14_114 115 rfl rfl ?_
    refine putfieldN w X (wd117 hw) Via.refl F_pageBreak_lw E_lw (Or.inl (wd118 hw)) (wd69 hw) (ty := .boolean) (v' := (.int (0 : Int32))) (by decide) rfl (by decide) g_lw d14_115 118 rfl (fun T h20 X W => ?_)
    have hsafe := (Safe.exa (EL := consts_1) w.2.2.2.2.1.alike E_lw (by decide) (by decide))
    have hC := hC.trans (CHr.wr W hsafe hC.1)
    have zn : n0 ≤ h20.size := W.size ▸ zn
    have E_t := E_t.wr W
    have F_bytes_t := F_bytes_t.other W (Or.inl ne_t_lw)
    have V_arr := V_arr.other W ne_arr_lw
    have S_cs := S_cs.wr W
    have S_sio := S_sio.wr W
    have E_lw := E_lw.wr W
    have F_open_lw := F_open_lw.other W (Or.inr (slot_ne (Or.inl (wd102 hw)) (Or.inl (wd118 hw)) (by decide) (t := .boolean) (t' := .boolean) (by decide) (by decide)))
    have F_blank_lw := F_blank_lw.other W (Or.inr (slot_ne (Or.inl (wd95 hw)) (Or.inl (wd118 hw)) (by decide) (t := .boolean) (t' := .boolean) (by decide) (by decide)))
    have F_pageBreak_lw := F_pageBreak_lw.same W
    have F_comma_lw := F_comma_lw.other W (Or.inr (slot_ne (Or.inl (wd166 hw)) (Or.inl (wd118 hw)) (by decide) (t := .boolean) (t' := .boolean) (by decide) (by decide)))
    have F_width_lw := F_width_lw.other W (Or.inr (slot_ne (Or.inl (wd179 hw)) (Or.inl (wd118 hw)) (by decide) (t := .int) (t' := .boolean) (by decide) (by decide)))
    have K := K.wr W (Or.inl (List.mem_of_getElem? (i := 0) rfl))
    have zk : k0 ≤ h20.size := W.size ▸ zk
    refine iconst w X (1 : Int32) d14_118 119 rfl rfl ?_
    refine retN w X (t := .boolean) rfl (by simp) d14_119 (by decide) (by decide) ?_
    refine And.intro zk (And.intro hC ?_)
    rw [own_op1 hU] at F_open_lw
    exact ⟨(1 : Int32), rfl, K, (x15 &&& 1), E_lw, F_open_lw, F_blank_lw, F_pageBreak_lw, F_comma_lw, F_width_lw⟩
  refine icmp_ne w X d14_86 93 89 (by decide) (by decide) rfl (fun hc86_13 => ?_) (fun hc86_13 => ?_)
  ·
    refine iconst w X (0 : Int32) d14_93 94 rfl rfl ?_
    exact J14 T (0 : Int32) X (Or.inl (⟨hc86_13, rfl⟩))
  ·
    refine iconst w X (1 : Int32) d14_89 90 rfl rfl ?_
    refine goto w X d14_90 94 (by decide) (by decide) ?_
    exact J14 T (1 : Int32) X (Or.inr (⟨hc86_13, rfl⟩))
set_option maxRecDepth 65536 in
set_option maxHeartbeats 40000000 in
theorem lf1_1 (i : Int32) (k : Int32) (hc5_1 : i < ((8 : Int32) - k)) : (10 : Int32) = own_pad i k := by
  unfold own_pad
  simp_all
set_option maxRecDepth 65536 in
set_option maxHeartbeats 40000000 in
theorem lf1_2 (i : Int32) (k : Int32) (hc5_1 : ¬ (i < ((8 : Int32) - k))) : (32 : Int32) = own_pad i k := by
  unfold own_pad
  simp_all
theorem d1_0 : decode method_4_code 0 = .ok (.iload_n 0, 1) := by decide +kernel
theorem d1_1 : decode method_4_code 1 = .ok (.bipush 8, 2) := by decide +kernel
theorem d1_3 : decode method_4_code 3 = .ok (.iload_n 1, 1) := by decide +kernel
theorem d1_4 : decode method_4_code 4 = .ok (.isub, 1) := by decide +kernel
theorem d1_5 : decode method_4_code 5 = .ok (.if_icmp .lt 8, 3) := by decide +kernel
theorem d1_8 : decode method_4_code 8 = .ok (.bipush 32, 2) := by decide +kernel
theorem d1_10 : decode method_4_code 10 = .ok (.goto 5, 3) := by decide +kernel
theorem d1_13 : decode method_4_code 13 = .ok (.bipush 10, 2) := by decide +kernel
theorem d1_15 : decode method_4_code 15 = .ok (.ireturn, 1) := by decide +kernel
set_option maxRecDepth 65536 in
set_option maxHeartbeats 40000000 in
theorem rm_pad {l : Launch} {Z : State} {a0 : Array Value} (hw : ∀ d ∈ tables_1, d.before a0 Z = true) (i k : Int32) (h : Heap) (n0 : Nat) (zn : n0 ≤ h.size) :
    Met l Z (⟨"com/example/clauseline/clauseline/LineWrapContinuesSentencePinLaw", "pad", "(II)B"⟩ : MethodName) method_4_code 2 (some .byte) [] ({ frames := 0, cells := 0, slots := 0, locals := 0 } : Room) #[(.int i), (.int k)] h n0 (RI fun r h' => h' = h ∧ r = own_pad i k) := by
  refine start (ls := #[.val (.int i), .val (.int k)]) (plainFor_of_name pn13) (fun m => by first | (simp [entryFrame, mkF, argsToLocals, Value.category]; done) | rfl) ?_
  intro p e s m below meth c T G w X
  refine iloadN w X d1_0 1 rfl rfl ?_
  refine bipush w X (8 : Int32) d1_1 3 rfl rfl ?_
  refine iloadN w X d1_3 4 rfl rfl ?_
  refine isub w X ((8 : Int32) - k) d1_4 5 rfl rfl ?_
  refine icmp_lt w X d1_5 13 8 (by decide) (by decide) rfl (fun hc5_1 => ?_) (fun hc5_1 => ?_)
  ·
    refine bipush w X (10 : Int32) d1_13 15 rfl rfl ?_
    refine retN w X (t := .byte) rfl (by simp) d1_15 (by decide) (by decide) ?_
    exact ⟨(10 : Int32), rfl, rfl, lf1_1 i k hc5_1⟩
  ·
    refine bipush w X (32 : Int32) d1_8 10 rfl rfl ?_
    refine goto w X d1_10 15 (by decide) (by decide) ?_
    refine retN w X (t := .byte) rfl (by simp) d1_15 (by decide) (by decide) ?_
    exact ⟨(32 : Int32), rfl, rfl, lf1_2 i k hc5_1⟩
theorem d9_0 : decode prog_22_method_44_code 0 = .ok (.iload_n 0, 1) := by decide +kernel
theorem d9_1 : decode prog_22_method_44_code 1 = .ok (.ifCond .ne 5, 3) := by decide +kernel
theorem d9_6 : decode prog_22_method_44_code 6 = .ok (.iload_n 0, 1) := by decide +kernel
theorem d9_7 : decode prog_22_method_44_code 7 = .ok (.sipush 128, 3) := by decide +kernel
theorem d9_10 : decode prog_22_method_44_code 10 = .ok (.if_icmp .ge 5, 3) := by decide +kernel
theorem d9_13 : decode prog_22_method_44_code 13 = .ok (.iconst 1, 1) := by decide +kernel
theorem d9_14 : decode prog_22_method_44_code 14 = .ok (.ireturn, 1) := by decide +kernel
set_option maxRecDepth 65536 in
set_option maxHeartbeats 40000000 in
theorem rm_seq {l : Launch} {Z : State} {a0 : Array Value} (hw : ∀ d ∈ tables_1, d.before a0 Z = true) (v : Int32) (h : Heap) (n0 : Nat) (zn : n0 ≤ h.size) (hq0 : ¬ v = 0) (hq1 : v < 128) :
    Met l Z (⟨"com/example/clauseline/clauseline/ContractText", "sequenceLength", "(I)I"⟩ : MethodName) prog_22_method_44_code 1 (some .int) [] ({ frames := 0, cells := 0, slots := 0, locals := 0 } : Room) #[(.int v)] h n0 (RI fun r h' => h' = h ∧ r = (1 : Int32)) := by
  refine start (ls := #[.val (.int v)]) (plainFor_of_name pn16) (fun m => by first | (simp [entryFrame, mkF, argsToLocals, Value.category]; done) | rfl) ?_
  intro p e s m below meth c T G w X
  refine iloadN w X d9_0 1 rfl rfl ?_
  refine if_ne w X d9_1 6 4 (by decide) (by decide) rfl (fun hc1_1 => ?_) (fun q => False.elim (by exact hq0 q))
  refine iloadN w X d9_6 7 rfl rfl ?_
  refine sipush w X (128 : Int32) d9_7 10 rfl rfl ?_
  refine icmp_ge w X d9_10 15 13 (by decide) (by decide) rfl (fun q => False.elim (by exact q hq1)) (fun hc10_2 => ?_)
  refine iconst w X (1 : Int32) d9_13 14 rfl rfl ?_
  refine retI w X rfl d9_14 (by decide) (by decide) ?_
  exact ⟨_, rfl, rfl, rfl⟩
theorem d8_0 : decode prog_22_method_42_code 0 = .ok (.iconst 0, 1) := by decide +kernel
theorem d8_1 : decode prog_22_method_42_code 1 = .ok (.istore_n 2, 1) := by decide +kernel
theorem d8_2 : decode prog_22_method_42_code 2 = .ok (.iload_n 2, 1) := by decide +kernel
theorem d8_3 : decode prog_22_method_42_code 3 = .ok (.iload_n 1, 1) := by decide +kernel
theorem d8_4 : decode prog_22_method_42_code 4 = .ok (.if_icmp .ge 59, 3) := by decide +kernel
theorem d8_7 : decode prog_22_method_42_code 7 = .ok (.aload_n 0, 1) := by decide +kernel
theorem d8_8 : decode prog_22_method_42_code 8 = .ok (.iload_n 2, 1) := by decide +kernel
theorem d8_9 : decode prog_22_method_42_code 9 = .ok (.baload, 1) := by decide +kernel
theorem d8_10 : decode prog_22_method_42_code 10 = .ok (.sipush 255, 3) := by decide +kernel
theorem d8_13 : decode prog_22_method_42_code 13 = .ok (.iand, 1) := by decide +kernel
theorem d8_14 : decode prog_22_method_42_code 14 = .ok (.istore_n 3, 1) := by decide +kernel
theorem d8_15 : decode prog_22_method_42_code 15 = .ok (.iload_n 3, 1) := by decide +kernel
theorem d8_16 : decode prog_22_method_42_code 16 = .ok (.invokestatic 255, 3) := by decide +kernel
theorem d8_19 : decode prog_22_method_42_code 19 = .ok (.istore 4, 2) := by decide +kernel
theorem d8_21 : decode prog_22_method_42_code 21 = .ok (.iload 4, 2) := by decide +kernel
theorem d8_23 : decode prog_22_method_42_code 23 = .ok (.ifCond .eq 11, 3) := by decide +kernel
theorem d8_26 : decode prog_22_method_42_code 26 = .ok (.iload 4, 2) := by decide +kernel
theorem d8_28 : decode prog_22_method_42_code 28 = .ok (.iload_n 1, 1) := by decide +kernel
theorem d8_29 : decode prog_22_method_42_code 29 = .ok (.iload_n 2, 1) := by decide +kernel
theorem d8_30 : decode prog_22_method_42_code 30 = .ok (.isub, 1) := by decide +kernel
theorem d8_31 : decode prog_22_method_42_code 31 = .ok (.if_icmp .le 5, 3) := by decide +kernel
theorem d8_36 : decode prog_22_method_42_code 36 = .ok (.iload 4, 2) := by decide +kernel
theorem d8_38 : decode prog_22_method_42_code 38 = .ok (.iconst 1, 1) := by decide +kernel
theorem d8_39 : decode prog_22_method_42_code 39 = .ok (.if_icmp .le 16, 3) := by decide +kernel
theorem d8_55 : decode prog_22_method_42_code 55 = .ok (.iload_n 2, 1) := by decide +kernel
theorem d8_56 : decode prog_22_method_42_code 56 = .ok (.iload 4, 2) := by decide +kernel
theorem d8_58 : decode prog_22_method_42_code 58 = .ok (.iadd, 1) := by decide +kernel
theorem d8_59 : decode prog_22_method_42_code 59 = .ok (.istore_n 2, 1) := by decide +kernel
theorem d8_60 : decode prog_22_method_42_code 60 = .ok (.goto (-58), 3) := by decide +kernel
theorem d8_63 : decode prog_22_method_42_code 63 = .ok (.iconst (-1), 1) := by decide +kernel
theorem d8_64 : decode prog_22_method_42_code 64 = .ok (.ireturn, 1) := by decide +kernel
set_option maxRecDepth 65536 in
set_option maxHeartbeats 40000000 in
theorem rm_fbb {l : Launch} {Z : State} {a0 : Array Value} (hw : ∀ d ∈ tables_1, d.before a0 Z = true) (b0 : Addr) (bs : List Int32) (h : Heap) (n0 : Nat) (zn : n0 ≤ h.size) (V_b0 : PA Z h b0 .byte bs) (hlen : bs.length = 19) (hall : ∀ i, i < 19 → own_ok (bs.getD i 0)) :
    Met l Z (⟨"com/example/clauseline/clauseline/ContractText", "firstBadByte", "([BI)I"⟩ : MethodName) prog_22_method_42_code 5 (some .int) [] ({ frames := 1, cells := 0, slots := 0, locals := 12 } : Room) #[(.ref b0), (.int (19 : Int32))] h n0 (RI fun r h' => h' = h ∧ r = (-1 : Int32)) := by
  refine start (ls := #[.val (.ref b0), .val (.int (19 : Int32)), .unset, .unset, .unset]) (plainFor_of_name pn16) (fun m => by first | (simp [entryFrame, mkF, argsToLocals, Value.category]; done) | rfl) ?_
  intro p e s m below meth c T G w X
  refine iconst w X (0 : Int32) d8_0 1 rfl rfl ?_
  refine istoreN w X (0 : Int32) d8_1 2 rfl rfl #[.val (.ref b0), .val (.int (19 : Int32)), .val (.int (0 : Int32)), .unset, .unset] rfl ?_
  have Lp2 : ∀ (fuel : Nat) (T : State) (q3 : Slot) (q4 : Slot) (j : Nat) (oq3 : One q3) (oq4 : One q4), Sd p l e ({ frames := 1, cells := 0, slots := 0, locals := 12 } : Room) s m #[(.ref b0), (.int (19 : Int32))] below meth c n0 T h 0 0 → ∀ (_ : True), (j ≤ 19) → 19 - j < fuel → G (T.setTop (mkF m 2 #[.val (.ref b0), .val (.int (19 : Int32)), .val (.int (Int32.ofNat j)), q3, q4] [])) := by
    intro fuel
    induction fuel with
    | zero => exact fun T _ _ _ _ _ _ _ _ q => absurd q (Nat.not_lt_zero _)
    | succ fuel ih =>
      intro T q3 q4 j oq3 oq4 X _ hinv hfuel
      refine iloadN w X d8_2 3 rfl rfl ?_
      refine iloadN w X d8_3 4 rfl rfl ?_
      refine icmp_ge w X d8_4 63 7 (by decide) (by decide) rfl (fun hc4_1 => ?_) (fun hc4_1 => ?_)
      ·
        refine iconst w X (-1 : Int32) d8_63 64 rfl rfl ?_
        refine retI w X rfl d8_64 (by decide) (by decide) ?_
        exact ⟨_, rfl, rfl, rfl⟩
      ·
        refine aloadN w X d8_7 8 rfl rfl rfl ?_
        refine iloadN w X d8_8 9 rfl rfl ?_
        obtain ⟨r2, hr2⟩ : ∃ z : Int32, z = (bs.getD j 0) := ⟨_, rfl⟩
        refine baload w X V_b0 (own_ix j (by omega)).1 j (own_ix j (by omega)).2 (by rw [hlen]; exact own_lt19 (by omega) hc4_1) d8_9 10 rfl r2 hr2 ?_
        refine sipush w X (255 : Int32) d8_10 13 rfl rfl ?_
        refine iand w X (r2 &&& (255 : Int32)) d8_13 14 rfl rfl ?_
        obtain ⟨i3_3, hi3_3⟩ : ∃ z : Int32, z = (r2 &&& (255 : Int32)) := ⟨_, rfl⟩
        refine istoreN w X i3_3 d8_14 15 rfl hi3_3 #[.val (.ref b0), .val (.int (19 : Int32)), .val (.int (Int32.ofNat j)), .val (.int i3_3), q4] (XS.store1 (o := q3) rfl oq3 rfl) ?_
        refine iloadN w X d8_15 16 rfl rfl ?_
        refine callSPI w X [(.int i3_3)] (wd55 hw) (wd56 hw) (wd41 hw) (wd57 hw) (by decide) (rm_seq hw i3_3 h n0 zn (by rw [hi3_3, hr2]; exact (own_sq (hall _ (own_lt19 (by omega) hc4_1))).1) (by rw [hi3_3, hr2]; exact (own_sq (hall _ (own_lt19 (by omega) hc4_1))).2)) d8_16 19 rfl 0 (by decide) (by decide) (lenOf pd15 rfl) rfl (Nat.le_of_eq rfl) rfl (by decide) (by decide) (fun r4 T X hq => ?_)
        subst hq
        refine istore w X (1 : Int32) d8_19 21 rfl rfl #[.val (.ref b0), .val (.int (19 : Int32)), .val (.int (Int32.ofNat j)), .val (.int i3_3), .val (.int (1 : Int32))] (XS.store1 (o := q4) rfl oq4 rfl) ?_
        refine iload w X d8_21 23 rfl rfl ?_
        refine if_eq w X d8_23 34 26 (by decide) (by decide) rfl (fun q => absurd q (by decide)) (fun hc23_5 => ?_)
        refine iload w X d8_26 28 rfl rfl ?_
        refine iloadN w X d8_28 29 rfl rfl ?_
        refine iloadN w X d8_29 30 rfl rfl ?_
        refine isub w X ((19 : Int32) - (Int32.ofNat j)) d8_30 31 rfl rfl ?_
        refine icmp_le w X d8_31 36 34 (by decide) (by decide) rfl (fun hc31_6 => ?_) (fun q => False.elim (by exact own_19 j (own_lt19 (by omega) hc4_1) q))
        refine iload w X d8_36 38 rfl rfl ?_
        refine iconst w X (1 : Int32) d8_38 39 rfl rfl ?_
        refine icmp_le w X d8_39 55 42 (by decide) (by decide) rfl (fun hc39_7 => ?_) (fun q => absurd q (by decide))
        refine iloadN w X d8_55 56 rfl rfl ?_
        refine iload w X d8_56 58 rfl rfl ?_
        refine iadd w X ((Int32.ofNat j) + (1 : Int32)) d8_58 59 rfl rfl ?_
        obtain ⟨i2_8, hi2_8⟩ : ∃ z : Int32, z = ((Int32.ofNat j) + (1 : Int32)) := ⟨_, rfl⟩
        refine istoreN w X i2_8 d8_59 60 rfl hi2_8 #[.val (.ref b0), .val (.int (19 : Int32)), .val (.int i2_8), .val (.int i3_3), .val (.int (1 : Int32))] rfl ?_
        refine goto w X d8_60 2 (by decide) (by decide) ?_
        have hlt := own_lt19 (by omega) hc4_1
        rw [own_s j] at hi2_8
        subst hi2_8
        exact ih T (.val (.int i3_3)) (.val (.int (1 : Int32))) (j + 1) (One.val rfl) (One.val rfl) X trivial (by omega) (by omega)
  exact Lp2 _ T (.unset) (.unset) 0 (One.u) (One.u) X trivial (Nat.zero_le _) (Nat.lt_succ_self _)
theorem d10_0 : decode prog_22_method_1_code 0 = .ok (.aload_n 0, 1) := by decide +kernel
theorem d10_1 : decode prog_22_method_1_code 1 = .ok (.invokespecial 3, 3) := by decide +kernel
theorem d10_4 : decode prog_22_method_1_code 4 = .ok (.aload_n 0, 1) := by decide +kernel
theorem d10_5 : decode prog_22_method_1_code 5 = .ok (.aload_n 1, 1) := by decide +kernel
theorem d10_6 : decode prog_22_method_1_code 6 = .ok (.putfield 9, 3) := by decide +kernel
theorem d10_9 : decode prog_22_method_1_code 9 = .ok (.return_, 1) := by decide +kernel
set_option maxRecDepth 65536 in
set_option maxHeartbeats 40000000 in
theorem rm_ci {l : Launch} {Z : State} {a0 : Array Value} (hw : ∀ d ∈ tables_1, d.before a0 Z = true) (t arr : Addr) (h : Heap) (n0 : Nat) (zn : n0 ≤ h.size) (E_t : Exa Z h t "com/example/clauseline/clauseline/ContractText") (F_bytes_t : Fld Z h t "com/example/clauseline/clauseline/ContractText" "bytes" "[B" .null) (g_t : n0 ≤ t) :
    Met l Z (⟨"com/example/clauseline/clauseline/ContractText", "<init>", "([B)V"⟩ : MethodName) prog_22_method_1_code 2 none [] ({ frames := 1, cells := 0, slots := 0, locals := 12 } : Room) #[(.ref t), (.ref arr)] h n0 (RV fun h' => Keep h h' [t] ∧ Exa Z h' t "com/example/clauseline/clauseline/ContractText" ∧ Fld Z h' t "com/example/clauseline/clauseline/ContractText" "bytes" "[B" (.ref arr)) := by
  refine start (ls := #[.val (.ref t), .val (.ref arr)]) (plainFor_of_name pn16) (fun m => by first | (simp [entryFrame, mkF, argsToLocals, Value.category]; done) | rfl) ?_
  intro p e s m below meth c T G w X
  have K := Keep.refl h [t]
  refine aloadN w X d10_0 1 rfl rfl rfl ?_
  refine initObj w X (wd63 hw) (wd64 hw) (wd65 hw) d10_1 4 rfl rfl (by decide) 0 (Nat.le_of_eq rfl) (by decide) (fun T X => ?_)
  refine aloadN w X d10_4 5 rfl rfl rfl ?_
  refine aloadN w X d10_5 6 rfl rfl rfl ?_
  refine putfield w X (wd66 hw) Via.refl F_bytes_t E_t (Or.inr ⟨(wd67 hw), rfl, rfl⟩) (wd59 hw) (ty := (.array .byte)) (by decide) rfl rfl g_t d10_6 9 rfl (fun T h1 X W => ?_)
  have zn : n0 ≤ h1.size := W.size ▸ zn
  have E_t := E_t.wr W
  have F_bytes_t := F_bytes_t.same W
  have K := K.wr W (Or.inl (List.mem_of_getElem? (i := 0) rfl))
  refine retV w X rfl d10_9 (by decide) (by decide) ?_
  exact ⟨rfl, K, E_t, F_bytes_t⟩
theorem d7_0 : decode prog_22_method_6_code 0 = .ok (.aload_n 0, 1) := by decide +kernel
theorem d7_1 : decode prog_22_method_6_code 1 = .ok (.invokevirtual 131, 3) := by decide +kernel
theorem d7_4 : decode prog_22_method_6_code 4 = .ok (.checkcast 132, 3) := by decide +kernel
theorem d7_7 : decode prog_22_method_6_code 7 = .ok (.astore_n 1, 1) := by decide +kernel
theorem d7_8 : decode prog_22_method_6_code 8 = .ok (.aload_n 1, 1) := by decide +kernel
theorem d7_9 : decode prog_22_method_6_code 9 = .ok (.aload_n 1, 1) := by decide +kernel
theorem d7_10 : decode prog_22_method_6_code 10 = .ok (.arraylength, 1) := by decide +kernel
theorem d7_11 : decode prog_22_method_6_code 11 = .ok (.invokestatic 97, 3) := by decide +kernel
theorem d7_14 : decode prog_22_method_6_code 14 = .ok (.istore_n 2, 1) := by decide +kernel
theorem d7_15 : decode prog_22_method_6_code 15 = .ok (.iload_n 2, 1) := by decide +kernel
theorem d7_16 : decode prog_22_method_6_code 16 = .ok (.ifCond .lt 14, 3) := by decide +kernel
theorem d7_30 : decode prog_22_method_6_code 30 = .ok (.new 10, 3) := by decide +kernel
theorem d7_33 : decode prog_22_method_6_code 33 = .ok (.dup, 1) := by decide +kernel
theorem d7_34 : decode prog_22_method_6_code 34 = .ok (.aload_n 1, 1) := by decide +kernel
theorem d7_35 : decode prog_22_method_6_code 35 = .ok (.invokespecial 64, 3) := by decide +kernel
theorem d7_38 : decode prog_22_method_6_code 38 = .ok (.areturn, 1) := by decide +kernel
set_option maxRecDepth 65536 in
set_option maxHeartbeats 40000000 in
theorem rm_of {l : Launch} {Z : State} {a0 : Array Value} (hw : ∀ d ∈ tables_1, d.before a0 Z = true) (b0 : Addr) (bs : List Int32) (h : Heap) (n0 : Nat) (zn : n0 ≤ h.size) (E_b0 : Exa Z h b0 "[B") (V_b0 : PA Z h b0 .byte bs) (hlen : bs.length = 19) (hall : ∀ i, i < 19 → own_ok (bs.getD i 0)) :
    Met l Z (⟨"com/example/clauseline/clauseline/ContractText", "of", "([B)Lcom/example/clauseline/clauseline/ContractText;"⟩ : MethodName) prog_22_method_6_code 3 (some (.object "com/example/clauseline/clauseline/ContractText")) [] ({ frames := 2, cells := 2, slots := 20, locals := 28 } : Room) #[(.ref b0)] h n0 (RR fun r h' => ∃ t arr : Addr, r = .ref t ∧ Keep h h' [] ∧ Exa Z h' t "com/example/clauseline/clauseline/ContractText" ∧ Fld Z h' t "com/example/clauseline/clauseline/ContractText" "bytes" "[B" (.ref arr) ∧ PA Z h' arr .byte bs) := by
  refine start (ls := #[.val (.ref b0), .unset, .unset]) (plainFor_of_name pn16) (fun m => by first | (simp [entryFrame, mkF, argsToLocals, Value.category]; done) | rfl) ?_
  intro p e s m below meth c T G w X
  have K := Keep.refl h []
  refine aloadN w X d7_0 1 rfl rfl rfl ?_
  refine cloneB w X (wd43 hw) (wd44 hw) (wd48 hw) (wd46 hw) (wd47 hw) (wd49 hw) V_b0 E_b0 d7_1 4 rfl rfl (by decide) 0 (Nat.le_of_eq rfl) (by decide) 19 (Nat.le_of_eq hlen) (by decide) (by decide) (fun T h1 b1 X hnb1 E nV nE => ?_)
  have ne_b0_b1 : b0 ≠ b1 := fun q => absurd (q ▸ E_b0.lt) (by rw [hnb1]; exact Nat.lt_irrefl _)
  have g_b1 : n0 ≤ b1 := by rw [hnb1]; exact zn
  have sz_b1 : h.size ≤ b1 := by rw [hnb1]; exact K.1
  have zn : n0 ≤ h1.size := Nat.le_trans zn E.1
  have E_b0 := E_b0.ext E
  have V_b0 := V_b0.ext E
  have K := K.ext E
  have V_b1 := nV
  have E_b1 := nE
  refine checkcast w X (wd50 hw) (Ins.self E_b1) d7_4 7 rfl (fun T X => ?_)
  refine astoreN w X d7_7 8 rfl rfl #[.val (.ref b0), .val (.ref b1), .unset] rfl ?_
  refine aloadN w X d7_8 9 rfl rfl rfl ?_
  refine aloadN w X d7_9 10 rfl rfl rfl ?_
  refine arraylength w X V_b1 d7_10 11 rfl (19 : Int32) (by rw [hlen]; rfl) ?_
  refine callSPI w X [(.ref b1), (.int (19 : Int32))] (wd52 hw) (wd53 hw) (wd41 hw) (wd54 hw) (by decide) (rm_fbb hw b1 bs h1 n0 zn V_b1 hlen hall) d7_11 14 rfl 0 (by decide) (by decide) (lenOf pd16 rfl) rfl (Nat.le_of_eq rfl) rfl (by decide) (by decide) (fun r2 T X hq => ?_)
  subst hq
  refine istoreN w X (-1 : Int32) d7_14 15 rfl rfl #[.val (.ref b0), .val (.ref b1), .val (.int (-1 : Int32))] rfl ?_
  refine iloadN w X d7_15 16 rfl rfl ?_
  refine if_lt w X d7_16 30 19 (by decide) (by decide) rfl (fun hc16_3 => ?_) (fun q => absurd q (by decide))
  refine new w X (wd58 hw) (wd59 hw) (wd41 hw) d7_30 33 rfl (by decide) (by decide) (fun T h4 t X hnt E A D => ?_)
  have ne_b0_t : b0 ≠ t := fun q => absurd (q ▸ E_b0.lt) (by rw [hnt]; exact Nat.lt_irrefl _)
  have ne_b1_t : b1 ≠ t := fun q => absurd (q ▸ E_b1.lt) (by rw [hnt]; exact Nat.lt_irrefl _)
  have g_t : n0 ≤ t := by rw [hnt]; exact zn
  have sz_t : h.size ≤ t := by rw [hnt]; exact K.1
  have zn : n0 ≤ h4.size := Nat.le_trans zn E.1
  have E_b0 := E_b0.ext E
  have V_b0 := V_b0.ext E
  have K := K.ext E
  have E_b1 := E_b1.ext E
  have V_b1 := V_b1.ext E
  have E_t := A
  have F_bytes_t : Fld Z h4 t "com/example/clauseline/clauseline/ContractText" "bytes" "[B" .null := D (Or.inr (wd67 hw)) (ty := (.array .byte)) (by decide)
  refine dup w X d7_33 34 rfl rfl ?_
  refine aloadN w X d7_34 35 rfl rfl rfl ?_
  refine callNV w X [(.ref b1)] (wd60 hw) (wd61 hw) (wd41 hw) (wd62 hw) rfl (by decide) (rm_ci hw t b1 h4 n0 zn E_t F_bytes_t g_t) d7_35 38 rfl 1 (by decide) (by decide) (lenOf pd17 rfl) rfl (Nat.le_of_eq rfl) rfl (by decide) (by decide) (fun T h5 X hq => ?_)
  obtain ⟨Kq, nE, nF⟩ := hq
  have zn : n0 ≤ h5.size := Nat.le_trans zn Kq.1
  have E_b0 := E_b0.keep Kq
  have V_b0 := V_b0.keep Kq (ninS ne_b0_t nin0)
  have K := K.trans Kq (allS (Or.inr sz_t) all0)
  have E_b1 := E_b1.keep Kq
  have V_b1 := V_b1.keep Kq (ninS ne_b1_t nin0)
  have E_t := nE
  have F_bytes_t := nF
  refine retA w X rfl rfl rfl d7_38 (by decide) (by decide) ?_
  exact ⟨_, rfl, t, b1, rfl, K, E_t, F_bytes_t, V_b1⟩
theorem d12_0 : decode prog_47_method_1_code 0 = .ok (.aload_n 0, 1) := by decide +kernel
theorem d12_1 : decode prog_47_method_1_code 1 = .ok (.invokespecial 1, 3) := by decide +kernel
theorem d12_4 : decode prog_47_method_1_code 4 = .ok (.return_, 1) := by decide +kernel
set_option maxRecDepth 65536 in
set_option maxHeartbeats 40000000 in
theorem rm_li {l : Launch} {Z : State} {a0 : Array Value} (hw : ∀ d ∈ tables_1, d.before a0 Z = true) (lw : Addr) (h : Heap) (n0 : Nat) (zn : n0 ≤ h.size) (E_lw : Exa Z h lw "com/example/clauseline/clauseline/LineWrap") :
    Met l Z (⟨"com/example/clauseline/clauseline/LineWrap", "<init>", "()V"⟩ : MethodName) prog_47_method_1_code 1 none [] ({ frames := 1, cells := 0, slots := 0, locals := 12 } : Room) #[(.ref lw)] h n0 (RV fun h' => h' = h) := by
  refine start (ls := #[.val (.ref lw)]) (plainFor_of_name pn20) (fun m => by first | (simp [entryFrame, mkF, argsToLocals, Value.category]; done) | rfl) ?_
  intro p e s m below meth c T G w X
  refine aloadN w X d12_0 1 rfl rfl rfl ?_
  refine initObj w X (wd74 hw) (wd64 hw) (wd65 hw) d12_1 4 rfl rfl (by decide) 0 (Nat.le_of_eq rfl) (by decide) (fun T X => ?_)
  refine retV w X rfl d12_4 (by decide) (by decide) ?_
  exact ⟨rfl, rfl⟩
set_option maxRecDepth 65536 in
set_option maxHeartbeats 40000000 in
theorem lf18_1 (o : Int32) (bl : Int32) (pb : Int32) (wd : Int32) (ww : Int32) (hc4_1 : o = 0) : (0 : Int32) = own_cs o bl pb wd ww := by
  unfold own_cs
  simp_all
set_option maxRecDepth 65536 in
set_option maxHeartbeats 40000000 in
theorem lf18_2 (o : Int32) (bl : Int32) (pb : Int32) (wd : Int32) (ww : Int32) (hc4_1 : ¬ (o = 0)) (hc11_2 : bl = 0) (hc31_3 : ¬ ((60 : Int32) < ((wd + (1 : Int32)) + ww))) : (0 : Int32) = own_cs o bl pb wd ww := by
  unfold own_cs
  simp_all
set_option maxRecDepth 65536 in
set_option maxHeartbeats 40000000 in
theorem lf18_3 (o : Int32) (bl : Int32) (pb : Int32) (wd : Int32) (ww : Int32) (hc4_1 : ¬ (o = 0)) (hc11_2 : bl = 0) (hc31_3 : (60 : Int32) < ((wd + (1 : Int32)) + ww)) : (1 : Int32) = own_cs o bl pb wd ww := by
  unfold own_cs
  simp_all
set_option maxRecDepth 65536 in
set_option maxHeartbeats 40000000 in
theorem lf18_4 (o : Int32) (bl : Int32) (pb : Int32) (wd : Int32) (ww : Int32) (hc4_1 : ¬ (o = 0)) (hc11_2 : ¬ (bl = 0)) (hc18_4 : pb = 0) : (0 : Int32) = own_cs o bl pb wd ww := by
  unfold own_cs
  simp_all
set_option maxRecDepth 65536 in
set_option maxHeartbeats 40000000 in
theorem lf18_5 (o : Int32) (bl : Int32) (pb : Int32) (wd : Int32) (ww : Int32) (hc4_1 : ¬ (o = 0)) (hc11_2 : ¬ (bl = 0)) (hc18_4 : ¬ (pb = 0)) (hc31_5 : ¬ ((60 : Int32) < ((wd + (1 : Int32)) + ww))) : (0 : Int32) = own_cs o bl pb wd ww := by
  unfold own_cs
  simp_all
set_option maxRecDepth 65536 in
set_option maxHeartbeats 40000000 in
theorem lf18_6 (o : Int32) (bl : Int32) (pb : Int32) (wd : Int32) (ww : Int32) (hc4_1 : ¬ (o = 0)) (hc11_2 : ¬ (bl = 0)) (hc18_4 : ¬ (pb = 0)) (hc31_5 : (60 : Int32) < ((wd + (1 : Int32)) + ww)) : (1 : Int32) = own_cs o bl pb wd ww := by
  unfold own_cs
  simp_all
theorem d18_0 : decode prog_47_method_2_code 0 = .ok (.aload_n 0, 1) := by decide +kernel
theorem d18_1 : decode prog_47_method_2_code 1 = .ok (.getfield 7, 3) := by decide +kernel
theorem d18_4 : decode prog_47_method_2_code 4 = .ok (.ifCond .eq 34, 3) := by decide +kernel
theorem d18_7 : decode prog_47_method_2_code 7 = .ok (.aload_n 0, 1) := by decide +kernel
theorem d18_8 : decode prog_47_method_2_code 8 = .ok (.getfield 13, 3) := by decide +kernel
theorem d18_11 : decode prog_47_method_2_code 11 = .ok (.ifCond .eq 10, 3) := by decide +kernel
theorem d18_14 : decode prog_47_method_2_code 14 = .ok (.aload_n 0, 1) := by decide +kernel
theorem d18_15 : decode prog_47_method_2_code 15 = .ok (.getfield 16, 3) := by decide +kernel
theorem d18_18 : decode prog_47_method_2_code 18 = .ok (.ifCond .eq 20, 3) := by decide +kernel
theorem d18_21 : decode prog_47_method_2_code 21 = .ok (.aload_n 0, 1) := by decide +kernel
theorem d18_22 : decode prog_47_method_2_code 22 = .ok (.getfield 19, 3) := by decide +kernel
theorem d18_25 : decode prog_47_method_2_code 25 = .ok (.iconst 1, 1) := by decide +kernel
theorem d18_26 : decode prog_47_method_2_code 26 = .ok (.iadd, 1) := by decide +kernel
theorem d18_27 : decode prog_47_method_2_code 27 = .ok (.iload_n 1, 1) := by decide +kernel
theorem d18_28 : decode prog_47_method_2_code 28 = .ok (.iadd, 1) := by decide +kernel
theorem d18_29 : decode prog_47_method_2_code 29 = .ok (.bipush 60, 2) := by decide +kernel
theorem d18_31 : decode prog_47_method_2_code 31 = .ok (.if_icmp .le 7, 3) := by decide +kernel
theorem d18_34 : decode prog_47_method_2_code 34 = .ok (.iconst 1, 1) := by decide +kernel
theorem d18_35 : decode prog_47_method_2_code 35 = .ok (.goto 4, 3) := by decide +kernel
theorem d18_38 : decode prog_47_method_2_code 38 = .ok (.iconst 0, 1) := by decide +kernel
theorem d18_39 : decode prog_47_method_2_code 39 = .ok (.ireturn, 1) := by decide +kernel
set_option maxRecDepth 65536 in
set_option maxHeartbeats 40000000 in
theorem rm_cs {l : Launch} {Z : State} {a0 : Array Value} (hw : ∀ d ∈ tables_1, d.before a0 Z = true) (lw : Addr) (o bl pb cm wd ww : Int32) (h : Heap) (n0 : Nat) (zn : n0 ≤ h.size) (E_lw : Exa Z h lw "com/example/clauseline/clauseline/LineWrap") (F_open_lw : Fld Z h lw "com/example/clauseline/clauseline/LineWrap" "open" "Z" (.int o)) (F_blank_lw : Fld Z h lw "com/example/clauseline/clauseline/LineWrap" "blank" "Z" (.int bl)) (F_pageBreak_lw : Fld Z h lw "com/example/clauseline/clauseline/LineWrap" "pageBreak" "Z" (.int pb)) (F_comma_lw : Fld Z h lw "com/example/clauseline/clauseline/LineWrap" "comma" "Z" (.int cm)) (F_width_lw : Fld Z h lw "com/example/clauseline/clauseline/LineWrap" "width" "I" (.int wd)) :
    Met l Z (⟨"com/example/clauseline/clauseline/LineWrap", "continuesSentence", "(I)Z"⟩ : MethodName) prog_47_method_2_code 2 (some .boolean) [] ({ frames := 0, cells := 0, slots := 0, locals := 0 } : Room) #[(.ref lw), (.int ww)] h n0 (RI fun r h' => h' = h ∧ r = own_cs o bl pb wd ww) := by
  refine start (ls := #[.val (.ref lw), .val (.int ww)]) (plainFor_of_name pn20) (fun m => by first | (simp [entryFrame, mkF, argsToLocals, Value.category]; done) | rfl) ?_
  intro p e s m below meth c T G w X
  refine aloadN w X d18_0 1 rfl rfl rfl ?_
  refine getfield w X (wd101 hw) Via.refl F_open_lw d18_1 4 rfl (fun T X => ?_)
  refine if_eq w X d18_4 38 7 (by decide) (by decide) rfl (fun hc4_1 => ?_) (fun hc4_1 => ?_)
  ·
    refine iconst w X (0 : Int32) d18_38 39 rfl rfl ?_
    refine retN w X (t := .boolean) rfl (by simp) d18_39 (by decide) (by decide) ?_
    exact ⟨(0 : Int32), rfl, rfl, lf18_1 o bl pb wd ww hc4_1⟩
  ·
    refine aloadN w X d18_7 8 rfl rfl rfl ?_
    refine getfield w X (wd94 hw) Via.refl F_blank_lw d18_8 11 rfl (fun T X => ?_)
    refine if_eq w X d18_11 21 14 (by decide) (by decide) rfl (fun hc11_2 => ?_) (fun hc11_2 => ?_)
    ·
      refine aloadN w X d18_21 22 rfl rfl rfl ?_
      refine getfield w X (wd178 hw) Via.refl F_width_lw d18_22 25 rfl (fun T X => ?_)
      refine iconst w X (1 : Int32) d18_25 26 rfl rfl ?_
      refine iadd w X (wd + (1 : Int32)) d18_26 27 rfl rfl ?_
      refine iloadN w X d18_27 28 rfl rfl ?_
      refine iadd w X ((wd + (1 : Int32)) + ww) d18_28 29 rfl rfl ?_
      refine bipush w X (60 : Int32) d18_29 31 rfl rfl ?_
      refine icmp_le w X d18_31 38 34 (by decide) (by decide) rfl (fun hc31_3 => ?_) (fun hc31_3 => ?_)
      ·
        refine iconst w X (0 : Int32) d18_38 39 rfl rfl ?_
        refine retN w X (t := .boolean) rfl (by simp) d18_39 (by decide) (by decide) ?_
        exact ⟨(0 : Int32), rfl, rfl, lf18_2 o bl pb wd ww hc4_1 hc11_2 hc31_3⟩
      ·
        refine iconst w X (1 : Int32) d18_34 35 rfl rfl ?_
        refine goto w X d18_35 39 (by decide) (by decide) ?_
        refine retN w X (t := .boolean) rfl (by simp) d18_39 (by decide) (by decide) ?_
        exact ⟨(1 : Int32), rfl, rfl, lf18_3 o bl pb wd ww hc4_1 hc11_2 hc31_3⟩
    ·
      refine aloadN w X d18_14 15 rfl rfl rfl ?_
      refine getfield w X (wd117 hw) Via.refl F_pageBreak_lw d18_15 18 rfl (fun T X => ?_)
      refine if_eq w X d18_18 38 21 (by decide) (by decide) rfl (fun hc18_4 => ?_) (fun hc18_4 => ?_)
      ·
        refine iconst w X (0 : Int32) d18_38 39 rfl rfl ?_
        refine retN w X (t := .boolean) rfl (by simp) d18_39 (by decide) (by decide) ?_
        exact ⟨(0 : Int32), rfl, rfl, lf18_4 o bl pb wd ww hc4_1 hc11_2 hc18_4⟩
      ·
        refine aloadN w X d18_21 22 rfl rfl rfl ?_
        refine getfield w X (wd178 hw) Via.refl F_width_lw d18_22 25 rfl (fun T X => ?_)
        refine iconst w X (1 : Int32) d18_25 26 rfl rfl ?_
        refine iadd w X (wd + (1 : Int32)) d18_26 27 rfl rfl ?_
        refine iloadN w X d18_27 28 rfl rfl ?_
        refine iadd w X ((wd + (1 : Int32)) + ww) d18_28 29 rfl rfl ?_
        refine bipush w X (60 : Int32) d18_29 31 rfl rfl ?_
        refine icmp_le w X d18_31 38 34 (by decide) (by decide) rfl (fun hc31_5 => ?_) (fun hc31_5 => ?_)
        ·
          refine iconst w X (0 : Int32) d18_38 39 rfl rfl ?_
          refine retN w X (t := .boolean) rfl (by simp) d18_39 (by decide) (by decide) ?_
          exact ⟨(0 : Int32), rfl, rfl, lf18_5 o bl pb wd ww hc4_1 hc11_2 hc18_4 hc31_5⟩
        ·
          refine iconst w X (1 : Int32) d18_34 35 rfl rfl ?_
          refine goto w X d18_35 39 (by decide) (by decide) ?_
          refine retN w X (t := .boolean) rfl (by simp) d18_39 (by decide) (by decide) ?_
          exact ⟨(1 : Int32), rfl, rfl, lf18_6 o bl pb wd ww hc4_1 hc11_2 hc18_4 hc31_5⟩
set_option maxRecDepth 65536 in
set_option maxHeartbeats 40000000 in
theorem rm_law {l : Launch} {Z : State} {a0 : Array Value} (hw : ∀ d ∈ tables_1, d.before a0 Z = true) (a1 a2 a3 a4 : Int32) (cs : Int32) (sio : Value) (h : Heap) (n0 : Nat) (zn : n0 ≤ h.size) (S_cs : Sta Z h "java/lang/String" "COMPACT_STRINGS" "Z" (.int cs)) (hcs : ¬ cs = 0) (S_sio : Sta Z h "jdk/internal/util/Preconditions" "SIOOBE_FORMATTER" "Ljava/util/function/BiFunction;" sio) (hsio : sio.isRef = true) :
    MetH consts_1 l Z x code maxLocals ret tables_1 room_1 #[(.int a1), (.int a2), (.int a3), (.int a4)] h n0 (RI fun r _ => r = 1) := by
  refine startH (own_EW hw) (ls := #[.val (.int a1), .val (.int a2), .val (.int a3), .val (.int a4), .unset, .unset, .unset, .unset, .unset, .unset, .unset, .unset, .unset, .unset, .unset, .unset, .unset, .unset, .unset, .unset]) (plainFor_of_name pn13) (fun m => by first | (simp [entryFrame, mkF, argsToLocals, Value.category, maxLocals]; done) | rfl) ?_
  intro p e s0 m below meth c T G s k0 w X ws zk hC
  refine iloadN w X at_0 1 rfl rfl ?_
  refine ldcI w X (wd0 hw) at_1 3 rfl ?_
  refine iand w X (a1 &&& (2147483647 : Int32)) at_3 4 rfl rfl ?_
  refine bipush w X (9 : Int32) at_4 6 rfl rfl ?_
  refine irem w X ((a1 &&& (2147483647 : Int32)) % (9 : Int32)) at_6 7 rfl rfl (by decide) ?_
  obtain ⟨i4_1, hi4_1⟩ : ∃ z : Int32, z = ((a1 &&& (2147483647 : Int32)) % (9 : Int32)) := ⟨_, rfl⟩
  refine istore w X i4_1 at_7 9 rfl hi4_1 #[.val (.int a1), .val (.int a2), .val (.int a3), .val (.int a4), .val (.int i4_1), .unset, .unset, .unset, .unset, .unset, .unset, .unset, .unset, .unset, .unset, .unset, .unset, .unset, .unset, .unset] rfl ?_
  obtain ⟨kk, hkk, hk4⟩ := own_kk a1
  rw [← hi4_1] at hk4
  refine iloadN w X at_9 10 rfl rfl ?_
  refine bipush w X (7 : Int32) at_10 12 rfl rfl ?_
  refine iand w X (a2 &&& (7 : Int32)) at_12 13 rfl rfl ?_
  obtain ⟨i5_2, hi5_2⟩ : ∃ z : Int32, z = (a2 &&& (7 : Int32)) := ⟨_, rfl⟩
  refine istore w X i5_2 at_13 15 rfl hi5_2 #[.val (.int a1), .val (.int a2), .val (.int a3), .val (.int a4), .val (.int i4_1), .val (.int i5_2), .unset, .unset, .unset, .unset, .unset, .unset, .unset, .unset, .unset, .unset, .unset, .unset, .unset, .unset] rfl ?_
  refine iloadN w X at_15 16 rfl rfl ?_
  refine iconst w X (1 : Int32) at_16 17 rfl rfl ?_
  refine iand w X (a3 &&& (1 : Int32)) at_17 18 rfl rfl ?_
  have J4 : ∀ (T : State) (x5 : Int32), Sd p l e room_1 s m #[(.int a1), (.int a2), (.int a3), (.int a4)] below meth c n0 T h 0 0 → ((((a3 &&& (1 : Int32)) = 0) ∧ (x5 = (0 : Int32))) ∨ ((¬ ((a3 &&& (1 : Int32)) = 0)) ∧ (x5 = (1 : Int32)))) → G (T.setTop (mkF m 26 #[.val (.int a1), .val (.int a2), .val (.int a3), .val (.int a4), .val (.int i4_1), .val (.int i5_2), .unset, .unset, .unset, .unset, .unset, .unset, .unset, .unset, .unset, .unset, .unset, .unset, .unset, .unset] [(.int x5)])) := by
    intro T x5 X hjJ4
    refine istore w X x5 at_26 28 rfl rfl #[.val (.int a1), .val (.int a2), .val (.int a3), .val (.int a4), .val (.int i4_1), .val (.int i5_2), .val (.int x5), .unset, .unset, .unset, .unset, .unset, .unset, .unset, .unset, .unset, .unset, .unset, .unset, .unset] rfl ?_
    refine iloadN w X at_28 29 rfl rfl ?_
    refine iconst w X (1 : Int32) at_29 30 rfl rfl ?_
    refine iushr w X ((a3.toUInt32 >>> ((1 : Int32) &&& 31).toUInt32).toInt32) at_30 31 rfl rfl ?_
    refine iconst w X (3 : Int32) at_31 32 rfl rfl ?_
    refine iand w X (((a3.toUInt32 >>> ((1 : Int32) &&& 31).toUInt32).toInt32) &&& (3 : Int32)) at_32 33 rfl rfl ?_
    obtain ⟨i7_6, hi7_6⟩ : ∃ z : Int32, z = (((a3.toUInt32 >>> ((1 : Int32) &&& 31).toUInt32).toInt32) &&& (3 : Int32)) := ⟨_, rfl⟩
    refine istore w X i7_6 at_33 35 rfl hi7_6 #[.val (.int a1), .val (.int a2), .val (.int a3), .val (.int a4), .val (.int i4_1), .val (.int i5_2), .val (.int x5), .val (.int i7_6), .unset, .unset, .unset, .unset, .unset, .unset, .unset, .unset, .unset, .unset, .unset, .unset] rfl ?_
    refine iloadN w X at_35 36 rfl rfl ?_
    refine iconst w X (3 : Int32) at_36 37 rfl rfl ?_
    refine iushr w X ((a3.toUInt32 >>> ((3 : Int32) &&& 31).toUInt32).toInt32) at_37 38 rfl rfl ?_
    refine iconst w X (3 : Int32) at_38 39 rfl rfl ?_
    refine iand w X (((a3.toUInt32 >>> ((3 : Int32) &&& 31).toUInt32).toInt32) &&& (3 : Int32)) at_39 40 rfl rfl ?_
    obtain ⟨i8_7, hi8_7⟩ : ∃ z : Int32, z = (((a3.toUInt32 >>> ((3 : Int32) &&& 31).toUInt32).toInt32) &&& (3 : Int32)) := ⟨_, rfl⟩
    refine istore w X i8_7 at_40 42 rfl hi8_7 #[.val (.int a1), .val (.int a2), .val (.int a3), .val (.int a4), .val (.int i4_1), .val (.int i5_2), .val (.int x5), .val (.int i7_6), .val (.int i8_7), .unset, .unset, .unset, .unset, .unset, .unset, .unset, .unset, .unset, .unset, .unset] rfl ?_
    refine iloadN w X at_42 43 rfl rfl ?_
    refine iconst w X (5 : Int32) at_43 44 rfl rfl ?_
    refine iushr w X ((a3.toUInt32 >>> ((5 : Int32) &&& 31).toUInt32).toInt32) at_44 45 rfl rfl ?_
    refine iconst w X (3 : Int32) at_45 46 rfl rfl ?_
    refine iand w X (((a3.toUInt32 >>> ((5 : Int32) &&& 31).toUInt32).toInt32) &&& (3 : Int32)) at_46 47 rfl rfl ?_
    obtain ⟨i9_8, hi9_8⟩ : ∃ z : Int32, z = (((a3.toUInt32 >>> ((5 : Int32) &&& 31).toUInt32).toInt32) &&& (3 : Int32)) := ⟨_, rfl⟩
    refine istore w X i9_8 at_47 49 rfl hi9_8 #[.val (.int a1), .val (.int a2), .val (.int a3), .val (.int a4), .val (.int i4_1), .val (.int i5_2), .val (.int x5), .val (.int i7_6), .val (.int i8_7), .val (.int i9_8), .unset, .unset, .unset, .unset, .unset, .unset, .unset, .unset, .unset, .unset] rfl ?_
    refine iloadN w X at_49 50 rfl rfl ?_
    refine ldcI w X (wd1 hw) at_50 52 rfl ?_
    refine iand w X (a4 &&& (1073741823 : Int32)) at_52 53 rfl rfl ?_
    obtain ⟨i10_9, hi10_9⟩ : ∃ z : Int32, z = (a4 &&& (1073741823 : Int32)) := ⟨_, rfl⟩
    refine istore w X i10_9 at_53 55 rfl hi10_9 #[.val (.int a1), .val (.int a2), .val (.int a3), .val (.int a4), .val (.int i4_1), .val (.int i5_2), .val (.int x5), .val (.int i7_6), .val (.int i8_7), .val (.int i9_8), .val (.int i10_9), .unset, .unset, .unset, .unset, .unset, .unset, .unset, .unset, .unset] rfl ?_
    have J174 : ∀ (s : State) (k0 : Nat) (T : State) (hJ : Heap) (sa sv : Addr) (u0 u1 u2 u3 op : Int32), Wk p l e room_1 s m #[(.int a1), (.int a2), (.int a3), (.int a4)] below meth c n0 Z x.cls x.name code maxLocals ret (QH Z consts_1 s0 h s k0 (RI fun r _ => r = 1)) G → Sd p l e room_1 s m #[(.int a1), (.int a2), (.int a3), (.int a4)] below meth c n0 T hJ 2 20 → IvH p l e room_1 s0 m #[(.int a1), (.int a2), (.int a3), (.int a4)] below meth c n0 Z x.cls x.name code maxLocals ret consts_1 h (RI fun r _ => r = 1) G s k0 → CHr Z consts_1 s0.vm h s.vm hJ → n0 ≤ hJ.size → Sta Z hJ "java/lang/String" "COMPACT_STRINGS" "Z" (.int cs) → Sta Z hJ "jdk/internal/util/Preconditions" "SIOOBE_FORMATTER" "Ljava/util/function/BiFunction;" sio → k0 ≤ hJ.size → Exa Z hJ sa "java/lang/String" → Fld Z hJ sa "java/lang/String" "value" "[B" (.ref sv) → PA Z hJ sv .byte [u0, u1, u2, u3] → Fld Z hJ sa "java/lang/String" "coder" "B" (.int (0 : Int32)) → ((u0 = (97 : Int32) ∧ u1 = (98 : Int32) ∧ u2 = (99 : Int32) ∧ u3 = (44 : Int32) ∧ op = (1 : Int32)) ∨ (u0 = (120 : Int32) ∧ u1 = (32 : Int32) ∧ u2 = (97 : Int32) ∧ u3 = (98 : Int32) ∧ op = (1 : Int32)) ∨ (u0 = (120 : Int32) ∧ u1 = (32 : Int32) ∧ u2 = (65 : Int32) ∧ u3 = (98 : Int32) ∧ op = (0 : Int32)) ∨ (u0 = (97 : Int32) ∧ u1 = (98 : Int32) ∧ u2 = (99 : Int32) ∧ u3 = (46 : Int32) ∧ op = (0 : Int32)) ∨ (u0 = (59 : Int32) ∧ u1 = (32 : Int32) ∧ u2 = (111 : Int32) ∧ u3 = (114 : Int32) ∧ op = (0 : Int32)) ∨ (u0 = (120 : Int32) ∧ u1 = (32 : Int32) ∧ u2 = (111 : Int32) ∧ u3 = (114 : Int32) ∧ op = (1 : Int32)) ∨ (u0 = (97 : Int32) ∧ u1 = (46 : Int32) ∧ u2 = (98 : Int32) ∧ u3 = (99 : Int32) ∧ op = (0 : Int32)) ∨ (u0 = (65 : Int32) ∧ u1 = (66 : Int32) ∧ u2 = (67 : Int32) ∧ u3 = (68 : Int32) ∧ op = (0 : Int32))) → G (T.setTop (mkF m 174 #[.val (.int a1), .val (.int a2), .val (.int a3), .val (.int a4), .val (.int i4_1), .val (.int i5_2), .val (.int x5), .val (.int i7_6), .val (.int i8_7), .val (.int i9_8), .val (.int i10_9), .val (.ref sa), .val (.int op), .unset, .unset, .unset, .unset, .unset, .unset, .unset] [])) := by
      intro s k0 T hJ sa sv u0 u1 u2 u3 op w X ws hC zn S_cs S_sio zk E_sa F_value_sa V_sv F_coder_sa hU
      have hch := own_chu hU
      have hok := own_oku hU
      refine bipush w X (19 : Int32) at_174 176 rfl rfl ?_
      refine newarrE (aty := .byte) (ad := "[B") w X (by decide) (wd5 hw) at_176 178 rfl (by decide) 19 (by decide) (by decide) (by decide) (by decide) (fun T h10 ba cA X hnba E A EE => ?_)
      have ne_sa_ba : sa ≠ ba := fun q => absurd (q ▸ E_sa.lt) (by rw [hnba]; exact Nat.lt_irrefl _)
      have ne_sv_ba : sv ≠ ba := fun q => absurd (q ▸ V_sv.lt) (by rw [hnba]; exact Nat.lt_irrefl _)
      have g_ba : n0 ≤ ba := by rw [hnba]; exact zn
      have hsafeN := Safe.ext E hC.1 (Safe.new (Nat.le_of_eq hnba.symm))
      have hC := hC.trans (CHr.ext E hC.1)
      have zn : n0 ≤ h10.size := Nat.le_trans zn E.1
      have S_cs := S_cs.ext E
      have S_sio := S_sio.ext E
      have zk : k0 ≤ h10.size := Nat.le_trans zk E.1
      have E_sa := E_sa.ext E
      have F_value_sa := F_value_sa.ext E
      have V_sv := V_sv.ext E
      have F_coder_sa := F_coder_sa.ext E
      have S_ba := hsafeN
      have E_ba := EE
      have V_ba : PA Z h10 ba .byte [(0 : Int32), (0 : Int32), (0 : Int32), (0 : Int32), (0 : Int32), (0 : Int32), (0 : Int32), (0 : Int32), (0 : Int32), (0 : Int32), (0 : Int32), (0 : Int32), (0 : Int32), (0 : Int32), (0 : Int32), (0 : Int32), (0 : Int32), (0 : Int32), (0 : Int32)] := PA.new .byte rfl rfl 19 A (by decide)
      refine astore w X at_178 180 rfl rfl #[.val (.int a1), .val (.int a2), .val (.int a3), .val (.int a4), .val (.int i4_1), .val (.int i5_2), .val (.int x5), .val (.int i7_6), .val (.int i8_7), .val (.int i9_8), .val (.int i10_9), .val (.ref sa), .val (.int op), .val (.ref ba), .unset, .unset, .unset, .unset, .unset, .unset] rfl ?_
      refine aload w X at_180 182 rfl rfl rfl ?_
      refine iconst w X (0 : Int32) at_182 183 rfl rfl ?_
      refine iconst w X (0 : Int32) at_183 184 rfl rfl ?_
      refine iload w X at_184 186 rfl rfl ?_
      refine callSPI w X [(.int (0 : Int32)), (.int i4_1)] (wd10 hw) (wd11 hw) (wd12 hw) (wd13 hw) (by decide) (rm_pad hw (0 : Int32) i4_1 h10 n0 zn) at_186 189 rfl 2 (by decide) (by decide) (lenOf pd18 rfl) rfl (Nat.le_of_eq rfl) rfl (by decide) (by decide) (fun r12 T X hq => ?_)
      have hr12 := hq
      refine bastore w X V_ba (by decide) 0 rfl (Nat.le_of_ble_eq_true rfl) g_ba at_189 190 rfl r12 (by rw [hr12]; exact own_padb _ _) (fun T h13 X W V_ba => ?_)
      have V_ba : PA Z h13 ba .byte [r12, (0 : Int32), (0 : Int32), (0 : Int32), (0 : Int32), (0 : Int32), (0 : Int32), (0 : Int32), (0 : Int32), (0 : Int32), (0 : Int32), (0 : Int32), (0 : Int32), (0 : Int32), (0 : Int32), (0 : Int32), (0 : Int32), (0 : Int32), (0 : Int32)] := V_ba
      have hsafe := S_ba
      have S_ba := Safe.wr W hsafe hC.1 S_ba
      have hC := hC.trans (CHr.wr W hsafe hC.1)
      have zn : n0 ≤ h13.size := W.size ▸ zn
      have S_cs := S_cs.wr W
      have S_sio := S_sio.wr W
      have zk : k0 ≤ h13.size := W.size ▸ zk
      have E_sa := E_sa.wr W
      have F_value_sa := F_value_sa.other W (Or.inl ne_sa_ba)
      have V_sv := V_sv.other W ne_sv_ba
      have F_coder_sa := F_coder_sa.other W (Or.inl ne_sa_ba)
      have E_ba := E_ba.wr W
      refine aload w X at_190 192 rfl rfl rfl ?_
      refine iconst w X (1 : Int32) at_192 193 rfl rfl ?_
      refine iconst w X (1 : Int32) at_193 194 rfl rfl ?_
      refine iload w X at_194 196 rfl rfl ?_
      refine callSPI w X [(.int (1 : Int32)), (.int i4_1)] (wd10 hw) (wd11 hw) (wd12 hw) (wd13 hw) (by decide) (rm_pad hw (1 : Int32) i4_1 h13 n0 zn) at_196 199 rfl 2 (by decide) (by decide) (lenOf pd18 rfl) rfl (Nat.le_of_eq rfl) rfl (by decide) (by decide) (fun r14 T X hq => ?_)
      have hr14 := hq
      refine bastore w X V_ba (by decide) 1 rfl (Nat.le_of_ble_eq_true rfl) g_ba at_199 200 rfl r14 (by rw [hr14]; exact own_padb _ _) (fun T h15 X W V_ba => ?_)
      have V_ba : PA Z h15 ba .byte [r12, r14, (0 : Int32), (0 : Int32), (0 : Int32), (0 : Int32), (0 : Int32), (0 : Int32), (0 : Int32), (0 : Int32), (0 : Int32), (0 : Int32), (0 : Int32), (0 : Int32), (0 : Int32), (0 : Int32), (0 : Int32), (0 : Int32), (0 : Int32)] := V_ba
      have hsafe := S_ba
      have S_ba := Safe.wr W hsafe hC.1 S_ba
      have hC := hC.trans (CHr.wr W hsafe hC.1)
      have zn : n0 ≤ h15.size := W.size ▸ zn
      have S_cs := S_cs.wr W
      have S_sio := S_sio.wr W
      have zk : k0 ≤ h15.size := W.size ▸ zk
      have E_sa := E_sa.wr W
      have F_value_sa := F_value_sa.other W (Or.inl ne_sa_ba)
      have V_sv := V_sv.other W ne_sv_ba
      have F_coder_sa := F_coder_sa.other W (Or.inl ne_sa_ba)
      have E_ba := E_ba.wr W
      refine aload w X at_200 202 rfl rfl rfl ?_
      refine iconst w X (2 : Int32) at_202 203 rfl rfl ?_
      refine iconst w X (2 : Int32) at_203 204 rfl rfl ?_
      refine iload w X at_204 206 rfl rfl ?_
      refine callSPI w X [(.int (2 : Int32)), (.int i4_1)] (wd10 hw) (wd11 hw) (wd12 hw) (wd13 hw) (by decide) (rm_pad hw (2 : Int32) i4_1 h15 n0 zn) at_206 209 rfl 2 (by decide) (by decide) (lenOf pd18 rfl) rfl (Nat.le_of_eq rfl) rfl (by decide) (by decide) (fun r16 T X hq => ?_)
      have hr16 := hq
      refine bastore w X V_ba (by decide) 2 rfl (Nat.le_of_ble_eq_true rfl) g_ba at_209 210 rfl r16 (by rw [hr16]; exact own_padb _ _) (fun T h17 X W V_ba => ?_)
      have V_ba : PA Z h17 ba .byte [r12, r14, r16, (0 : Int32), (0 : Int32), (0 : Int32), (0 : Int32), (0 : Int32), (0 : Int32), (0 : Int32), (0 : Int32), (0 : Int32), (0 : Int32), (0 : Int32), (0 : Int32), (0 : Int32), (0 : Int32), (0 : Int32), (0 : Int32)] := V_ba
      have hsafe := S_ba
      have S_ba := Safe.wr W hsafe hC.1 S_ba
      have hC := hC.trans (CHr.wr W hsafe hC.1)
      have zn : n0 ≤ h17.size := W.size ▸ zn
      have S_cs := S_cs.wr W
      have S_sio := S_sio.wr W
      have zk : k0 ≤ h17.size := W.size ▸ zk
      have E_sa := E_sa.wr W
      have F_value_sa := F_value_sa.other W (Or.inl ne_sa_ba)
      have V_sv := V_sv.other W ne_sv_ba
      have F_coder_sa := F_coder_sa.other W (Or.inl ne_sa_ba)
      have E_ba := E_ba.wr W
      refine aload w X at_210 212 rfl rfl rfl ?_
      refine iconst w X (3 : Int32) at_212 213 rfl rfl ?_
      refine iconst w X (3 : Int32) at_213 214 rfl rfl ?_
      refine iload w X at_214 216 rfl rfl ?_
      refine callSPI w X [(.int (3 : Int32)), (.int i4_1)] (wd10 hw) (wd11 hw) (wd12 hw) (wd13 hw) (by decide) (rm_pad hw (3 : Int32) i4_1 h17 n0 zn) at_216 219 rfl 2 (by decide) (by decide) (lenOf pd18 rfl) rfl (Nat.le_of_eq rfl) rfl (by decide) (by decide) (fun r18 T X hq => ?_)
      have hr18 := hq
      refine bastore w X V_ba (by decide) 3 rfl (Nat.le_of_ble_eq_true rfl) g_ba at_219 220 rfl r18 (by rw [hr18]; exact own_padb _ _) (fun T h19 X W V_ba => ?_)
      have V_ba : PA Z h19 ba .byte [r12, r14, r16, r18, (0 : Int32), (0 : Int32), (0 : Int32), (0 : Int32), (0 : Int32), (0 : Int32), (0 : Int32), (0 : Int32), (0 : Int32), (0 : Int32), (0 : Int32), (0 : Int32), (0 : Int32), (0 : Int32), (0 : Int32)] := V_ba
      have hsafe := S_ba
      have S_ba := Safe.wr W hsafe hC.1 S_ba
      have hC := hC.trans (CHr.wr W hsafe hC.1)
      have zn : n0 ≤ h19.size := W.size ▸ zn
      have S_cs := S_cs.wr W
      have S_sio := S_sio.wr W
      have zk : k0 ≤ h19.size := W.size ▸ zk
      have E_sa := E_sa.wr W
      have F_value_sa := F_value_sa.other W (Or.inl ne_sa_ba)
      have V_sv := V_sv.other W ne_sv_ba
      have F_coder_sa := F_coder_sa.other W (Or.inl ne_sa_ba)
      have E_ba := E_ba.wr W
      refine aload w X at_220 222 rfl rfl rfl ?_
      refine iconst w X (4 : Int32) at_222 223 rfl rfl ?_
      refine iconst w X (4 : Int32) at_223 224 rfl rfl ?_
      refine iload w X at_224 226 rfl rfl ?_
      refine callSPI w X [(.int (4 : Int32)), (.int i4_1)] (wd10 hw) (wd11 hw) (wd12 hw) (wd13 hw) (by decide) (rm_pad hw (4 : Int32) i4_1 h19 n0 zn) at_226 229 rfl 2 (by decide) (by decide) (lenOf pd18 rfl) rfl (Nat.le_of_eq rfl) rfl (by decide) (by decide) (fun r20 T X hq => ?_)
      have hr20 := hq
      refine bastore w X V_ba (by decide) 4 rfl (Nat.le_of_ble_eq_true rfl) g_ba at_229 230 rfl r20 (by rw [hr20]; exact own_padb _ _) (fun T h21 X W V_ba => ?_)
      have V_ba : PA Z h21 ba .byte [r12, r14, r16, r18, r20, (0 : Int32), (0 : Int32), (0 : Int32), (0 : Int32), (0 : Int32), (0 : Int32), (0 : Int32), (0 : Int32), (0 : Int32), (0 : Int32), (0 : Int32), (0 : Int32), (0 : Int32), (0 : Int32)] := V_ba
      have hsafe := S_ba
      have S_ba := Safe.wr W hsafe hC.1 S_ba
      have hC := hC.trans (CHr.wr W hsafe hC.1)
      have zn : n0 ≤ h21.size := W.size ▸ zn
      have S_cs := S_cs.wr W
      have S_sio := S_sio.wr W
      have zk : k0 ≤ h21.size := W.size ▸ zk
      have E_sa := E_sa.wr W
      have F_value_sa := F_value_sa.other W (Or.inl ne_sa_ba)
      have V_sv := V_sv.other W ne_sv_ba
      have F_coder_sa := F_coder_sa.other W (Or.inl ne_sa_ba)
      have E_ba := E_ba.wr W
      refine aload w X at_230 232 rfl rfl rfl ?_
      refine iconst w X (5 : Int32) at_232 233 rfl rfl ?_
      refine iconst w X (5 : Int32) at_233 234 rfl rfl ?_
      refine iload w X at_234 236 rfl rfl ?_
      refine callSPI w X [(.int (5 : Int32)), (.int i4_1)] (wd10 hw) (wd11 hw) (wd12 hw) (wd13 hw) (by decide) (rm_pad hw (5 : Int32) i4_1 h21 n0 zn) at_236 239 rfl 2 (by decide) (by decide) (lenOf pd18 rfl) rfl (Nat.le_of_eq rfl) rfl (by decide) (by decide) (fun r22 T X hq => ?_)
      have hr22 := hq
      refine bastore w X V_ba (by decide) 5 rfl (Nat.le_of_ble_eq_true rfl) g_ba at_239 240 rfl r22 (by rw [hr22]; exact own_padb _ _) (fun T h23 X W V_ba => ?_)
      have V_ba : PA Z h23 ba .byte [r12, r14, r16, r18, r20, r22, (0 : Int32), (0 : Int32), (0 : Int32), (0 : Int32), (0 : Int32), (0 : Int32), (0 : Int32), (0 : Int32), (0 : Int32), (0 : Int32), (0 : Int32), (0 : Int32), (0 : Int32)] := V_ba
      have hsafe := S_ba
      have S_ba := Safe.wr W hsafe hC.1 S_ba
      have hC := hC.trans (CHr.wr W hsafe hC.1)
      have zn : n0 ≤ h23.size := W.size ▸ zn
      have S_cs := S_cs.wr W
      have S_sio := S_sio.wr W
      have zk : k0 ≤ h23.size := W.size ▸ zk
      have E_sa := E_sa.wr W
      have F_value_sa := F_value_sa.other W (Or.inl ne_sa_ba)
      have V_sv := V_sv.other W ne_sv_ba
      have F_coder_sa := F_coder_sa.other W (Or.inl ne_sa_ba)
      have E_ba := E_ba.wr W
      refine aload w X at_240 242 rfl rfl rfl ?_
      refine bipush w X (6 : Int32) at_242 244 rfl rfl ?_
      refine bipush w X (6 : Int32) at_244 246 rfl rfl ?_
      refine iload w X at_246 248 rfl rfl ?_
      refine callSPI w X [(.int (6 : Int32)), (.int i4_1)] (wd10 hw) (wd11 hw) (wd12 hw) (wd13 hw) (by decide) (rm_pad hw (6 : Int32) i4_1 h23 n0 zn) at_248 251 rfl 2 (by decide) (by decide) (lenOf pd18 rfl) rfl (Nat.le_of_eq rfl) rfl (by decide) (by decide) (fun r24 T X hq => ?_)
      have hr24 := hq
      refine bastore w X V_ba (by decide) 6 rfl (Nat.le_of_ble_eq_true rfl) g_ba at_251 252 rfl r24 (by rw [hr24]; exact own_padb _ _) (fun T h25 X W V_ba => ?_)
      have V_ba : PA Z h25 ba .byte [r12, r14, r16, r18, r20, r22, r24, (0 : Int32), (0 : Int32), (0 : Int32), (0 : Int32), (0 : Int32), (0 : Int32), (0 : Int32), (0 : Int32), (0 : Int32), (0 : Int32), (0 : Int32), (0 : Int32)] := V_ba
      have hsafe := S_ba
      have S_ba := Safe.wr W hsafe hC.1 S_ba
      have hC := hC.trans (CHr.wr W hsafe hC.1)
      have zn : n0 ≤ h25.size := W.size ▸ zn
      have S_cs := S_cs.wr W
      have S_sio := S_sio.wr W
      have zk : k0 ≤ h25.size := W.size ▸ zk
      have E_sa := E_sa.wr W
      have F_value_sa := F_value_sa.other W (Or.inl ne_sa_ba)
      have V_sv := V_sv.other W ne_sv_ba
      have F_coder_sa := F_coder_sa.other W (Or.inl ne_sa_ba)
      have E_ba := E_ba.wr W
      refine aload w X at_252 254 rfl rfl rfl ?_
      refine bipush w X (7 : Int32) at_254 256 rfl rfl ?_
      refine bipush w X (7 : Int32) at_256 258 rfl rfl ?_
      refine iload w X at_258 260 rfl rfl ?_
      refine callSPI w X [(.int (7 : Int32)), (.int i4_1)] (wd10 hw) (wd11 hw) (wd12 hw) (wd13 hw) (by decide) (rm_pad hw (7 : Int32) i4_1 h25 n0 zn) at_260 263 rfl 2 (by decide) (by decide) (lenOf pd18 rfl) rfl (Nat.le_of_eq rfl) rfl (by decide) (by decide) (fun r26 T X hq => ?_)
      have hr26 := hq
      refine bastore w X V_ba (by decide) 7 rfl (Nat.le_of_ble_eq_true rfl) g_ba at_263 264 rfl r26 (by rw [hr26]; exact own_padb _ _) (fun T h27 X W V_ba => ?_)
      have V_ba : PA Z h27 ba .byte [r12, r14, r16, r18, r20, r22, r24, r26, (0 : Int32), (0 : Int32), (0 : Int32), (0 : Int32), (0 : Int32), (0 : Int32), (0 : Int32), (0 : Int32), (0 : Int32), (0 : Int32), (0 : Int32)] := V_ba
      have hsafe := S_ba
      have S_ba := Safe.wr W hsafe hC.1 S_ba
      have hC := hC.trans (CHr.wr W hsafe hC.1)
      have zn : n0 ≤ h27.size := W.size ▸ zn
      have S_cs := S_cs.wr W
      have S_sio := S_sio.wr W
      have zk : k0 ≤ h27.size := W.size ▸ zk
      have E_sa := E_sa.wr W
      have F_value_sa := F_value_sa.other W (Or.inl ne_sa_ba)
      have V_sv := V_sv.other W ne_sv_ba
      have F_coder_sa := F_coder_sa.other W (Or.inl ne_sa_ba)
      have E_ba := E_ba.wr W
      refine aload w X at_264 266 rfl rfl rfl ?_
      refine bipush w X (8 : Int32) at_266 268 rfl rfl ?_
      refine aload w X at_268 270 rfl rfl rfl ?_
      refine iconst w X (0 : Int32) at_270 271 rfl rfl ?_
      refine callVPI w X [(.int (0 : Int32))] (wd14 hw) (wd15 hw) (notFace_of_selects (args := #[]) (mvT w.2.2.2.2.1 (wd17 hw))) (wd17 hw) (wd16 hw) (wd3 hw) (wd18 hw) (by decide) E_sa (rm_charAt hw sa sv (0 : Int32) [u0, u1, u2, u3] (4 : Int32) cs sio h27 n0 zn S_cs hcs E_sa F_value_sa V_sv F_coder_sa rfl (by decide) (by decide) (Nat.le_of_ble_eq_true rfl) S_sio hsio) at_271 274 rfl 2 (by decide) (by decide) (lenOf pd14 rfl) rfl (Nat.le_of_eq rfl) rfl (by decide) (by decide) (fun r28 T X hq => ?_)
      have hr28 := hq
      refine i2b w X (r28.toInt8.toInt32) at_274 275 rfl rfl ?_
      refine bastore w X V_ba (by decide) 8 rfl (Nat.le_of_ble_eq_true rfl) g_ba at_275 276 rfl u0 (by rw [hr28]; exact hch.1) (fun T h29 X W V_ba => ?_)
      have V_ba : PA Z h29 ba .byte [r12, r14, r16, r18, r20, r22, r24, r26, u0, (0 : Int32), (0 : Int32), (0 : Int32), (0 : Int32), (0 : Int32), (0 : Int32), (0 : Int32), (0 : Int32), (0 : Int32), (0 : Int32)] := V_ba
      have hsafe := S_ba
      have S_ba := Safe.wr W hsafe hC.1 S_ba
      have hC := hC.trans (CHr.wr W hsafe hC.1)
      have zn : n0 ≤ h29.size := W.size ▸ zn
      have S_cs := S_cs.wr W
      have S_sio := S_sio.wr W
      have zk : k0 ≤ h29.size := W.size ▸ zk
      have E_sa := E_sa.wr W
      have F_value_sa := F_value_sa.other W (Or.inl ne_sa_ba)
      have V_sv := V_sv.other W ne_sv_ba
      have F_coder_sa := F_coder_sa.other W (Or.inl ne_sa_ba)
      have E_ba := E_ba.wr W
      refine aload w X at_276 278 rfl rfl rfl ?_
      refine bipush w X (9 : Int32) at_278 280 rfl rfl ?_
      refine aload w X at_280 282 rfl rfl rfl ?_
      refine iconst w X (1 : Int32) at_282 283 rfl rfl ?_
      refine callVPI w X [(.int (1 : Int32))] (wd14 hw) (wd15 hw) (notFace_of_selects (args := #[]) (mvT w.2.2.2.2.1 (wd17 hw))) (wd17 hw) (wd16 hw) (wd3 hw) (wd18 hw) (by decide) E_sa (rm_charAt hw sa sv (1 : Int32) [u0, u1, u2, u3] (4 : Int32) cs sio h29 n0 zn S_cs hcs E_sa F_value_sa V_sv F_coder_sa rfl (by decide) (by decide) (Nat.le_of_ble_eq_true rfl) S_sio hsio) at_283 286 rfl 2 (by decide) (by decide) (lenOf pd14 rfl) rfl (Nat.le_of_eq rfl) rfl (by decide) (by decide) (fun r30 T X hq => ?_)
      have hr30 := hq
      refine i2b w X (r30.toInt8.toInt32) at_286 287 rfl rfl ?_
      refine bastore w X V_ba (by decide) 9 rfl (Nat.le_of_ble_eq_true rfl) g_ba at_287 288 rfl u1 (by rw [hr30]; exact hch.2.1) (fun T h31 X W V_ba => ?_)
      have V_ba : PA Z h31 ba .byte [r12, r14, r16, r18, r20, r22, r24, r26, u0, u1, (0 : Int32), (0 : Int32), (0 : Int32), (0 : Int32), (0 : Int32), (0 : Int32), (0 : Int32), (0 : Int32), (0 : Int32)] := V_ba
      have hsafe := S_ba
      have S_ba := Safe.wr W hsafe hC.1 S_ba
      have hC := hC.trans (CHr.wr W hsafe hC.1)
      have zn : n0 ≤ h31.size := W.size ▸ zn
      have S_cs := S_cs.wr W
      have S_sio := S_sio.wr W
      have zk : k0 ≤ h31.size := W.size ▸ zk
      have E_sa := E_sa.wr W
      have F_value_sa := F_value_sa.other W (Or.inl ne_sa_ba)
      have V_sv := V_sv.other W ne_sv_ba
      have F_coder_sa := F_coder_sa.other W (Or.inl ne_sa_ba)
      have E_ba := E_ba.wr W
      refine aload w X at_288 290 rfl rfl rfl ?_
      refine bipush w X (10 : Int32) at_290 292 rfl rfl ?_
      refine aload w X at_292 294 rfl rfl rfl ?_
      refine iconst w X (2 : Int32) at_294 295 rfl rfl ?_
      refine callVPI w X [(.int (2 : Int32))] (wd14 hw) (wd15 hw) (notFace_of_selects (args := #[]) (mvT w.2.2.2.2.1 (wd17 hw))) (wd17 hw) (wd16 hw) (wd3 hw) (wd18 hw) (by decide) E_sa (rm_charAt hw sa sv (2 : Int32) [u0, u1, u2, u3] (4 : Int32) cs sio h31 n0 zn S_cs hcs E_sa F_value_sa V_sv F_coder_sa rfl (by decide) (by decide) (Nat.le_of_ble_eq_true rfl) S_sio hsio) at_295 298 rfl 2 (by decide) (by decide) (lenOf pd14 rfl) rfl (Nat.le_of_eq rfl) rfl (by decide) (by decide) (fun r32 T X hq => ?_)
      have hr32 := hq
      refine i2b w X (r32.toInt8.toInt32) at_298 299 rfl rfl ?_
      refine bastore w X V_ba (by decide) 10 rfl (Nat.le_of_ble_eq_true rfl) g_ba at_299 300 rfl u2 (by rw [hr32]; exact hch.2.2.1) (fun T h33 X W V_ba => ?_)
      have V_ba : PA Z h33 ba .byte [r12, r14, r16, r18, r20, r22, r24, r26, u0, u1, u2, (0 : Int32), (0 : Int32), (0 : Int32), (0 : Int32), (0 : Int32), (0 : Int32), (0 : Int32), (0 : Int32)] := V_ba
      have hsafe := S_ba
      have S_ba := Safe.wr W hsafe hC.1 S_ba
      have hC := hC.trans (CHr.wr W hsafe hC.1)
      have zn : n0 ≤ h33.size := W.size ▸ zn
      have S_cs := S_cs.wr W
      have S_sio := S_sio.wr W
      have zk : k0 ≤ h33.size := W.size ▸ zk
      have E_sa := E_sa.wr W
      have F_value_sa := F_value_sa.other W (Or.inl ne_sa_ba)
      have V_sv := V_sv.other W ne_sv_ba
      have F_coder_sa := F_coder_sa.other W (Or.inl ne_sa_ba)
      have E_ba := E_ba.wr W
      refine aload w X at_300 302 rfl rfl rfl ?_
      refine bipush w X (11 : Int32) at_302 304 rfl rfl ?_
      refine aload w X at_304 306 rfl rfl rfl ?_
      refine iconst w X (3 : Int32) at_306 307 rfl rfl ?_
      refine callVPI w X [(.int (3 : Int32))] (wd14 hw) (wd15 hw) (notFace_of_selects (args := #[]) (mvT w.2.2.2.2.1 (wd17 hw))) (wd17 hw) (wd16 hw) (wd3 hw) (wd18 hw) (by decide) E_sa (rm_charAt hw sa sv (3 : Int32) [u0, u1, u2, u3] (4 : Int32) cs sio h33 n0 zn S_cs hcs E_sa F_value_sa V_sv F_coder_sa rfl (by decide) (by decide) (Nat.le_of_ble_eq_true rfl) S_sio hsio) at_307 310 rfl 2 (by decide) (by decide) (lenOf pd14 rfl) rfl (Nat.le_of_eq rfl) rfl (by decide) (by decide) (fun r34 T X hq => ?_)
      have hr34 := hq
      refine i2b w X (r34.toInt8.toInt32) at_310 311 rfl rfl ?_
      refine bastore w X V_ba (by decide) 11 rfl (Nat.le_of_ble_eq_true rfl) g_ba at_311 312 rfl u3 (by rw [hr34]; exact hch.2.2.2) (fun T h35 X W V_ba => ?_)
      have V_ba : PA Z h35 ba .byte [r12, r14, r16, r18, r20, r22, r24, r26, u0, u1, u2, u3, (0 : Int32), (0 : Int32), (0 : Int32), (0 : Int32), (0 : Int32), (0 : Int32), (0 : Int32)] := V_ba
      have hsafe := S_ba
      have S_ba := Safe.wr W hsafe hC.1 S_ba
      have hC := hC.trans (CHr.wr W hsafe hC.1)
      have zn : n0 ≤ h35.size := W.size ▸ zn
      have S_cs := S_cs.wr W
      have S_sio := S_sio.wr W
      have zk : k0 ≤ h35.size := W.size ▸ zk
      have E_sa := E_sa.wr W
      have F_value_sa := F_value_sa.other W (Or.inl ne_sa_ba)
      have V_sv := V_sv.other W ne_sv_ba
      have F_coder_sa := F_coder_sa.other W (Or.inl ne_sa_ba)
      have E_ba := E_ba.wr W
      refine aload w X at_312 314 rfl rfl rfl ?_
      refine bipush w X (12 : Int32) at_314 316 rfl rfl ?_
      refine bipush w X (10 : Int32) at_316 318 rfl rfl ?_
      refine bastore w X V_ba (by decide) 12 rfl (Nat.le_of_ble_eq_true rfl) g_ba at_318 319 rfl (10 : Int32) rfl (fun T h36 X W V_ba => ?_)
      have V_ba : PA Z h36 ba .byte [r12, r14, r16, r18, r20, r22, r24, r26, u0, u1, u2, u3, (10 : Int32), (0 : Int32), (0 : Int32), (0 : Int32), (0 : Int32), (0 : Int32), (0 : Int32)] := V_ba
      have hsafe := S_ba
      have S_ba := Safe.wr W hsafe hC.1 S_ba
      have hC := hC.trans (CHr.wr W hsafe hC.1)
      have zn : n0 ≤ h36.size := W.size ▸ zn
      have S_cs := S_cs.wr W
      have S_sio := S_sio.wr W
      have zk : k0 ≤ h36.size := W.size ▸ zk
      have E_sa := E_sa.wr W
      have F_value_sa := F_value_sa.other W (Or.inl ne_sa_ba)
      have V_sv := V_sv.other W ne_sv_ba
      have F_coder_sa := F_coder_sa.other W (Or.inl ne_sa_ba)
      have E_ba := E_ba.wr W
      refine aload w X at_319 321 rfl rfl rfl ?_
      refine bipush w X (13 : Int32) at_321 323 rfl rfl ?_
      refine bipush w X (60 : Int32) at_323 325 rfl rfl ?_
      refine bastore w X V_ba (by decide) 13 rfl (Nat.le_of_ble_eq_true rfl) g_ba at_325 326 rfl (60 : Int32) rfl (fun T h37 X W V_ba => ?_)
      have V_ba : PA Z h37 ba .byte [r12, r14, r16, r18, r20, r22, r24, r26, u0, u1, u2, u3, (10 : Int32), (60 : Int32), (0 : Int32), (0 : Int32), (0 : Int32), (0 : Int32), (0 : Int32)] := V_ba
      have hsafe := S_ba
      have S_ba := Safe.wr W hsafe hC.1 S_ba
      have hC := hC.trans (CHr.wr W hsafe hC.1)
      have zn : n0 ≤ h37.size := W.size ▸ zn
      have S_cs := S_cs.wr W
      have S_sio := S_sio.wr W
      have zk : k0 ≤ h37.size := W.size ▸ zk
      have E_sa := E_sa.wr W
      have F_value_sa := F_value_sa.other W (Or.inl ne_sa_ba)
      have V_sv := V_sv.other W ne_sv_ba
      have F_coder_sa := F_coder_sa.other W (Or.inl ne_sa_ba)
      have E_ba := E_ba.wr W
      refine aload w X at_326 328 rfl rfl rfl ?_
      refine bipush w X (14 : Int32) at_328 330 rfl rfl ?_
      refine bipush w X (10 : Int32) at_330 332 rfl rfl ?_
      refine bastore w X V_ba (by decide) 14 rfl (Nat.le_of_ble_eq_true rfl) g_ba at_332 333 rfl (10 : Int32) rfl (fun T h38 X W V_ba => ?_)
      have V_ba : PA Z h38 ba .byte [r12, r14, r16, r18, r20, r22, r24, r26, u0, u1, u2, u3, (10 : Int32), (60 : Int32), (10 : Int32), (0 : Int32), (0 : Int32), (0 : Int32), (0 : Int32)] := V_ba
      have hsafe := S_ba
      have S_ba := Safe.wr W hsafe hC.1 S_ba
      have hC := hC.trans (CHr.wr W hsafe hC.1)
      have zn : n0 ≤ h38.size := W.size ▸ zn
      have S_cs := S_cs.wr W
      have S_sio := S_sio.wr W
      have zk : k0 ≤ h38.size := W.size ▸ zk
      have E_sa := E_sa.wr W
      have F_value_sa := F_value_sa.other W (Or.inl ne_sa_ba)
      have V_sv := V_sv.other W ne_sv_ba
      have F_coder_sa := F_coder_sa.other W (Or.inl ne_sa_ba)
      have E_ba := E_ba.wr W
      refine aload w X at_333 335 rfl rfl rfl ?_
      refine bipush w X (15 : Int32) at_335 337 rfl rfl ?_
      refine bipush w X (45 : Int32) at_337 339 rfl rfl ?_
      refine bastore w X V_ba (by decide) 15 rfl (Nat.le_of_ble_eq_true rfl) g_ba at_339 340 rfl (45 : Int32) rfl (fun T h39 X W V_ba => ?_)
      have V_ba : PA Z h39 ba .byte [r12, r14, r16, r18, r20, r22, r24, r26, u0, u1, u2, u3, (10 : Int32), (60 : Int32), (10 : Int32), (45 : Int32), (0 : Int32), (0 : Int32), (0 : Int32)] := V_ba
      have hsafe := S_ba
      have S_ba := Safe.wr W hsafe hC.1 S_ba
      have hC := hC.trans (CHr.wr W hsafe hC.1)
      have zn : n0 ≤ h39.size := W.size ▸ zn
      have S_cs := S_cs.wr W
      have S_sio := S_sio.wr W
      have zk : k0 ≤ h39.size := W.size ▸ zk
      have E_sa := E_sa.wr W
      have F_value_sa := F_value_sa.other W (Or.inl ne_sa_ba)
      have V_sv := V_sv.other W ne_sv_ba
      have F_coder_sa := F_coder_sa.other W (Or.inl ne_sa_ba)
      have E_ba := E_ba.wr W
      refine aload w X at_340 342 rfl rfl rfl ?_
      refine bipush w X (16 : Int32) at_342 344 rfl rfl ?_
      refine bipush w X (45 : Int32) at_344 346 rfl rfl ?_
      refine bastore w X V_ba (by decide) 16 rfl (Nat.le_of_ble_eq_true rfl) g_ba at_346 347 rfl (45 : Int32) rfl (fun T h40 X W V_ba => ?_)
      have V_ba : PA Z h40 ba .byte [r12, r14, r16, r18, r20, r22, r24, r26, u0, u1, u2, u3, (10 : Int32), (60 : Int32), (10 : Int32), (45 : Int32), (45 : Int32), (0 : Int32), (0 : Int32)] := V_ba
      have hsafe := S_ba
      have S_ba := Safe.wr W hsafe hC.1 S_ba
      have hC := hC.trans (CHr.wr W hsafe hC.1)
      have zn : n0 ≤ h40.size := W.size ▸ zn
      have S_cs := S_cs.wr W
      have S_sio := S_sio.wr W
      have zk : k0 ≤ h40.size := W.size ▸ zk
      have E_sa := E_sa.wr W
      have F_value_sa := F_value_sa.other W (Or.inl ne_sa_ba)
      have V_sv := V_sv.other W ne_sv_ba
      have F_coder_sa := F_coder_sa.other W (Or.inl ne_sa_ba)
      have E_ba := E_ba.wr W
      refine aload w X at_347 349 rfl rfl rfl ?_
      refine bipush w X (17 : Int32) at_349 351 rfl rfl ?_
      refine bipush w X (10 : Int32) at_351 353 rfl rfl ?_
      refine bastore w X V_ba (by decide) 17 rfl (Nat.le_of_ble_eq_true rfl) g_ba at_353 354 rfl (10 : Int32) rfl (fun T h41 X W V_ba => ?_)
      have V_ba : PA Z h41 ba .byte [r12, r14, r16, r18, r20, r22, r24, r26, u0, u1, u2, u3, (10 : Int32), (60 : Int32), (10 : Int32), (45 : Int32), (45 : Int32), (10 : Int32), (0 : Int32)] := V_ba
      have hsafe := S_ba
      have S_ba := Safe.wr W hsafe hC.1 S_ba
      have hC := hC.trans (CHr.wr W hsafe hC.1)
      have zn : n0 ≤ h41.size := W.size ▸ zn
      have S_cs := S_cs.wr W
      have S_sio := S_sio.wr W
      have zk : k0 ≤ h41.size := W.size ▸ zk
      have E_sa := E_sa.wr W
      have F_value_sa := F_value_sa.other W (Or.inl ne_sa_ba)
      have V_sv := V_sv.other W ne_sv_ba
      have F_coder_sa := F_coder_sa.other W (Or.inl ne_sa_ba)
      have E_ba := E_ba.wr W
      refine aload w X at_354 356 rfl rfl rfl ?_
      refine bipush w X (18 : Int32) at_356 358 rfl rfl ?_
      refine bipush w X (32 : Int32) at_358 360 rfl rfl ?_
      refine bastore w X V_ba (by decide) 18 rfl (Nat.le_of_ble_eq_true rfl) g_ba at_360 361 rfl (32 : Int32) rfl (fun T h42 X W V_ba => ?_)
      have V_ba : PA Z h42 ba .byte [r12, r14, r16, r18, r20, r22, r24, r26, u0, u1, u2, u3, (10 : Int32), (60 : Int32), (10 : Int32), (45 : Int32), (45 : Int32), (10 : Int32), (32 : Int32)] := V_ba
      have hsafe := S_ba
      have S_ba := Safe.wr W hsafe hC.1 S_ba
      have hC := hC.trans (CHr.wr W hsafe hC.1)
      have zn : n0 ≤ h42.size := W.size ▸ zn
      have S_cs := S_cs.wr W
      have S_sio := S_sio.wr W
      have zk : k0 ≤ h42.size := W.size ▸ zk
      have E_sa := E_sa.wr W
      have F_value_sa := F_value_sa.other W (Or.inl ne_sa_ba)
      have V_sv := V_sv.other W ne_sv_ba
      have F_coder_sa := F_coder_sa.other W (Or.inl ne_sa_ba)
      have E_ba := E_ba.wr W
      refine aload w X at_361 363 rfl rfl rfl ?_
      have hall := own_hall r12 r14 r16 r18 r20 r22 r24 r26 u0 u1 u2 u3 (by rw [hr12]; exact own_okp _ _) (by rw [hr14]; exact own_okp _ _) (by rw [hr16]; exact own_okp _ _) (by rw [hr18]; exact own_okp _ _) (by rw [hr20]; exact own_okp _ _) (by rw [hr22]; exact own_okp _ _) (by rw [hr24]; exact own_okp _ _) (by rw [hr26]; exact own_okp _ _) hok.1 hok.2.1 hok.2.2.1 hok.2.2.2
      refine callSR w X [(.ref ba)] (wd39 hw) (wd40 hw) (wd41 hw) (wd42 hw) (by decide) (rm_of hw ba [r12, r14, r16, r18, r20, r22, r24, r26, u0, u1, u2, u3, (10 : Int32), (60 : Int32), (10 : Int32), (45 : Int32), (45 : Int32), (10 : Int32), (32 : Int32)] h42 n0 zn E_ba V_ba rfl hall) at_363 366 rfl 0 (by decide) (by decide) (lenOf pd19 rfl) rfl (Nat.le_of_eq rfl) rfl (by decide) (by decide) (fun r43 T h44 X hq => ?_)
      obtain ⟨t, arr, rfl, Kq, E_t, F_bytes_t, V_arr⟩ := hq
      have S_cs := Sta.keepN S_cs Kq all0
      have S_sio := Sta.keepN S_sio Kq all0
      have hC := hC.trans (CHr.keep Kq all0 hC.1)
      have zn : n0 ≤ h44.size := Nat.le_trans zn Kq.1
      have zk : k0 ≤ h44.size := Nat.le_trans zk Kq.1
      refine astore w X at_366 368 rfl rfl #[.val (.int a1), .val (.int a2), .val (.int a3), .val (.int a4), .val (.int i4_1), .val (.int i5_2), .val (.int x5), .val (.int i7_6), .val (.int i8_7), .val (.int i9_8), .val (.int i10_9), .val (.ref sa), .val (.int op), .val (.ref ba), .val (.ref t), .unset, .unset, .unset, .unset, .unset] rfl ?_
      refine new w X (wd68 hw) (wd69 hw) (wd70 hw) at_368 371 rfl (by decide) (by decide) (fun T h45 lw X hnlw E A D => ?_)
      have ne_t_lw : t ≠ lw := fun q => absurd (q ▸ E_t.lt) (by rw [hnlw]; exact Nat.lt_irrefl _)
      have ne_arr_lw : arr ≠ lw := fun q => absurd (q ▸ V_arr.lt) (by rw [hnlw]; exact Nat.lt_irrefl _)
      have g_lw : n0 ≤ lw := by rw [hnlw]; exact zn
      have hC := hC.trans (CHr.ext E hC.1)
      have zn : n0 ≤ h45.size := Nat.le_trans zn E.1
      have S_cs := S_cs.ext E
      have S_sio := S_sio.ext E
      have zk : k0 ≤ h45.size := Nat.le_trans zk E.1
      have E_t := E_t.ext E
      have F_bytes_t := F_bytes_t.ext E
      have V_arr := V_arr.ext E
      have E_lw := A
      have F_blank_lw : Fld Z h45 lw "com/example/clauseline/clauseline/LineWrap" "blank" "Z" (.int (0 : Int32)) := D (Or.inl (wd95 hw)) (ty := .boolean) (by decide)
      have F_open_lw : Fld Z h45 lw "com/example/clauseline/clauseline/LineWrap" "open" "Z" (.int (0 : Int32)) := D (Or.inl (wd102 hw)) (ty := .boolean) (by decide)
      have F_pageBreak_lw : Fld Z h45 lw "com/example/clauseline/clauseline/LineWrap" "pageBreak" "Z" (.int (0 : Int32)) := D (Or.inl (wd118 hw)) (ty := .boolean) (by decide)
      have F_comma_lw : Fld Z h45 lw "com/example/clauseline/clauseline/LineWrap" "comma" "Z" (.int (0 : Int32)) := D (Or.inl (wd166 hw)) (ty := .boolean) (by decide)
      have F_width_lw : Fld Z h45 lw "com/example/clauseline/clauseline/LineWrap" "width" "I" (.int (0 : Int32)) := D (Or.inl (wd179 hw)) (ty := .int) (by decide)
      refine dup w X at_371 372 rfl rfl ?_
      refine callNPV w X [] (wd71 hw) (wd72 hw) (wd70 hw) (wd73 hw) rfl (by decide) (rm_li hw lw h45 n0 zn E_lw) at_372 375 rfl 1 (by decide) (by decide) (lenOf pd20 rfl) rfl (Nat.le_of_eq rfl) rfl (by decide) (by decide) (fun T X => ?_)
      refine astore w X at_375 377 rfl rfl #[.val (.int a1), .val (.int a2), .val (.int a3), .val (.int a4), .val (.int i4_1), .val (.int i5_2), .val (.int x5), .val (.int i7_6), .val (.int i8_7), .val (.int i9_8), .val (.int i10_9), .val (.ref sa), .val (.int op), .val (.ref ba), .val (.ref t), .val (.ref lw), .unset, .unset, .unset, .unset] rfl ?_
      refine iconst w X (0 : Int32) at_377 378 rfl rfl ?_
      refine istore w X (0 : Int32) at_378 380 rfl rfl #[.val (.int a1), .val (.int a2), .val (.int a3), .val (.int a4), .val (.int i4_1), .val (.int i5_2), .val (.int x5), .val (.int i7_6), .val (.int i8_7), .val (.int i9_8), .val (.int i10_9), .val (.ref sa), .val (.int op), .val (.ref ba), .val (.ref t), .val (.ref lw), .val (.int (0 : Int32)), .unset, .unset, .unset] rfl ?_
      refine iconst w X (0 : Int32) at_380 381 rfl rfl ?_
      refine istore w X (0 : Int32) at_381 383 rfl rfl #[.val (.int a1), .val (.int a2), .val (.int a3), .val (.int a4), .val (.int i4_1), .val (.int i5_2), .val (.int x5), .val (.int i7_6), .val (.int i8_7), .val (.int i9_8), .val (.int i10_9), .val (.ref sa), .val (.int op), .val (.ref ba), .val (.ref t), .val (.ref lw), .val (.int (0 : Int32)), .val (.int (0 : Int32)), .unset, .unset] rfl ?_
      refine aload w X at_383 385 rfl rfl rfl ?_
      refine aload w X at_385 387 rfl rfl rfl ?_
      refine iload w X at_387 389 rfl rfl ?_
      refine callSH w X ws zk hC (own_EW hw) [(.ref lw), (.ref t), (.int i7_6)] (wd75 hw) (wd76 hw) (wd12 hw) (wd77 hw) (by decide) (rm_ev hw lw t arr r12 r14 r16 r18 r20 r22 r24 r26 u0 u1 u2 u3 cs sio (0 : Int32) (0 : Int32) (0 : Int32) (0 : Int32) (0 : Int32) i7_6 h45 n0 zn E_t F_bytes_t V_arr S_cs hcs S_sio hsio E_lw F_open_lw F_blank_lw F_pageBreak_lw F_comma_lw F_width_lw g_lw ne_t_lw ne_arr_lw) at_389 392 rfl 0 (by decide) (by decide) (lenOf pd21 rfl) rfl (Nat.le_of_eq rfl) rfl (by decide) (by decide) (fun s k0 v T h46 w X ws zk hC hq => ?_)
      obtain ⟨rfl, hq⟩ := hq
      obtain ⟨Kq, nE_lw, nF_open_lw, nF_blank_lw, nF_pageBreak_lw, nF_comma_lw, nF_width_lw⟩ := hq
      have S_cs := Sta.keepN S_cs Kq (allS (Exa.nost E_lw) all0)
      have S_sio := Sta.keepN S_sio Kq (allS (Exa.nost E_lw) all0)
      have zn : n0 ≤ h46.size := Nat.le_trans zn Kq.1
      have E_t := E_t.keep Kq
      have F_bytes_t := F_bytes_t.keep Kq (ninS ne_t_lw nin0)
      have V_arr := V_arr.keep Kq (ninS ne_arr_lw nin0)
      have E_lw := nE_lw
      have F_open_lw := nF_open_lw
      have F_blank_lw := nF_blank_lw
      have F_pageBreak_lw := nF_pageBreak_lw
      have F_comma_lw := nF_comma_lw
      have F_width_lw := nF_width_lw
      show G (T.setTop (mkF m 392 #[.val (.int a1), .val (.int a2), .val (.int a3), .val (.int a4), .val (.int i4_1), .val (.int i5_2), .val (.int x5), .val (.int i7_6), .val (.int i8_7), .val (.int i9_8), .val (.int i10_9), .val (.ref sa), .val (.int op), .val (.ref ba), .val (.ref t), .val (.ref lw), .val (.int (0 : Int32)), .val (.int (0 : Int32)), .unset, .unset] []))
      refine iload w X at_392 394 rfl rfl ?_
      refine iconst w X (1 : Int32) at_394 395 rfl rfl ?_
      have J48 : ∀ (T : State) (x49 : Int32), Sd p l e room_1 s m #[(.int a1), (.int a2), (.int a3), (.int a4)] below meth c n0 T h46 8 84 → (((¬ (i7_6 = (1 : Int32))) ∧ (x49 = (0 : Int32))) ∨ ((i7_6 = (1 : Int32)) ∧ (x49 = (1 : Int32)))) → G (T.setTop (mkF m 401 #[.val (.int a1), .val (.int a2), .val (.int a3), .val (.int a4), .val (.int i4_1), .val (.int i5_2), .val (.int x5), .val (.int i7_6), .val (.int i8_7), .val (.int i9_8), .val (.int i10_9), .val (.ref sa), .val (.int op), .val (.ref ba), .val (.ref t), .val (.ref lw), .val (.int x49), .val (.int (0 : Int32)), .unset, .unset] [])) := by
        intro T x49 X hjJ48
        have hv : x49 = (own_ev1 i7_6 (0 : Int32)) := by rcases hjJ48 with ⟨q1, q2⟩ | ⟨q1, q2⟩ <;> simp [own_ev1, q1, q2]
        subst hv
        refine iload w X at_401 403 rfl rfl ?_
        refine iconst w X (2 : Int32) at_403 404 rfl rfl ?_
        have J51 : ∀ (T : State) (x52 : Int32), Sd p l e room_1 s m #[(.int a1), (.int a2), (.int a3), (.int a4)] below meth c n0 T h46 8 84 → (((¬ (i7_6 = (2 : Int32))) ∧ (x52 = (0 : Int32))) ∨ ((i7_6 = (2 : Int32)) ∧ (x52 = (1 : Int32)))) → G (T.setTop (mkF m 410 #[.val (.int a1), .val (.int a2), .val (.int a3), .val (.int a4), .val (.int i4_1), .val (.int i5_2), .val (.int x5), .val (.int i7_6), .val (.int i8_7), .val (.int i9_8), .val (.int i10_9), .val (.ref sa), .val (.int op), .val (.ref ba), .val (.ref t), .val (.ref lw), .val (.int (own_ev1 i7_6 (0 : Int32))), .val (.int x52), .unset, .unset] [])) := by
          intro T x52 X hjJ51
          have hv : x52 = (own_ev2 i7_6 (0 : Int32)) := by rcases hjJ51 with ⟨q1, q2⟩ | ⟨q1, q2⟩ <;> simp [own_ev2, q1, q2]
          subst hv
          refine iload w X at_410 412 rfl rfl ?_
          refine if_eq w X at_412 436 415 (by decide) (by decide) rfl (fun hc412_53 => ?_) (fun hc412_53 => ?_)
          ·
            refine aload w X at_436 438 rfl rfl rfl ?_
            refine aload w X at_438 440 rfl rfl rfl ?_
            refine iload w X at_440 442 rfl rfl ?_
            refine callSH w X ws zk hC (own_EW hw) [(.ref lw), (.ref t), (.int i8_7)] (wd75 hw) (wd76 hw) (wd12 hw) (wd77 hw) (by decide) (rm_ev hw lw t arr r12 r14 r16 r18 r20 r22 r24 r26 u0 u1 u2 u3 cs sio (0 : Int32) (own_ev1 i7_6 (0 : Int32)) (own_ev2 i7_6 (0 : Int32)) (0 : Int32) (0 : Int32) i8_7 h46 n0 zn E_t F_bytes_t V_arr S_cs hcs S_sio hsio E_lw F_open_lw F_blank_lw F_pageBreak_lw F_comma_lw F_width_lw g_lw ne_t_lw ne_arr_lw) at_442 445 rfl 0 (by decide) (by decide) (lenOf pd21 rfl) rfl (Nat.le_of_eq rfl) rfl (by decide) (by decide) (fun s k0 v T h54 w X ws zk hC hq => ?_)
            obtain ⟨rfl, hq⟩ := hq
            obtain ⟨Kq, nE_lw, nF_open_lw, nF_blank_lw, nF_pageBreak_lw, nF_comma_lw, nF_width_lw⟩ := hq
            have S_cs := Sta.keepN S_cs Kq (allS (Exa.nost E_lw) all0)
            have S_sio := Sta.keepN S_sio Kq (allS (Exa.nost E_lw) all0)
            have zn : n0 ≤ h54.size := Nat.le_trans zn Kq.1
            have E_t := E_t.keep Kq
            have F_bytes_t := F_bytes_t.keep Kq (ninS ne_t_lw nin0)
            have V_arr := V_arr.keep Kq (ninS ne_arr_lw nin0)
            have E_lw := nE_lw
            have F_open_lw := nF_open_lw
            have F_blank_lw := nF_blank_lw
            have F_pageBreak_lw := nF_pageBreak_lw
            have F_comma_lw := nF_comma_lw
            have F_width_lw := nF_width_lw
            show G (T.setTop (mkF m 445 #[.val (.int a1), .val (.int a2), .val (.int a3), .val (.int a4), .val (.int i4_1), .val (.int i5_2), .val (.int x5), .val (.int i7_6), .val (.int i8_7), .val (.int i9_8), .val (.int i10_9), .val (.ref sa), .val (.int op), .val (.ref ba), .val (.ref t), .val (.ref lw), .val (.int (own_ev1 i7_6 (0 : Int32))), .val (.int (own_ev2 i7_6 (0 : Int32))), .unset, .unset] []))
            refine iload w X at_445 447 rfl rfl ?_
            refine iconst w X (1 : Int32) at_447 448 rfl rfl ?_
            have J56 : ∀ (T : State) (x57 : Int32), Sd p l e room_1 s m #[(.int a1), (.int a2), (.int a3), (.int a4)] below meth c n0 T h54 10 104 → (((¬ (i8_7 = (1 : Int32))) ∧ (x57 = (own_ev1 i7_6 (0 : Int32)))) ∨ ((i8_7 = (1 : Int32)) ∧ (x57 = (1 : Int32)))) → G (T.setTop (mkF m 454 #[.val (.int a1), .val (.int a2), .val (.int a3), .val (.int a4), .val (.int i4_1), .val (.int i5_2), .val (.int x5), .val (.int i7_6), .val (.int i8_7), .val (.int i9_8), .val (.int i10_9), .val (.ref sa), .val (.int op), .val (.ref ba), .val (.ref t), .val (.ref lw), .val (.int x57), .val (.int (own_ev2 i7_6 (0 : Int32))), .unset, .unset] [])) := by
              intro T x57 X hjJ56
              have hv : x57 = (own_ev1 i8_7 (own_ev1 i7_6 (0 : Int32))) := by rcases hjJ56 with ⟨q1, q2⟩ | ⟨q1, q2⟩ <;> simp [own_ev1, q1, q2]
              subst hv
              refine iload w X at_454 456 rfl rfl ?_
              refine iconst w X (2 : Int32) at_456 457 rfl rfl ?_
              have J59 : ∀ (T : State) (x60 : Int32), Sd p l e room_1 s m #[(.int a1), (.int a2), (.int a3), (.int a4)] below meth c n0 T h54 10 104 → (((¬ (i8_7 = (2 : Int32))) ∧ (x60 = (own_ev2 i7_6 (0 : Int32)))) ∨ ((i8_7 = (2 : Int32)) ∧ (x60 = (1 : Int32)))) → G (T.setTop (mkF m 463 #[.val (.int a1), .val (.int a2), .val (.int a3), .val (.int a4), .val (.int i4_1), .val (.int i5_2), .val (.int x5), .val (.int i7_6), .val (.int i8_7), .val (.int i9_8), .val (.int i10_9), .val (.ref sa), .val (.int op), .val (.ref ba), .val (.ref t), .val (.ref lw), .val (.int (own_ev1 i8_7 (own_ev1 i7_6 (0 : Int32)))), .val (.int x60), .unset, .unset] [])) := by
                intro T x60 X hjJ59
                have hv : x60 = (own_ev2 i8_7 (own_ev2 i7_6 (0 : Int32))) := by rcases hjJ59 with ⟨q1, q2⟩ | ⟨q1, q2⟩ <;> simp [own_ev2, q1, q2]
                subst hv
                refine aload w X at_463 465 rfl rfl rfl ?_
                refine aload w X at_465 467 rfl rfl rfl ?_
                refine iload w X at_467 469 rfl rfl ?_
                refine callSH w X ws zk hC (own_EW hw) [(.ref lw), (.ref t), (.int i9_8)] (wd75 hw) (wd76 hw) (wd12 hw) (wd77 hw) (by decide) (rm_ev hw lw t arr r12 r14 r16 r18 r20 r22 r24 r26 u0 u1 u2 u3 cs sio (0 : Int32) (own_ev1 i8_7 (own_ev1 i7_6 (0 : Int32))) (own_ev2 i8_7 (own_ev2 i7_6 (0 : Int32))) (0 : Int32) (0 : Int32) i9_8 h54 n0 zn E_t F_bytes_t V_arr S_cs hcs S_sio hsio E_lw F_open_lw F_blank_lw F_pageBreak_lw F_comma_lw F_width_lw g_lw ne_t_lw ne_arr_lw) at_469 472 rfl 0 (by decide) (by decide) (lenOf pd21 rfl) rfl (Nat.le_of_eq rfl) rfl (by decide) (by decide) (fun s k0 v T h61 w X ws zk hC hq => ?_)
                obtain ⟨rfl, hq⟩ := hq
                obtain ⟨Kq, nE_lw, nF_open_lw, nF_blank_lw, nF_pageBreak_lw, nF_comma_lw, nF_width_lw⟩ := hq
                have S_cs := Sta.keepN S_cs Kq (allS (Exa.nost E_lw) all0)
                have S_sio := Sta.keepN S_sio Kq (allS (Exa.nost E_lw) all0)
                have zn : n0 ≤ h61.size := Nat.le_trans zn Kq.1
                have E_t := E_t.keep Kq
                have F_bytes_t := F_bytes_t.keep Kq (ninS ne_t_lw nin0)
                have V_arr := V_arr.keep Kq (ninS ne_arr_lw nin0)
                have E_lw := nE_lw
                have F_open_lw := nF_open_lw
                have F_blank_lw := nF_blank_lw
                have F_pageBreak_lw := nF_pageBreak_lw
                have F_comma_lw := nF_comma_lw
                have F_width_lw := nF_width_lw
                show G (T.setTop (mkF m 472 #[.val (.int a1), .val (.int a2), .val (.int a3), .val (.int a4), .val (.int i4_1), .val (.int i5_2), .val (.int x5), .val (.int i7_6), .val (.int i8_7), .val (.int i9_8), .val (.int i10_9), .val (.ref sa), .val (.int op), .val (.ref ba), .val (.ref t), .val (.ref lw), .val (.int (own_ev1 i8_7 (own_ev1 i7_6 (0 : Int32)))), .val (.int (own_ev2 i8_7 (own_ev2 i7_6 (0 : Int32)))), .unset, .unset] []))
                refine iload w X at_472 474 rfl rfl ?_
                refine iconst w X (1 : Int32) at_474 475 rfl rfl ?_
                have J63 : ∀ (T : State) (x64 : Int32), Sd p l e room_1 s m #[(.int a1), (.int a2), (.int a3), (.int a4)] below meth c n0 T h61 12 124 → (((¬ (i9_8 = (1 : Int32))) ∧ (x64 = (own_ev1 i8_7 (own_ev1 i7_6 (0 : Int32))))) ∨ ((i9_8 = (1 : Int32)) ∧ (x64 = (1 : Int32)))) → G (T.setTop (mkF m 481 #[.val (.int a1), .val (.int a2), .val (.int a3), .val (.int a4), .val (.int i4_1), .val (.int i5_2), .val (.int x5), .val (.int i7_6), .val (.int i8_7), .val (.int i9_8), .val (.int i10_9), .val (.ref sa), .val (.int op), .val (.ref ba), .val (.ref t), .val (.ref lw), .val (.int x64), .val (.int (own_ev2 i8_7 (own_ev2 i7_6 (0 : Int32)))), .unset, .unset] [])) := by
                  intro T x64 X hjJ63
                  have hv : x64 = (own_ev1 i9_8 (own_ev1 i8_7 (own_ev1 i7_6 (0 : Int32)))) := by rcases hjJ63 with ⟨q1, q2⟩ | ⟨q1, q2⟩ <;> simp [own_ev1, q1, q2]
                  subst hv
                  refine iload w X at_481 483 rfl rfl ?_
                  refine iconst w X (2 : Int32) at_483 484 rfl rfl ?_
                  have J66 : ∀ (T : State) (x67 : Int32), Sd p l e room_1 s m #[(.int a1), (.int a2), (.int a3), (.int a4)] below meth c n0 T h61 12 124 → (((¬ (i9_8 = (2 : Int32))) ∧ (x67 = (own_ev2 i8_7 (own_ev2 i7_6 (0 : Int32))))) ∨ ((i9_8 = (2 : Int32)) ∧ (x67 = (1 : Int32)))) → G (T.setTop (mkF m 490 #[.val (.int a1), .val (.int a2), .val (.int a3), .val (.int a4), .val (.int i4_1), .val (.int i5_2), .val (.int x5), .val (.int i7_6), .val (.int i8_7), .val (.int i9_8), .val (.int i10_9), .val (.ref sa), .val (.int op), .val (.ref ba), .val (.ref t), .val (.ref lw), .val (.int (own_ev1 i9_8 (own_ev1 i8_7 (own_ev1 i7_6 (0 : Int32))))), .val (.int x67), .unset, .unset] [])) := by
                    intro T x67 X hjJ66
                    have hv : x67 = (own_ev2 i9_8 (own_ev2 i8_7 (own_ev2 i7_6 (0 : Int32)))) := by rcases hjJ66 with ⟨q1, q2⟩ | ⟨q1, q2⟩ <;> simp [own_ev2, q1, q2]
                    subst hv
                    refine iload w X at_490 492 rfl rfl ?_
                    refine iconst w X (4 : Int32) at_492 493 rfl rfl ?_
                    refine iadd w X (i4_1 + (4 : Int32)) at_493 494 rfl rfl ?_
                    obtain ⟨i18_68, hi18_68⟩ : ∃ z : Int32, z = (i4_1 + (4 : Int32)) := ⟨_, rfl⟩
                    refine istore w X i18_68 at_494 496 rfl hi18_68 #[.val (.int a1), .val (.int a2), .val (.int a3), .val (.int a4), .val (.int i4_1), .val (.int i5_2), .val (.int x5), .val (.int i7_6), .val (.int i8_7), .val (.int i9_8), .val (.int i10_9), .val (.ref sa), .val (.int op), .val (.ref ba), .val (.ref t), .val (.ref lw), .val (.int (own_ev1 i9_8 (own_ev1 i8_7 (own_ev1 i7_6 (0 : Int32))))), .val (.int (own_ev2 i9_8 (own_ev2 i8_7 (own_ev2 i7_6 (0 : Int32))))), .val (.int i18_68), .unset] rfl ?_
                    have h18 : i18_68 = Int32.ofNat (4 + kk) := by rw [hi18_68, hk4]; exact own_4k kk (by omega)
                    refine iload w X at_496 498 rfl rfl ?_
                    refine if_eq w X at_498 532 501 (by decide) (by decide) rfl (fun hc498_69 => ?_) (fun q => False.elim (by exact q hc412_53))
                    refine iconst w X (0 : Int32) at_532 533 rfl rfl ?_
                    refine istore w X (0 : Int32) at_533 535 rfl rfl #[.val (.int a1), .val (.int a2), .val (.int a3), .val (.int a4), .val (.int i4_1), .val (.int i5_2), .val (.int x5), .val (.int i7_6), .val (.int i8_7), .val (.int i9_8), .val (.int i10_9), .val (.ref sa), .val (.int op), .val (.ref ba), .val (.ref t), .val (.ref lw), .val (.int (own_ev1 i9_8 (own_ev1 i8_7 (own_ev1 i7_6 (0 : Int32))))), .val (.int (own_ev2 i9_8 (own_ev2 i8_7 (own_ev2 i7_6 (0 : Int32))))), .val (.int i18_68), .val (.int (0 : Int32))] rfl ?_
                    refine aload w X at_535 537 rfl rfl rfl ?_
                    refine iload w X at_537 539 rfl rfl ?_
                    refine callVPI w X [(.int i10_9)] (wd96 hw) (wd97 hw) (notFace_of_selects (args := #[]) (mvT w.2.2.2.2.1 (wd99 hw))) (wd99 hw) (wd98 hw) (wd70 hw) (wd100 hw) (by decide) E_lw (rm_cs hw lw (0 : Int32) (own_ev1 i9_8 (own_ev1 i8_7 (own_ev1 i7_6 (0 : Int32)))) (own_ev2 i9_8 (own_ev2 i8_7 (own_ev2 i7_6 (0 : Int32)))) (0 : Int32) (0 : Int32) i10_9 h61 n0 zn E_lw F_open_lw F_blank_lw F_pageBreak_lw F_comma_lw F_width_lw) at_539 542 rfl 0 (by decide) (by decide) (lenOf pd22 rfl) rfl (Nat.le_of_eq rfl) rfl (by decide) (by decide) (fun r70 T X hq => ?_)
                    have hr70 := hq
                    refine iload w X at_542 544 rfl rfl ?_
                    refine icmp_ne w X at_544 551 547 (by decide) (by decide) rfl (fun q => False.elim (by exact q (hr70.trans (own_cs_0a rfl)))) (fun hc544_71 => ?_)
                    refine iconst w X (1 : Int32) at_547 548 rfl rfl ?_
                    refine goto w X at_548 552 (by decide) (by decide) ?_
                    refine retN w X (t := .boolean) rfl (by simp) at_552 (by decide) (by decide) ?_
                    refine And.intro zk (And.intro hC ?_)
                    exact ⟨_, rfl, rfl⟩
                  refine icmp_ne w X at_484 490 487 (by decide) (by decide) rfl (fun hc484_65 => ?_) (fun hc484_65 => ?_)
                  ·
                    exact J66 T (own_ev2 i8_7 (own_ev2 i7_6 (0 : Int32))) X (Or.inl (⟨hc484_65, rfl⟩))
                  ·
                    refine iconst w X (1 : Int32) at_487 488 rfl rfl ?_
                    refine istore w X (1 : Int32) at_488 490 rfl rfl #[.val (.int a1), .val (.int a2), .val (.int a3), .val (.int a4), .val (.int i4_1), .val (.int i5_2), .val (.int x5), .val (.int i7_6), .val (.int i8_7), .val (.int i9_8), .val (.int i10_9), .val (.ref sa), .val (.int op), .val (.ref ba), .val (.ref t), .val (.ref lw), .val (.int (own_ev1 i9_8 (own_ev1 i8_7 (own_ev1 i7_6 (0 : Int32))))), .val (.int (1 : Int32)), .unset, .unset] rfl ?_
                    exact J66 T (1 : Int32) X (Or.inr (⟨hc484_65, rfl⟩))
                refine icmp_ne w X at_475 481 478 (by decide) (by decide) rfl (fun hc475_62 => ?_) (fun hc475_62 => ?_)
                ·
                  exact J63 T (own_ev1 i8_7 (own_ev1 i7_6 (0 : Int32))) X (Or.inl (⟨hc475_62, rfl⟩))
                ·
                  refine iconst w X (1 : Int32) at_478 479 rfl rfl ?_
                  refine istore w X (1 : Int32) at_479 481 rfl rfl #[.val (.int a1), .val (.int a2), .val (.int a3), .val (.int a4), .val (.int i4_1), .val (.int i5_2), .val (.int x5), .val (.int i7_6), .val (.int i8_7), .val (.int i9_8), .val (.int i10_9), .val (.ref sa), .val (.int op), .val (.ref ba), .val (.ref t), .val (.ref lw), .val (.int (1 : Int32)), .val (.int (own_ev2 i8_7 (own_ev2 i7_6 (0 : Int32)))), .unset, .unset] rfl ?_
                  exact J63 T (1 : Int32) X (Or.inr (⟨hc475_62, rfl⟩))
              refine icmp_ne w X at_457 463 460 (by decide) (by decide) rfl (fun hc457_58 => ?_) (fun hc457_58 => ?_)
              ·
                exact J59 T (own_ev2 i7_6 (0 : Int32)) X (Or.inl (⟨hc457_58, rfl⟩))
              ·
                refine iconst w X (1 : Int32) at_460 461 rfl rfl ?_
                refine istore w X (1 : Int32) at_461 463 rfl rfl #[.val (.int a1), .val (.int a2), .val (.int a3), .val (.int a4), .val (.int i4_1), .val (.int i5_2), .val (.int x5), .val (.int i7_6), .val (.int i8_7), .val (.int i9_8), .val (.int i10_9), .val (.ref sa), .val (.int op), .val (.ref ba), .val (.ref t), .val (.ref lw), .val (.int (own_ev1 i8_7 (own_ev1 i7_6 (0 : Int32)))), .val (.int (1 : Int32)), .unset, .unset] rfl ?_
                exact J59 T (1 : Int32) X (Or.inr (⟨hc457_58, rfl⟩))
            refine icmp_ne w X at_448 454 451 (by decide) (by decide) rfl (fun hc448_55 => ?_) (fun hc448_55 => ?_)
            ·
              exact J56 T (own_ev1 i7_6 (0 : Int32)) X (Or.inl (⟨hc448_55, rfl⟩))
            ·
              refine iconst w X (1 : Int32) at_451 452 rfl rfl ?_
              refine istore w X (1 : Int32) at_452 454 rfl rfl #[.val (.int a1), .val (.int a2), .val (.int a3), .val (.int a4), .val (.int i4_1), .val (.int i5_2), .val (.int x5), .val (.int i7_6), .val (.int i8_7), .val (.int i9_8), .val (.int i10_9), .val (.ref sa), .val (.int op), .val (.ref ba), .val (.ref t), .val (.ref lw), .val (.int (1 : Int32)), .val (.int (own_ev2 i7_6 (0 : Int32))), .unset, .unset] rfl ?_
              exact J56 T (1 : Int32) X (Or.inr (⟨hc448_55, rfl⟩))
          ·
            refine aload w X at_415 417 rfl rfl rfl ?_
            refine aload w X at_417 419 rfl rfl rfl ?_
            refine bipush w X (8 : Int32) at_419 421 rfl rfl ?_
            refine iload w X at_421 423 rfl rfl ?_
            refine isub w X ((8 : Int32) - i4_1) at_423 424 rfl rfl ?_
            rw [show ((8 : Int32) - i4_1) = Int32.ofNat (8 - kk) from by rw [hk4]; exact own_8k kk (by omega)]
            have hpad := own_hpad kk hkk i4_1 r12 r14 r16 r18 r20 r22 r24 r26 u0 u1 u2 u3 hk4 hr12 hr14 hr16 hr18 hr20 hr22 hr24 hr26
            refine bipush w X (12 : Int32) at_424 426 rfl rfl ?_
            refine callVH w X ws zk hC (own_EW hw) [(.ref t), (.int (Int32.ofNat (8 - kk))), (.int (12 : Int32))] (wd78 hw) (wd79 hw) (notFace_of_selects (args := #[]) (mvT w.2.2.2.2.1 (wd81 hw))) (wd81 hw) (wd80 hw) (wd70 hw) (wd82 hw) (by decide) E_lw (rm_addT hw lw t arr r12 r14 r16 r18 r20 r22 r24 r26 u0 u1 u2 u3 op cs sio (0 : Int32) (own_ev1 i7_6 (0 : Int32)) (own_ev2 i7_6 (0 : Int32)) (0 : Int32) (0 : Int32) kk h46 n0 zn E_t F_bytes_t V_arr S_cs hcs S_sio hsio E_lw F_open_lw F_blank_lw F_pageBreak_lw F_comma_lw F_width_lw g_lw ne_t_lw ne_arr_lw hkk hpad hU) at_426 429 rfl 0 (by decide) (by decide) (lenOf pd9 rfl) rfl (Nat.le_of_eq rfl) rfl (by decide) (by decide) (fun s k0 v T h73 w X ws zk hC hq => ?_)
            obtain ⟨r72, rfl, hq⟩ := hq
            obtain ⟨Kq, cm1, nE_lw, nF_open_lw, nF_blank_lw, nF_pageBreak_lw, nF_comma_lw, nF_width_lw⟩ := hq
            have S_cs := Sta.keepN S_cs Kq (allS (Exa.nost E_lw) all0)
            have S_sio := Sta.keepN S_sio Kq (allS (Exa.nost E_lw) all0)
            have zn : n0 ≤ h73.size := Nat.le_trans zn Kq.1
            have E_t := E_t.keep Kq
            have F_bytes_t := F_bytes_t.keep Kq (ninS ne_t_lw nin0)
            have V_arr := V_arr.keep Kq (ninS ne_arr_lw nin0)
            have E_lw := nE_lw
            have F_open_lw := nF_open_lw
            have F_blank_lw := nF_blank_lw
            have F_pageBreak_lw := nF_pageBreak_lw
            have F_comma_lw := nF_comma_lw
            have F_width_lw := nF_width_lw
            show G (T.setTop (mkF m 429 #[.val (.int a1), .val (.int a2), .val (.int a3), .val (.int a4), .val (.int i4_1), .val (.int i5_2), .val (.int x5), .val (.int i7_6), .val (.int i8_7), .val (.int i9_8), .val (.int i10_9), .val (.ref sa), .val (.int op), .val (.ref ba), .val (.ref t), .val (.ref lw), .val (.int (own_ev1 i7_6 (0 : Int32))), .val (.int (own_ev2 i7_6 (0 : Int32))), .unset, .unset] [(.int r72)]))
            refine popV w X at_429 430 rfl rfl ?_
            refine iconst w X (0 : Int32) at_430 431 rfl rfl ?_
            refine istore w X (0 : Int32) at_431 433 rfl rfl #[.val (.int a1), .val (.int a2), .val (.int a3), .val (.int a4), .val (.int i4_1), .val (.int i5_2), .val (.int x5), .val (.int i7_6), .val (.int i8_7), .val (.int i9_8), .val (.int i10_9), .val (.ref sa), .val (.int op), .val (.ref ba), .val (.ref t), .val (.ref lw), .val (.int (0 : Int32)), .val (.int (own_ev2 i7_6 (0 : Int32))), .unset, .unset] rfl ?_
            refine iconst w X (0 : Int32) at_433 434 rfl rfl ?_
            refine istore w X (0 : Int32) at_434 436 rfl rfl #[.val (.int a1), .val (.int a2), .val (.int a3), .val (.int a4), .val (.int i4_1), .val (.int i5_2), .val (.int x5), .val (.int i7_6), .val (.int i8_7), .val (.int i9_8), .val (.int i10_9), .val (.ref sa), .val (.int op), .val (.ref ba), .val (.ref t), .val (.ref lw), .val (.int (0 : Int32)), .val (.int (0 : Int32)), .unset, .unset] rfl ?_
            refine aload w X at_436 438 rfl rfl rfl ?_
            refine aload w X at_438 440 rfl rfl rfl ?_
            refine iload w X at_440 442 rfl rfl ?_
            refine callSH w X ws zk hC (own_EW hw) [(.ref lw), (.ref t), (.int i8_7)] (wd75 hw) (wd76 hw) (wd12 hw) (wd77 hw) (by decide) (rm_ev hw lw t arr r12 r14 r16 r18 r20 r22 r24 r26 u0 u1 u2 u3 cs sio op (0 : Int32) (0 : Int32) cm1 (Int32.ofNat (4 + kk)) i8_7 h73 n0 zn E_t F_bytes_t V_arr S_cs hcs S_sio hsio E_lw F_open_lw F_blank_lw F_pageBreak_lw F_comma_lw F_width_lw g_lw ne_t_lw ne_arr_lw) at_442 445 rfl 0 (by decide) (by decide) (lenOf pd21 rfl) rfl (Nat.le_of_eq rfl) rfl (by decide) (by decide) (fun s k0 v T h74 w X ws zk hC hq => ?_)
            obtain ⟨rfl, hq⟩ := hq
            obtain ⟨Kq, nE_lw, nF_open_lw, nF_blank_lw, nF_pageBreak_lw, nF_comma_lw, nF_width_lw⟩ := hq
            have S_cs := Sta.keepN S_cs Kq (allS (Exa.nost E_lw) all0)
            have S_sio := Sta.keepN S_sio Kq (allS (Exa.nost E_lw) all0)
            have zn : n0 ≤ h74.size := Nat.le_trans zn Kq.1
            have E_t := E_t.keep Kq
            have F_bytes_t := F_bytes_t.keep Kq (ninS ne_t_lw nin0)
            have V_arr := V_arr.keep Kq (ninS ne_arr_lw nin0)
            have E_lw := nE_lw
            have F_open_lw := nF_open_lw
            have F_blank_lw := nF_blank_lw
            have F_pageBreak_lw := nF_pageBreak_lw
            have F_comma_lw := nF_comma_lw
            have F_width_lw := nF_width_lw
            show G (T.setTop (mkF m 445 #[.val (.int a1), .val (.int a2), .val (.int a3), .val (.int a4), .val (.int i4_1), .val (.int i5_2), .val (.int x5), .val (.int i7_6), .val (.int i8_7), .val (.int i9_8), .val (.int i10_9), .val (.ref sa), .val (.int op), .val (.ref ba), .val (.ref t), .val (.ref lw), .val (.int (0 : Int32)), .val (.int (0 : Int32)), .unset, .unset] []))
            refine iload w X at_445 447 rfl rfl ?_
            refine iconst w X (1 : Int32) at_447 448 rfl rfl ?_
            have J76 : ∀ (T : State) (x77 : Int32), Sd p l e room_1 s m #[(.int a1), (.int a2), (.int a3), (.int a4)] below meth c n0 T h74 14 136 → (((¬ (i8_7 = (1 : Int32))) ∧ (x77 = (0 : Int32))) ∨ ((i8_7 = (1 : Int32)) ∧ (x77 = (1 : Int32)))) → G (T.setTop (mkF m 454 #[.val (.int a1), .val (.int a2), .val (.int a3), .val (.int a4), .val (.int i4_1), .val (.int i5_2), .val (.int x5), .val (.int i7_6), .val (.int i8_7), .val (.int i9_8), .val (.int i10_9), .val (.ref sa), .val (.int op), .val (.ref ba), .val (.ref t), .val (.ref lw), .val (.int x77), .val (.int (0 : Int32)), .unset, .unset] [])) := by
              intro T x77 X hjJ76
              have hv : x77 = (own_ev1 i8_7 (0 : Int32)) := by rcases hjJ76 with ⟨q1, q2⟩ | ⟨q1, q2⟩ <;> simp [own_ev1, q1, q2]
              subst hv
              refine iload w X at_454 456 rfl rfl ?_
              refine iconst w X (2 : Int32) at_456 457 rfl rfl ?_
              have J79 : ∀ (T : State) (x80 : Int32), Sd p l e room_1 s m #[(.int a1), (.int a2), (.int a3), (.int a4)] below meth c n0 T h74 14 136 → (((¬ (i8_7 = (2 : Int32))) ∧ (x80 = (0 : Int32))) ∨ ((i8_7 = (2 : Int32)) ∧ (x80 = (1 : Int32)))) → G (T.setTop (mkF m 463 #[.val (.int a1), .val (.int a2), .val (.int a3), .val (.int a4), .val (.int i4_1), .val (.int i5_2), .val (.int x5), .val (.int i7_6), .val (.int i8_7), .val (.int i9_8), .val (.int i10_9), .val (.ref sa), .val (.int op), .val (.ref ba), .val (.ref t), .val (.ref lw), .val (.int (own_ev1 i8_7 (0 : Int32))), .val (.int x80), .unset, .unset] [])) := by
                intro T x80 X hjJ79
                have hv : x80 = (own_ev2 i8_7 (0 : Int32)) := by rcases hjJ79 with ⟨q1, q2⟩ | ⟨q1, q2⟩ <;> simp [own_ev2, q1, q2]
                subst hv
                refine aload w X at_463 465 rfl rfl rfl ?_
                refine aload w X at_465 467 rfl rfl rfl ?_
                refine iload w X at_467 469 rfl rfl ?_
                refine callSH w X ws zk hC (own_EW hw) [(.ref lw), (.ref t), (.int i9_8)] (wd75 hw) (wd76 hw) (wd12 hw) (wd77 hw) (by decide) (rm_ev hw lw t arr r12 r14 r16 r18 r20 r22 r24 r26 u0 u1 u2 u3 cs sio op (own_ev1 i8_7 (0 : Int32)) (own_ev2 i8_7 (0 : Int32)) cm1 (Int32.ofNat (4 + kk)) i9_8 h74 n0 zn E_t F_bytes_t V_arr S_cs hcs S_sio hsio E_lw F_open_lw F_blank_lw F_pageBreak_lw F_comma_lw F_width_lw g_lw ne_t_lw ne_arr_lw) at_469 472 rfl 0 (by decide) (by decide) (lenOf pd21 rfl) rfl (Nat.le_of_eq rfl) rfl (by decide) (by decide) (fun s k0 v T h81 w X ws zk hC hq => ?_)
                obtain ⟨rfl, hq⟩ := hq
                obtain ⟨Kq, nE_lw, nF_open_lw, nF_blank_lw, nF_pageBreak_lw, nF_comma_lw, nF_width_lw⟩ := hq
                have S_cs := Sta.keepN S_cs Kq (allS (Exa.nost E_lw) all0)
                have S_sio := Sta.keepN S_sio Kq (allS (Exa.nost E_lw) all0)
                have zn : n0 ≤ h81.size := Nat.le_trans zn Kq.1
                have E_t := E_t.keep Kq
                have F_bytes_t := F_bytes_t.keep Kq (ninS ne_t_lw nin0)
                have V_arr := V_arr.keep Kq (ninS ne_arr_lw nin0)
                have E_lw := nE_lw
                have F_open_lw := nF_open_lw
                have F_blank_lw := nF_blank_lw
                have F_pageBreak_lw := nF_pageBreak_lw
                have F_comma_lw := nF_comma_lw
                have F_width_lw := nF_width_lw
                show G (T.setTop (mkF m 472 #[.val (.int a1), .val (.int a2), .val (.int a3), .val (.int a4), .val (.int i4_1), .val (.int i5_2), .val (.int x5), .val (.int i7_6), .val (.int i8_7), .val (.int i9_8), .val (.int i10_9), .val (.ref sa), .val (.int op), .val (.ref ba), .val (.ref t), .val (.ref lw), .val (.int (own_ev1 i8_7 (0 : Int32))), .val (.int (own_ev2 i8_7 (0 : Int32))), .unset, .unset] []))
                refine iload w X at_472 474 rfl rfl ?_
                refine iconst w X (1 : Int32) at_474 475 rfl rfl ?_
                have J83 : ∀ (T : State) (x84 : Int32), Sd p l e room_1 s m #[(.int a1), (.int a2), (.int a3), (.int a4)] below meth c n0 T h81 16 156 → (((¬ (i9_8 = (1 : Int32))) ∧ (x84 = (own_ev1 i8_7 (0 : Int32)))) ∨ ((i9_8 = (1 : Int32)) ∧ (x84 = (1 : Int32)))) → G (T.setTop (mkF m 481 #[.val (.int a1), .val (.int a2), .val (.int a3), .val (.int a4), .val (.int i4_1), .val (.int i5_2), .val (.int x5), .val (.int i7_6), .val (.int i8_7), .val (.int i9_8), .val (.int i10_9), .val (.ref sa), .val (.int op), .val (.ref ba), .val (.ref t), .val (.ref lw), .val (.int x84), .val (.int (own_ev2 i8_7 (0 : Int32))), .unset, .unset] [])) := by
                  intro T x84 X hjJ83
                  have hv : x84 = (own_ev1 i9_8 (own_ev1 i8_7 (0 : Int32))) := by rcases hjJ83 with ⟨q1, q2⟩ | ⟨q1, q2⟩ <;> simp [own_ev1, q1, q2]
                  subst hv
                  refine iload w X at_481 483 rfl rfl ?_
                  refine iconst w X (2 : Int32) at_483 484 rfl rfl ?_
                  have J86 : ∀ (T : State) (x87 : Int32), Sd p l e room_1 s m #[(.int a1), (.int a2), (.int a3), (.int a4)] below meth c n0 T h81 16 156 → (((¬ (i9_8 = (2 : Int32))) ∧ (x87 = (own_ev2 i8_7 (0 : Int32)))) ∨ ((i9_8 = (2 : Int32)) ∧ (x87 = (1 : Int32)))) → G (T.setTop (mkF m 490 #[.val (.int a1), .val (.int a2), .val (.int a3), .val (.int a4), .val (.int i4_1), .val (.int i5_2), .val (.int x5), .val (.int i7_6), .val (.int i8_7), .val (.int i9_8), .val (.int i10_9), .val (.ref sa), .val (.int op), .val (.ref ba), .val (.ref t), .val (.ref lw), .val (.int (own_ev1 i9_8 (own_ev1 i8_7 (0 : Int32)))), .val (.int x87), .unset, .unset] [])) := by
                    intro T x87 X hjJ86
                    have hv : x87 = (own_ev2 i9_8 (own_ev2 i8_7 (0 : Int32))) := by rcases hjJ86 with ⟨q1, q2⟩ | ⟨q1, q2⟩ <;> simp [own_ev2, q1, q2]
                    subst hv
                    refine iload w X at_490 492 rfl rfl ?_
                    refine iconst w X (4 : Int32) at_492 493 rfl rfl ?_
                    refine iadd w X (i4_1 + (4 : Int32)) at_493 494 rfl rfl ?_
                    obtain ⟨i18_88, hi18_88⟩ : ∃ z : Int32, z = (i4_1 + (4 : Int32)) := ⟨_, rfl⟩
                    refine istore w X i18_88 at_494 496 rfl hi18_88 #[.val (.int a1), .val (.int a2), .val (.int a3), .val (.int a4), .val (.int i4_1), .val (.int i5_2), .val (.int x5), .val (.int i7_6), .val (.int i8_7), .val (.int i9_8), .val (.int i10_9), .val (.ref sa), .val (.int op), .val (.ref ba), .val (.ref t), .val (.ref lw), .val (.int (own_ev1 i9_8 (own_ev1 i8_7 (0 : Int32)))), .val (.int (own_ev2 i9_8 (own_ev2 i8_7 (0 : Int32)))), .val (.int i18_88), .unset] rfl ?_
                    have h18 : i18_88 = Int32.ofNat (4 + kk) := by rw [hi18_88, hk4]; exact own_4k kk (by omega)
                    refine iload w X at_496 498 rfl rfl ?_
                    refine if_eq w X at_498 532 501 (by decide) (by decide) rfl (fun q => False.elim (by exact hc412_53 q)) (fun hc498_89 => ?_)
                    refine iload w X at_501 503 rfl rfl ?_
                    refine if_eq w X at_503 532 506 (by decide) (by decide) rfl (fun hc503_90 => ?_) (fun hc503_90 => ?_)
                    ·
                      refine iconst w X (0 : Int32) at_532 533 rfl rfl ?_
                      refine istore w X (0 : Int32) at_533 535 rfl rfl #[.val (.int a1), .val (.int a2), .val (.int a3), .val (.int a4), .val (.int i4_1), .val (.int i5_2), .val (.int x5), .val (.int i7_6), .val (.int i8_7), .val (.int i9_8), .val (.int i10_9), .val (.ref sa), .val (.int op), .val (.ref ba), .val (.ref t), .val (.ref lw), .val (.int (own_ev1 i9_8 (own_ev1 i8_7 (0 : Int32)))), .val (.int (own_ev2 i9_8 (own_ev2 i8_7 (0 : Int32)))), .val (.int i18_88), .val (.int (0 : Int32))] rfl ?_
                      refine aload w X at_535 537 rfl rfl rfl ?_
                      refine iload w X at_537 539 rfl rfl ?_
                      refine callVPI w X [(.int i10_9)] (wd96 hw) (wd97 hw) (notFace_of_selects (args := #[]) (mvT w.2.2.2.2.1 (wd99 hw))) (wd99 hw) (wd98 hw) (wd70 hw) (wd100 hw) (by decide) E_lw (rm_cs hw lw op (own_ev1 i9_8 (own_ev1 i8_7 (0 : Int32))) (own_ev2 i9_8 (own_ev2 i8_7 (0 : Int32))) cm1 (Int32.ofNat (4 + kk)) i10_9 h81 n0 zn E_lw F_open_lw F_blank_lw F_pageBreak_lw F_comma_lw F_width_lw) at_539 542 rfl 0 (by decide) (by decide) (lenOf pd22 rfl) rfl (Nat.le_of_eq rfl) rfl (by decide) (by decide) (fun r91 T X hq => ?_)
                      have hr91 := hq
                      refine iload w X at_542 544 rfl rfl ?_
                      refine icmp_ne w X at_544 551 547 (by decide) (by decide) rfl (fun q => False.elim (by exact q (hr91.trans (own_cs_0a hc503_90)))) (fun hc544_92 => ?_)
                      refine iconst w X (1 : Int32) at_547 548 rfl rfl ?_
                      refine goto w X at_548 552 (by decide) (by decide) ?_
                      refine retN w X (t := .boolean) rfl (by simp) at_552 (by decide) (by decide) ?_
                      refine And.intro zk (And.intro hC ?_)
                      exact ⟨_, rfl, rfl⟩
                    ·
                      refine iload w X at_506 508 rfl rfl ?_
                      refine if_eq w X at_508 516 511 (by decide) (by decide) rfl (fun hc508_93 => ?_) (fun hc508_93 => ?_)
                      ·
                        refine iload w X at_516 518 rfl rfl ?_
                        refine iconst w X (1 : Int32) at_518 519 rfl rfl ?_
                        refine iadd w X (i18_88 + (1 : Int32)) at_519 520 rfl rfl ?_
                        refine iload w X at_520 522 rfl rfl ?_
                        refine iadd w X ((i18_88 + (1 : Int32)) + i10_9) at_522 523 rfl rfl ?_
                        refine bipush w X (60 : Int32) at_523 525 rfl rfl ?_
                        refine icmp_le w X at_525 532 528 (by decide) (by decide) rfl (fun hc525_94 => ?_) (fun hc525_94 => ?_)
                        ·
                          refine iconst w X (0 : Int32) at_532 533 rfl rfl ?_
                          refine istore w X (0 : Int32) at_533 535 rfl rfl #[.val (.int a1), .val (.int a2), .val (.int a3), .val (.int a4), .val (.int i4_1), .val (.int i5_2), .val (.int x5), .val (.int i7_6), .val (.int i8_7), .val (.int i9_8), .val (.int i10_9), .val (.ref sa), .val (.int op), .val (.ref ba), .val (.ref t), .val (.ref lw), .val (.int (own_ev1 i9_8 (own_ev1 i8_7 (0 : Int32)))), .val (.int (own_ev2 i9_8 (own_ev2 i8_7 (0 : Int32)))), .val (.int i18_88), .val (.int (0 : Int32))] rfl ?_
                          refine aload w X at_535 537 rfl rfl rfl ?_
                          refine iload w X at_537 539 rfl rfl ?_
                          refine callVPI w X [(.int i10_9)] (wd96 hw) (wd97 hw) (notFace_of_selects (args := #[]) (mvT w.2.2.2.2.1 (wd99 hw))) (wd99 hw) (wd98 hw) (wd70 hw) (wd100 hw) (by decide) E_lw (rm_cs hw lw op (own_ev1 i9_8 (own_ev1 i8_7 (0 : Int32))) (own_ev2 i9_8 (own_ev2 i8_7 (0 : Int32))) cm1 (Int32.ofNat (4 + kk)) i10_9 h81 n0 zn E_lw F_open_lw F_blank_lw F_pageBreak_lw F_comma_lw F_width_lw) at_539 542 rfl 0 (by decide) (by decide) (lenOf pd22 rfl) rfl (Nat.le_of_eq rfl) rfl (by decide) (by decide) (fun r95 T X hq => ?_)
                          have hr95 := hq
                          refine iload w X at_542 544 rfl rfl ?_
                          refine icmp_ne w X at_544 551 547 (by decide) (by decide) rfl (fun q => False.elim (by exact q (hr95.trans (own_cs_0c (by rw [← h18]; exact hc525_94))))) (fun hc544_96 => ?_)
                          refine iconst w X (1 : Int32) at_547 548 rfl rfl ?_
                          refine goto w X at_548 552 (by decide) (by decide) ?_
                          refine retN w X (t := .boolean) rfl (by simp) at_552 (by decide) (by decide) ?_
                          refine And.intro zk (And.intro hC ?_)
                          exact ⟨_, rfl, rfl⟩
                        ·
                          refine iconst w X (1 : Int32) at_528 529 rfl rfl ?_
                          refine goto w X at_529 533 (by decide) (by decide) ?_
                          refine istore w X (1 : Int32) at_533 535 rfl rfl #[.val (.int a1), .val (.int a2), .val (.int a3), .val (.int a4), .val (.int i4_1), .val (.int i5_2), .val (.int x5), .val (.int i7_6), .val (.int i8_7), .val (.int i9_8), .val (.int i10_9), .val (.ref sa), .val (.int op), .val (.ref ba), .val (.ref t), .val (.ref lw), .val (.int (own_ev1 i9_8 (own_ev1 i8_7 (0 : Int32)))), .val (.int (own_ev2 i9_8 (own_ev2 i8_7 (0 : Int32)))), .val (.int i18_88), .val (.int (1 : Int32))] rfl ?_
                          refine aload w X at_535 537 rfl rfl rfl ?_
                          refine iload w X at_537 539 rfl rfl ?_
                          refine callVPI w X [(.int i10_9)] (wd96 hw) (wd97 hw) (notFace_of_selects (args := #[]) (mvT w.2.2.2.2.1 (wd99 hw))) (wd99 hw) (wd98 hw) (wd70 hw) (wd100 hw) (by decide) E_lw (rm_cs hw lw op (own_ev1 i9_8 (own_ev1 i8_7 (0 : Int32))) (own_ev2 i9_8 (own_ev2 i8_7 (0 : Int32))) cm1 (Int32.ofNat (4 + kk)) i10_9 h81 n0 zn E_lw F_open_lw F_blank_lw F_pageBreak_lw F_comma_lw F_width_lw) at_539 542 rfl 0 (by decide) (by decide) (lenOf pd22 rfl) rfl (Nat.le_of_eq rfl) rfl (by decide) (by decide) (fun r97 T X hq => ?_)
                          have hr97 := hq
                          refine iload w X at_542 544 rfl rfl ?_
                          refine icmp_ne w X at_544 551 547 (by decide) (by decide) rfl (fun q => False.elim (by exact q (hr97.trans (own_cs_1a hc503_90 hc508_93 (by rw [← h18]; exact hc525_94))))) (fun hc544_98 => ?_)
                          refine iconst w X (1 : Int32) at_547 548 rfl rfl ?_
                          refine goto w X at_548 552 (by decide) (by decide) ?_
                          refine retN w X (t := .boolean) rfl (by simp) at_552 (by decide) (by decide) ?_
                          refine And.intro zk (And.intro hC ?_)
                          exact ⟨_, rfl, rfl⟩
                      ·
                        refine iload w X at_511 513 rfl rfl ?_
                        refine if_eq w X at_513 532 516 (by decide) (by decide) rfl (fun hc513_99 => ?_) (fun hc513_99 => ?_)
                        ·
                          refine iconst w X (0 : Int32) at_532 533 rfl rfl ?_
                          refine istore w X (0 : Int32) at_533 535 rfl rfl #[.val (.int a1), .val (.int a2), .val (.int a3), .val (.int a4), .val (.int i4_1), .val (.int i5_2), .val (.int x5), .val (.int i7_6), .val (.int i8_7), .val (.int i9_8), .val (.int i10_9), .val (.ref sa), .val (.int op), .val (.ref ba), .val (.ref t), .val (.ref lw), .val (.int (own_ev1 i9_8 (own_ev1 i8_7 (0 : Int32)))), .val (.int (own_ev2 i9_8 (own_ev2 i8_7 (0 : Int32)))), .val (.int i18_88), .val (.int (0 : Int32))] rfl ?_
                          refine aload w X at_535 537 rfl rfl rfl ?_
                          refine iload w X at_537 539 rfl rfl ?_
                          refine callVPI w X [(.int i10_9)] (wd96 hw) (wd97 hw) (notFace_of_selects (args := #[]) (mvT w.2.2.2.2.1 (wd99 hw))) (wd99 hw) (wd98 hw) (wd70 hw) (wd100 hw) (by decide) E_lw (rm_cs hw lw op (own_ev1 i9_8 (own_ev1 i8_7 (0 : Int32))) (own_ev2 i9_8 (own_ev2 i8_7 (0 : Int32))) cm1 (Int32.ofNat (4 + kk)) i10_9 h81 n0 zn E_lw F_open_lw F_blank_lw F_pageBreak_lw F_comma_lw F_width_lw) at_539 542 rfl 0 (by decide) (by decide) (lenOf pd22 rfl) rfl (Nat.le_of_eq rfl) rfl (by decide) (by decide) (fun r100 T X hq => ?_)
                          have hr100 := hq
                          refine iload w X at_542 544 rfl rfl ?_
                          refine icmp_ne w X at_544 551 547 (by decide) (by decide) rfl (fun q => False.elim (by exact q (hr100.trans (own_cs_0b hc508_93 hc513_99)))) (fun hc544_101 => ?_)
                          refine iconst w X (1 : Int32) at_547 548 rfl rfl ?_
                          refine goto w X at_548 552 (by decide) (by decide) ?_
                          refine retN w X (t := .boolean) rfl (by simp) at_552 (by decide) (by decide) ?_
                          refine And.intro zk (And.intro hC ?_)
                          exact ⟨_, rfl, rfl⟩
                        ·
                          refine iload w X at_516 518 rfl rfl ?_
                          refine iconst w X (1 : Int32) at_518 519 rfl rfl ?_
                          refine iadd w X (i18_88 + (1 : Int32)) at_519 520 rfl rfl ?_
                          refine iload w X at_520 522 rfl rfl ?_
                          refine iadd w X ((i18_88 + (1 : Int32)) + i10_9) at_522 523 rfl rfl ?_
                          refine bipush w X (60 : Int32) at_523 525 rfl rfl ?_
                          refine icmp_le w X at_525 532 528 (by decide) (by decide) rfl (fun hc525_102 => ?_) (fun hc525_102 => ?_)
                          ·
                            refine iconst w X (0 : Int32) at_532 533 rfl rfl ?_
                            refine istore w X (0 : Int32) at_533 535 rfl rfl #[.val (.int a1), .val (.int a2), .val (.int a3), .val (.int a4), .val (.int i4_1), .val (.int i5_2), .val (.int x5), .val (.int i7_6), .val (.int i8_7), .val (.int i9_8), .val (.int i10_9), .val (.ref sa), .val (.int op), .val (.ref ba), .val (.ref t), .val (.ref lw), .val (.int (own_ev1 i9_8 (own_ev1 i8_7 (0 : Int32)))), .val (.int (own_ev2 i9_8 (own_ev2 i8_7 (0 : Int32)))), .val (.int i18_88), .val (.int (0 : Int32))] rfl ?_
                            refine aload w X at_535 537 rfl rfl rfl ?_
                            refine iload w X at_537 539 rfl rfl ?_
                            refine callVPI w X [(.int i10_9)] (wd96 hw) (wd97 hw) (notFace_of_selects (args := #[]) (mvT w.2.2.2.2.1 (wd99 hw))) (wd99 hw) (wd98 hw) (wd70 hw) (wd100 hw) (by decide) E_lw (rm_cs hw lw op (own_ev1 i9_8 (own_ev1 i8_7 (0 : Int32))) (own_ev2 i9_8 (own_ev2 i8_7 (0 : Int32))) cm1 (Int32.ofNat (4 + kk)) i10_9 h81 n0 zn E_lw F_open_lw F_blank_lw F_pageBreak_lw F_comma_lw F_width_lw) at_539 542 rfl 0 (by decide) (by decide) (lenOf pd22 rfl) rfl (Nat.le_of_eq rfl) rfl (by decide) (by decide) (fun r103 T X hq => ?_)
                            have hr103 := hq
                            refine iload w X at_542 544 rfl rfl ?_
                            refine icmp_ne w X at_544 551 547 (by decide) (by decide) rfl (fun q => False.elim (by exact q (hr103.trans (own_cs_0c (by rw [← h18]; exact hc525_102))))) (fun hc544_104 => ?_)
                            refine iconst w X (1 : Int32) at_547 548 rfl rfl ?_
                            refine goto w X at_548 552 (by decide) (by decide) ?_
                            refine retN w X (t := .boolean) rfl (by simp) at_552 (by decide) (by decide) ?_
                            refine And.intro zk (And.intro hC ?_)
                            exact ⟨_, rfl, rfl⟩
                          ·
                            refine iconst w X (1 : Int32) at_528 529 rfl rfl ?_
                            refine goto w X at_529 533 (by decide) (by decide) ?_
                            refine istore w X (1 : Int32) at_533 535 rfl rfl #[.val (.int a1), .val (.int a2), .val (.int a3), .val (.int a4), .val (.int i4_1), .val (.int i5_2), .val (.int x5), .val (.int i7_6), .val (.int i8_7), .val (.int i9_8), .val (.int i10_9), .val (.ref sa), .val (.int op), .val (.ref ba), .val (.ref t), .val (.ref lw), .val (.int (own_ev1 i9_8 (own_ev1 i8_7 (0 : Int32)))), .val (.int (own_ev2 i9_8 (own_ev2 i8_7 (0 : Int32)))), .val (.int i18_88), .val (.int (1 : Int32))] rfl ?_
                            refine aload w X at_535 537 rfl rfl rfl ?_
                            refine iload w X at_537 539 rfl rfl ?_
                            refine callVPI w X [(.int i10_9)] (wd96 hw) (wd97 hw) (notFace_of_selects (args := #[]) (mvT w.2.2.2.2.1 (wd99 hw))) (wd99 hw) (wd98 hw) (wd70 hw) (wd100 hw) (by decide) E_lw (rm_cs hw lw op (own_ev1 i9_8 (own_ev1 i8_7 (0 : Int32))) (own_ev2 i9_8 (own_ev2 i8_7 (0 : Int32))) cm1 (Int32.ofNat (4 + kk)) i10_9 h81 n0 zn E_lw F_open_lw F_blank_lw F_pageBreak_lw F_comma_lw F_width_lw) at_539 542 rfl 0 (by decide) (by decide) (lenOf pd22 rfl) rfl (Nat.le_of_eq rfl) rfl (by decide) (by decide) (fun r105 T X hq => ?_)
                            have hr105 := hq
                            refine iload w X at_542 544 rfl rfl ?_
                            refine icmp_ne w X at_544 551 547 (by decide) (by decide) rfl (fun q => False.elim (by exact q (hr105.trans (own_cs_1b hc503_90 hc513_99 (by rw [← h18]; exact hc525_102))))) (fun hc544_106 => ?_)
                            refine iconst w X (1 : Int32) at_547 548 rfl rfl ?_
                            refine goto w X at_548 552 (by decide) (by decide) ?_
                            refine retN w X (t := .boolean) rfl (by simp) at_552 (by decide) (by decide) ?_
                            refine And.intro zk (And.intro hC ?_)
                            exact ⟨_, rfl, rfl⟩
                  refine icmp_ne w X at_484 490 487 (by decide) (by decide) rfl (fun hc484_85 => ?_) (fun hc484_85 => ?_)
                  ·
                    exact J86 T (own_ev2 i8_7 (0 : Int32)) X (Or.inl (⟨hc484_85, rfl⟩))
                  ·
                    refine iconst w X (1 : Int32) at_487 488 rfl rfl ?_
                    refine istore w X (1 : Int32) at_488 490 rfl rfl #[.val (.int a1), .val (.int a2), .val (.int a3), .val (.int a4), .val (.int i4_1), .val (.int i5_2), .val (.int x5), .val (.int i7_6), .val (.int i8_7), .val (.int i9_8), .val (.int i10_9), .val (.ref sa), .val (.int op), .val (.ref ba), .val (.ref t), .val (.ref lw), .val (.int (own_ev1 i9_8 (own_ev1 i8_7 (0 : Int32)))), .val (.int (1 : Int32)), .unset, .unset] rfl ?_
                    exact J86 T (1 : Int32) X (Or.inr (⟨hc484_85, rfl⟩))
                refine icmp_ne w X at_475 481 478 (by decide) (by decide) rfl (fun hc475_82 => ?_) (fun hc475_82 => ?_)
                ·
                  exact J83 T (own_ev1 i8_7 (0 : Int32)) X (Or.inl (⟨hc475_82, rfl⟩))
                ·
                  refine iconst w X (1 : Int32) at_478 479 rfl rfl ?_
                  refine istore w X (1 : Int32) at_479 481 rfl rfl #[.val (.int a1), .val (.int a2), .val (.int a3), .val (.int a4), .val (.int i4_1), .val (.int i5_2), .val (.int x5), .val (.int i7_6), .val (.int i8_7), .val (.int i9_8), .val (.int i10_9), .val (.ref sa), .val (.int op), .val (.ref ba), .val (.ref t), .val (.ref lw), .val (.int (1 : Int32)), .val (.int (own_ev2 i8_7 (0 : Int32))), .unset, .unset] rfl ?_
                  exact J83 T (1 : Int32) X (Or.inr (⟨hc475_82, rfl⟩))
              refine icmp_ne w X at_457 463 460 (by decide) (by decide) rfl (fun hc457_78 => ?_) (fun hc457_78 => ?_)
              ·
                exact J79 T (0 : Int32) X (Or.inl (⟨hc457_78, rfl⟩))
              ·
                refine iconst w X (1 : Int32) at_460 461 rfl rfl ?_
                refine istore w X (1 : Int32) at_461 463 rfl rfl #[.val (.int a1), .val (.int a2), .val (.int a3), .val (.int a4), .val (.int i4_1), .val (.int i5_2), .val (.int x5), .val (.int i7_6), .val (.int i8_7), .val (.int i9_8), .val (.int i10_9), .val (.ref sa), .val (.int op), .val (.ref ba), .val (.ref t), .val (.ref lw), .val (.int (own_ev1 i8_7 (0 : Int32))), .val (.int (1 : Int32)), .unset, .unset] rfl ?_
                exact J79 T (1 : Int32) X (Or.inr (⟨hc457_78, rfl⟩))
            refine icmp_ne w X at_448 454 451 (by decide) (by decide) rfl (fun hc448_75 => ?_) (fun hc448_75 => ?_)
            ·
              exact J76 T (0 : Int32) X (Or.inl (⟨hc448_75, rfl⟩))
            ·
              refine iconst w X (1 : Int32) at_451 452 rfl rfl ?_
              refine istore w X (1 : Int32) at_452 454 rfl rfl #[.val (.int a1), .val (.int a2), .val (.int a3), .val (.int a4), .val (.int i4_1), .val (.int i5_2), .val (.int x5), .val (.int i7_6), .val (.int i8_7), .val (.int i9_8), .val (.int i10_9), .val (.ref sa), .val (.int op), .val (.ref ba), .val (.ref t), .val (.ref lw), .val (.int (1 : Int32)), .val (.int (0 : Int32)), .unset, .unset] rfl ?_
              exact J76 T (1 : Int32) X (Or.inr (⟨hc448_75, rfl⟩))
        refine icmp_ne w X at_404 410 407 (by decide) (by decide) rfl (fun hc404_50 => ?_) (fun hc404_50 => ?_)
        ·
          exact J51 T (0 : Int32) X (Or.inl (⟨hc404_50, rfl⟩))
        ·
          refine iconst w X (1 : Int32) at_407 408 rfl rfl ?_
          refine istore w X (1 : Int32) at_408 410 rfl rfl #[.val (.int a1), .val (.int a2), .val (.int a3), .val (.int a4), .val (.int i4_1), .val (.int i5_2), .val (.int x5), .val (.int i7_6), .val (.int i8_7), .val (.int i9_8), .val (.int i10_9), .val (.ref sa), .val (.int op), .val (.ref ba), .val (.ref t), .val (.ref lw), .val (.int (own_ev1 i7_6 (0 : Int32))), .val (.int (1 : Int32)), .unset, .unset] rfl ?_
          exact J51 T (1 : Int32) X (Or.inr (⟨hc404_50, rfl⟩))
      refine icmp_ne w X at_395 401 398 (by decide) (by decide) rfl (fun hc395_47 => ?_) (fun hc395_47 => ?_)
      ·
        exact J48 T (0 : Int32) X (Or.inl (⟨hc395_47, rfl⟩))
      ·
        refine iconst w X (1 : Int32) at_398 399 rfl rfl ?_
        refine istore w X (1 : Int32) at_399 401 rfl rfl #[.val (.int a1), .val (.int a2), .val (.int a3), .val (.int a4), .val (.int i4_1), .val (.int i5_2), .val (.int x5), .val (.int i7_6), .val (.int i8_7), .val (.int i9_8), .val (.int i10_9), .val (.ref sa), .val (.int op), .val (.ref ba), .val (.ref t), .val (.ref lw), .val (.int (1 : Int32)), .val (.int (0 : Int32)), .unset, .unset] rfl ?_
        exact J48 T (1 : Int32) X (Or.inr (⟨hc395_47, rfl⟩))
    refine iload w X at_55 57 rfl rfl ?_
    refine if_ne w X at_57 70 60 (by decide) (by decide) rfl (fun hc57_107 => ?_) (fun hc57_107 => ?_)
    ·
      refine iload w X at_70 72 rfl rfl ?_
      refine iconst w X (1 : Int32) at_72 73 rfl rfl ?_
      refine icmp_ne w X at_73 86 76 (by decide) (by decide) rfl (fun hc73_108 => ?_) (fun hc73_108 => ?_)
      ·
        refine iload w X at_86 88 rfl rfl ?_
        refine iconst w X (2 : Int32) at_88 89 rfl rfl ?_
        refine icmp_ne w X at_89 102 92 (by decide) (by decide) rfl (fun hc89_109 => ?_) (fun hc89_109 => ?_)
        ·
          refine iload w X at_102 104 rfl rfl ?_
          refine iconst w X (3 : Int32) at_104 105 rfl rfl ?_
          refine icmp_ne w X at_105 118 108 (by decide) (by decide) rfl (fun hc105_110 => ?_) (fun hc105_110 => ?_)
          ·
            refine iload w X at_118 120 rfl rfl ?_
            refine iconst w X (4 : Int32) at_120 121 rfl rfl ?_
            refine icmp_ne w X at_121 134 124 (by decide) (by decide) rfl (fun hc121_111 => ?_) (fun hc121_111 => ?_)
            ·
              refine iload w X at_134 136 rfl rfl ?_
              refine iconst w X (5 : Int32) at_136 137 rfl rfl ?_
              refine icmp_ne w X at_137 150 140 (by decide) (by decide) rfl (fun hc137_112 => ?_) (fun hc137_112 => ?_)
              ·
                refine iload w X at_150 152 rfl rfl ?_
                refine bipush w X (6 : Int32) at_152 154 rfl rfl ?_
                refine icmp_ne w X at_154 167 157 (by decide) (by decide) rfl (fun hc154_113 => ?_) (fun hc154_113 => ?_)
                ·
                  refine ldcHt w X ws zk hC (own_EW hw) (by decide) (wd119 hw) (own_wS hw) [(65 : Int32), (66 : Int32), (67 : Int32), (68 : Int32)] ⟨by decide, by decide⟩ (4 : Int32) (by decide) (by decide) at_167 169 rfl 16 (by decide) (by decide) (by decide) (by decide) (fun s k0 T h114 sa115 sv116 w X ws zk hC E E_sa115 F_coder_sa115 F_value_sa115 V_sv116 hss => ?_)
                  have zn : n0 ≤ h114.size := Nat.le_trans zn E.1
                  have S_cs := S_cs.ext E
                  have S_sio := S_sio.ext E
                  refine astore w X at_169 171 rfl rfl #[.val (.int a1), .val (.int a2), .val (.int a3), .val (.int a4), .val (.int i4_1), .val (.int i5_2), .val (.int x5), .val (.int i7_6), .val (.int i8_7), .val (.int i9_8), .val (.int i10_9), .val (.ref sa115), .unset, .unset, .unset, .unset, .unset, .unset, .unset, .unset] rfl ?_
                  refine iconst w X (0 : Int32) at_171 172 rfl rfl ?_
                  refine istore w X (0 : Int32) at_172 174 rfl rfl #[.val (.int a1), .val (.int a2), .val (.int a3), .val (.int a4), .val (.int i4_1), .val (.int i5_2), .val (.int x5), .val (.int i7_6), .val (.int i8_7), .val (.int i9_8), .val (.int i10_9), .val (.ref sa115), .val (.int (0 : Int32)), .unset, .unset, .unset, .unset, .unset, .unset, .unset] rfl ?_
                  exact J174 s k0 T h114 sa115 sv116 (65 : Int32) (66 : Int32) (67 : Int32) (68 : Int32) (0 : Int32) w X ws hC zn S_cs S_sio zk E_sa115 F_value_sa115 V_sv116 F_coder_sa115 (Or.inr (Or.inr (Or.inr (Or.inr (Or.inr (Or.inr (Or.inr (⟨rfl, rfl, rfl, rfl, rfl⟩))))))))
                ·
                  refine ldcHt w X ws zk hC (own_EW hw) (by decide) (wd150 hw) (own_wS hw) [(97 : Int32), (46 : Int32), (98 : Int32), (99 : Int32)] ⟨by decide, by decide⟩ (4 : Int32) (by decide) (by decide) at_157 159 rfl 16 (by decide) (by decide) (by decide) (by decide) (fun s k0 T h117 sa118 sv119 w X ws zk hC E E_sa118 F_coder_sa118 F_value_sa118 V_sv119 hss => ?_)
                  have zn : n0 ≤ h117.size := Nat.le_trans zn E.1
                  have S_cs := S_cs.ext E
                  have S_sio := S_sio.ext E
                  refine astore w X at_159 161 rfl rfl #[.val (.int a1), .val (.int a2), .val (.int a3), .val (.int a4), .val (.int i4_1), .val (.int i5_2), .val (.int x5), .val (.int i7_6), .val (.int i8_7), .val (.int i9_8), .val (.int i10_9), .val (.ref sa118), .unset, .unset, .unset, .unset, .unset, .unset, .unset, .unset] rfl ?_
                  refine iconst w X (0 : Int32) at_161 162 rfl rfl ?_
                  refine istore w X (0 : Int32) at_162 164 rfl rfl #[.val (.int a1), .val (.int a2), .val (.int a3), .val (.int a4), .val (.int i4_1), .val (.int i5_2), .val (.int x5), .val (.int i7_6), .val (.int i8_7), .val (.int i9_8), .val (.int i10_9), .val (.ref sa118), .val (.int (0 : Int32)), .unset, .unset, .unset, .unset, .unset, .unset, .unset] rfl ?_
                  refine goto w X at_164 174 (by decide) (by decide) ?_
                  exact J174 s k0 T h117 sa118 sv119 (97 : Int32) (46 : Int32) (98 : Int32) (99 : Int32) (0 : Int32) w X ws hC zn S_cs S_sio zk E_sa118 F_value_sa118 V_sv119 F_coder_sa118 (Or.inr (Or.inr (Or.inr (Or.inr (Or.inr (Or.inr (Or.inl ⟨rfl, rfl, rfl, rfl, rfl⟩)))))))
              ·
                refine ldcHt w X ws zk hC (own_EW hw) (by decide) (wd181 hw) (own_wS hw) [(120 : Int32), (32 : Int32), (111 : Int32), (114 : Int32)] ⟨by decide, by decide⟩ (4 : Int32) (by decide) (by decide) at_140 142 rfl 16 (by decide) (by decide) (by decide) (by decide) (fun s k0 T h120 sa121 sv122 w X ws zk hC E E_sa121 F_coder_sa121 F_value_sa121 V_sv122 hss => ?_)
                have zn : n0 ≤ h120.size := Nat.le_trans zn E.1
                have S_cs := S_cs.ext E
                have S_sio := S_sio.ext E
                refine astore w X at_142 144 rfl rfl #[.val (.int a1), .val (.int a2), .val (.int a3), .val (.int a4), .val (.int i4_1), .val (.int i5_2), .val (.int x5), .val (.int i7_6), .val (.int i8_7), .val (.int i9_8), .val (.int i10_9), .val (.ref sa121), .unset, .unset, .unset, .unset, .unset, .unset, .unset, .unset] rfl ?_
                refine iconst w X (1 : Int32) at_144 145 rfl rfl ?_
                refine istore w X (1 : Int32) at_145 147 rfl rfl #[.val (.int a1), .val (.int a2), .val (.int a3), .val (.int a4), .val (.int i4_1), .val (.int i5_2), .val (.int x5), .val (.int i7_6), .val (.int i8_7), .val (.int i9_8), .val (.int i10_9), .val (.ref sa121), .val (.int (1 : Int32)), .unset, .unset, .unset, .unset, .unset, .unset, .unset] rfl ?_
                refine goto w X at_147 174 (by decide) (by decide) ?_
                exact J174 s k0 T h120 sa121 sv122 (120 : Int32) (32 : Int32) (111 : Int32) (114 : Int32) (1 : Int32) w X ws hC zn S_cs S_sio zk E_sa121 F_value_sa121 V_sv122 F_coder_sa121 (Or.inr (Or.inr (Or.inr (Or.inr (Or.inr (Or.inl ⟨rfl, rfl, rfl, rfl, rfl⟩))))))
            ·
              refine ldcHt w X ws zk hC (own_EW hw) (by decide) (wd185 hw) (own_wS hw) [(59 : Int32), (32 : Int32), (111 : Int32), (114 : Int32)] ⟨by decide, by decide⟩ (4 : Int32) (by decide) (by decide) at_124 126 rfl 16 (by decide) (by decide) (by decide) (by decide) (fun s k0 T h123 sa124 sv125 w X ws zk hC E E_sa124 F_coder_sa124 F_value_sa124 V_sv125 hss => ?_)
              have zn : n0 ≤ h123.size := Nat.le_trans zn E.1
              have S_cs := S_cs.ext E
              have S_sio := S_sio.ext E
              refine astore w X at_126 128 rfl rfl #[.val (.int a1), .val (.int a2), .val (.int a3), .val (.int a4), .val (.int i4_1), .val (.int i5_2), .val (.int x5), .val (.int i7_6), .val (.int i8_7), .val (.int i9_8), .val (.int i10_9), .val (.ref sa124), .unset, .unset, .unset, .unset, .unset, .unset, .unset, .unset] rfl ?_
              refine iconst w X (0 : Int32) at_128 129 rfl rfl ?_
              refine istore w X (0 : Int32) at_129 131 rfl rfl #[.val (.int a1), .val (.int a2), .val (.int a3), .val (.int a4), .val (.int i4_1), .val (.int i5_2), .val (.int x5), .val (.int i7_6), .val (.int i8_7), .val (.int i9_8), .val (.int i10_9), .val (.ref sa124), .val (.int (0 : Int32)), .unset, .unset, .unset, .unset, .unset, .unset, .unset] rfl ?_
              refine goto w X at_131 174 (by decide) (by decide) ?_
              exact J174 s k0 T h123 sa124 sv125 (59 : Int32) (32 : Int32) (111 : Int32) (114 : Int32) (0 : Int32) w X ws hC zn S_cs S_sio zk E_sa124 F_value_sa124 V_sv125 F_coder_sa124 (Or.inr (Or.inr (Or.inr (Or.inr (Or.inl ⟨rfl, rfl, rfl, rfl, rfl⟩)))))
          ·
            refine ldcHt w X ws zk hC (own_EW hw) (by decide) (wd2 hw) (own_wS hw) [(97 : Int32), (98 : Int32), (99 : Int32), (46 : Int32)] ⟨by decide, by decide⟩ (4 : Int32) (by decide) (by decide) at_108 110 rfl 16 (by decide) (by decide) (by decide) (by decide) (fun s k0 T h126 sa127 sv128 w X ws zk hC E E_sa127 F_coder_sa127 F_value_sa127 V_sv128 hss => ?_)
            have zn : n0 ≤ h126.size := Nat.le_trans zn E.1
            have S_cs := S_cs.ext E
            have S_sio := S_sio.ext E
            refine astore w X at_110 112 rfl rfl #[.val (.int a1), .val (.int a2), .val (.int a3), .val (.int a4), .val (.int i4_1), .val (.int i5_2), .val (.int x5), .val (.int i7_6), .val (.int i8_7), .val (.int i9_8), .val (.int i10_9), .val (.ref sa127), .unset, .unset, .unset, .unset, .unset, .unset, .unset, .unset] rfl ?_
            refine iconst w X (0 : Int32) at_112 113 rfl rfl ?_
            refine istore w X (0 : Int32) at_113 115 rfl rfl #[.val (.int a1), .val (.int a2), .val (.int a3), .val (.int a4), .val (.int i4_1), .val (.int i5_2), .val (.int x5), .val (.int i7_6), .val (.int i8_7), .val (.int i9_8), .val (.int i10_9), .val (.ref sa127), .val (.int (0 : Int32)), .unset, .unset, .unset, .unset, .unset, .unset, .unset] rfl ?_
            refine goto w X at_115 174 (by decide) (by decide) ?_
            exact J174 s k0 T h126 sa127 sv128 (97 : Int32) (98 : Int32) (99 : Int32) (46 : Int32) (0 : Int32) w X ws hC zn S_cs S_sio zk E_sa127 F_value_sa127 V_sv128 F_coder_sa127 (Or.inr (Or.inr (Or.inr (Or.inl ⟨rfl, rfl, rfl, rfl, rfl⟩))))
        ·
          refine ldcHt w X ws zk hC (own_EW hw) (by decide) (wd184 hw) (own_wS hw) [(120 : Int32), (32 : Int32), (65 : Int32), (98 : Int32)] ⟨by decide, by decide⟩ (4 : Int32) (by decide) (by decide) at_92 94 rfl 16 (by decide) (by decide) (by decide) (by decide) (fun s k0 T h129 sa130 sv131 w X ws zk hC E E_sa130 F_coder_sa130 F_value_sa130 V_sv131 hss => ?_)
          have zn : n0 ≤ h129.size := Nat.le_trans zn E.1
          have S_cs := S_cs.ext E
          have S_sio := S_sio.ext E
          refine astore w X at_94 96 rfl rfl #[.val (.int a1), .val (.int a2), .val (.int a3), .val (.int a4), .val (.int i4_1), .val (.int i5_2), .val (.int x5), .val (.int i7_6), .val (.int i8_7), .val (.int i9_8), .val (.int i10_9), .val (.ref sa130), .unset, .unset, .unset, .unset, .unset, .unset, .unset, .unset] rfl ?_
          refine iconst w X (0 : Int32) at_96 97 rfl rfl ?_
          refine istore w X (0 : Int32) at_97 99 rfl rfl #[.val (.int a1), .val (.int a2), .val (.int a3), .val (.int a4), .val (.int i4_1), .val (.int i5_2), .val (.int x5), .val (.int i7_6), .val (.int i8_7), .val (.int i9_8), .val (.int i10_9), .val (.ref sa130), .val (.int (0 : Int32)), .unset, .unset, .unset, .unset, .unset, .unset, .unset] rfl ?_
          refine goto w X at_99 174 (by decide) (by decide) ?_
          exact J174 s k0 T h129 sa130 sv131 (120 : Int32) (32 : Int32) (65 : Int32) (98 : Int32) (0 : Int32) w X ws hC zn S_cs S_sio zk E_sa130 F_value_sa130 V_sv131 F_coder_sa130 (Or.inr (Or.inr (Or.inl ⟨rfl, rfl, rfl, rfl, rfl⟩)))
      ·
        refine ldcHt w X ws zk hC (own_EW hw) (by decide) (wd182 hw) (own_wS hw) [(120 : Int32), (32 : Int32), (97 : Int32), (98 : Int32)] ⟨by decide, by decide⟩ (4 : Int32) (by decide) (by decide) at_76 78 rfl 16 (by decide) (by decide) (by decide) (by decide) (fun s k0 T h132 sa133 sv134 w X ws zk hC E E_sa133 F_coder_sa133 F_value_sa133 V_sv134 hss => ?_)
        have zn : n0 ≤ h132.size := Nat.le_trans zn E.1
        have S_cs := S_cs.ext E
        have S_sio := S_sio.ext E
        refine astore w X at_78 80 rfl rfl #[.val (.int a1), .val (.int a2), .val (.int a3), .val (.int a4), .val (.int i4_1), .val (.int i5_2), .val (.int x5), .val (.int i7_6), .val (.int i8_7), .val (.int i9_8), .val (.int i10_9), .val (.ref sa133), .unset, .unset, .unset, .unset, .unset, .unset, .unset, .unset] rfl ?_
        refine iconst w X (1 : Int32) at_80 81 rfl rfl ?_
        refine istore w X (1 : Int32) at_81 83 rfl rfl #[.val (.int a1), .val (.int a2), .val (.int a3), .val (.int a4), .val (.int i4_1), .val (.int i5_2), .val (.int x5), .val (.int i7_6), .val (.int i8_7), .val (.int i9_8), .val (.int i10_9), .val (.ref sa133), .val (.int (1 : Int32)), .unset, .unset, .unset, .unset, .unset, .unset, .unset] rfl ?_
        refine goto w X at_83 174 (by decide) (by decide) ?_
        exact J174 s k0 T h132 sa133 sv134 (120 : Int32) (32 : Int32) (97 : Int32) (98 : Int32) (1 : Int32) w X ws hC zn S_cs S_sio zk E_sa133 F_value_sa133 V_sv134 F_coder_sa133 (Or.inr (Or.inl ⟨rfl, rfl, rfl, rfl, rfl⟩))
    ·
      refine ldcHt w X ws zk hC (own_EW hw) (by decide) (wd180 hw) (own_wS hw) [(97 : Int32), (98 : Int32), (99 : Int32), (44 : Int32)] ⟨by decide, by decide⟩ (4 : Int32) (by decide) (by decide) at_60 62 rfl 16 (by decide) (by decide) (by decide) (by decide) (fun s k0 T h135 sa136 sv137 w X ws zk hC E E_sa136 F_coder_sa136 F_value_sa136 V_sv137 hss => ?_)
      have zn : n0 ≤ h135.size := Nat.le_trans zn E.1
      have S_cs := S_cs.ext E
      have S_sio := S_sio.ext E
      refine astore w X at_62 64 rfl rfl #[.val (.int a1), .val (.int a2), .val (.int a3), .val (.int a4), .val (.int i4_1), .val (.int i5_2), .val (.int x5), .val (.int i7_6), .val (.int i8_7), .val (.int i9_8), .val (.int i10_9), .val (.ref sa136), .unset, .unset, .unset, .unset, .unset, .unset, .unset, .unset] rfl ?_
      refine iconst w X (1 : Int32) at_64 65 rfl rfl ?_
      refine istore w X (1 : Int32) at_65 67 rfl rfl #[.val (.int a1), .val (.int a2), .val (.int a3), .val (.int a4), .val (.int i4_1), .val (.int i5_2), .val (.int x5), .val (.int i7_6), .val (.int i8_7), .val (.int i9_8), .val (.int i10_9), .val (.ref sa136), .val (.int (1 : Int32)), .unset, .unset, .unset, .unset, .unset, .unset, .unset] rfl ?_
      refine goto w X at_67 174 (by decide) (by decide) ?_
      exact J174 s k0 T h135 sa136 sv137 (97 : Int32) (98 : Int32) (99 : Int32) (44 : Int32) (1 : Int32) w X ws hC zn S_cs S_sio zk E_sa136 F_value_sa136 V_sv137 F_coder_sa136 (Or.inl ⟨rfl, rfl, rfl, rfl, rfl⟩)
  refine if_eq w X at_18 25 21 (by decide) (by decide) rfl (fun hc18_3 => ?_) (fun hc18_3 => ?_)
  ·
    refine iconst w X (0 : Int32) at_25 26 rfl rfl ?_
    exact J4 T (0 : Int32) X (Or.inl (⟨hc18_3, rfl⟩))
  ·
    refine iconst w X (1 : Int32) at_21 22 rfl rfl ?_
    refine goto w X at_22 26 (by decide) (by decide) ?_
    exact J4 T (1 : Int32) X (Or.inr (⟨hc18_3, rfl⟩))
set_option maxRecDepth 65536 in
set_option maxHeartbeats 40000000 in
theorem comes_1 {Post : Tables → Env → Array Value → State → Outcome → State → Prop} (hpost : ∀ tb e args s v u, (limb_1_1.after args s (.returned v) u = true ∧ limb_1_2.after args s (.returned v) u = true ∧ True) → ReturnedEndW s (.returned v) u (Jvm.fieldLocs frame_1_writes args s ++ Jvm.arrayLocs frame_1_arrays args s ++ Jvm.staticLocs frame_1_statics s) 40 10432 → Post tb e args s (.returned v) u) :
    ArmFor flags0 classFile x code maxLocals ret World_1 tables_1 room_1 Calls_1 rest_1 Pre_1 Post := by
  intro l hfl _ _ p e ha hc hk s m args below hf hA hF happ hP
  obtain ⟨hcalls, hrest, hpre⟩ := hP
  obtain ⟨-, -, -, hnamed, -, -, -, hat⟩ := (Spec.applies_iff hf).mp happ
  obtain ⟨hg, hn⟩ := and_e (Cond.before_iff.mp (show (Jvm.Cond.and given_1 narrow_1).before args s = true from hpre))
  obtain ⟨g1, g2⟩ := and_e hg
  obtain ⟨g3, g4⟩ := and_e g2
  obtain ⟨g5, g6⟩ := and_e g4
  obtain ⟨g7, g8⟩ := and_e g6
  obtain ⟨w0, w1, w2, w3, rfl⟩ : ∃ w0 w1 w2 w3 : Value, args = #[w0, w1, w2, w3] := by
    have hs : args.size = 4 := by simpa [Cond.value, given_1] using g1
    obtain ⟨L⟩ := args
    match L, hs with
    | [w0, w1, w2, w3], _ => exact ⟨w0, w1, w2, w3, rfl⟩
  have hw := fun d (hd : d ∈ tables_1) => atoms_spec (ws := Jvm.Cond.code x code maxLocals ret :: tables_1) hat d (List.mem_cons_of_mem _ hd)
  obtain ⟨i0, ei0⟩ := is_v g3
  obtain rfl : w0 = (.int i0) := Option.some.inj ei0
  obtain ⟨i1, ei1⟩ := is_v g5
  obtain rfl : w1 = (.int i1) := Option.some.inj ei1
  obtain ⟨i2, ei2⟩ := is_v g7
  obtain rfl : w2 = (.int i2) := Option.some.inj ei2
  obtain ⟨i3, ei3⟩ := is_v g8
  obtain rfl : w3 = (.int i3) := Option.some.inj ei3
  obtain ⟨hsets, hown0⟩ := atoms_of _ (rest_1_c_eq ▸ (show rest_1_c.before _ s = true from hrest))
  obtain ⟨cs, ev_cs⟩ := is_v (Cond.before_iff.mp (hsets _ (List.mem_of_getElem? (i := 1) rfl)))
  have S_cs := Sta.start ev_cs (Or.inl (hsets _ (List.mem_of_getElem? (i := 0) rfl)))
  have hcs : ¬ cs = 0 := by
    have hq := not_v (Cond.before_iff.mp (hsets _ (List.mem_of_getElem? (i := 2) rfl)))
    exact gotF (Cond.eq_ints ev_cs rfl) hq
  obtain ⟨sio, ev_sio, hsio⟩ := isR_v (Cond.before_iff.mp (hsets _ (List.mem_of_getElem? (i := 8) rfl)))
  have S_sio := Sta.start ev_sio (Or.inl (hsets _ (List.mem_of_getElem? (i := 7) rfl)))
  have hCH : CHv s consts_1 s.vm s.heap := CHv.start (own_EW hw) (fun p hp => hcalls.1 p hp) (hsets _ (List.mem_of_getElem? (i := 2) rfl)) ((wd5 hw)) ((wd4 hw))
  obtain ⟨n, o, h1, h2, h3, _, L, rfl, ⟨⟨_, rfl, rfl⟩, N⟩, -, hq⟩ := rm_law (l := l) hw i0 i1 i2 i3 cs sio s.heap s.heap.size (Nat.le_refl _) S_cs hcs S_sio hsio p e ha hc hk s m _ below hf ((Spec.applies_iff_loose hf).mp happ).1 ⟨rfl, State.Warmed39.refl s, rfl, hCH⟩ trivial
  refine ⟨n, _, h1, h2, h3, hpost _ _ _ _ _ _ ⟨Cond.after_iff.mpr rfl, Cond.after_iff.mpr (eq_i res_at (Term.int_eval (1)) rfl), trivial⟩ ⟨hq.1, hq.2.1, hq.2.2.1, (hq.2.2.2.sift fun y hy => Or.inr (N y hy)).mono (by decide) (by decide)⟩⟩
theorem main_1_1 : Claimed_1_1 := comes_1 fun _ _ _ _ _ _ h hF => ⟨h.1, hF⟩
theorem main_1_2 : Claimed_1_2 := comes_1 fun _ _ _ _ _ _ h hF => ⟨h.2.1, hF⟩
end Jvm.Pilot.@@N@@
namespace Jvm.Pilot.@@N@@
open Jvm Jvm.ClassFile Sem Op Lib Jvm.Free Jvm.Stand Jvm.Pilot.@@N@@.Jvm.D
/-! MADE BY PROGRAM (witnessworld.py) out of the Statement's table words and the real class files: 19 classes; the members and pool entries that the words name. The judged class is class 1, her method 1. -/
namespace start1
open Jvm.ClassFile
def u (s : String) : CpInfo := .utf8 (stringToUtf16 s)
/-- a pool by its gaps: so many unusable entries, then the entry; so many at the end -/
def gap : Nat → List CpInfo → List CpInfo
  | 0, r => r
  | n + 1, r => .unusable :: gap n r
def poolList (es : List (Nat × CpInfo)) (last : Nat) : List CpInfo := es.foldr (fun e r => gap e.1 (e.2 :: r)) (gap last [])
def pool (es : List (Nat × CpInfo)) (last : Nat) : Array CpInfo := ⟨poolList es last⟩
def fileOf (pool : Array CpInfo) (this : Nat) (attrs : Array Attribute := #[]) (ms : Array MethodInfo := #[]) (fl : Nat := 33) (sup : Nat := 0) (ifs : Array Nat := #[]) (fds : Array FieldInfo := #[]) : ClassFile where
  minorVersion := 0
  majorVersion := 65
  constantPool := pool
  accessFlags := fl
  thisClass := this
  superClass := sup
  interfaces := ifs
  fields := fds
  methods := ms
  attributes := attrs
def plain (name : String) (sup : Option ClassId) : Class where
  name := name
  kind := .ordinary
  loader := none
  accessFlags := 33
  super := sup
  interfaces := #[]
  cf := none
  fields := #[]
  methods := #[]
  instanceTypes := #[]
  staticTypes := #[]
  resolved := #[]
  callSites := []
  init := .initialized
  statics := none
  mirror := none

def pool0 : Array CpInfo := pool [(5, u "<init>"), (0, u "()V"), (1, .class_ 10), (1, u "java/lang/Object"), (85, u "clone"), (0, u "()Ljava/lang/Object;")] 26

def k0c0 : Code := { maxStack := 0, maxLocals := 1, code := object_method_1_code, exceptionTable := #[], attributes := #[] }
def k0m0 : Method := { name := "<init>", desc := "()V", sig := { parameters := [], returnType := none }, accessFlags := 1, code := some k0c0 }
def k0m1 : Method := { name := "clone", desc := "()Ljava/lang/Object;", sig := { parameters := [], returnType := some (.object "java/lang/Object") }, accessFlags := 260, code := none }
/-- java/lang/Object -/
def k0 : Class := { plain "java/lang/Object" none with
  accessFlags := 33
  interfaces := #[]
  cf := some (fileOf pool0 8 #[] #[{ accessFlags := 1, nameIndex := 5, descriptorIndex := 6, attributes := #[] }, { accessFlags := 260, nameIndex := 96, descriptorIndex := 97, attributes := #[] }] 33 0 #[] #[])
  fields := #[]
  methods := #[k0m0, k0m1]
  instanceTypes := #[]
  staticTypes := #[]
  resolved := Array.replicate 124 none
  statics := none }

def pool1 : Array CpInfo := pool [(2, .class_ 4), (0, .nameAndType 5 6), (0, u "java/lang/Object"), (0, u "<init>"), (0, u "()V"), (0, .integer 2147483647), (0, .integer 1073741823), (0, .string 10), (0, u "abc,"), (0, .string 12), (0, u "x ab"), (0, .string 14), (0, u "x Ab"), (0, .string 16), (0, u "abc."), (0, .string 18), (0, u "; or"), (0, .string 20), (0, u "x or"), (0, .string 22), (0, u "a.bc"), (0, .string 24), (0, u "ABCD"), (0, .methodref 26 27), (0, .class_ 28), (0, .nameAndType 29 30), (0, u "com/example/clauseline/clauseline/LineWrapContinuesSentencePinLaw"), (0, u "pad"), (0, u "(II)B"), (0, .methodref 32 33), (0, .class_ 34), (0, .nameAndType 35 36), (0, u "java/lang/String"), (0, u "charAt"), (0, u "(I)C"), (0, .methodref 38 39), (0, .class_ 40), (0, .nameAndType 41 42), (0, u "com/example/clauseline/clauseline/ContractText"), (0, u "of"), (0, u "([B)Lcom/example/clauseline/clauseline/ContractText;"), (0, .class_ 44), (0, u "com/example/clauseline/clauseline/LineWrap"), (0, .methodref 43 3), (0, .methodref 26 47), (0, .nameAndType 48 49), (0, u "event"), (0, u "(Lcom/example/clauseline/clauseline/LineWrap;Lcom/example/clauseline/clauseline/ContractText;I)V"), (0, .methodref 43 51), (0, .nameAndType 52 53), (0, u "add"), (0, u "(Lcom/example/clauseline/clauseline/ContractText;II)Z"), (0, .methodref 43 55), (0, .nameAndType 56 57), (0, u "continuesSentence"), (0, u "(I)Z"), (2, u "law"), (0, u "(IIII)Z")] 8

def k1m0 : Method := { name := "<init>", desc := "()V", sig := { parameters := [], returnType := none }, accessFlags := 1, code := none }
def k1c1 : Code := { maxStack := 4, maxLocals := 20, code := code, exceptionTable := #[], attributes := #[] }
def k1m1 : Method := { name := "law", desc := "(IIII)Z", sig := { parameters := [.int, .int, .int, .int], returnType := some .boolean }, accessFlags := 9, code := some k1c1 }
def k1c2 : Code := { maxStack := 4, maxLocals := 3, code := method_3_code, exceptionTable := #[], attributes := #[] }
def k1m2 : Method := { name := "event", desc := "(Lcom/example/clauseline/clauseline/LineWrap;Lcom/example/clauseline/clauseline/ContractText;I)V", sig := { parameters := [(.object "com/example/clauseline/clauseline/LineWrap"), (.object "com/example/clauseline/clauseline/ContractText"), .int], returnType := none }, accessFlags := 10, code := some k1c2 }
def k1c3 : Code := { maxStack := 3, maxLocals := 2, code := method_4_code, exceptionTable := #[], attributes := #[] }
def k1m3 : Method := { name := "pad", desc := "(II)B", sig := { parameters := [.int, .int], returnType := some .byte }, accessFlags := 10, code := some k1c3 }
/-- com/example/clauseline/clauseline/LineWrapContinuesSentencePinLaw -/
def k1 : Class := { plain "com/example/clauseline/clauseline/LineWrapContinuesSentencePinLaw" (some 0) with
  accessFlags := 49
  interfaces := #[]
  cf := some (fileOf pool1 26 #[] #[{ accessFlags := 1, nameIndex := 5, descriptorIndex := 6, attributes := #[] }, { accessFlags := 9, nameIndex := 60, descriptorIndex := 61, attributes := #[] }, { accessFlags := 10, nameIndex := 48, descriptorIndex := 49, attributes := #[] }, { accessFlags := 10, nameIndex := 29, descriptorIndex := 30, attributes := #[] }] 49 2 #[] #[])
  fields := #[]
  methods := #[k1m0, k1m1, k1m2, k1m3]
  instanceTypes := #[]
  staticTypes := #[]
  resolved := Array.replicate 70 none
  statics := none }

def pool2 : Array CpInfo := pool [(1, .class_ 2), (0, u "java/io/Serializable"), (0, .class_ 4), (0, u "java/lang/Object")] 2

/-- java/io/Serializable -/
def k2 : Class := { plain "java/io/Serializable" (some 0) with
  accessFlags := 1537
  interfaces := #[]
  cf := some (fileOf pool2 1 #[] #[] 1537 3 #[] #[])
  fields := #[]
  methods := #[]
  instanceTypes := #[]
  staticTypes := #[]
  resolved := Array.replicate 7 none
  statics := none }

def pool3 : Array CpInfo := pool [(1, .class_ 2), (0, u "java/lang/Comparable"), (0, .class_ 4), (0, u "java/lang/Object")] 7

/-- java/lang/Comparable -/
def k3 : Class := { plain "java/lang/Comparable" (some 0) with
  accessFlags := 1537
  interfaces := #[]
  cf := some (fileOf pool3 1 #[] #[] 1537 3 #[] #[])
  fields := #[]
  methods := #[]
  instanceTypes := #[]
  staticTypes := #[]
  resolved := Array.replicate 12 none
  statics := none }

def pool4 : Array CpInfo := pool [(2, .class_ 4), (1, u "java/lang/CharSequence"), (42, .class_ 48), (0, u "java/lang/CharSequence$1CodePointIterator"), (10, .class_ 60), (0, u "java/lang/CharSequence$1CharIterator"), (5, .class_ 67), (0, u "java/lang/Object")] 63

/-- java/lang/CharSequence -/
def k4 : Class := { plain "java/lang/CharSequence" (some 0) with
  accessFlags := 1537
  interfaces := #[]
  cf := some (fileOf pool4 2 #[.nestMembers #[47, 59]] #[] 1537 66 #[] #[])
  fields := #[]
  methods := #[]
  instanceTypes := #[]
  staticTypes := #[]
  resolved := Array.replicate 131 none
  statics := none }

def pool5 : Array CpInfo := pool [(1, .class_ 2), (0, u "java/lang/constant/Constable"), (0, .class_ 4), (0, u "java/lang/Object")] 6

/-- java/lang/constant/Constable -/
def k5 : Class := { plain "java/lang/constant/Constable" (some 0) with
  accessFlags := 1537
  interfaces := #[]
  cf := some (fileOf pool5 1 #[] #[] 1537 3 #[] #[])
  fields := #[]
  methods := #[]
  instanceTypes := #[]
  staticTypes := #[]
  resolved := Array.replicate 11 none
  statics := none }

def pool6 : Array CpInfo := pool [(1, .class_ 2), (0, u "java/lang/constant/ConstantDesc"), (0, .class_ 4), (0, u "java/lang/Object")] 32

/-- java/lang/constant/ConstantDesc -/
def k6 : Class := { plain "java/lang/constant/ConstantDesc" (some 0) with
  accessFlags := 1537
  interfaces := #[]
  cf := some (fileOf pool6 1 #[] #[] 1537 3 #[] #[])
  fields := #[]
  methods := #[]
  instanceTypes := #[]
  staticTypes := #[]
  resolved := Array.replicate 37 none
  statics := none }

def pool7 : Array CpInfo := pool [(2, .class_ 4), (1, u "java/lang/Object"), (0, u "<init>"), (0, u "()V"), (2, .fieldref 10 11), (0, .class_ 12), (0, .nameAndType 13 14), (0, u "java/lang/String"), (0, u "value"), (0, u "[B"), (0, .fieldref 10 16), (0, .nameAndType 17 18), (0, u "coder"), (0, u "B"), (2, u "hash"), (0, u "I"), (2, u "hashIsZero"), (0, u "Z"), (11, .fieldref 10 39), (0, .nameAndType 40 26), (0, u "COMPACT_STRINGS"), (66, .class_ 109), (1, u "java/lang/StringLatin1"), (32, u "()Z"), (191, u "()I"), (0, .methodref 10 336), (0, .nameAndType 17 337), (0, u "()B"), (25, u "([BI)C"), (27, u "(II)V"), (35, u "(I)C"), (64, .methodref 10 493), (0, .nameAndType 494 142), (0, u "isLatin1"), (0, .methodref 107 496), (0, .nameAndType 497 363), (0, u "charAt"), (3, u "checkIndex"), (5, u "length"), (67, .class_ 576), (0, u "java/lang/CharSequence"), (22, u "CASE_INSENSITIVE_ORDER"), (0, u "Ljava/util/Comparator;"), (452, .fieldref 1054 1055), (0, .class_ 1056), (0, .nameAndType 1057 1058), (0, u "jdk/internal/util/Preconditions"), (0, u "SIOOBE_FORMATTER"), (0, u "Ljava/util/function/BiFunction;"), (0, .methodref 1054 1060), (0, .nameAndType 501 1061), (0, u "(IILjava/util/function/BiFunction;)I"), (39, u "serialPersistentFields"), (0, u "[Ljava/io/ObjectStreamField;"), (0, .class_ 1104), (0, u "java/lang/String$CaseInsensitiveComparator"), (1, .class_ 1107), (0, u "java/io/Serializable"), (0, .class_ 1109), (0, u "java/lang/Comparable"), (0, .class_ 1111), (0, u "java/lang/constant/Constable"), (0, .class_ 1113), (0, u "java/lang/constant/ConstantDesc"), (2, u "serialVersionUID"), (0, u "J"), (3, u "REPL"), (0, u "C"), (2, u "LATIN1"), (1, u "UTF16")] 323

def k7m0 : Method := { name := "<init>", desc := "()V", sig := { parameters := [], returnType := none }, accessFlags := 1, code := none }
def k7c1 : Code := { maxStack := 2, maxLocals := 1, code := jdk_42_method_54_code, exceptionTable := #[], attributes := #[] }
def k7m1 : Method := { name := "length", desc := "()I", sig := { parameters := [], returnType := some .int }, accessFlags := 1, code := some k7c1 }
def k7c2 : Code := { maxStack := 2, maxLocals := 2, code := jdk_42_method_56_code, exceptionTable := #[], attributes := #[] }
def k7m2 : Method := { name := "charAt", desc := "(I)C", sig := { parameters := [.int], returnType := some .char }, accessFlags := 1, code := some k7c2 }
def k7c3 : Code := { maxStack := 1, maxLocals := 1, code := jdk_42_method_152_code, exceptionTable := #[], attributes := #[] }
def k7m3 : Method := { name := "coder", desc := "()B", sig := { parameters := [], returnType := some .byte }, accessFlags := 0, code := some k7c3 }
def k7c4 : Code := { maxStack := 1, maxLocals := 1, code := jdk_42_method_154_code, exceptionTable := #[], attributes := #[] }
def k7m4 : Method := { name := "isLatin1", desc := "()Z", sig := { parameters := [], returnType := some .boolean }, accessFlags := 0, code := some k7c4 }
def k7c5 : Code := { maxStack := 3, maxLocals := 2, code := jdk_42_method_155_code, exceptionTable := #[], attributes := #[] }
def k7m5 : Method := { name := "checkIndex", desc := "(II)V", sig := { parameters := [.int, .int], returnType := none }, accessFlags := 8, code := some k7c5 }
/-- java/lang/String -/
def k7 : Class := { plain "java/lang/String" (some 0) with
  accessFlags := 49
  interfaces := #[2, 3, 4, 5, 6]
  cf := some (fileOf pool7 10 #[.nestMembers #[1103]] #[{ accessFlags := 1, nameIndex := 5, descriptorIndex := 6, attributes := #[] }, { accessFlags := 1, nameIndex := 507, descriptorIndex := 334, attributes := #[] }, { accessFlags := 1, nameIndex := 497, descriptorIndex := 427, attributes := #[] }, { accessFlags := 0, nameIndex := 17, descriptorIndex := 337, attributes := #[] }, { accessFlags := 0, nameIndex := 494, descriptorIndex := 142, attributes := #[] }, { accessFlags := 8, nameIndex := 501, descriptorIndex := 391, attributes := #[] }] 49 2 #[1106, 1108, 575, 1110, 1112] #[{ accessFlags := 18, nameIndex := 13, descriptorIndex := 14, attributes := #[] }, { accessFlags := 18, nameIndex := 17, descriptorIndex := 18, attributes := #[] }, { accessFlags := 2, nameIndex := 21, descriptorIndex := 22, attributes := #[] }, { accessFlags := 2, nameIndex := 25, descriptorIndex := 26, attributes := #[] }, { accessFlags := 26, nameIndex := 1116, descriptorIndex := 1117, attributes := #[] }, { accessFlags := 24, nameIndex := 40, descriptorIndex := 26, attributes := #[] }, { accessFlags := 26, nameIndex := 1101, descriptorIndex := 1102, attributes := #[] }, { accessFlags := 26, nameIndex := 1121, descriptorIndex := 1122, attributes := #[] }, { accessFlags := 25, nameIndex := 599, descriptorIndex := 600, attributes := #[] }, { accessFlags := 24, nameIndex := 1125, descriptorIndex := 18, attributes := #[] }, { accessFlags := 24, nameIndex := 1127, descriptorIndex := 18, attributes := #[] }])
  fields := #[{ name := "value", type := (.array .byte), accessFlags := 18, slot := 0, constantValue := 0 }, { name := "coder", type := .byte, accessFlags := 18, slot := 1, constantValue := 0 }, { name := "hash", type := .int, accessFlags := 2, slot := 2, constantValue := 0 }, { name := "hashIsZero", type := .boolean, accessFlags := 2, slot := 3, constantValue := 0 }, { name := "serialVersionUID", type := .long, accessFlags := 26, slot := 0, constantValue := 0 }, { name := "COMPACT_STRINGS", type := .boolean, accessFlags := 24, slot := 1, constantValue := 0 }, { name := "serialPersistentFields", type := (.array (.object "java/io/ObjectStreamField")), accessFlags := 26, slot := 2, constantValue := 0 }, { name := "REPL", type := .char, accessFlags := 26, slot := 3, constantValue := 0 }, { name := "CASE_INSENSITIVE_ORDER", type := (.object "java/util/Comparator"), accessFlags := 25, slot := 4, constantValue := 0 }, { name := "LATIN1", type := .byte, accessFlags := 24, slot := 5, constantValue := 0 }, { name := "UTF16", type := .byte, accessFlags := 24, slot := 6, constantValue := 0 }]
  methods := #[k7m0, k7m1, k7m2, k7m3, k7m4, k7m5]
  instanceTypes := #[(.array .byte), .byte, .int, .boolean]
  staticTypes := #[.long, .boolean, (.array (.object "java/io/ObjectStreamField")), .char, (.object "java/util/Comparator"), .byte, .byte]
  resolved := Array.replicate 1451 none
  statics := some 0 }

def pool8 : Array CpInfo := pool [(1, .class_ 2), (0, u "java/lang/String"), (1, .class_ 6), (1, u "java/lang/Object"), (0, u "<init>"), (0, u "()V"), (0, .methodref 1 10), (0, .nameAndType 11 12), (0, u "checkIndex"), (0, u "(II)V"), (1, .class_ 16), (1, u "java/lang/StringLatin1"), (36, u "([BI)C"), (67, u "$assertionsDisabled"), (0, u "Z"), (98, .class_ 223), (1, u "java/lang/StringLatin1$LinesSpliterator"), (28, u "charAt"), (137, .class_ 391), (0, u "java/lang/StringLatin1$CharsSpliterator")] 3

def k8m0 : Method := { name := "<init>", desc := "()V", sig := { parameters := [], returnType := none }, accessFlags := 0, code := none }
def k8c1 : Code := { maxStack := 2, maxLocals := 2, code := jdk_43_method_2_code, exceptionTable := #[], attributes := #[] }
def k8m1 : Method := { name := "charAt", desc := "([BI)C", sig := { parameters := [(.array .byte), .int], returnType := some .char }, accessFlags := 9, code := some k8c1 }
/-- java/lang/StringLatin1 -/
def k8 : Class := { plain "java/lang/StringLatin1" (some 0) with
  accessFlags := 48
  interfaces := #[]
  cf := some (fileOf pool8 14 #[.nestMembers #[390, 221]] #[{ accessFlags := 0, nameIndex := 7, descriptorIndex := 8, attributes := #[] }, { accessFlags := 9, nameIndex := 252, descriptorIndex := 53, attributes := #[] }] 48 4 #[] #[{ accessFlags := 4120, nameIndex := 121, descriptorIndex := 122, attributes := #[] }])
  fields := #[{ name := "$assertionsDisabled", type := .boolean, accessFlags := 4120, slot := 0, constantValue := 0 }]
  methods := #[k8m0, k8m1]
  instanceTypes := #[]
  staticTypes := #[.boolean]
  resolved := Array.replicate 395 none
  statics := none }

def pool9 : Array CpInfo := pool [(2, .class_ 4), (1, u "java/lang/Object"), (0, u "<init>"), (0, u "()V"), (17, .class_ 26), (1, u "jdk/internal/util/Preconditions"), (6, u "checkIndex"), (21, .class_ 56), (0, u "jdk/internal/util/Preconditions$4"), (57, .class_ 115), (0, u "jdk/internal/util/Preconditions$1"), (7, u "SIOOBE_FORMATTER"), (0, u "Ljava/util/function/BiFunction;"), (0, .class_ 126), (0, u "jdk/internal/util/Preconditions$2"), (3, u "AIOOBE_FORMATTER"), (0, .class_ 132), (0, u "jdk/internal/util/Preconditions$3"), (3, u "IOOBE_FORMATTER"), (41, u "(IILjava/util/function/BiFunction;)I")] 15

def k9m0 : Method := { name := "<init>", desc := "()V", sig := { parameters := [], returnType := none }, accessFlags := 1, code := none }
def k9c1 : Code := { maxStack := 3, maxLocals := 3, code := jdk_41_method_11_code, exceptionTable := #[], attributes := #[] }
def k9m1 : Method := { name := "checkIndex", desc := "(IILjava/util/function/BiFunction;)I", sig := { parameters := [.int, .int, (.object "java/util/function/BiFunction")], returnType := some .int }, accessFlags := 9, code := some k9c1 }
/-- jdk/internal/util/Preconditions -/
def k9 : Class := { plain "jdk/internal/util/Preconditions" (some 0) with
  accessFlags := 33
  interfaces := #[]
  cf := some (fileOf pool9 24 #[.nestMembers #[55, 131, 125, 114]] #[{ accessFlags := 1, nameIndex := 5, descriptorIndex := 6, attributes := #[] }, { accessFlags := 9, nameIndex := 33, descriptorIndex := 178, attributes := #[] }] 33 2 #[] #[{ accessFlags := 25, nameIndex := 123, descriptorIndex := 124, attributes := #[] }, { accessFlags := 25, nameIndex := 130, descriptorIndex := 124, attributes := #[] }, { accessFlags := 25, nameIndex := 136, descriptorIndex := 124, attributes := #[] }])
  fields := #[{ name := "SIOOBE_FORMATTER", type := (.object "java/util/function/BiFunction"), accessFlags := 25, slot := 0, constantValue := 0 }, { name := "AIOOBE_FORMATTER", type := (.object "java/util/function/BiFunction"), accessFlags := 25, slot := 1, constantValue := 0 }, { name := "IOOBE_FORMATTER", type := (.object "java/util/function/BiFunction"), accessFlags := 25, slot := 2, constantValue := 0 }]
  methods := #[k9m0, k9m1]
  instanceTypes := #[]
  staticTypes := #[(.object "java/util/function/BiFunction"), (.object "java/util/function/BiFunction"), (.object "java/util/function/BiFunction")]
  resolved := Array.replicate 194 none
  statics := some 1 }

def pool10 : Array CpInfo := pool [(3, .methodref 4 5), (0, .class_ 6), (0, .nameAndType 7 8), (0, u "java/lang/Object"), (0, u "<init>"), (0, u "()V"), (0, .fieldref 10 11), (0, .class_ 12), (0, .nameAndType 13 14), (0, u "com/example/clauseline/clauseline/ContractText"), (0, u "bytes"), (0, u "[B"), (11, .class_ 28), (1, u "java/lang/String"), (35, .methodref 10 65), (0, .nameAndType 7 66), (0, u "([B)V"), (25, u "(II)I"), (3, u "([BI)I"), (0, .methodref 10 98), (0, .nameAndType 99 96), (0, u "firstBadByte"), (31, .methodref 132 133), (0, .class_ 14), (0, .nameAndType 134 135), (0, u "clone"), (0, u "()Ljava/lang/Object;"), (5, .methodref 10 142), (0, .nameAndType 143 144), (0, u "isSpace"), (0, u "(B)Z"), (5, u "skipSpaces"), (7, .methodref 10 159), (0, .nameAndType 160 144), (0, u "isDigit"), (5, u "isContinuation"), (0, .methodref 26 168), (0, .nameAndType 169 170), (0, u "length"), (0, u "()I"), (0, .methodref 26 172), (0, .nameAndType 173 174), (0, u "charAt"), (0, u "(I)C"), (2, u "isLetter"), (77, .methodref 10 256), (0, .nameAndType 257 258), (0, u "sequenceLength"), (0, u "(I)I"), (4, .methodref 10 264), (0, .nameAndType 265 144), (0, u "isCapital"), (0, .methodref 10 267), (0, .nameAndType 268 144), (0, u "isLowerCase"), (0, u "MAX_SIZE"), (0, u "J"), (1, u "LONGEST_LINE"), (0, u "I"), (1, u "ELLIPSIS_BYTES"), (1, u "CHUNK"), (7, u "of"), (0, u "([B)Lcom/example/clauseline/clauseline/ContractText;"), (0, u "byteAt"), (0, u "(I)B"), (8, u "digitsEnd"), (9, u "startsWith"), (0, u "(IILjava/lang/String;)Z")] 43

def k10c0 : Code := { maxStack := 2, maxLocals := 2, code := prog_22_method_1_code, exceptionTable := #[], attributes := #[] }
def k10m0 : Method := { name := "<init>", desc := "([B)V", sig := { parameters := [(.array .byte)], returnType := none }, accessFlags := 2, code := some k10c0 }
def k10c1 : Code := { maxStack := 4, maxLocals := 3, code := prog_22_method_6_code, exceptionTable := #[], attributes := #[] }
def k10m1 : Method := { name := "of", desc := "([B)Lcom/example/clauseline/clauseline/ContractText;", sig := { parameters := [(.array .byte)], returnType := some (.object "com/example/clauseline/clauseline/ContractText") }, accessFlags := 9, code := some k10c1 }
def k10c2 : Code := { maxStack := 2, maxLocals := 2, code := prog_22_method_8_code, exceptionTable := #[], attributes := #[] }
def k10m2 : Method := { name := "byteAt", desc := "(I)B", sig := { parameters := [.int], returnType := some .byte }, accessFlags := 0, code := some k10c2 }
def k10c3 : Code := { maxStack := 2, maxLocals := 4, code := prog_22_method_20_code, exceptionTable := #[], attributes := #[] }
def k10m3 : Method := { name := "skipSpaces", desc := "(II)I", sig := { parameters := [.int, .int], returnType := some .int }, accessFlags := 0, code := some k10c3 }
def k10c4 : Code := { maxStack := 2, maxLocals := 4, code := prog_22_method_22_code, exceptionTable := #[], attributes := #[] }
def k10m4 : Method := { name := "digitsEnd", desc := "(II)I", sig := { parameters := [.int, .int], returnType := some .int }, accessFlags := 0, code := some k10c4 }
def k10c5 : Code := { maxStack := 3, maxLocals := 5, code := prog_22_method_34_code, exceptionTable := #[], attributes := #[] }
def k10m5 : Method := { name := "startsWith", desc := "(IILjava/lang/String;)Z", sig := { parameters := [.int, .int, (.object "java/lang/String")], returnType := some .boolean }, accessFlags := 0, code := some k10c5 }
def k10c6 : Code := { maxStack := 4, maxLocals := 5, code := prog_22_method_42_code, exceptionTable := #[], attributes := #[] }
def k10m6 : Method := { name := "firstBadByte", desc := "([BI)I", sig := { parameters := [(.array .byte), .int], returnType := some .int }, accessFlags := 10, code := some k10c6 }
def k10c7 : Code := { maxStack := 2, maxLocals := 1, code := prog_22_method_44_code, exceptionTable := #[], attributes := #[] }
def k10m7 : Method := { name := "sequenceLength", desc := "(I)I", sig := { parameters := [.int], returnType := some .int }, accessFlags := 10, code := some k10c7 }
def k10c8 : Code := { maxStack := 2, maxLocals := 1, code := prog_22_method_46_code, exceptionTable := #[], attributes := #[] }
def k10m8 : Method := { name := "isSpace", desc := "(B)Z", sig := { parameters := [.byte], returnType := some .boolean }, accessFlags := 8, code := some k10c8 }
def k10c9 : Code := { maxStack := 2, maxLocals := 1, code := prog_22_method_49_code, exceptionTable := #[], attributes := #[] }
def k10m9 : Method := { name := "isCapital", desc := "(B)Z", sig := { parameters := [.byte], returnType := some .boolean }, accessFlags := 8, code := some k10c9 }
def k10c10 : Code := { maxStack := 2, maxLocals := 1, code := prog_22_method_50_code, exceptionTable := #[], attributes := #[] }
def k10m10 : Method := { name := "isLowerCase", desc := "(B)Z", sig := { parameters := [.byte], returnType := some .boolean }, accessFlags := 8, code := some k10c10 }
def k10c11 : Code := { maxStack := 1, maxLocals := 1, code := prog_22_method_51_code, exceptionTable := #[], attributes := #[] }
def k10m11 : Method := { name := "isLetter", desc := "(B)Z", sig := { parameters := [.byte], returnType := some .boolean }, accessFlags := 8, code := some k10c11 }
def k10c12 : Code := { maxStack := 2, maxLocals := 1, code := prog_22_method_52_code, exceptionTable := #[], attributes := #[] }
def k10m12 : Method := { name := "isDigit", desc := "(B)Z", sig := { parameters := [.byte], returnType := some .boolean }, accessFlags := 8, code := some k10c12 }
def k10c13 : Code := { maxStack := 2, maxLocals := 1, code := prog_22_method_54_code, exceptionTable := #[], attributes := #[] }
def k10m13 : Method := { name := "isContinuation", desc := "(B)Z", sig := { parameters := [.byte], returnType := some .boolean }, accessFlags := 8, code := some k10c13 }
/-- com/example/clauseline/clauseline/ContractText -/
def k10 : Class := { plain "com/example/clauseline/clauseline/ContractText" (some 0) with
  accessFlags := 49
  interfaces := #[]
  cf := some (fileOf pool10 10 #[] #[{ accessFlags := 2, nameIndex := 7, descriptorIndex := 66, attributes := #[] }, { accessFlags := 9, nameIndex := 285, descriptorIndex := 286, attributes := #[] }, { accessFlags := 0, nameIndex := 287, descriptorIndex := 288, attributes := #[] }, { accessFlags := 0, nameIndex := 150, descriptorIndex := 92, attributes := #[] }, { accessFlags := 0, nameIndex := 297, descriptorIndex := 92, attributes := #[] }, { accessFlags := 0, nameIndex := 307, descriptorIndex := 308, attributes := #[] }, { accessFlags := 10, nameIndex := 99, descriptorIndex := 96, attributes := #[] }, { accessFlags := 10, nameIndex := 257, descriptorIndex := 258, attributes := #[] }, { accessFlags := 8, nameIndex := 143, descriptorIndex := 144, attributes := #[] }, { accessFlags := 8, nameIndex := 265, descriptorIndex := 144, attributes := #[] }, { accessFlags := 8, nameIndex := 268, descriptorIndex := 144, attributes := #[] }, { accessFlags := 8, nameIndex := 177, descriptorIndex := 144, attributes := #[] }, { accessFlags := 8, nameIndex := 160, descriptorIndex := 144, attributes := #[] }, { accessFlags := 8, nameIndex := 166, descriptorIndex := 144, attributes := #[] }] 49 4 #[] #[{ accessFlags := 24, nameIndex := 269, descriptorIndex := 270, attributes := #[] }, { accessFlags := 24, nameIndex := 272, descriptorIndex := 273, attributes := #[] }, { accessFlags := 24, nameIndex := 275, descriptorIndex := 273, attributes := #[] }, { accessFlags := 26, nameIndex := 277, descriptorIndex := 273, attributes := #[] }, { accessFlags := 18, nameIndex := 13, descriptorIndex := 14, attributes := #[] }])
  fields := #[{ name := "MAX_SIZE", type := .long, accessFlags := 24, slot := 0, constantValue := 0 }, { name := "LONGEST_LINE", type := .int, accessFlags := 24, slot := 1, constantValue := 0 }, { name := "ELLIPSIS_BYTES", type := .int, accessFlags := 24, slot := 2, constantValue := 0 }, { name := "CHUNK", type := .int, accessFlags := 26, slot := 3, constantValue := 0 }, { name := "bytes", type := (.array .byte), accessFlags := 18, slot := 0, constantValue := 0 }]
  methods := #[k10m0, k10m1, k10m2, k10m3, k10m4, k10m5, k10m6, k10m7, k10m8, k10m9, k10m10, k10m11, k10m12, k10m13]
  instanceTypes := #[(.array .byte)]
  staticTypes := #[.long, .int, .int, .int]
  resolved := Array.replicate 352 none
  statics := none }

def pool11 : Array CpInfo := pool [(1, .class_ 2), (0, u "java/lang/Cloneable"), (0, .class_ 4), (0, u "java/lang/Object")] 2

/-- java/lang/Cloneable -/
def k11 : Class := { plain "java/lang/Cloneable" (some 0) with
  accessFlags := 1537
  interfaces := #[]
  cf := some (fileOf pool11 1 #[] #[] 1537 3 #[] #[])
  fields := #[]
  methods := #[]
  instanceTypes := #[]
  staticTypes := #[]
  resolved := Array.replicate 7 none
  statics := none }

def pool12 : Array CpInfo := pool [(1, .methodref 2 3), (0, .class_ 4), (0, .nameAndType 5 6), (0, u "java/lang/Object"), (0, u "<init>"), (0, u "()V"), (0, .fieldref 8 9), (0, .class_ 10), (0, .nameAndType 11 12), (0, u "com/example/clauseline/clauseline/LineWrap"), (0, u "open"), (0, u "Z"), (0, .fieldref 8 14), (0, .nameAndType 15 12), (0, u "blank"), (0, .fieldref 8 17), (0, .nameAndType 18 12), (0, u "pageBreak"), (0, .fieldref 8 20), (0, .nameAndType 21 22), (0, u "width"), (0, u "I"), (0, .fieldref 8 24), (0, .nameAndType 25 12), (0, u "comma"), (0, .methodref 27 28), (0, .class_ 29), (0, .nameAndType 30 31), (0, u "com/example/clauseline/clauseline/ContractText"), (0, u "skipSpaces"), (0, u "(II)I"), (0, .methodref 8 33), (0, .nameAndType 34 35), (0, u "textEnd"), (0, u "(Lcom/example/clauseline/clauseline/ContractText;II)I"), (0, .methodref 8 37), (0, .nameAndType 38 39), (0, u "isPageBreak"), (0, u "(Lcom/example/clauseline/clauseline/ContractText;III)Z"), (0, .methodref 8 41), (0, .nameAndType 42 43), (0, u "isRule"), (0, u "(Lcom/example/clauseline/clauseline/ContractText;II)Z"), (0, .methodref 8 45), (0, .nameAndType 46 43), (0, u "endsMidSentence"), (0, .methodref 27 48), (0, .nameAndType 49 50), (0, u "byteAt"), (0, u "(I)B"), (0, .methodref 52 53), (0, .class_ 54), (0, .nameAndType 21 35), (0, u "com/example/clauseline/clauseline/Columns"), (21, u "()I"), (8, u "add"), (5, u "continuesSentence"), (0, u "(I)Z"), (3, u "(B)Z"), (26, .nameAndType 124 76), (0, u "length"), (7, .methodref 8 133), (0, .nameAndType 134 96), (0, u "isSpace"), (0, .methodref 8 136), (0, .nameAndType 137 43), (0, u "isMark"), (0, .methodref 8 139), (0, .nameAndType 140 43), (0, u "isFooter"), (0, .methodref 27 142), (0, .nameAndType 143 31), (0, u "digitsEnd"), (3, .string 148), (0, u "ISDA"), (0, .methodref 27 150), (0, .nameAndType 151 152), (0, u "startsWith"), (0, u "(IILjava/lang/String;)Z"), (0, .methodref 154 123), (0, .class_ 155), (0, u "java/lang/String"), (8, .methodref 27 165), (0, .nameAndType 166 96), (0, u "isLetter"), (0, .methodref 27 168), (0, .nameAndType 169 96), (0, u "isLowerCase"), (2, .string 173), (0, u "or"), (9, u "NARROWEST_WRAP"), (2, u "WIDEST_WRAP"), (1, u "FORM_MARK"), (0, u "Ljava/lang/String;"), (0, u "REGISTERED"), (0, u "YEAR_DIGITS")] 13

def k12c0 : Code := { maxStack := 1, maxLocals := 1, code := prog_47_method_1_code, exceptionTable := #[], attributes := #[] }
def k12m0 : Method := { name := "<init>", desc := "()V", sig := { parameters := [], returnType := none }, accessFlags := 0, code := some k12c0 }
def k12c1 : Code := { maxStack := 2, maxLocals := 2, code := prog_47_method_2_code, exceptionTable := #[], attributes := #[] }
def k12m1 : Method := { name := "continuesSentence", desc := "(I)Z", sig := { parameters := [.int], returnType := some .boolean }, accessFlags := 0, code := some k12c1 }
def k12c2 : Code := { maxStack := 4, maxLocals := 6, code := prog_47_method_4_code, exceptionTable := #[], attributes := #[] }
def k12m2 : Method := { name := "add", desc := "(Lcom/example/clauseline/clauseline/ContractText;II)Z", sig := { parameters := [(.object "com/example/clauseline/clauseline/ContractText"), .int, .int], returnType := some .boolean }, accessFlags := 0, code := some k12c2 }
def k12c3 : Code := { maxStack := 3, maxLocals := 4, code := prog_47_method_14_code, exceptionTable := #[], attributes := #[] }
def k12m3 : Method := { name := "textEnd", desc := "(Lcom/example/clauseline/clauseline/ContractText;II)I", sig := { parameters := [(.object "com/example/clauseline/clauseline/ContractText"), .int, .int], returnType := some .int }, accessFlags := 10, code := some k12c3 }
def k12c4 : Code := { maxStack := 3, maxLocals := 4, code := prog_47_method_15_code, exceptionTable := #[], attributes := #[] }
def k12m4 : Method := { name := "isPageBreak", desc := "(Lcom/example/clauseline/clauseline/ContractText;III)Z", sig := { parameters := [(.object "com/example/clauseline/clauseline/ContractText"), .int, .int, .int], returnType := some .boolean }, accessFlags := 10, code := some k12c4 }
def k12c5 : Code := { maxStack := 4, maxLocals := 7, code := prog_47_method_16_code, exceptionTable := #[], attributes := #[] }
def k12m5 : Method := { name := "isFooter", desc := "(Lcom/example/clauseline/clauseline/ContractText;II)Z", sig := { parameters := [(.object "com/example/clauseline/clauseline/ContractText"), .int, .int], returnType := some .boolean }, accessFlags := 10, code := some k12c5 }
def k12c6 : Code := { maxStack := 2, maxLocals := 4, code := prog_47_method_18_code, exceptionTable := #[], attributes := #[] }
def k12m6 : Method := { name := "isMark", desc := "(Lcom/example/clauseline/clauseline/ContractText;II)Z", sig := { parameters := [(.object "com/example/clauseline/clauseline/ContractText"), .int, .int], returnType := some .boolean }, accessFlags := 10, code := some k12c6 }
def k12c7 : Code := { maxStack := 2, maxLocals := 5, code := prog_47_method_20_code, exceptionTable := #[], attributes := #[] }
def k12m7 : Method := { name := "isRule", desc := "(Lcom/example/clauseline/clauseline/ContractText;II)Z", sig := { parameters := [(.object "com/example/clauseline/clauseline/ContractText"), .int, .int], returnType := some .boolean }, accessFlags := 10, code := some k12c7 }
def k12c8 : Code := { maxStack := 4, maxLocals := 6, code := prog_47_method_21_code, exceptionTable := #[], attributes := #[] }
def k12m8 : Method := { name := "endsMidSentence", desc := "(Lcom/example/clauseline/clauseline/ContractText;II)Z", sig := { parameters := [(.object "com/example/clauseline/clauseline/ContractText"), .int, .int], returnType := some .boolean }, accessFlags := 8, code := some k12c8 }
def k12c9 : Code := { maxStack := 2, maxLocals := 1, code := prog_47_method_22_code, exceptionTable := #[], attributes := #[] }
def k12m9 : Method := { name := "isSpace", desc := "(B)Z", sig := { parameters := [.byte], returnType := some .boolean }, accessFlags := 10, code := some k12c9 }
/-- com/example/clauseline/clauseline/LineWrap -/
def k12 : Class := { plain "com/example/clauseline/clauseline/LineWrap" (some 0) with
  accessFlags := 48
  interfaces := #[]
  cf := some (fileOf pool12 8 #[] #[{ accessFlags := 0, nameIndex := 5, descriptorIndex := 6, attributes := #[] }, { accessFlags := 0, nameIndex := 91, descriptorIndex := 92, attributes := #[] }, { accessFlags := 0, nameIndex := 85, descriptorIndex := 43, attributes := #[] }, { accessFlags := 10, nameIndex := 34, descriptorIndex := 35, attributes := #[] }, { accessFlags := 10, nameIndex := 38, descriptorIndex := 39, attributes := #[] }, { accessFlags := 10, nameIndex := 140, descriptorIndex := 43, attributes := #[] }, { accessFlags := 10, nameIndex := 137, descriptorIndex := 43, attributes := #[] }, { accessFlags := 10, nameIndex := 42, descriptorIndex := 43, attributes := #[] }, { accessFlags := 8, nameIndex := 46, descriptorIndex := 43, attributes := #[] }, { accessFlags := 10, nameIndex := 134, descriptorIndex := 96, attributes := #[] }] 48 2 #[] #[{ accessFlags := 26, nameIndex := 183, descriptorIndex := 22, attributes := #[] }, { accessFlags := 26, nameIndex := 186, descriptorIndex := 22, attributes := #[] }, { accessFlags := 26, nameIndex := 188, descriptorIndex := 189, attributes := #[] }, { accessFlags := 26, nameIndex := 190, descriptorIndex := 189, attributes := #[] }, { accessFlags := 26, nameIndex := 191, descriptorIndex := 22, attributes := #[] }, { accessFlags := 2, nameIndex := 11, descriptorIndex := 12, attributes := #[] }, { accessFlags := 2, nameIndex := 25, descriptorIndex := 12, attributes := #[] }, { accessFlags := 2, nameIndex := 21, descriptorIndex := 22, attributes := #[] }, { accessFlags := 2, nameIndex := 15, descriptorIndex := 12, attributes := #[] }, { accessFlags := 2, nameIndex := 18, descriptorIndex := 12, attributes := #[] }])
  fields := #[{ name := "NARROWEST_WRAP", type := .int, accessFlags := 26, slot := 0, constantValue := 0 }, { name := "WIDEST_WRAP", type := .int, accessFlags := 26, slot := 1, constantValue := 0 }, { name := "FORM_MARK", type := (.object "java/lang/String"), accessFlags := 26, slot := 2, constantValue := 0 }, { name := "REGISTERED", type := (.object "java/lang/String"), accessFlags := 26, slot := 3, constantValue := 0 }, { name := "YEAR_DIGITS", type := .int, accessFlags := 26, slot := 4, constantValue := 0 }, { name := "open", type := .boolean, accessFlags := 2, slot := 0, constantValue := 0 }, { name := "comma", type := .boolean, accessFlags := 2, slot := 1, constantValue := 0 }, { name := "width", type := .int, accessFlags := 2, slot := 2, constantValue := 0 }, { name := "blank", type := .boolean, accessFlags := 2, slot := 3, constantValue := 0 }, { name := "pageBreak", type := .boolean, accessFlags := 2, slot := 4, constantValue := 0 }]
  methods := #[k12m0, k12m1, k12m2, k12m3, k12m4, k12m5, k12m6, k12m7, k12m8, k12m9]
  instanceTypes := #[.boolean, .boolean, .int, .boolean, .boolean]
  staticTypes := #[.int, .int, (.object "java/lang/String"), (.object "java/lang/String"), .int]
  resolved := Array.replicate 205 none
  statics := none }

def pool13 : Array CpInfo := pool [(2, .class_ 4), (1, u "java/lang/Object"), (3, .class_ 10), (1, u "com/example/clauseline/clauseline/Columns"), (0, u "spacesPart"), (0, u "Z"), (0, .methodref 14 15), (0, .class_ 16), (0, .nameAndType 17 18), (0, u "com/example/clauseline/clauseline/ContractText"), (0, u "byteAt"), (0, u "(I)B"), (0, .methodref 8 20), (0, .nameAndType 21 22), (0, u "advance"), (0, u "(IB)I"), (0, .methodref 14 24), (0, .nameAndType 25 26), (0, u "isContinuation"), (0, u "(B)Z"), (20, u "(Lcom/example/clauseline/clauseline/ContractText;II)I"), (14, u "SPACED"), (0, u "Lcom/example/clauseline/clauseline/Columns;"), (2, u "TABBED"), (0, u "TAB_STOP"), (0, u "I"), (2, u "GAP"), (3, u "width")] 11

def k13c0 : Code := { maxStack := 3, maxLocals := 5, code := prog_19_method_2_code, exceptionTable := #[], attributes := #[] }
def k13m0 : Method := { name := "width", desc := "(Lcom/example/clauseline/clauseline/ContractText;II)I", sig := { parameters := [(.object "com/example/clauseline/clauseline/ContractText"), .int, .int], returnType := some .int }, accessFlags := 8, code := some k13c0 }
def k13c1 : Code := { maxStack := 2, maxLocals := 2, code := prog_19_method_9_code, exceptionTable := #[], attributes := #[] }
def k13m1 : Method := { name := "advance", desc := "(IB)I", sig := { parameters := [.int, .byte], returnType := some .int }, accessFlags := 10, code := some k13c1 }
/-- com/example/clauseline/clauseline/Columns -/
def k13 : Class := { plain "com/example/clauseline/clauseline/Columns" (some 0) with
  accessFlags := 48
  interfaces := #[]
  cf := some (fileOf pool13 8 #[] #[{ accessFlags := 8, nameIndex := 75, descriptorIndex := 47, attributes := #[] }, { accessFlags := 10, nameIndex := 21, descriptorIndex := 22, attributes := #[] }] 48 2 #[] #[{ accessFlags := 24, nameIndex := 62, descriptorIndex := 63, attributes := #[] }, { accessFlags := 24, nameIndex := 66, descriptorIndex := 63, attributes := #[] }, { accessFlags := 26, nameIndex := 67, descriptorIndex := 68, attributes := #[] }, { accessFlags := 26, nameIndex := 71, descriptorIndex := 68, attributes := #[] }, { accessFlags := 18, nameIndex := 11, descriptorIndex := 12, attributes := #[] }])
  fields := #[{ name := "SPACED", type := (.object "com/example/clauseline/clauseline/Columns"), accessFlags := 24, slot := 0, constantValue := 0 }, { name := "TABBED", type := (.object "com/example/clauseline/clauseline/Columns"), accessFlags := 24, slot := 1, constantValue := 0 }, { name := "TAB_STOP", type := .int, accessFlags := 26, slot := 2, constantValue := 0 }, { name := "GAP", type := .int, accessFlags := 26, slot := 3, constantValue := 0 }, { name := "spacesPart", type := .boolean, accessFlags := 18, slot := 0, constantValue := 0 }]
  methods := #[k13m0, k13m1]
  instanceTypes := #[.boolean]
  staticTypes := #[(.object "com/example/clauseline/clauseline/Columns"), (.object "com/example/clauseline/clauseline/Columns"), .int, .int]
  resolved := Array.replicate 87 none
  statics := none }

def pool14 : Array CpInfo := pool [(9, u "<init>"), (6, .class_ 18), (1, u "java/lang/Object"), (0, u "()V"), (1, .class_ 23), (1, u "jdk/internal/util/ArraysSupport"), (0, u "LOG2_ARRAY_LONG_INDEX_SCALE"), (0, u "I"), (2, u "U"), (0, u "Ljdk/internal/misc/Unsafe;"), (8, u "BIG_ENDIAN"), (0, u "Z"), (8, u "LOG2_BYTE_BIT_SIZE"), (4, u "LOG2_ARRAY_INT_INDEX_SCALE"), (54, u "JLA"), (0, u "Ljdk/internal/access/JavaLangAccess;"), (11, u "LOG2_ARRAY_BOOLEAN_INDEX_SCALE"), (9, u "LOG2_ARRAY_BYTE_INDEX_SCALE"), (5, u "LOG2_ARRAY_CHAR_INDEX_SCALE"), (5, u "LOG2_ARRAY_SHORT_INDEX_SCALE"), (18, u "LOG2_ARRAY_FLOAT_INDEX_SCALE"), (24, u "LOG2_ARRAY_DOUBLE_INDEX_SCALE"), (89, u "T_BOOLEAN"), (2, u "T_CHAR"), (1, u "T_FLOAT"), (1, u "T_DOUBLE"), (1, u "T_BYTE"), (1, u "T_SHORT"), (1, u "T_INT"), (1, u "T_LONG"), (1, u "SOFT_MAX_ARRAY_LENGTH")] 83

def k14m0 : Method := { name := "<init>", desc := "()V", sig := { parameters := [], returnType := none }, accessFlags := 2, code := none }
/-- jdk/internal/util/ArraysSupport -/
def k14 : Class := { plain "jdk/internal/util/ArraysSupport" (some 0) with
  accessFlags := 33
  interfaces := #[]
  cf := some (fileOf pool14 21 #[] #[{ accessFlags := 2, nameIndex := 9, descriptorIndex := 19, attributes := #[] }] 33 16 #[] #[{ accessFlags := 24, nameIndex := 28, descriptorIndex := 29, attributes := #[] }, { accessFlags := 26, nameIndex := 38, descriptorIndex := 39, attributes := #[] }, { accessFlags := 25, nameIndex := 121, descriptorIndex := 25, attributes := #[] }, { accessFlags := 25, nameIndex := 131, descriptorIndex := 25, attributes := #[] }, { accessFlags := 25, nameIndex := 137, descriptorIndex := 25, attributes := #[] }, { accessFlags := 25, nameIndex := 143, descriptorIndex := 25, attributes := #[] }, { accessFlags := 25, nameIndex := 53, descriptorIndex := 25, attributes := #[] }, { accessFlags := 25, nameIndex := 24, descriptorIndex := 25, attributes := #[] }, { accessFlags := 25, nameIndex := 162, descriptorIndex := 25, attributes := #[] }, { accessFlags := 25, nameIndex := 187, descriptorIndex := 25, attributes := #[] }, { accessFlags := 26, nameIndex := 48, descriptorIndex := 25, attributes := #[] }, { accessFlags := 25, nameIndex := 277, descriptorIndex := 25, attributes := #[] }, { accessFlags := 25, nameIndex := 280, descriptorIndex := 25, attributes := #[] }, { accessFlags := 25, nameIndex := 282, descriptorIndex := 25, attributes := #[] }, { accessFlags := 25, nameIndex := 284, descriptorIndex := 25, attributes := #[] }, { accessFlags := 25, nameIndex := 286, descriptorIndex := 25, attributes := #[] }, { accessFlags := 25, nameIndex := 288, descriptorIndex := 25, attributes := #[] }, { accessFlags := 25, nameIndex := 290, descriptorIndex := 25, attributes := #[] }, { accessFlags := 25, nameIndex := 292, descriptorIndex := 25, attributes := #[] }, { accessFlags := 26, nameIndex := 108, descriptorIndex := 109, attributes := #[] }, { accessFlags := 25, nameIndex := 294, descriptorIndex := 25, attributes := #[] }])
  fields := #[{ name := "U", type := (.object "jdk/internal/misc/Unsafe"), accessFlags := 24, slot := 0, constantValue := 0 }, { name := "BIG_ENDIAN", type := .boolean, accessFlags := 26, slot := 1, constantValue := 0 }, { name := "LOG2_ARRAY_BOOLEAN_INDEX_SCALE", type := .int, accessFlags := 25, slot := 2, constantValue := 0 }, { name := "LOG2_ARRAY_BYTE_INDEX_SCALE", type := .int, accessFlags := 25, slot := 3, constantValue := 0 }, { name := "LOG2_ARRAY_CHAR_INDEX_SCALE", type := .int, accessFlags := 25, slot := 4, constantValue := 0 }, { name := "LOG2_ARRAY_SHORT_INDEX_SCALE", type := .int, accessFlags := 25, slot := 5, constantValue := 0 }, { name := "LOG2_ARRAY_INT_INDEX_SCALE", type := .int, accessFlags := 25, slot := 6, constantValue := 0 }, { name := "LOG2_ARRAY_LONG_INDEX_SCALE", type := .int, accessFlags := 25, slot := 7, constantValue := 0 }, { name := "LOG2_ARRAY_FLOAT_INDEX_SCALE", type := .int, accessFlags := 25, slot := 8, constantValue := 0 }, { name := "LOG2_ARRAY_DOUBLE_INDEX_SCALE", type := .int, accessFlags := 25, slot := 9, constantValue := 0 }, { name := "LOG2_BYTE_BIT_SIZE", type := .int, accessFlags := 26, slot := 10, constantValue := 0 }, { name := "T_BOOLEAN", type := .int, accessFlags := 25, slot := 11, constantValue := 0 }, { name := "T_CHAR", type := .int, accessFlags := 25, slot := 12, constantValue := 0 }, { name := "T_FLOAT", type := .int, accessFlags := 25, slot := 13, constantValue := 0 }, { name := "T_DOUBLE", type := .int, accessFlags := 25, slot := 14, constantValue := 0 }, { name := "T_BYTE", type := .int, accessFlags := 25, slot := 15, constantValue := 0 }, { name := "T_SHORT", type := .int, accessFlags := 25, slot := 16, constantValue := 0 }, { name := "T_INT", type := .int, accessFlags := 25, slot := 17, constantValue := 0 }, { name := "T_LONG", type := .int, accessFlags := 25, slot := 18, constantValue := 0 }, { name := "JLA", type := (.object "jdk/internal/access/JavaLangAccess"), accessFlags := 26, slot := 19, constantValue := 0 }, { name := "SOFT_MAX_ARRAY_LENGTH", type := .int, accessFlags := 25, slot := 20, constantValue := 0 }]
  methods := #[k14m0]
  instanceTypes := #[]
  staticTypes := #[(.object "jdk/internal/misc/Unsafe"), .boolean, .int, .int, .int, .int, .int, .int, .int, .int, .int, .int, .int, .int, .int, .int, .int, .int, .int, (.object "jdk/internal/access/JavaLangAccess"), .int]
  resolved := Array.replicate 378 none
  statics := none }

/-- the primitive byte -/
def k15 : Class := { plain "byte" none with kind := .primitive 'B', accessFlags := 0x411 }
/-- [B -/
def k16 : Class := { plain "[B" (some 0) with kind := .array 15 .byte, interfaces := #[11, 2], accessFlags := 1041 }

/-- the primitive int -/
def k17 : Class := { plain "int" none with kind := .primitive 'I', accessFlags := 0x411 }
/-- [I -/
def k18 : Class := { plain "[I" (some 0) with kind := .array 17 .int, interfaces := #[11, 2], accessFlags := 1041 }

def heap : Heap := #[{ cls := 7, slots := #[.long 0, .int 1, .null, .int 0, .null, .int 0, .int 0], vm := .statics 7 },
  { cls := 9, slots := #[.null, .null, .null], vm := .statics 9 }]
def classes : Array Class := #[k0, k1, k2, k3, k4, k5, k6, k7, k8, k9, k10, k11, k12, k13, k14, k15, k16, k17, k18]
def interned : List (Array UInt16 × Addr) := []
def slotsUsed : Nat := 10
def theMethod : MethodId := ⟨1, 1⟩
def args0 : Array Value := #[.int 5, .int 6, .int 7, .int 8]
def aboutOver (below : List Frame) : State where
  vm := { classes := classes, interned := interned.toArray }
  heap := heap
  slotsUsed := slotsUsed
  threads := #[{ frames := .invoking theMethod args0 :: below }]
def below0 : List Frame := [.native { method := ⟨0, 0⟩, args := #[] }]
def about1 : State := aboutOver below0
def p0 : Program := .bare "" "" ""
def e0 : Env := launch0.env 0 0 0
theorem w_frames : about1.frames = Frame.invoking theMethod args0 :: below0 := rfl
set_option maxRecDepth 65536 in
theorem w_args : argsFit about1.vm theMethod args0 = true := by decide +kernel
set_option maxRecDepth 65536 in
theorem w_heap : heapFits about1 = true := by decide +kernel
set_option maxRecDepth 65536 in
theorem w_runnable : about1.curStatus? = some .runnable := by decide +kernel
set_option maxRecDepth 65536 in
theorem w_alone : about1.alone = true := by decide +kernel
set_option maxRecDepth 65536 in
theorem w_named : about1.methodNamed? x = some theMethod := by decide +kernel
set_option maxRecDepth 65536 in
theorem w_hears : about1.hears theMethod below0 = true := by decide +kernel
set_option maxRecDepth 65536 in
theorem w_ripe : about1.ripe theMethod args0 below0 = true := by decide +kernel
theorem w_running : about1.status = .running := rfl
set_option maxRecDepth 65536 in
theorem w_room : about1.hasRoom e0.platform room_1 = true :=
  launch0.hasRoom_least _ room_1 (by decide +kernel) (by decide +kernel) (by decide +kernel) (by decide +kernel) (by decide +kernel) (by decide +kernel)
theorem allAtoms_all (ts : List Jvm.Cond) (a : Array Jvm.Value) (st : Jvm.State) : (allAtoms ts).before a st = ts.all (fun c => c.before a st) := by
  induction ts with
  | nil => rfl
  | cons c t ih =>
    show (Jvm.Cond.and c (allAtoms t)).before a st = _
    rw [Jvm.Cond.before_and, ih, List.all_cons]
def words1 : List Jvm.Cond := Jvm.Cond.code x code maxLocals ret :: tables_1
/-- a 'code' word, met by the world's own term for the bytes: nothing is compared byte by byte -/
theorem code_word {y : MethodName} {bytes : ByteArray} {mx : Nat} {rt : Option FieldType} {a : Array Value} {s : State} {m : MethodId} {meth : Method} {c : Code} (h1 : s.methodNamed? y = some m) (h2 : s.vm.method? m = some meth) (h3 : meth.code = some c) (h4 : c.code = bytes)
    (h5 : (c.maxLocals == mx && c.exceptionTable.isEmpty && decide (c.maxStack ≤ mostOperands) && decide (meth.sig.returnType = rt) && !meth.locks && decide (parseMethodDescriptor y.desc = some meth.sig)) = true) : (Jvm.Cond.code y bytes mx rt).before a s = true := by
  simp only [Bool.and_eq_true, beq_iff_eq, Bool.not_eq_true', decide_eq_true_eq] at h5
  obtain ⟨⟨⟨⟨⟨g1, g2⟩, g3⟩, g4⟩, g5⟩, g6⟩ := h5
  simp [Cond.before, Cond.holds, Cond.value, h1, h2, h3, h4, g1, g2, g3, g4, g5, g6]
def isCode : Jvm.Cond → Bool
  | .code _ _ _ _ => true
  | _ => false
theorem all_split {L : List Jvm.Cond} {P : Jvm.Cond → Bool} (h1 : L.all (fun c => isCode c || P c) = true) (h2 : ∀ c ∈ L.filter isCode, P c = true) : L.all P = true := by
  refine List.all_eq_true.mpr fun c hc => ?_
  have h := List.all_eq_true.mp h1 c hc
  rcases Bool.eq_false_or_eq_true (isCode c) with hi | hi
  · exact h2 c (List.mem_filter.mpr ⟨hc, hi⟩)
  · simpa [hi] using h
set_option maxRecDepth 65536 in
theorem w_c0 : (Jvm.Cond.code x code maxLocals ret).before args0 about1 = true := code_word (m := ⟨1, 1⟩) (meth := k1m1) (c := k1c1) (by decide +kernel) rfl rfl rfl (by decide +kernel)
set_option maxRecDepth 65536 in
theorem w_c1 : (Jvm.Cond.code ({ cls := "com/example/clauseline/clauseline/LineWrapContinuesSentencePinLaw", name := "pad", desc := "(II)B" } : Jvm.MethodName) method_4_code (2 : Nat) (Option.some Jvm.ClassFile.FieldType.byte)).before args0 about1 = true := code_word (m := ⟨1, 3⟩) (meth := k1m3) (c := k1c3) (by decide +kernel) rfl rfl rfl (by decide +kernel)
set_option maxRecDepth 65536 in
theorem w_c2 : (Jvm.Cond.code ({ cls := "java/lang/String", name := "charAt", desc := "(I)C" } : Jvm.MethodName) jdk_42_method_56_code (2 : Nat) (Option.some Jvm.ClassFile.FieldType.char)).before args0 about1 = true := code_word (m := ⟨7, 2⟩) (meth := k7m2) (c := k7c2) (by decide +kernel) rfl rfl rfl (by decide +kernel)
set_option maxRecDepth 65536 in
theorem w_c3 : (Jvm.Cond.code ({ cls := "java/lang/String", name := "isLatin1", desc := "()Z" } : Jvm.MethodName) jdk_42_method_154_code (1 : Nat) (Option.some Jvm.ClassFile.FieldType.boolean)).before args0 about1 = true := code_word (m := ⟨7, 4⟩) (meth := k7m4) (c := k7c4) (by decide +kernel) rfl rfl rfl (by decide +kernel)
set_option maxRecDepth 65536 in
theorem w_c4 : (Jvm.Cond.code ({ cls := "java/lang/StringLatin1", name := "charAt", desc := "([BI)C" } : Jvm.MethodName) jdk_43_method_2_code (2 : Nat) (Option.some Jvm.ClassFile.FieldType.char)).before args0 about1 = true := code_word (m := ⟨8, 1⟩) (meth := k8m1) (c := k8c1) (by decide +kernel) rfl rfl rfl (by decide +kernel)
set_option maxRecDepth 65536 in
theorem w_c5 : (Jvm.Cond.code ({ cls := "java/lang/String", name := "checkIndex", desc := "(II)V" } : Jvm.MethodName) jdk_42_method_155_code (2 : Nat) (Option.none : Option Jvm.ClassFile.FieldType)).before args0 about1 = true := code_word (m := ⟨7, 5⟩) (meth := k7m5) (c := k7c5) (by decide +kernel) rfl rfl rfl (by decide +kernel)
set_option maxRecDepth 65536 in
theorem w_c6 : (Jvm.Cond.code ({ cls := "jdk/internal/util/Preconditions", name := "checkIndex", desc := "(IILjava/util/function/BiFunction;)I" } : Jvm.MethodName) jdk_41_method_11_code (3 : Nat) (Option.some Jvm.ClassFile.FieldType.int)).before args0 about1 = true := code_word (m := ⟨9, 1⟩) (meth := k9m1) (c := k9c1) (by decide +kernel) rfl rfl rfl (by decide +kernel)
set_option maxRecDepth 65536 in
theorem w_c7 : (Jvm.Cond.code ({ cls := "com/example/clauseline/clauseline/ContractText", name := "of", desc := "([B)Lcom/example/clauseline/clauseline/ContractText;" } : Jvm.MethodName) prog_22_method_6_code (3 : Nat) (Option.some (Jvm.ClassFile.FieldType.object "com/example/clauseline/clauseline/ContractText"))).before args0 about1 = true := code_word (m := ⟨10, 1⟩) (meth := k10m1) (c := k10c1) (by decide +kernel) rfl rfl rfl (by decide +kernel)
set_option maxRecDepth 65536 in
theorem w_c8 : (Jvm.Cond.code ({ cls := "com/example/clauseline/clauseline/ContractText", name := "firstBadByte", desc := "([BI)I" } : Jvm.MethodName) prog_22_method_42_code (5 : Nat) (Option.some Jvm.ClassFile.FieldType.int)).before args0 about1 = true := code_word (m := ⟨10, 6⟩) (meth := k10m6) (c := k10c6) (by decide +kernel) rfl rfl rfl (by decide +kernel)
set_option maxRecDepth 65536 in
theorem w_c9 : (Jvm.Cond.code ({ cls := "com/example/clauseline/clauseline/ContractText", name := "sequenceLength", desc := "(I)I" } : Jvm.MethodName) prog_22_method_44_code (1 : Nat) (Option.some Jvm.ClassFile.FieldType.int)).before args0 about1 = true := code_word (m := ⟨10, 7⟩) (meth := k10m7) (c := k10c7) (by decide +kernel) rfl rfl rfl (by decide +kernel)
set_option maxRecDepth 65536 in
theorem w_c10 : (Jvm.Cond.code ({ cls := "com/example/clauseline/clauseline/ContractText", name := "<init>", desc := "([B)V" } : Jvm.MethodName) prog_22_method_1_code (2 : Nat) (Option.none : Option Jvm.ClassFile.FieldType)).before args0 about1 = true := code_word (m := ⟨10, 0⟩) (meth := k10m0) (c := k10c0) (by decide +kernel) rfl rfl rfl (by decide +kernel)
set_option maxRecDepth 65536 in
theorem w_c11 : (Jvm.Cond.code ({ cls := "java/lang/Object", name := "<init>", desc := "()V" } : Jvm.MethodName) object_method_1_code (1 : Nat) (Option.none : Option Jvm.ClassFile.FieldType)).before args0 about1 = true := code_word (m := ⟨0, 0⟩) (meth := k0m0) (c := k0c0) (by decide +kernel) rfl rfl rfl (by decide +kernel)
set_option maxRecDepth 65536 in
theorem w_c12 : (Jvm.Cond.code ({ cls := "com/example/clauseline/clauseline/LineWrap", name := "<init>", desc := "()V" } : Jvm.MethodName) prog_47_method_1_code (1 : Nat) (Option.none : Option Jvm.ClassFile.FieldType)).before args0 about1 = true := code_word (m := ⟨12, 0⟩) (meth := k12m0) (c := k12c0) (by decide +kernel) rfl rfl rfl (by decide +kernel)
set_option maxRecDepth 65536 in
theorem w_c13 : (Jvm.Cond.code ({ cls := "com/example/clauseline/clauseline/LineWrapContinuesSentencePinLaw", name := "event", desc := "(Lcom/example/clauseline/clauseline/LineWrap;Lcom/example/clauseline/clauseline/ContractText;I)V" } : Jvm.MethodName) method_3_code (3 : Nat) (Option.none : Option Jvm.ClassFile.FieldType)).before args0 about1 = true := code_word (m := ⟨1, 2⟩) (meth := k1m2) (c := k1c2) (by decide +kernel) rfl rfl rfl (by decide +kernel)
set_option maxRecDepth 65536 in
theorem w_c14 : (Jvm.Cond.code ({ cls := "com/example/clauseline/clauseline/LineWrap", name := "add", desc := "(Lcom/example/clauseline/clauseline/ContractText;II)Z" } : Jvm.MethodName) prog_47_method_4_code (6 : Nat) (Option.some Jvm.ClassFile.FieldType.boolean)).before args0 about1 = true := code_word (m := ⟨12, 2⟩) (meth := k12m2) (c := k12c2) (by decide +kernel) rfl rfl rfl (by decide +kernel)
set_option maxRecDepth 65536 in
theorem w_c15 : (Jvm.Cond.code ({ cls := "com/example/clauseline/clauseline/ContractText", name := "skipSpaces", desc := "(II)I" } : Jvm.MethodName) prog_22_method_20_code (4 : Nat) (Option.some Jvm.ClassFile.FieldType.int)).before args0 about1 = true := code_word (m := ⟨10, 3⟩) (meth := k10m3) (c := k10c3) (by decide +kernel) rfl rfl rfl (by decide +kernel)
set_option maxRecDepth 65536 in
theorem w_c16 : (Jvm.Cond.code ({ cls := "com/example/clauseline/clauseline/ContractText", name := "isSpace", desc := "(B)Z" } : Jvm.MethodName) prog_22_method_46_code (1 : Nat) (Option.some Jvm.ClassFile.FieldType.boolean)).before args0 about1 = true := code_word (m := ⟨10, 8⟩) (meth := k10m8) (c := k10c8) (by decide +kernel) rfl rfl rfl (by decide +kernel)
set_option maxRecDepth 65536 in
theorem w_c17 : (Jvm.Cond.code ({ cls := "com/example/clauseline/clauseline/LineWrap", name := "textEnd", desc := "(Lcom/example/clauseline/clauseline/ContractText;II)I" } : Jvm.MethodName) prog_47_method_14_code (4 : Nat) (Option.some Jvm.ClassFile.FieldType.int)).before args0 about1 = true := code_word (m := ⟨12, 3⟩) (meth := k12m3) (c := k12c3) (by decide +kernel) rfl rfl rfl (by decide +kernel)
set_option maxRecDepth 65536 in
theorem w_c18 : (Jvm.Cond.code ({ cls := "com/example/clauseline/clauseline/LineWrap", name := "continuesSentence", desc := "(I)Z" } : Jvm.MethodName) prog_47_method_2_code (2 : Nat) (Option.some Jvm.ClassFile.FieldType.boolean)).before args0 about1 = true := code_word (m := ⟨12, 1⟩) (meth := k12m1) (c := k12c1) (by decide +kernel) rfl rfl rfl (by decide +kernel)
set_option maxRecDepth 65536 in
theorem w_c19 : (Jvm.Cond.code ({ cls := "com/example/clauseline/clauseline/ContractText", name := "byteAt", desc := "(I)B" } : Jvm.MethodName) prog_22_method_8_code (2 : Nat) (Option.some Jvm.ClassFile.FieldType.byte)).before args0 about1 = true := code_word (m := ⟨10, 2⟩) (meth := k10m2) (c := k10c2) (by decide +kernel) rfl rfl rfl (by decide +kernel)
set_option maxRecDepth 65536 in
theorem w_c20 : (Jvm.Cond.code ({ cls := "com/example/clauseline/clauseline/LineWrap", name := "isSpace", desc := "(B)Z" } : Jvm.MethodName) prog_47_method_22_code (1 : Nat) (Option.some Jvm.ClassFile.FieldType.boolean)).before args0 about1 = true := code_word (m := ⟨12, 9⟩) (meth := k12m9) (c := k12c9) (by decide +kernel) rfl rfl rfl (by decide +kernel)
set_option maxRecDepth 65536 in
theorem w_c21 : (Jvm.Cond.code ({ cls := "com/example/clauseline/clauseline/LineWrap", name := "isPageBreak", desc := "(Lcom/example/clauseline/clauseline/ContractText;III)Z" } : Jvm.MethodName) prog_47_method_15_code (4 : Nat) (Option.some Jvm.ClassFile.FieldType.boolean)).before args0 about1 = true := code_word (m := ⟨12, 4⟩) (meth := k12m4) (c := k12c4) (by decide +kernel) rfl rfl rfl (by decide +kernel)
set_option maxRecDepth 65536 in
theorem w_c22 : (Jvm.Cond.code ({ cls := "com/example/clauseline/clauseline/LineWrap", name := "isMark", desc := "(Lcom/example/clauseline/clauseline/ContractText;II)Z" } : Jvm.MethodName) prog_47_method_18_code (4 : Nat) (Option.some Jvm.ClassFile.FieldType.boolean)).before args0 about1 = true := code_word (m := ⟨12, 6⟩) (meth := k12m6) (c := k12c6) (by decide +kernel) rfl rfl rfl (by decide +kernel)
set_option maxRecDepth 65536 in
theorem w_c23 : (Jvm.Cond.code ({ cls := "com/example/clauseline/clauseline/LineWrap", name := "isFooter", desc := "(Lcom/example/clauseline/clauseline/ContractText;II)Z" } : Jvm.MethodName) prog_47_method_16_code (7 : Nat) (Option.some Jvm.ClassFile.FieldType.boolean)).before args0 about1 = true := code_word (m := ⟨12, 5⟩) (meth := k12m5) (c := k12c5) (by decide +kernel) rfl rfl rfl (by decide +kernel)
set_option maxRecDepth 65536 in
theorem w_c24 : (Jvm.Cond.code ({ cls := "com/example/clauseline/clauseline/ContractText", name := "digitsEnd", desc := "(II)I" } : Jvm.MethodName) prog_22_method_22_code (4 : Nat) (Option.some Jvm.ClassFile.FieldType.int)).before args0 about1 = true := code_word (m := ⟨10, 4⟩) (meth := k10m4) (c := k10c4) (by decide +kernel) rfl rfl rfl (by decide +kernel)
set_option maxRecDepth 65536 in
theorem w_c25 : (Jvm.Cond.code ({ cls := "com/example/clauseline/clauseline/ContractText", name := "isDigit", desc := "(B)Z" } : Jvm.MethodName) prog_22_method_52_code (1 : Nat) (Option.some Jvm.ClassFile.FieldType.boolean)).before args0 about1 = true := code_word (m := ⟨10, 12⟩) (meth := k10m12) (c := k10c12) (by decide +kernel) rfl rfl rfl (by decide +kernel)
set_option maxRecDepth 65536 in
theorem w_c26 : (Jvm.Cond.code ({ cls := "com/example/clauseline/clauseline/ContractText", name := "startsWith", desc := "(IILjava/lang/String;)Z" } : Jvm.MethodName) prog_22_method_34_code (5 : Nat) (Option.some Jvm.ClassFile.FieldType.boolean)).before args0 about1 = true := code_word (m := ⟨10, 5⟩) (meth := k10m5) (c := k10c5) (by decide +kernel) rfl rfl rfl (by decide +kernel)
set_option maxRecDepth 65536 in
theorem w_c27 : (Jvm.Cond.code ({ cls := "java/lang/String", name := "length", desc := "()I" } : Jvm.MethodName) jdk_42_method_54_code (1 : Nat) (Option.some Jvm.ClassFile.FieldType.int)).before args0 about1 = true := code_word (m := ⟨7, 1⟩) (meth := k7m1) (c := k7c1) (by decide +kernel) rfl rfl rfl (by decide +kernel)
set_option maxRecDepth 65536 in
theorem w_c28 : (Jvm.Cond.code ({ cls := "java/lang/String", name := "coder", desc := "()B" } : Jvm.MethodName) jdk_42_method_152_code (1 : Nat) (Option.some Jvm.ClassFile.FieldType.byte)).before args0 about1 = true := code_word (m := ⟨7, 3⟩) (meth := k7m3) (c := k7c3) (by decide +kernel) rfl rfl rfl (by decide +kernel)
set_option maxRecDepth 65536 in
theorem w_c29 : (Jvm.Cond.code ({ cls := "com/example/clauseline/clauseline/LineWrap", name := "isRule", desc := "(Lcom/example/clauseline/clauseline/ContractText;II)Z" } : Jvm.MethodName) prog_47_method_20_code (5 : Nat) (Option.some Jvm.ClassFile.FieldType.boolean)).before args0 about1 = true := code_word (m := ⟨12, 7⟩) (meth := k12m7) (c := k12c7) (by decide +kernel) rfl rfl rfl (by decide +kernel)
set_option maxRecDepth 65536 in
theorem w_c30 : (Jvm.Cond.code ({ cls := "com/example/clauseline/clauseline/LineWrap", name := "endsMidSentence", desc := "(Lcom/example/clauseline/clauseline/ContractText;II)Z" } : Jvm.MethodName) prog_47_method_21_code (6 : Nat) (Option.some Jvm.ClassFile.FieldType.boolean)).before args0 about1 = true := code_word (m := ⟨12, 8⟩) (meth := k12m8) (c := k12c8) (by decide +kernel) rfl rfl rfl (by decide +kernel)
set_option maxRecDepth 65536 in
theorem w_c31 : (Jvm.Cond.code ({ cls := "com/example/clauseline/clauseline/ContractText", name := "isLetter", desc := "(B)Z" } : Jvm.MethodName) prog_22_method_51_code (1 : Nat) (Option.some Jvm.ClassFile.FieldType.boolean)).before args0 about1 = true := code_word (m := ⟨10, 11⟩) (meth := k10m11) (c := k10c11) (by decide +kernel) rfl rfl rfl (by decide +kernel)
set_option maxRecDepth 65536 in
theorem w_c32 : (Jvm.Cond.code ({ cls := "com/example/clauseline/clauseline/ContractText", name := "isCapital", desc := "(B)Z" } : Jvm.MethodName) prog_22_method_49_code (1 : Nat) (Option.some Jvm.ClassFile.FieldType.boolean)).before args0 about1 = true := code_word (m := ⟨10, 9⟩) (meth := k10m9) (c := k10c9) (by decide +kernel) rfl rfl rfl (by decide +kernel)
set_option maxRecDepth 65536 in
theorem w_c33 : (Jvm.Cond.code ({ cls := "com/example/clauseline/clauseline/ContractText", name := "isLowerCase", desc := "(B)Z" } : Jvm.MethodName) prog_22_method_50_code (1 : Nat) (Option.some Jvm.ClassFile.FieldType.boolean)).before args0 about1 = true := code_word (m := ⟨10, 10⟩) (meth := k10m10) (c := k10c10) (by decide +kernel) rfl rfl rfl (by decide +kernel)
set_option maxRecDepth 65536 in
theorem w_c34 : (Jvm.Cond.code ({ cls := "com/example/clauseline/clauseline/Columns", name := "width", desc := "(Lcom/example/clauseline/clauseline/ContractText;II)I" } : Jvm.MethodName) prog_19_method_2_code (5 : Nat) (Option.some Jvm.ClassFile.FieldType.int)).before args0 about1 = true := code_word (m := ⟨13, 0⟩) (meth := k13m0) (c := k13c0) (by decide +kernel) rfl rfl rfl (by decide +kernel)
set_option maxRecDepth 65536 in
theorem w_c35 : (Jvm.Cond.code ({ cls := "com/example/clauseline/clauseline/Columns", name := "advance", desc := "(IB)I" } : Jvm.MethodName) prog_19_method_9_code (2 : Nat) (Option.some Jvm.ClassFile.FieldType.int)).before args0 about1 = true := code_word (m := ⟨13, 1⟩) (meth := k13m1) (c := k13c1) (by decide +kernel) rfl rfl rfl (by decide +kernel)
set_option maxRecDepth 65536 in
theorem w_c36 : (Jvm.Cond.code ({ cls := "com/example/clauseline/clauseline/ContractText", name := "isContinuation", desc := "(B)Z" } : Jvm.MethodName) prog_22_method_54_code (1 : Nat) (Option.some Jvm.ClassFile.FieldType.boolean)).before args0 about1 = true := code_word (m := ⟨10, 13⟩) (meth := k10m13) (c := k10c13) (by decide +kernel) rfl rfl rfl (by decide +kernel)
def codes1 : List Jvm.Cond := [Jvm.Cond.code x code maxLocals ret, Jvm.Cond.code ({ cls := "com/example/clauseline/clauseline/LineWrapContinuesSentencePinLaw", name := "pad", desc := "(II)B" } : Jvm.MethodName) method_4_code (2 : Nat) (Option.some Jvm.ClassFile.FieldType.byte), Jvm.Cond.code ({ cls := "java/lang/String", name := "charAt", desc := "(I)C" } : Jvm.MethodName) jdk_42_method_56_code (2 : Nat) (Option.some Jvm.ClassFile.FieldType.char), Jvm.Cond.code ({ cls := "java/lang/String", name := "isLatin1", desc := "()Z" } : Jvm.MethodName) jdk_42_method_154_code (1 : Nat) (Option.some Jvm.ClassFile.FieldType.boolean), Jvm.Cond.code ({ cls := "java/lang/StringLatin1", name := "charAt", desc := "([BI)C" } : Jvm.MethodName) jdk_43_method_2_code (2 : Nat) (Option.some Jvm.ClassFile.FieldType.char), Jvm.Cond.code ({ cls := "java/lang/String", name := "checkIndex", desc := "(II)V" } : Jvm.MethodName) jdk_42_method_155_code (2 : Nat) (Option.none : Option Jvm.ClassFile.FieldType), Jvm.Cond.code ({ cls := "jdk/internal/util/Preconditions", name := "checkIndex", desc := "(IILjava/util/function/BiFunction;)I" } : Jvm.MethodName) jdk_41_method_11_code (3 : Nat) (Option.some Jvm.ClassFile.FieldType.int), Jvm.Cond.code ({ cls := "com/example/clauseline/clauseline/ContractText", name := "of", desc := "([B)Lcom/example/clauseline/clauseline/ContractText;" } : Jvm.MethodName) prog_22_method_6_code (3 : Nat) (Option.some (Jvm.ClassFile.FieldType.object "com/example/clauseline/clauseline/ContractText")), Jvm.Cond.code ({ cls := "com/example/clauseline/clauseline/ContractText", name := "firstBadByte", desc := "([BI)I" } : Jvm.MethodName) prog_22_method_42_code (5 : Nat) (Option.some Jvm.ClassFile.FieldType.int), Jvm.Cond.code ({ cls := "com/example/clauseline/clauseline/ContractText", name := "sequenceLength", desc := "(I)I" } : Jvm.MethodName) prog_22_method_44_code (1 : Nat) (Option.some Jvm.ClassFile.FieldType.int), Jvm.Cond.code ({ cls := "com/example/clauseline/clauseline/ContractText", name := "<init>", desc := "([B)V" } : Jvm.MethodName) prog_22_method_1_code (2 : Nat) (Option.none : Option Jvm.ClassFile.FieldType), Jvm.Cond.code ({ cls := "java/lang/Object", name := "<init>", desc := "()V" } : Jvm.MethodName) object_method_1_code (1 : Nat) (Option.none : Option Jvm.ClassFile.FieldType), Jvm.Cond.code ({ cls := "com/example/clauseline/clauseline/LineWrap", name := "<init>", desc := "()V" } : Jvm.MethodName) prog_47_method_1_code (1 : Nat) (Option.none : Option Jvm.ClassFile.FieldType), Jvm.Cond.code ({ cls := "com/example/clauseline/clauseline/LineWrapContinuesSentencePinLaw", name := "event", desc := "(Lcom/example/clauseline/clauseline/LineWrap;Lcom/example/clauseline/clauseline/ContractText;I)V" } : Jvm.MethodName) method_3_code (3 : Nat) (Option.none : Option Jvm.ClassFile.FieldType), Jvm.Cond.code ({ cls := "com/example/clauseline/clauseline/LineWrap", name := "add", desc := "(Lcom/example/clauseline/clauseline/ContractText;II)Z" } : Jvm.MethodName) prog_47_method_4_code (6 : Nat) (Option.some Jvm.ClassFile.FieldType.boolean), Jvm.Cond.code ({ cls := "com/example/clauseline/clauseline/ContractText", name := "skipSpaces", desc := "(II)I" } : Jvm.MethodName) prog_22_method_20_code (4 : Nat) (Option.some Jvm.ClassFile.FieldType.int), Jvm.Cond.code ({ cls := "com/example/clauseline/clauseline/ContractText", name := "isSpace", desc := "(B)Z" } : Jvm.MethodName) prog_22_method_46_code (1 : Nat) (Option.some Jvm.ClassFile.FieldType.boolean), Jvm.Cond.code ({ cls := "com/example/clauseline/clauseline/LineWrap", name := "textEnd", desc := "(Lcom/example/clauseline/clauseline/ContractText;II)I" } : Jvm.MethodName) prog_47_method_14_code (4 : Nat) (Option.some Jvm.ClassFile.FieldType.int), Jvm.Cond.code ({ cls := "com/example/clauseline/clauseline/LineWrap", name := "continuesSentence", desc := "(I)Z" } : Jvm.MethodName) prog_47_method_2_code (2 : Nat) (Option.some Jvm.ClassFile.FieldType.boolean), Jvm.Cond.code ({ cls := "com/example/clauseline/clauseline/ContractText", name := "byteAt", desc := "(I)B" } : Jvm.MethodName) prog_22_method_8_code (2 : Nat) (Option.some Jvm.ClassFile.FieldType.byte), Jvm.Cond.code ({ cls := "com/example/clauseline/clauseline/LineWrap", name := "isSpace", desc := "(B)Z" } : Jvm.MethodName) prog_47_method_22_code (1 : Nat) (Option.some Jvm.ClassFile.FieldType.boolean), Jvm.Cond.code ({ cls := "com/example/clauseline/clauseline/LineWrap", name := "isPageBreak", desc := "(Lcom/example/clauseline/clauseline/ContractText;III)Z" } : Jvm.MethodName) prog_47_method_15_code (4 : Nat) (Option.some Jvm.ClassFile.FieldType.boolean), Jvm.Cond.code ({ cls := "com/example/clauseline/clauseline/LineWrap", name := "isMark", desc := "(Lcom/example/clauseline/clauseline/ContractText;II)Z" } : Jvm.MethodName) prog_47_method_18_code (4 : Nat) (Option.some Jvm.ClassFile.FieldType.boolean), Jvm.Cond.code ({ cls := "com/example/clauseline/clauseline/LineWrap", name := "isFooter", desc := "(Lcom/example/clauseline/clauseline/ContractText;II)Z" } : Jvm.MethodName) prog_47_method_16_code (7 : Nat) (Option.some Jvm.ClassFile.FieldType.boolean), Jvm.Cond.code ({ cls := "com/example/clauseline/clauseline/ContractText", name := "digitsEnd", desc := "(II)I" } : Jvm.MethodName) prog_22_method_22_code (4 : Nat) (Option.some Jvm.ClassFile.FieldType.int), Jvm.Cond.code ({ cls := "com/example/clauseline/clauseline/ContractText", name := "isDigit", desc := "(B)Z" } : Jvm.MethodName) prog_22_method_52_code (1 : Nat) (Option.some Jvm.ClassFile.FieldType.boolean), Jvm.Cond.code ({ cls := "com/example/clauseline/clauseline/ContractText", name := "startsWith", desc := "(IILjava/lang/String;)Z" } : Jvm.MethodName) prog_22_method_34_code (5 : Nat) (Option.some Jvm.ClassFile.FieldType.boolean), Jvm.Cond.code ({ cls := "java/lang/String", name := "length", desc := "()I" } : Jvm.MethodName) jdk_42_method_54_code (1 : Nat) (Option.some Jvm.ClassFile.FieldType.int), Jvm.Cond.code ({ cls := "java/lang/String", name := "coder", desc := "()B" } : Jvm.MethodName) jdk_42_method_152_code (1 : Nat) (Option.some Jvm.ClassFile.FieldType.byte), Jvm.Cond.code ({ cls := "com/example/clauseline/clauseline/LineWrap", name := "isRule", desc := "(Lcom/example/clauseline/clauseline/ContractText;II)Z" } : Jvm.MethodName) prog_47_method_20_code (5 : Nat) (Option.some Jvm.ClassFile.FieldType.boolean), Jvm.Cond.code ({ cls := "com/example/clauseline/clauseline/LineWrap", name := "endsMidSentence", desc := "(Lcom/example/clauseline/clauseline/ContractText;II)Z" } : Jvm.MethodName) prog_47_method_21_code (6 : Nat) (Option.some Jvm.ClassFile.FieldType.boolean), Jvm.Cond.code ({ cls := "com/example/clauseline/clauseline/ContractText", name := "isLetter", desc := "(B)Z" } : Jvm.MethodName) prog_22_method_51_code (1 : Nat) (Option.some Jvm.ClassFile.FieldType.boolean), Jvm.Cond.code ({ cls := "com/example/clauseline/clauseline/ContractText", name := "isCapital", desc := "(B)Z" } : Jvm.MethodName) prog_22_method_49_code (1 : Nat) (Option.some Jvm.ClassFile.FieldType.boolean), Jvm.Cond.code ({ cls := "com/example/clauseline/clauseline/ContractText", name := "isLowerCase", desc := "(B)Z" } : Jvm.MethodName) prog_22_method_50_code (1 : Nat) (Option.some Jvm.ClassFile.FieldType.boolean), Jvm.Cond.code ({ cls := "com/example/clauseline/clauseline/Columns", name := "width", desc := "(Lcom/example/clauseline/clauseline/ContractText;II)I" } : Jvm.MethodName) prog_19_method_2_code (5 : Nat) (Option.some Jvm.ClassFile.FieldType.int), Jvm.Cond.code ({ cls := "com/example/clauseline/clauseline/Columns", name := "advance", desc := "(IB)I" } : Jvm.MethodName) prog_19_method_9_code (2 : Nat) (Option.some Jvm.ClassFile.FieldType.int), Jvm.Cond.code ({ cls := "com/example/clauseline/clauseline/ContractText", name := "isContinuation", desc := "(B)Z" } : Jvm.MethodName) prog_22_method_54_code (1 : Nat) (Option.some Jvm.ClassFile.FieldType.boolean)]
set_option maxRecDepth 65536 in
theorem codes_eq : words1.filter isCode = codes1 := rfl
theorem w_codes : ∀ c ∈ words1.filter isCode, c.before args0 about1 = true := by
  rw [codes_eq]
  intro c hc
  simp only [codes1, List.mem_cons, List.not_mem_nil, or_false] at hc
  rcases hc with rfl | rfl | rfl | rfl | rfl | rfl | rfl | rfl | rfl | rfl | rfl | rfl | rfl | rfl | rfl | rfl | rfl | rfl | rfl | rfl | rfl | rfl | rfl | rfl | rfl | rfl | rfl | rfl | rfl | rfl | rfl | rfl | rfl | rfl | rfl | rfl | rfl
  · exact w_c0
  · exact w_c1
  · exact w_c2
  · exact w_c3
  · exact w_c4
  · exact w_c5
  · exact w_c6
  · exact w_c7
  · exact w_c8
  · exact w_c9
  · exact w_c10
  · exact w_c11
  · exact w_c12
  · exact w_c13
  · exact w_c14
  · exact w_c15
  · exact w_c16
  · exact w_c17
  · exact w_c18
  · exact w_c19
  · exact w_c20
  · exact w_c21
  · exact w_c22
  · exact w_c23
  · exact w_c24
  · exact w_c25
  · exact w_c26
  · exact w_c27
  · exact w_c28
  · exact w_c29
  · exact w_c30
  · exact w_c31
  · exact w_c32
  · exact w_c33
  · exact w_c34
  · exact w_c35
  · exact w_c36
set_option maxRecDepth 65536 in
theorem w_t1 : (words1.take 24).all (fun c => isCode c || c.before args0 about1) = true := by decide +kernel
set_option maxRecDepth 65536 in
theorem w_t2 : ((words1.drop 24).take 24).all (fun c => isCode c || c.before args0 about1) = true := by decide +kernel
set_option maxRecDepth 65536 in
theorem w_t3 : (((words1.drop 24).drop 24).take 24).all (fun c => isCode c || c.before args0 about1) = true := by decide +kernel
set_option maxRecDepth 65536 in
theorem w_t4 : ((((words1.drop 24).drop 24).drop 24).take 24).all (fun c => isCode c || c.before args0 about1) = true := by decide +kernel
set_option maxRecDepth 65536 in
theorem w_t5 : (((((words1.drop 24).drop 24).drop 24).drop 24).take 24).all (fun c => isCode c || c.before args0 about1) = true := by decide +kernel
set_option maxRecDepth 65536 in
theorem w_t6 : ((((((words1.drop 24).drop 24).drop 24).drop 24).drop 24).take 24).all (fun c => isCode c || c.before args0 about1) = true := by decide +kernel
set_option maxRecDepth 65536 in
theorem w_t7 : (((((((words1.drop 24).drop 24).drop 24).drop 24).drop 24).drop 24).take 24).all (fun c => isCode c || c.before args0 about1) = true := by decide +kernel
set_option maxRecDepth 65536 in
theorem w_t8 : (((((((words1.drop 24).drop 24).drop 24).drop 24).drop 24).drop 24).drop 24).all (fun c => isCode c || c.before args0 about1) = true := by decide +kernel
theorem w_tables : (allAtoms (Jvm.Cond.code x code maxLocals ret :: tables_1)).before args0 about1 = true := by
  rw [allAtoms_all]
  show words1.all (fun c => c.before args0 about1) = true
  refine all_split ?_ w_codes
  rw [← List.take_append_drop 24 words1, List.all_append, w_t1, ← List.take_append_drop 24 (words1.drop 24), List.all_append, w_t2, ← List.take_append_drop 24 ((words1.drop 24).drop 24), List.all_append, w_t3, ← List.take_append_drop 24 (((words1.drop 24).drop 24).drop 24), List.all_append, w_t4, ← List.take_append_drop 24 ((((words1.drop 24).drop 24).drop 24).drop 24), List.all_append, w_t5, ← List.take_append_drop 24 (((((words1.drop 24).drop 24).drop 24).drop 24).drop 24), List.all_append, w_t6, ← List.take_append_drop 24 ((((((words1.drop 24).drop 24).drop 24).drop 24).drop 24).drop 24), List.all_append, w_t7, w_t8]
  rfl
set_option maxRecDepth 65536 in
theorem w_rest : rest_1_c.before args0 about1 = true := by decide +kernel
set_option maxRecDepth 65536 in
theorem w_case : (Jvm.Cond.and given_1 narrow_1).before args0 about1 = true := by decide +kernel
set_option maxRecDepth 65536 in
theorem w_consts : constsHeld consts_1 about1 := Jvm.Lit.constsHeldB_iff.mp (by decide +kernel)
theorem w_applies : (headSpec (Jvm.Cond.code x code maxLocals ret :: tables_1) room_1).applies x e0.platform about1 = true :=
  (Spec.applies_iff w_frames).mpr ⟨w_running, w_runnable, w_alone, w_named, w_hears, w_ripe, w_room, w_tables⟩
theorem atStart : AtStart classFile x code maxLocals ret World_1 tables_1 room_1 Calls_1 rest_1 Pre_1 launch0 p0 e0 about1 theMethod args0 below0 :=
  ⟨lists_1, trivial, launch0.admits_env _ _ _, launch0.least_env, fairChoices_fair.cas, fairChoices_fair.clock, w_frames, w_args, w_heap, w_applies, ⟨w_consts, trivial⟩, w_rest, w_case⟩
end start1
theorem witness_1 : WitnessClaimed_1 := ⟨start1.p0, start1.e0, start1.about1, start1.theMethod, start1.args0, start1.below0, start1.atStart⟩
end Jvm.Pilot.@@N@@
