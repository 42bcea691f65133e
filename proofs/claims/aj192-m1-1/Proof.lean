import JvmDerived
import JvmDerived.Pilot.@@N@@Statement
import JvmDerived.Pilot.@@N@@Code
set_option linter.unusedVariables false
set_option linter.unusedSimpArgs false
namespace Jvm.Own
open Jvm Jvm.ClassFile Sem Op Lib Jvm.Free Jvm.Stand Jvm.LawKit Jvm.RoadKit
/-- where the run stands: nothing older than n0 is written, the heap is h -/
def Sd (p : Program) (l : Launch) (e : Env) (R : Room) (s : State) (m : MethodId) (args : Array Value) (below : List Frame) (meth : Method) (c : Code) (n0 : Nat) (T : State) (h : Heap) (cells slots : Nat) : Prop :=
  ∃ locs, Stand p l e R s m args below meth c T locs cells slots ∧ Fr n0 locs ∧ T.heap = h
/-- what a walk knows throughout -/
def Wk (p : Program) (l : Launch) (e : Env) (R : Room) (s : State) (m : MethodId) (args : Array Value) (below : List Frame) (meth : Method) (c : Code) (n0 : Nat) (Z : State) (own nm : String) (bc : ByteArray) (ml : Nat) (rt : Option FieldType) (Q : Option Value → Heap → Prop) (G : State → Prop) : Prop :=
  (∀ S S' : State, (∀ t, Steps p.tables e below S' t → Steps p.tables e below S t) → G S' → G S) ∧
  p.tables.exec = Jvm.exec ∧ c.code = bc ∧ c.maxLocals = ml ∧ Z.Warmed39 s.vm ∧ s.vm.findClass own = some m.cls ∧ meth.sig.returnType = rt ∧ meth.name = nm ∧
  (∀ (T : State) (h : Heap) (cells slots : Nat) (v : Option Value), Sd p l e R s m args below meth c n0 T h cells slots → cells ≤ R.cells → slots ≤ R.slots → (meth.sig.returnType = none → v = none) → Q v h →
    ∀ S : State, (∀ fs : List Frame, (∀ (f : JFrame) (acts : List Action), f.method = m → f.locked = none → f.entered = [] → (doReturn e (T.setTop f) acts v).1 = T.setFrames fs) → Steps p.tables e below S (T.setFrames fs)) → G S)
/-- a body's contract -/
abbrev Met (l : Launch) (Z : State) (x : MethodName) (bc : ByteArray) (ml : Nat) (rt : Option FieldType) (ws : List Jvm.Cond) (rm : Room) (av : Array Value) (h : Heap) (n0 : Nat) (Q : Option Value → Heap → Prop) : Prop :=
  MetFree l x (head1 (Jvm.Cond.code x bc ml rt :: ws) rm) (fun a U => a = av ∧ Z.Warmed39 U.vm ∧ U.heap = h) (fun _ _ _ _ _ => True) (fun _ U o U' => ∃ v L, o = .returned v ∧ (Q v U'.heap ∧ Fr n0 L) ∧ FrameEnd U o U' L rm.cells rm.slots)
def RI (P : Int32 → Heap → Prop) (v : Option Value) (h : Heap) : Prop := ∃ r, v = some (.int r) ∧ P r h
def RJ (P : Int64 → Heap → Prop) (v : Option Value) (h : Heap) : Prop := ∃ r, v = some (.long r) ∧ P r h
def RR (P : Value → Heap → Prop) (v : Option Value) (h : Heap) : Prop := ∃ r, v = some r ∧ P r h
def RV (P : Heap → Prop) (v : Option Value) (h : Heap) : Prop := v = none ∧ P h
section Law
variable {p : Program} {l : Launch} {e : Env} {R : Room} {s : State} {m : MethodId} {args : Array Value} {below : List Frame} {meth : Method} {c : Code} {n0 : Nat} {T : State} {h : Heap} {cells slots : Nat} {Z : State} {a0 : Array Value} {own nm : String} {bc : ByteArray} {ml : Nat} {rt : Option FieldType} {Q : Option Value → Heap → Prop} {G : State → Prop}
variable {pc : Nat} {ls : Array Slot} {st : List Value}
theorem start {x : MethodName} {ws : List Jvm.Cond} {rm : Room} {av : Array Value} (hpl : plainFor x = true) (hef : ∀ m, entryFrame m av ml = mkF m 0 ls [])
    (body : ∀ (p : Program) (e : Env) (s : State) (m : MethodId) (below : List Frame) (meth : Method) (c : Code) (T : State) (G : State → Prop), Wk p l e rm s m av below meth c n0 Z x.cls x.name bc ml rt Q G → Sd p l e rm s m av below meth c n0 T h 0 0 → G (T.setTop (mkF m 0 ls []))) :
    Met l Z x bc ml rt ws rm av h n0 Q := by
  refine MetFree.of_bodySF hpl hisR ?_
  intro p e s m args below meth c s₁ Bd hml0 hP hK
  obtain ⟨rfl, hZ, hh⟩ := hP
  have X0 : Stand p l e rm s m args below meth c s₁ [] 0 0 := Stand.of_body Bd
  have e0 : s₁.heap = h := by rw [← hh, Bd.state]; rfl
  rw [hef m]
  refine body p e s m below meth c s₁ (fun S => ∃ s₂ o, Steps p.tables e below S s₂ ∧ s₂.status = .running ∧ Ended s₂ below o ∧ ∃ v L, o = .returned v ∧ (Q v s₂.heap ∧ Fr n0 L) ∧ FrameEnd s o s₂ L rm.cells rm.slots)
    ⟨fun S S' hs hg => ?_, Bd.exec, Bd.bytes, hml0, hZ, findClass_of_methodNamed Bd.named, Bd.returns, (name_of_methodNamed Bd.named Bd.method).1, ?_⟩ ⟨[], X0, Fr.nil n0, e0⟩
  · obtain ⟨s2, o, h1, h2⟩ := hg
    exact ⟨s2, o, hs _ h1, h2⟩
  · intro T h cells slots v ⟨locs, X, N, eT⟩ hc hl hv hQ S hS
    obtain ⟨fs, hr, hrun, hended, hW, hsame⟩ := X.leave (v := v) hv Bd.notSynchronized
    subst eT
    exact ⟨_, _, hS fs hr, hrun, hended, v, locs, rfl, ⟨hQ, N⟩, ⟨_, rfl⟩, hW, hsame.mono hc hl⟩
theorem Sd.mono {cells' slots' : Nat} (X : Sd p l e R s m args below meth c n0 T h cells slots) (hc : cells ≤ cells') (hl : slots ≤ slots') : Sd p l e R s m args below meth c n0 T h cells' slots' := by
  obtain ⟨locs, X, N, eT⟩ := X
  exact ⟨locs, { X with same := X.same.mono hc hl }, N, eT⟩

theorem aloadN (w : Wk p l e R s m args below meth c n0 Z own nm bc ml rt Q G) (X : Sd p l e R s m args below meth c n0 T h cells slots) {k : Fin 4} {v : Value} (hd : decode bc pc = .ok (.aload_n k, 1)) (pc' : Nat) (hp : pc + 1 = pc') (hl : ls[k.val]? = some (.val v)) (hv : v.isRef = true) (k : G (T.setTop (mkF m pc' ls (v :: st)))) : G (T.setTop (mkF m pc ls st)) := by
  obtain ⟨locs, Y, -, -⟩ := X
  subst hp
  exact w.1 _ _ (fun t q => XS.aloadN Y.here w.2.1 rfl (hb w.2.2.1 hd) hl hv q) k
theorem aload (w : Wk p l e R s m args below meth c n0 Z own nm bc ml rt Q G) (X : Sd p l e R s m args below meth c n0 T h cells slots) {k : Nat} {v : Value} (hd : decode bc pc = .ok (.aload k, 2)) (pc' : Nat) (hp : pc + 2 = pc') (hl : ls[k]? = some (.val v)) (hv : v.isRef = true) (k : G (T.setTop (mkF m pc' ls (v :: st)))) : G (T.setTop (mkF m pc ls st)) := by
  obtain ⟨locs, Y, -, -⟩ := X
  subst hp
  exact w.1 _ _ (fun t q => XS.aload Y.here w.2.1 rfl (hb w.2.2.1 hd) hl hv q) k
theorem iloadN (w : Wk p l e R s m args below meth c n0 Z own nm bc ml rt Q G) (X : Sd p l e R s m args below meth c n0 T h cells slots) {k : Fin 4} {v : Int32} (hd : decode bc pc = .ok (.iload_n k, 1)) (pc' : Nat) (hp : pc + 1 = pc') (hl : ls[k.val]? = some (.val (.int v))) (k : G (T.setTop (mkF m pc' ls (.int v :: st)))) : G (T.setTop (mkF m pc ls st)) := by
  obtain ⟨locs, Y, -, -⟩ := X
  subst hp
  exact w.1 _ _ (fun t q => XS.iloadN Y.here w.2.1 rfl (hb w.2.2.1 hd) hl q) k
theorem iload (w : Wk p l e R s m args below meth c n0 Z own nm bc ml rt Q G) (X : Sd p l e R s m args below meth c n0 T h cells slots) {k : Nat} {v : Int32} (hd : decode bc pc = .ok (.iload k, 2)) (pc' : Nat) (hp : pc + 2 = pc') (hl : ls[k]? = some (.val (.int v))) (k : G (T.setTop (mkF m pc' ls (.int v :: st)))) : G (T.setTop (mkF m pc ls st)) := by
  obtain ⟨locs, Y, -, -⟩ := X
  subst hp
  exact w.1 _ _ (fun t q => XS.iload Y.here w.2.1 rfl (hb w.2.2.1 hd) hl q) k
theorem lloadN (w : Wk p l e R s m args below meth c n0 Z own nm bc ml rt Q G) (X : Sd p l e R s m args below meth c n0 T h cells slots) {k : Fin 4} {v : Int64} (hd : decode bc pc = .ok (.lload_n k, 1)) (pc' : Nat) (hp : pc + 1 = pc') (hl : ls[k.val]? = some (.val (.long v))) (k : G (T.setTop (mkF m pc' ls (.long v :: st)))) : G (T.setTop (mkF m pc ls st)) := by
  obtain ⟨locs, Y, -, -⟩ := X
  subst hp
  exact w.1 _ _ (fun t q => XT.lloadN Y.here w.2.1 rfl (hb w.2.2.1 hd) hl q) k
theorem lload (w : Wk p l e R s m args below meth c n0 Z own nm bc ml rt Q G) (X : Sd p l e R s m args below meth c n0 T h cells slots) {k : Nat} {v : Int64} (hd : decode bc pc = .ok (.lload k, 2)) (pc' : Nat) (hp : pc + 2 = pc') (hl : ls[k]? = some (.val (.long v))) (k : G (T.setTop (mkF m pc' ls (.long v :: st)))) : G (T.setTop (mkF m pc ls st)) := by
  obtain ⟨locs, Y, -, -⟩ := X
  subst hp
  exact w.1 _ _ (fun t q => XT.lload Y.here w.2.1 rfl (hb w.2.2.1 hd) hl q) k
theorem istoreN (w : Wk p l e R s m args below meth c n0 Z own nm bc ml rt Q G) (X : Sd p l e R s m args below meth c n0 T h cells slots) {k : Fin 4} {x : Int32} (z : Int32) (hd : decode bc pc = .ok (.istore_n k, 1)) (pc' : Nat) (hp : pc + 1 = pc') (hz : z = x) (l' : Array Slot) (hl : storeLocals ls k.val (.int z) = some l') (k : G (T.setTop (mkF m pc' l' st))) : G (T.setTop (mkF m pc ls (.int x :: st))) := by
  obtain ⟨locs, Y, -, -⟩ := X
  subst hp
  subst hz
  exact w.1 _ _ (fun t q => XS.istoreN Y.here w.2.1 rfl (hb w.2.2.1 hd) rfl hl q) k
theorem istore (w : Wk p l e R s m args below meth c n0 Z own nm bc ml rt Q G) (X : Sd p l e R s m args below meth c n0 T h cells slots) {k : Nat} {x : Int32} (z : Int32) (hd : decode bc pc = .ok (.istore k, 2)) (pc' : Nat) (hp : pc + 2 = pc') (hz : z = x) (l' : Array Slot) (hl : storeLocals ls k (.int z) = some l') (k : G (T.setTop (mkF m pc' l' st))) : G (T.setTop (mkF m pc ls (.int x :: st))) := by
  obtain ⟨locs, Y, -, -⟩ := X
  subst hp
  subst hz
  exact w.1 _ _ (fun t q => XS.istore Y.here w.2.1 rfl (hb w.2.2.1 hd) rfl hl q) k
theorem lstoreN (w : Wk p l e R s m args below meth c n0 Z own nm bc ml rt Q G) (X : Sd p l e R s m args below meth c n0 T h cells slots) {k : Fin 4} {x : Int64} (z : Int64) (hd : decode bc pc = .ok (.lstore_n k, 1)) (pc' : Nat) (hp : pc + 1 = pc') (hz : z = x) (l' : Array Slot) (hl : storeLocals ls k.val (.long z) = some l') (k : G (T.setTop (mkF m pc' l' st))) : G (T.setTop (mkF m pc ls (.long x :: st))) := by
  obtain ⟨locs, Y, -, -⟩ := X
  subst hp
  subst hz
  exact w.1 _ _ (fun t q => XT.lstoreN Y.here w.2.1 rfl (hb w.2.2.1 hd) rfl hl q) k
theorem lstore (w : Wk p l e R s m args below meth c n0 Z own nm bc ml rt Q G) (X : Sd p l e R s m args below meth c n0 T h cells slots) {k : Nat} {x : Int64} (z : Int64) (hd : decode bc pc = .ok (.lstore k, 2)) (pc' : Nat) (hp : pc + 2 = pc') (hz : z = x) (l' : Array Slot) (hl : storeLocals ls k (.long z) = some l') (k : G (T.setTop (mkF m pc' l' st))) : G (T.setTop (mkF m pc ls (.long x :: st))) := by
  obtain ⟨locs, Y, -, -⟩ := X
  subst hp
  subst hz
  exact w.1 _ _ (fun t q => XT.lstore Y.here w.2.1 rfl (hb w.2.2.1 hd) rfl hl q) k
theorem astoreN (w : Wk p l e R s m args below meth c n0 Z own nm bc ml rt Q G) (X : Sd p l e R s m args below meth c n0 T h cells slots) {k : Fin 4} {x : Value} (hd : decode bc pc = .ok (.astore_n k, 1)) (pc' : Nat) (hp : pc + 1 = pc') (hv : x.isRef = true) (l' : Array Slot) (hl : storeLocals ls k.val x = some l') (k : G (T.setTop (mkF m pc' l' st))) : G (T.setTop (mkF m pc ls (x :: st))) := by
  obtain ⟨locs, Y, -, -⟩ := X
  subst hp
  exact w.1 _ _ (fun t q => XS.astoreN Y.here w.2.1 rfl (hb w.2.2.1 hd) rfl hv hl q) k
theorem astore (w : Wk p l e R s m args below meth c n0 Z own nm bc ml rt Q G) (X : Sd p l e R s m args below meth c n0 T h cells slots) {k : Nat} {x : Value} (hd : decode bc pc = .ok (.astore k, 2)) (pc' : Nat) (hp : pc + 2 = pc') (hv : x.isRef = true) (l' : Array Slot) (hl : storeLocals ls k x = some l') (k : G (T.setTop (mkF m pc' l' st))) : G (T.setTop (mkF m pc ls (x :: st))) := by
  obtain ⟨locs, Y, -, -⟩ := X
  subst hp
  exact w.1 _ _ (fun t q => XS.astore Y.here w.2.1 rfl (hb w.2.2.1 hd) rfl hv hl q) k
theorem iconst (w : Wk p l e R s m args below meth c n0 Z own nm bc ml rt Q G) (X : Sd p l e R s m args below meth c n0 T h cells slots) {i : Int} (v : Int32) (hd : decode bc pc = .ok (.iconst i, 1)) (pc' : Nat) (hp : pc + 1 = pc') (hv : Int32.ofInt i = v) (k : G (T.setTop (mkF m pc' ls (.int v :: st)))) : G (T.setTop (mkF m pc ls st)) := by
  obtain ⟨locs, Y, -, -⟩ := X
  subst hp
  subst hv
  exact w.1 _ _ (fun t q => XS.iconst Y.here w.2.1 rfl (hb w.2.2.1 hd) q) k
theorem bipush (w : Wk p l e R s m args below meth c n0 Z own nm bc ml rt Q G) (X : Sd p l e R s m args below meth c n0 T h cells slots) {i : Int} (v : Int32) (hd : decode bc pc = .ok (.bipush i, 2)) (pc' : Nat) (hp : pc + 2 = pc') (hv : (Int8.ofInt i).toInt32 = v) (k : G (T.setTop (mkF m pc' ls (.int v :: st)))) : G (T.setTop (mkF m pc ls st)) := by
  obtain ⟨locs, Y, -, -⟩ := X
  subst hp
  subst hv
  exact w.1 _ _ (fun t q => XS.bipush Y.here w.2.1 rfl (hb w.2.2.1 hd) q) k
theorem sipush (w : Wk p l e R s m args below meth c n0 Z own nm bc ml rt Q G) (X : Sd p l e R s m args below meth c n0 T h cells slots) {i : Int} (v : Int32) (hd : decode bc pc = .ok (.sipush i, 3)) (pc' : Nat) (hp : pc + 3 = pc') (hv : (Int16.ofInt i).toInt32 = v) (k : G (T.setTop (mkF m pc' ls (.int v :: st)))) : G (T.setTop (mkF m pc ls st)) := by
  obtain ⟨locs, Y, -, -⟩ := X
  subst hp
  subst hv
  exact w.1 _ _ (fun t q => XS.sipush Y.here w.2.1 rfl (hb w.2.2.1 hd) q) k
theorem lconst (w : Wk p l e R s m args below meth c n0 Z own nm bc ml rt Q G) (X : Sd p l e R s m args below meth c n0 T h cells slots) {i : Fin 2} (v : Int64) (hd : decode bc pc = .ok (.lconst i, 1)) (pc' : Nat) (hp : pc + 1 = pc') (hv : Int64.ofNat i = v) (k : G (T.setTop (mkF m pc' ls (.long v :: st)))) : G (T.setTop (mkF m pc ls st)) := by
  obtain ⟨locs, Y, -, -⟩ := X
  subst hp
  subst hv
  exact w.1 _ _ (fun t q => XS.lconst Y.here w.2.1 rfl (hb w.2.2.1 hd) q) k
theorem aconstNull (w : Wk p l e R s m args below meth c n0 Z own nm bc ml rt Q G) (X : Sd p l e R s m args below meth c n0 T h cells slots)  (hd : decode bc pc = .ok (.aconst_null, 1)) (pc' : Nat) (hp : pc + 1 = pc')  (k : G (T.setTop (mkF m pc' ls (.null :: st)))) : G (T.setTop (mkF m pc ls st)) := by
  obtain ⟨locs, Y, -, -⟩ := X
  subst hp
  exact w.1 _ _ (fun t q => XS.aconstNull Y.here w.2.1 rfl (hb w.2.2.1 hd) q) k
theorem iadd (w : Wk p l e R s m args below meth c n0 Z own nm bc ml rt Q G) (X : Sd p l e R s m args below meth c n0 T h cells slots) {x y : Int32} (z : Int32) (hd : decode bc pc = .ok (.iadd, 1)) (pc' : Nat) (hp : pc + 1 = pc') (hz : z = x + y) (k : G (T.setTop (mkF m pc' ls (.int z :: st)))) : G (T.setTop (mkF m pc ls (.int y :: .int x :: st))) := by
  obtain ⟨locs, Y, -, -⟩ := X
  subst hp
  subst hz
  exact w.1 _ _ (fun t q => XS.iadd Y.here w.2.1 rfl (hb w.2.2.1 hd) rfl q) k
theorem isub (w : Wk p l e R s m args below meth c n0 Z own nm bc ml rt Q G) (X : Sd p l e R s m args below meth c n0 T h cells slots) {x y : Int32} (z : Int32) (hd : decode bc pc = .ok (.isub, 1)) (pc' : Nat) (hp : pc + 1 = pc') (hz : z = x - y) (k : G (T.setTop (mkF m pc' ls (.int z :: st)))) : G (T.setTop (mkF m pc ls (.int y :: .int x :: st))) := by
  obtain ⟨locs, Y, -, -⟩ := X
  subst hp
  subst hz
  exact w.1 _ _ (fun t q => XS.isub Y.here w.2.1 rfl (hb w.2.2.1 hd) rfl q) k
theorem imul (w : Wk p l e R s m args below meth c n0 Z own nm bc ml rt Q G) (X : Sd p l e R s m args below meth c n0 T h cells slots) {x y : Int32} (z : Int32) (hd : decode bc pc = .ok (.imul, 1)) (pc' : Nat) (hp : pc + 1 = pc') (hz : z = x * y) (k : G (T.setTop (mkF m pc' ls (.int z :: st)))) : G (T.setTop (mkF m pc ls (.int y :: .int x :: st))) := by
  obtain ⟨locs, Y, -, -⟩ := X
  subst hp
  subst hz
  exact w.1 _ _ (fun t q => XS.imul Y.here w.2.1 rfl (hb w.2.2.1 hd) rfl q) k
theorem iand (w : Wk p l e R s m args below meth c n0 Z own nm bc ml rt Q G) (X : Sd p l e R s m args below meth c n0 T h cells slots) {x y : Int32} (z : Int32) (hd : decode bc pc = .ok (.iand, 1)) (pc' : Nat) (hp : pc + 1 = pc') (hz : z = x &&& y) (k : G (T.setTop (mkF m pc' ls (.int z :: st)))) : G (T.setTop (mkF m pc ls (.int y :: .int x :: st))) := by
  obtain ⟨locs, Y, -, -⟩ := X
  subst hp
  subst hz
  exact w.1 _ _ (fun t q => XS.iand Y.here w.2.1 rfl (hb w.2.2.1 hd) rfl q) k
theorem ior (w : Wk p l e R s m args below meth c n0 Z own nm bc ml rt Q G) (X : Sd p l e R s m args below meth c n0 T h cells slots) {x y : Int32} (z : Int32) (hd : decode bc pc = .ok (.ior, 1)) (pc' : Nat) (hp : pc + 1 = pc') (hz : z = x ||| y) (k : G (T.setTop (mkF m pc' ls (.int z :: st)))) : G (T.setTop (mkF m pc ls (.int y :: .int x :: st))) := by
  obtain ⟨locs, Y, -, -⟩ := X
  subst hp
  subst hz
  exact w.1 _ _ (fun t q => XS.ior Y.here w.2.1 rfl (hb w.2.2.1 hd) rfl q) k
theorem ixor (w : Wk p l e R s m args below meth c n0 Z own nm bc ml rt Q G) (X : Sd p l e R s m args below meth c n0 T h cells slots) {x y : Int32} (z : Int32) (hd : decode bc pc = .ok (.ixor, 1)) (pc' : Nat) (hp : pc + 1 = pc') (hz : z = x ^^^ y) (k : G (T.setTop (mkF m pc' ls (.int z :: st)))) : G (T.setTop (mkF m pc ls (.int y :: .int x :: st))) := by
  obtain ⟨locs, Y, -, -⟩ := X
  subst hp
  subst hz
  exact w.1 _ _ (fun t q => XS.ixor Y.here w.2.1 rfl (hb w.2.2.1 hd) rfl q) k
theorem ishl (w : Wk p l e R s m args below meth c n0 Z own nm bc ml rt Q G) (X : Sd p l e R s m args below meth c n0 T h cells slots) {x y : Int32} (z : Int32) (hd : decode bc pc = .ok (.ishl, 1)) (pc' : Nat) (hp : pc + 1 = pc') (hz : z = x <<< (y &&& 31)) (k : G (T.setTop (mkF m pc' ls (.int z :: st)))) : G (T.setTop (mkF m pc ls (.int y :: .int x :: st))) := by
  obtain ⟨locs, Y, -, -⟩ := X
  subst hp
  subst hz
  exact w.1 _ _ (fun t q => XS.ishl Y.here w.2.1 rfl (hb w.2.2.1 hd) rfl q) k
theorem ishr (w : Wk p l e R s m args below meth c n0 Z own nm bc ml rt Q G) (X : Sd p l e R s m args below meth c n0 T h cells slots) {x y : Int32} (z : Int32) (hd : decode bc pc = .ok (.ishr, 1)) (pc' : Nat) (hp : pc + 1 = pc') (hz : z = x >>> (y &&& 31)) (k : G (T.setTop (mkF m pc' ls (.int z :: st)))) : G (T.setTop (mkF m pc ls (.int y :: .int x :: st))) := by
  obtain ⟨locs, Y, -, -⟩ := X
  subst hp
  subst hz
  exact w.1 _ _ (fun t q => XS.ishr Y.here w.2.1 rfl (hb w.2.2.1 hd) rfl q) k
theorem iushr (w : Wk p l e R s m args below meth c n0 Z own nm bc ml rt Q G) (X : Sd p l e R s m args below meth c n0 T h cells slots) {x y : Int32} (z : Int32) (hd : decode bc pc = .ok (.iushr, 1)) (pc' : Nat) (hp : pc + 1 = pc') (hz : z = (x.toUInt32 >>> (y &&& 31).toUInt32).toInt32) (k : G (T.setTop (mkF m pc' ls (.int z :: st)))) : G (T.setTop (mkF m pc ls (.int y :: .int x :: st))) := by
  obtain ⟨locs, Y, -, -⟩ := X
  subst hp
  subst hz
  exact w.1 _ _ (fun t q => XS.iushr Y.here w.2.1 rfl (hb w.2.2.1 hd) rfl q) k
theorem irem (w : Wk p l e R s m args below meth c n0 Z own nm bc ml rt Q G) (X : Sd p l e R s m args below meth c n0 T h cells slots) {x y : Int32} (z : Int32) (hd : decode bc pc = .ok (.irem, 1)) (pc' : Nat) (hp : pc + 1 = pc') (hz : z = x % y) (hy : y ≠ 0) (k : G (T.setTop (mkF m pc' ls (.int z :: st)))) : G (T.setTop (mkF m pc ls (.int y :: .int x :: st))) := by
  obtain ⟨locs, Y, -, -⟩ := X
  subst hp
  subst hz
  exact w.1 _ _ (fun t q => Jvm.RoadKit.iremM Y w.2.1 rfl (hb w.2.2.1 hd) rfl hy q) k
theorem idiv (w : Wk p l e R s m args below meth c n0 Z own nm bc ml rt Q G) (X : Sd p l e R s m args below meth c n0 T h cells slots) {x y : Int32} (z : Int32) (hd : decode bc pc = .ok (.idiv, 1)) (pc' : Nat) (hp : pc + 1 = pc') (hz : z = x / y) (hy : y ≠ 0) (k : G (T.setTop (mkF m pc' ls (.int z :: st)))) : G (T.setTop (mkF m pc ls (.int y :: .int x :: st))) := by
  obtain ⟨locs, Y, -, -⟩ := X
  subst hp
  subst hz
  exact w.1 _ _ (fun t q => XS.idiv Y.here w.2.1 rfl (hb w.2.2.1 hd) rfl hy q) k
theorem ineg (w : Wk p l e R s m args below meth c n0 Z own nm bc ml rt Q G) (X : Sd p l e R s m args below meth c n0 T h cells slots) {x : Int32} (z : Int32) (hd : decode bc pc = .ok (.ineg, 1)) (pc' : Nat) (hp : pc + 1 = pc') (hz : z = -x) (k : G (T.setTop (mkF m pc' ls (.int z :: st)))) : G (T.setTop (mkF m pc ls (.int x :: st))) := by
  obtain ⟨locs, Y, -, -⟩ := X
  subst hp
  subst hz
  exact w.1 _ _ (fun t q => XS.ineg Y.here w.2.1 rfl (hb w.2.2.1 hd) rfl q) k
theorem ladd (w : Wk p l e R s m args below meth c n0 Z own nm bc ml rt Q G) (X : Sd p l e R s m args below meth c n0 T h cells slots) {x y : Int64} (z : Int64) (hd : decode bc pc = .ok (.ladd, 1)) (pc' : Nat) (hp : pc + 1 = pc') (hz : z = x + y) (k : G (T.setTop (mkF m pc' ls (.long z :: st)))) : G (T.setTop (mkF m pc ls (.long y :: .long x :: st))) := by
  obtain ⟨locs, Y, -, -⟩ := X
  subst hp
  subst hz
  exact w.1 _ _ (fun t q => XS.ladd Y.here w.2.1 rfl (hb w.2.2.1 hd) rfl q) k
theorem lsub (w : Wk p l e R s m args below meth c n0 Z own nm bc ml rt Q G) (X : Sd p l e R s m args below meth c n0 T h cells slots) {x y : Int64} (z : Int64) (hd : decode bc pc = .ok (.lsub, 1)) (pc' : Nat) (hp : pc + 1 = pc') (hz : z = x - y) (k : G (T.setTop (mkF m pc' ls (.long z :: st)))) : G (T.setTop (mkF m pc ls (.long y :: .long x :: st))) := by
  obtain ⟨locs, Y, -, -⟩ := X
  subst hp
  subst hz
  exact w.1 _ _ (fun t q => XS.lsub Y.here w.2.1 rfl (hb w.2.2.1 hd) rfl q) k
theorem lmul (w : Wk p l e R s m args below meth c n0 Z own nm bc ml rt Q G) (X : Sd p l e R s m args below meth c n0 T h cells slots) {x y : Int64} (z : Int64) (hd : decode bc pc = .ok (.lmul, 1)) (pc' : Nat) (hp : pc + 1 = pc') (hz : z = x * y) (k : G (T.setTop (mkF m pc' ls (.long z :: st)))) : G (T.setTop (mkF m pc ls (.long y :: .long x :: st))) := by
  obtain ⟨locs, Y, -, -⟩ := X
  subst hp
  subst hz
  exact w.1 _ _ (fun t q => XS.lmul Y.here w.2.1 rfl (hb w.2.2.1 hd) rfl q) k
theorem land (w : Wk p l e R s m args below meth c n0 Z own nm bc ml rt Q G) (X : Sd p l e R s m args below meth c n0 T h cells slots) {x y : Int64} (z : Int64) (hd : decode bc pc = .ok (.land, 1)) (pc' : Nat) (hp : pc + 1 = pc') (hz : z = x &&& y) (k : G (T.setTop (mkF m pc' ls (.long z :: st)))) : G (T.setTop (mkF m pc ls (.long y :: .long x :: st))) := by
  obtain ⟨locs, Y, -, -⟩ := X
  subst hp
  subst hz
  exact w.1 _ _ (fun t q => XS.land Y.here w.2.1 rfl (hb w.2.2.1 hd) rfl q) k
theorem lor (w : Wk p l e R s m args below meth c n0 Z own nm bc ml rt Q G) (X : Sd p l e R s m args below meth c n0 T h cells slots) {x y : Int64} (z : Int64) (hd : decode bc pc = .ok (.lor, 1)) (pc' : Nat) (hp : pc + 1 = pc') (hz : z = x ||| y) (k : G (T.setTop (mkF m pc' ls (.long z :: st)))) : G (T.setTop (mkF m pc ls (.long y :: .long x :: st))) := by
  obtain ⟨locs, Y, -, -⟩ := X
  subst hp
  subst hz
  exact w.1 _ _ (fun t q => XS.lor Y.here w.2.1 rfl (hb w.2.2.1 hd) rfl q) k
theorem lxor (w : Wk p l e R s m args below meth c n0 Z own nm bc ml rt Q G) (X : Sd p l e R s m args below meth c n0 T h cells slots) {x y : Int64} (z : Int64) (hd : decode bc pc = .ok (.lxor, 1)) (pc' : Nat) (hp : pc + 1 = pc') (hz : z = x ^^^ y) (k : G (T.setTop (mkF m pc' ls (.long z :: st)))) : G (T.setTop (mkF m pc ls (.long y :: .long x :: st))) := by
  obtain ⟨locs, Y, -, -⟩ := X
  subst hp
  subst hz
  exact w.1 _ _ (fun t q => XS.lxor Y.here w.2.1 rfl (hb w.2.2.1 hd) rfl q) k
theorem lshl (w : Wk p l e R s m args below meth c n0 Z own nm bc ml rt Q G) (X : Sd p l e R s m args below meth c n0 T h cells slots) {x : Int64} {y : Int32} (z : Int64) (hd : decode bc pc = .ok (.lshl, 1)) (pc' : Nat) (hp : pc + 1 = pc') (hz : z = x <<< (y &&& 0x3f).toInt64) (k : G (T.setTop (mkF m pc' ls (.long z :: st)))) : G (T.setTop (mkF m pc ls (.int y :: .long x :: st))) := by
  obtain ⟨locs, Y, -, -⟩ := X
  subst hp
  subst hz
  exact w.1 _ _ (fun t q => XS.lshl Y.here w.2.1 rfl (hb w.2.2.1 hd) rfl q) k
theorem lshr (w : Wk p l e R s m args below meth c n0 Z own nm bc ml rt Q G) (X : Sd p l e R s m args below meth c n0 T h cells slots) {x : Int64} {y : Int32} (z : Int64) (hd : decode bc pc = .ok (.lshr, 1)) (pc' : Nat) (hp : pc + 1 = pc') (hz : z = x >>> (y &&& 0x3f).toInt64) (k : G (T.setTop (mkF m pc' ls (.long z :: st)))) : G (T.setTop (mkF m pc ls (.int y :: .long x :: st))) := by
  obtain ⟨locs, Y, -, -⟩ := X
  subst hp
  subst hz
  exact w.1 _ _ (fun t q => XS.lshr Y.here w.2.1 rfl (hb w.2.2.1 hd) rfl q) k
theorem lushr (w : Wk p l e R s m args below meth c n0 Z own nm bc ml rt Q G) (X : Sd p l e R s m args below meth c n0 T h cells slots) {x : Int64} {y : Int32} (z : Int64) (hd : decode bc pc = .ok (.lushr, 1)) (pc' : Nat) (hp : pc + 1 = pc') (hz : z = (x.toUInt64 >>> (y &&& 0x3f).toInt64.toUInt64).toInt64) (k : G (T.setTop (mkF m pc' ls (.long z :: st)))) : G (T.setTop (mkF m pc ls (.int y :: .long x :: st))) := by
  obtain ⟨locs, Y, -, -⟩ := X
  subst hp
  subst hz
  exact w.1 _ _ (fun t q => XS.lushr Y.here w.2.1 rfl (hb w.2.2.1 hd) rfl q) k
theorem i2b (w : Wk p l e R s m args below meth c n0 Z own nm bc ml rt Q G) (X : Sd p l e R s m args below meth c n0 T h cells slots) {x : Int32} (z : Int32) (hd : decode bc pc = .ok (.i2b, 1)) (pc' : Nat) (hp : pc + 1 = pc') (hz : z = x.toInt8.toInt32) (k : G (T.setTop (mkF m pc' ls (.int z :: st)))) : G (T.setTop (mkF m pc ls (.int x :: st))) := by
  obtain ⟨locs, Y, -, -⟩ := X
  subst hp
  subst hz
  exact w.1 _ _ (fun t q => XS.i2b Y.here w.2.1 rfl (hb w.2.2.1 hd) rfl q) k
theorem i2c (w : Wk p l e R s m args below meth c n0 Z own nm bc ml rt Q G) (X : Sd p l e R s m args below meth c n0 T h cells slots) {x : Int32} (z : Int32) (hd : decode bc pc = .ok (.i2c, 1)) (pc' : Nat) (hp : pc + 1 = pc') (hz : z = x.toUInt32.toUInt16.toUInt32.toInt32) (k : G (T.setTop (mkF m pc' ls (.int z :: st)))) : G (T.setTop (mkF m pc ls (.int x :: st))) := by
  obtain ⟨locs, Y, -, -⟩ := X
  subst hp
  subst hz
  exact w.1 _ _ (fun t q => XS.i2c Y.here w.2.1 rfl (hb w.2.2.1 hd) rfl q) k
theorem i2s (w : Wk p l e R s m args below meth c n0 Z own nm bc ml rt Q G) (X : Sd p l e R s m args below meth c n0 T h cells slots) {x : Int32} (z : Int32) (hd : decode bc pc = .ok (.i2s, 1)) (pc' : Nat) (hp : pc + 1 = pc') (hz : z = x.toInt16.toInt32) (k : G (T.setTop (mkF m pc' ls (.int z :: st)))) : G (T.setTop (mkF m pc ls (.int x :: st))) := by
  obtain ⟨locs, Y, -, -⟩ := X
  subst hp
  subst hz
  exact w.1 _ _ (fun t q => XS.i2s Y.here w.2.1 rfl (hb w.2.2.1 hd) rfl q) k
theorem l2i (w : Wk p l e R s m args below meth c n0 Z own nm bc ml rt Q G) (X : Sd p l e R s m args below meth c n0 T h cells slots) {x : Int64} (z : Int32) (hd : decode bc pc = .ok (.l2i, 1)) (pc' : Nat) (hp : pc + 1 = pc') (hz : z = x.toInt32) (k : G (T.setTop (mkF m pc' ls (.int z :: st)))) : G (T.setTop (mkF m pc ls (.long x :: st))) := by
  obtain ⟨locs, Y, -, -⟩ := X
  subst hp
  subst hz
  exact w.1 _ _ (fun t q => XS.l2i Y.here w.2.1 rfl (hb w.2.2.1 hd) rfl q) k
theorem i2l (w : Wk p l e R s m args below meth c n0 Z own nm bc ml rt Q G) (X : Sd p l e R s m args below meth c n0 T h cells slots) {x : Int32} (z : Int64) (hd : decode bc pc = .ok (.i2l, 1)) (pc' : Nat) (hp : pc + 1 = pc') (hz : z = x.toInt64) (k : G (T.setTop (mkF m pc' ls (.long z :: st)))) : G (T.setTop (mkF m pc ls (.int x :: st))) := by
  obtain ⟨locs, Y, -, -⟩ := X
  subst hp
  subst hz
  exact w.1 _ _ (fun t q => XS.i2l Y.here w.2.1 rfl (hb w.2.2.1 hd) rfl q) k
theorem lcmp (w : Wk p l e R s m args below meth c n0 Z own nm bc ml rt Q G) (X : Sd p l e R s m args below meth c n0 T h cells slots) {x y : Int64} (z : Int32) (hd : decode bc pc = .ok (.lcmp, 1)) (pc' : Nat) (hp : pc + 1 = pc') (hz : z = lcmpW x y) (k : G (T.setTop (mkF m pc' ls (.int z :: st)))) : G (T.setTop (mkF m pc ls (.long y :: .long x :: st))) := by
  obtain ⟨locs, Y, -, -⟩ := X
  subst hp
  subst hz
  exact w.1 _ _ (fun t q => XS.lcmp Y.here w.2.1 rfl (hb w.2.2.1 hd) rfl q) k
theorem dup (w : Wk p l e R s m args below meth c n0 Z own nm bc ml rt Q G) (X : Sd p l e R s m args below meth c n0 T h cells slots) {x : Value} (hd : decode bc pc = .ok (.dup, 1)) (pc' : Nat) (hp : pc + 1 = pc') (hx : x.category = 1) (k : G (T.setTop (mkF m pc' ls (x :: x :: st)))) : G (T.setTop (mkF m pc ls (x :: st))) := by
  obtain ⟨locs, Y, -, -⟩ := X
  subst hp
  exact w.1 _ _ (fun t q => XS.dup Y.here w.2.1 rfl (hb w.2.2.1 hd) rfl hx q) k
theorem dupX1 (w : Wk p l e R s m args below meth c n0 Z own nm bc ml rt Q G) (X : Sd p l e R s m args below meth c n0 T h cells slots) {x y : Value} (hd : decode bc pc = .ok (.dup_x1, 1)) (pc' : Nat) (hp : pc + 1 = pc') (hx : x.category = 1) (hy : y.category = 1) (k : G (T.setTop (mkF m pc' ls (x :: y :: x :: st)))) : G (T.setTop (mkF m pc ls (x :: y :: st))) := by
  obtain ⟨locs, Y, -, -⟩ := X
  subst hp
  exact w.1 _ _ (fun t q => XS.dupX1 Y.here w.2.1 rfl (hb w.2.2.1 hd) rfl hx hy q) k
theorem dup2 (w : Wk p l e R s m args below meth c n0 Z own nm bc ml rt Q G) (X : Sd p l e R s m args below meth c n0 T h cells slots) {x y : Value} (hd : decode bc pc = .ok (.dup2, 1)) (pc' : Nat) (hp : pc + 1 = pc') (hx : x.category = 1) (hy : y.category = 1) (k : G (T.setTop (mkF m pc' ls (x :: y :: x :: y :: st)))) : G (T.setTop (mkF m pc ls (x :: y :: st))) := by
  obtain ⟨locs, Y, -, -⟩ := X
  subst hp
  exact w.1 _ _ (fun t q => XT.dup2 Y.here w.2.1 rfl (hb w.2.2.1 hd) rfl hx hy q) k
theorem popV (w : Wk p l e R s m args below meth c n0 Z own nm bc ml rt Q G) (X : Sd p l e R s m args below meth c n0 T h cells slots) {x : Value} (hd : decode bc pc = .ok (.pop, 1)) (pc' : Nat) (hp : pc + 1 = pc') (hx : x.category = 1) (k : G (T.setTop (mkF m pc' ls st))) : G (T.setTop (mkF m pc ls (x :: st))) := by
  obtain ⟨locs, Y, -, -⟩ := X
  subst hp
  exact w.1 _ _ (fun t q => XS.pop Y.here w.2.1 rfl (hb w.2.2.1 hd) rfl hx q) k
theorem iinc (w : Wk p l e R s m args below meth c n0 Z own nm bc ml rt Q G) (X : Sd p l e R s m args below meth c n0 T h cells slots) {k : Nat} {i : Int} {x : Int32} (z : Int32) (hd : decode bc pc = .ok (.iinc k i, 3)) (pc' : Nat) (hp : pc + 3 = pc') (hl : ls[k]? = some (.val (.int x))) (hz : z = x + Int32.ofInt i) (l' : Array Slot) (hl' : storeLocals ls k (.int z) = some l') (k : G (T.setTop (mkF m pc' l' st))) : G (T.setTop (mkF m pc ls st)) := by
  obtain ⟨locs, Y, -, -⟩ := X
  subst hp
  subst hz
  exact w.1 _ _ (fun t q => XS.iinc Y.here w.2.1 rfl (hb w.2.2.1 hd) hl hl' q) k
theorem goto (w : Wk p l e R s m args below meth c n0 Z own nm bc ml rt Q G) (X : Sd p l e R s m args below meth c n0 T h cells slots) {o : Int} (hd : decode bc pc = .ok (.goto o, 3)) (pc' : Nat) (ho : 0 ≤ (pc : Int) + o) (hp : ((pc : Int) + o).toNat = pc') (k : G (T.setTop (mkF m pc' ls st))) : G (T.setTop (mkF m pc ls st)) := by
  obtain ⟨locs, Y, -, -⟩ := X
  exact w.1 _ _ (fun t q => XS.goto Y.here w.2.1 rfl (pc0 := pc) (pc' := pc') rfl (hb w.2.2.1 hd) ho hp q) k
theorem ldcI (w : Wk p l e R s m args below meth c n0 Z own nm bc ml rt Q G) (X : Sd p l e R s m args below meth c n0 T h cells slots) {i : Nat} {v : Int32} (wc : (Cond.constant own i v).before a0 Z = true) (hd : decode bc pc = .ok (.ldc i, 2)) (pc' : Nat) (hp : pc + 2 = pc') (k : G (T.setTop (mkF m pc' ls (.int v :: st)))) : G (T.setTop (mkF m pc ls st)) := by
  obtain ⟨locs, Y, -, -⟩ := X
  subst hp
  exact w.1 _ _ (Y.ldcInt w.2.1 w.2.2.2.2.2.1 (mvT w.2.2.2.2.1 wc) (g := mkF m pc ls st) rfl (hb w.2.2.1 hd)) k
theorem ldcwI (w : Wk p l e R s m args below meth c n0 Z own nm bc ml rt Q G) (X : Sd p l e R s m args below meth c n0 T h cells slots) {i : Nat} {v : Int32} (wc : (Cond.constant own i v).before a0 Z = true) (hd : decode bc pc = .ok (.ldc_w i, 3)) (pc' : Nat) (hp : pc + 3 = pc') (k : G (T.setTop (mkF m pc' ls (.int v :: st)))) : G (T.setTop (mkF m pc ls st)) := by
  obtain ⟨locs, Y, -, -⟩ := X
  subst hp
  exact w.1 _ _ (Y.ldcwInt w.2.1 w.2.2.2.2.2.1 (mvT w.2.2.2.2.1 wc) (g := mkF m pc ls st) rfl (hb w.2.2.1 hd)) k
theorem ldc2J (w : Wk p l e R s m args below meth c n0 Z own nm bc ml rt Q G) (X : Sd p l e R s m args below meth c n0 T h cells slots) {i : Nat} {v : Int64} (wc : (Cond.constantLong own i v).before a0 Z = true) (hd : decode bc pc = .ok (.ldc2_w i, 3)) (pc' : Nat) (hp : pc + 3 = pc') (k : G (T.setTop (mkF m pc' ls (.long v :: st)))) : G (T.setTop (mkF m pc ls st)) := by
  obtain ⟨locs, Y, -, -⟩ := X
  subst hp
  exact w.1 _ _ (Y.ldc2Long w.2.1 w.2.2.2.2.2.1 (mvT w.2.2.2.2.1 wc) (g := mkF m pc ls st) rfl (hb w.2.2.1 hd)) k
theorem icmp_lt (w : Wk p l e R s m args below meth c n0 Z own nm bc ml rt Q G) (X : Sd p l e R s m args below meth c n0 T h cells slots) {x y : Int32} {o : Int} (hd : decode bc pc = .ok (.if_icmp .lt o, 3)) (pT pF : Nat) (ho : 0 ≤ (pc : Int) + o) (hp : ((pc : Int) + o).toNat = pT) (hq : pc + 3 = pF) (k1 : x < y → G (T.setTop (mkF m pT ls st))) (k2 : ¬ x < y → G (T.setTop (mkF m pF ls st))) : G (T.setTop (mkF m pc ls (.int y :: .int x :: st))) := by
  obtain ⟨locs, Y, -, -⟩ := X
  subst hq
  by_cases q : x < y
  · exact w.1 _ _ (fun t z => XS.icmpYes Y.here w.2.1 rfl (pc0 := pc) (pc' := pT) rfl (hb w.2.2.1 hd) rfl (tlt q).1 ho hp z) (k1 q)
  · exact w.1 _ _ (fun t z => XS.icmpNo Y.here w.2.1 rfl (hb w.2.2.1 hd) rfl (flt q).1 z) (k2 q)
theorem if_lt (w : Wk p l e R s m args below meth c n0 Z own nm bc ml rt Q G) (X : Sd p l e R s m args below meth c n0 T h cells slots) {x : Int32} {o : Int} (hd : decode bc pc = .ok (.ifCond .lt o, 3)) (pT pF : Nat) (ho : 0 ≤ (pc : Int) + o) (hp : ((pc : Int) + o).toNat = pT) (hq : pc + 3 = pF) (k1 : x < 0 → G (T.setTop (mkF m pT ls st))) (k2 : ¬ x < 0 → G (T.setTop (mkF m pF ls st))) : G (T.setTop (mkF m pc ls (.int x :: st))) := by
  obtain ⟨locs, Y, -, -⟩ := X
  subst hq
  by_cases q : x < 0
  · exact w.1 _ _ (fun t z => XS.ifYes Y.here w.2.1 rfl (pc0 := pc) (pc' := pT) rfl (hb w.2.2.1 hd) rfl ((if0 _ _).trans (tlt q).1) ho hp z) (k1 q)
  · exact w.1 _ _ (fun t z => XS.ifNo Y.here w.2.1 rfl (hb w.2.2.1 hd) rfl ((if0 _ _).trans (flt q).1) z) (k2 q)
theorem icmp_ge (w : Wk p l e R s m args below meth c n0 Z own nm bc ml rt Q G) (X : Sd p l e R s m args below meth c n0 T h cells slots) {x y : Int32} {o : Int} (hd : decode bc pc = .ok (.if_icmp .ge o, 3)) (pT pF : Nat) (ho : 0 ≤ (pc : Int) + o) (hp : ((pc : Int) + o).toNat = pT) (hq : pc + 3 = pF) (k1 : ¬ x < y → G (T.setTop (mkF m pT ls st))) (k2 : x < y → G (T.setTop (mkF m pF ls st))) : G (T.setTop (mkF m pc ls (.int y :: .int x :: st))) := by
  obtain ⟨locs, Y, -, -⟩ := X
  subst hq
  by_cases q : x < y
  · exact w.1 _ _ (fun t z => XS.icmpNo Y.here w.2.1 rfl (hb w.2.2.1 hd) rfl (tlt q).2.1 z) (k2 q)
  · exact w.1 _ _ (fun t z => XS.icmpYes Y.here w.2.1 rfl (pc0 := pc) (pc' := pT) rfl (hb w.2.2.1 hd) rfl (flt q).2.1 ho hp z) (k1 q)
theorem if_ge (w : Wk p l e R s m args below meth c n0 Z own nm bc ml rt Q G) (X : Sd p l e R s m args below meth c n0 T h cells slots) {x : Int32} {o : Int} (hd : decode bc pc = .ok (.ifCond .ge o, 3)) (pT pF : Nat) (ho : 0 ≤ (pc : Int) + o) (hp : ((pc : Int) + o).toNat = pT) (hq : pc + 3 = pF) (k1 : ¬ x < 0 → G (T.setTop (mkF m pT ls st))) (k2 : x < 0 → G (T.setTop (mkF m pF ls st))) : G (T.setTop (mkF m pc ls (.int x :: st))) := by
  obtain ⟨locs, Y, -, -⟩ := X
  subst hq
  by_cases q : x < 0
  · exact w.1 _ _ (fun t z => XS.ifNo Y.here w.2.1 rfl (hb w.2.2.1 hd) rfl ((if0 _ _).trans (tlt q).2.1) z) (k2 q)
  · exact w.1 _ _ (fun t z => XS.ifYes Y.here w.2.1 rfl (pc0 := pc) (pc' := pT) rfl (hb w.2.2.1 hd) rfl ((if0 _ _).trans (flt q).2.1) ho hp z) (k1 q)
theorem icmp_gt (w : Wk p l e R s m args below meth c n0 Z own nm bc ml rt Q G) (X : Sd p l e R s m args below meth c n0 T h cells slots) {x y : Int32} {o : Int} (hd : decode bc pc = .ok (.if_icmp .gt o, 3)) (pT pF : Nat) (ho : 0 ≤ (pc : Int) + o) (hp : ((pc : Int) + o).toNat = pT) (hq : pc + 3 = pF) (k1 : y < x → G (T.setTop (mkF m pT ls st))) (k2 : ¬ y < x → G (T.setTop (mkF m pF ls st))) : G (T.setTop (mkF m pc ls (.int y :: .int x :: st))) := by
  obtain ⟨locs, Y, -, -⟩ := X
  subst hq
  by_cases q : y < x
  · exact w.1 _ _ (fun t z => XS.icmpYes Y.here w.2.1 rfl (pc0 := pc) (pc' := pT) rfl (hb w.2.2.1 hd) rfl (tlt q).2.2.1 ho hp z) (k1 q)
  · exact w.1 _ _ (fun t z => XS.icmpNo Y.here w.2.1 rfl (hb w.2.2.1 hd) rfl (flt q).2.2.1 z) (k2 q)
theorem if_gt (w : Wk p l e R s m args below meth c n0 Z own nm bc ml rt Q G) (X : Sd p l e R s m args below meth c n0 T h cells slots) {x : Int32} {o : Int} (hd : decode bc pc = .ok (.ifCond .gt o, 3)) (pT pF : Nat) (ho : 0 ≤ (pc : Int) + o) (hp : ((pc : Int) + o).toNat = pT) (hq : pc + 3 = pF) (k1 : 0 < x → G (T.setTop (mkF m pT ls st))) (k2 : ¬ 0 < x → G (T.setTop (mkF m pF ls st))) : G (T.setTop (mkF m pc ls (.int x :: st))) := by
  obtain ⟨locs, Y, -, -⟩ := X
  subst hq
  by_cases q : 0 < x
  · exact w.1 _ _ (fun t z => XS.ifYes Y.here w.2.1 rfl (pc0 := pc) (pc' := pT) rfl (hb w.2.2.1 hd) rfl ((if0 _ _).trans (tlt q).2.2.1) ho hp z) (k1 q)
  · exact w.1 _ _ (fun t z => XS.ifNo Y.here w.2.1 rfl (hb w.2.2.1 hd) rfl ((if0 _ _).trans (flt q).2.2.1) z) (k2 q)
theorem icmp_le (w : Wk p l e R s m args below meth c n0 Z own nm bc ml rt Q G) (X : Sd p l e R s m args below meth c n0 T h cells slots) {x y : Int32} {o : Int} (hd : decode bc pc = .ok (.if_icmp .le o, 3)) (pT pF : Nat) (ho : 0 ≤ (pc : Int) + o) (hp : ((pc : Int) + o).toNat = pT) (hq : pc + 3 = pF) (k1 : ¬ y < x → G (T.setTop (mkF m pT ls st))) (k2 : y < x → G (T.setTop (mkF m pF ls st))) : G (T.setTop (mkF m pc ls (.int y :: .int x :: st))) := by
  obtain ⟨locs, Y, -, -⟩ := X
  subst hq
  by_cases q : y < x
  · exact w.1 _ _ (fun t z => XS.icmpNo Y.here w.2.1 rfl (hb w.2.2.1 hd) rfl (tlt q).2.2.2 z) (k2 q)
  · exact w.1 _ _ (fun t z => XS.icmpYes Y.here w.2.1 rfl (pc0 := pc) (pc' := pT) rfl (hb w.2.2.1 hd) rfl (flt q).2.2.2 ho hp z) (k1 q)
theorem if_le (w : Wk p l e R s m args below meth c n0 Z own nm bc ml rt Q G) (X : Sd p l e R s m args below meth c n0 T h cells slots) {x : Int32} {o : Int} (hd : decode bc pc = .ok (.ifCond .le o, 3)) (pT pF : Nat) (ho : 0 ≤ (pc : Int) + o) (hp : ((pc : Int) + o).toNat = pT) (hq : pc + 3 = pF) (k1 : ¬ 0 < x → G (T.setTop (mkF m pT ls st))) (k2 : 0 < x → G (T.setTop (mkF m pF ls st))) : G (T.setTop (mkF m pc ls (.int x :: st))) := by
  obtain ⟨locs, Y, -, -⟩ := X
  subst hq
  by_cases q : 0 < x
  · exact w.1 _ _ (fun t z => XS.ifNo Y.here w.2.1 rfl (hb w.2.2.1 hd) rfl ((if0 _ _).trans (tlt q).2.2.2) z) (k2 q)
  · exact w.1 _ _ (fun t z => XS.ifYes Y.here w.2.1 rfl (pc0 := pc) (pc' := pT) rfl (hb w.2.2.1 hd) rfl ((if0 _ _).trans (flt q).2.2.2) ho hp z) (k1 q)
theorem icmp_eq (w : Wk p l e R s m args below meth c n0 Z own nm bc ml rt Q G) (X : Sd p l e R s m args below meth c n0 T h cells slots) {x y : Int32} {o : Int} (hd : decode bc pc = .ok (.if_icmp .eq o, 3)) (pT pF : Nat) (ho : 0 ≤ (pc : Int) + o) (hp : ((pc : Int) + o).toNat = pT) (hq : pc + 3 = pF) (k1 : x = y → G (T.setTop (mkF m pT ls st))) (k2 : ¬ x = y → G (T.setTop (mkF m pF ls st))) : G (T.setTop (mkF m pc ls (.int y :: .int x :: st))) := by
  obtain ⟨locs, Y, -, -⟩ := X
  subst hq
  by_cases q : x = y
  · exact w.1 _ _ (fun t z => XS.icmpYes Y.here w.2.1 rfl (pc0 := pc) (pc' := pT) rfl (hb w.2.2.1 hd) rfl (teq q).1 ho hp z) (k1 q)
  · exact w.1 _ _ (fun t z => XS.icmpNo Y.here w.2.1 rfl (hb w.2.2.1 hd) rfl (feq q).1 z) (k2 q)
theorem if_eq (w : Wk p l e R s m args below meth c n0 Z own nm bc ml rt Q G) (X : Sd p l e R s m args below meth c n0 T h cells slots) {x : Int32} {o : Int} (hd : decode bc pc = .ok (.ifCond .eq o, 3)) (pT pF : Nat) (ho : 0 ≤ (pc : Int) + o) (hp : ((pc : Int) + o).toNat = pT) (hq : pc + 3 = pF) (k1 : x = 0 → G (T.setTop (mkF m pT ls st))) (k2 : ¬ x = 0 → G (T.setTop (mkF m pF ls st))) : G (T.setTop (mkF m pc ls (.int x :: st))) := by
  obtain ⟨locs, Y, -, -⟩ := X
  subst hq
  by_cases q : x = 0
  · exact w.1 _ _ (fun t z => XS.ifYes Y.here w.2.1 rfl (pc0 := pc) (pc' := pT) rfl (hb w.2.2.1 hd) rfl ((if0 _ _).trans (teq q).1) ho hp z) (k1 q)
  · exact w.1 _ _ (fun t z => XS.ifNo Y.here w.2.1 rfl (hb w.2.2.1 hd) rfl ((if0 _ _).trans (feq q).1) z) (k2 q)
theorem icmp_ne (w : Wk p l e R s m args below meth c n0 Z own nm bc ml rt Q G) (X : Sd p l e R s m args below meth c n0 T h cells slots) {x y : Int32} {o : Int} (hd : decode bc pc = .ok (.if_icmp .ne o, 3)) (pT pF : Nat) (ho : 0 ≤ (pc : Int) + o) (hp : ((pc : Int) + o).toNat = pT) (hq : pc + 3 = pF) (k1 : ¬ x = y → G (T.setTop (mkF m pT ls st))) (k2 : x = y → G (T.setTop (mkF m pF ls st))) : G (T.setTop (mkF m pc ls (.int y :: .int x :: st))) := by
  obtain ⟨locs, Y, -, -⟩ := X
  subst hq
  by_cases q : x = y
  · exact w.1 _ _ (fun t z => XS.icmpNo Y.here w.2.1 rfl (hb w.2.2.1 hd) rfl (teq q).2 z) (k2 q)
  · exact w.1 _ _ (fun t z => XS.icmpYes Y.here w.2.1 rfl (pc0 := pc) (pc' := pT) rfl (hb w.2.2.1 hd) rfl (feq q).2 ho hp z) (k1 q)
theorem if_ne (w : Wk p l e R s m args below meth c n0 Z own nm bc ml rt Q G) (X : Sd p l e R s m args below meth c n0 T h cells slots) {x : Int32} {o : Int} (hd : decode bc pc = .ok (.ifCond .ne o, 3)) (pT pF : Nat) (ho : 0 ≤ (pc : Int) + o) (hp : ((pc : Int) + o).toNat = pT) (hq : pc + 3 = pF) (k1 : ¬ x = 0 → G (T.setTop (mkF m pT ls st))) (k2 : x = 0 → G (T.setTop (mkF m pF ls st))) : G (T.setTop (mkF m pc ls (.int x :: st))) := by
  obtain ⟨locs, Y, -, -⟩ := X
  subst hq
  by_cases q : x = 0
  · exact w.1 _ _ (fun t z => XS.ifNo Y.here w.2.1 rfl (hb w.2.2.1 hd) rfl ((if0 _ _).trans (teq q).2) z) (k2 q)
  · exact w.1 _ _ (fun t z => XS.ifYes Y.here w.2.1 rfl (pc0 := pc) (pc' := pT) rfl (hb w.2.2.1 hd) rfl ((if0 _ _).trans (feq q).2) ho hp z) (k1 q)
theorem acmp_eq (w : Wk p l e R s m args below meth c n0 Z own nm bc ml rt Q G) (X : Sd p l e R s m args below meth c n0 T h cells slots) {x y : Value} (hx : x.isRef = true) (hy : y.isRef = true) {o : Int} (hd : decode bc pc = .ok (.if_acmp .eq o, 3)) (pT pF : Nat) (ho : 0 ≤ (pc : Int) + o) (hp : ((pc : Int) + o).toNat = pT) (hq : pc + 3 = pF) (k1 : x = y → G (T.setTop (mkF m pT ls st))) (k2 : ¬ x = y → G (T.setTop (mkF m pF ls st))) : G (T.setTop (mkF m pc ls (y :: x :: st))) := by
  obtain ⟨locs, Y, -, -⟩ := X
  subst hq
  by_cases q : x = y
  · exact w.1 _ _ (fun t z => Jvm.RoadKit.acmp (g := mkF m pc ls (y :: x :: st)) Y w.2.1 rfl hx hy (pc0 := pc) (pc' := pT) (same := true) rfl (hb w.2.2.1 hd) rfl (decide_eq_true q) ho (by simp [acV]; omega) z) (k1 q)
  · exact w.1 _ _ (fun t z => Jvm.RoadKit.acmp (g := mkF m pc ls (y :: x :: st)) Y w.2.1 rfl hx hy (pc0 := pc) (pc' := pc + 3) (same := false) rfl (hb w.2.2.1 hd) rfl (decide_eq_false q) ho (by simp [acV]) z) (k2 q)
theorem acmp_ne (w : Wk p l e R s m args below meth c n0 Z own nm bc ml rt Q G) (X : Sd p l e R s m args below meth c n0 T h cells slots) {x y : Value} (hx : x.isRef = true) (hy : y.isRef = true) {o : Int} (hd : decode bc pc = .ok (.if_acmp .ne o, 3)) (pT pF : Nat) (ho : 0 ≤ (pc : Int) + o) (hp : ((pc : Int) + o).toNat = pT) (hq : pc + 3 = pF) (k1 : ¬ x = y → G (T.setTop (mkF m pT ls st))) (k2 : x = y → G (T.setTop (mkF m pF ls st))) : G (T.setTop (mkF m pc ls (y :: x :: st))) := by
  obtain ⟨locs, Y, -, -⟩ := X
  subst hq
  by_cases q : x = y
  · exact w.1 _ _ (fun t z => Jvm.RoadKit.acmp (g := mkF m pc ls (y :: x :: st)) Y w.2.1 rfl hx hy (pc0 := pc) (pc' := pc + 3) (same := true) rfl (hb w.2.2.1 hd) rfl (decide_eq_true q) ho (by simp [acV]) z) (k2 q)
  · exact w.1 _ _ (fun t z => Jvm.RoadKit.acmp (g := mkF m pc ls (y :: x :: st)) Y w.2.1 rfl hx hy (pc0 := pc) (pc' := pT) (same := false) rfl (hb w.2.2.1 hd) rfl (decide_eq_false q) ho (by simp [acV]; omega) z) (k1 q)
theorem ifnull_ref (w : Wk p l e R s m args below meth c n0 Z own nm bc ml rt Q G) (X : Sd p l e R s m args below meth c n0 T h cells slots) {b : Addr} {o : Int} (hd : decode bc pc = .ok (.ifnull o, 3)) (pF : Nat) (hq : pc + 3 = pF) (k : G (T.setTop (mkF m pF ls st))) : G (T.setTop (mkF m pc ls (.ref b :: st))) := by
  obtain ⟨locs, Y, -, -⟩ := X
  subst hq
  exact w.1 _ _ (fun t z => XS.ifnullNo Y.here w.2.1 rfl (hb w.2.2.1 hd) rfl z) k
theorem ifnull_null (w : Wk p l e R s m args below meth c n0 Z own nm bc ml rt Q G) (X : Sd p l e R s m args below meth c n0 T h cells slots) {o : Int} (hd : decode bc pc = .ok (.ifnull o, 3)) (pT : Nat) (ho : 0 ≤ (pc : Int) + o) (hp : ((pc : Int) + o).toNat = pT) (k : G (T.setTop (mkF m pT ls st))) : G (T.setTop (mkF m pc ls (.null :: st))) := by
  obtain ⟨locs, Y, -, -⟩ := X
  exact w.1 _ _ (fun t z => XS.ifnullYes Y.here w.2.1 rfl (pc0 := pc) (pc' := pT) rfl (hb w.2.2.1 hd) rfl ho hp z) k
theorem ifnonnull_ref (w : Wk p l e R s m args below meth c n0 Z own nm bc ml rt Q G) (X : Sd p l e R s m args below meth c n0 T h cells slots) {b : Addr} {o : Int} (hd : decode bc pc = .ok (.ifnonnull o, 3)) (pT : Nat) (ho : 0 ≤ (pc : Int) + o) (hp : ((pc : Int) + o).toNat = pT) (k : G (T.setTop (mkF m pT ls st))) : G (T.setTop (mkF m pc ls (.ref b :: st))) := by
  obtain ⟨locs, Y, -, -⟩ := X
  exact w.1 _ _ (fun t z => XT.ifnonnullYes Y.here w.2.1 rfl (pc0 := pc) (pc' := pT) rfl (hb w.2.2.1 hd) rfl ho hp z) k
theorem ifnonnull_null (w : Wk p l e R s m args below meth c n0 Z own nm bc ml rt Q G) (X : Sd p l e R s m args below meth c n0 T h cells slots) {o : Int} (hd : decode bc pc = .ok (.ifnonnull o, 3)) (pF : Nat) (hq : pc + 3 = pF) (k : G (T.setTop (mkF m pF ls st))) : G (T.setTop (mkF m pc ls (.null :: st))) := by
  obtain ⟨locs, Y, -, -⟩ := X
  subst hq
  exact w.1 _ _ (fun t z => XT.ifnonnullNo Y.here w.2.1 rfl (hb w.2.2.1 hd) rfl z) k
theorem lswHit (w : Wk p l e R s m args below meth c n0 Z own nm bc ml rt Q G) (X : Sd p l e R s m args below meth c n0 T h cells slots) {i : Int32} {df : Int} {ps : Array (Int × Int)} {len : Nat} (hd : decode bc pc = .ok (.lookupswitch df ps, len)) (hs : (ps.toList.zip (ps.toList.drop 1)).all (fun (a, next) => a.1 < next.1) = true) {a off : Int} (pc' : Nat) (hf : ps.find? (·.1 == i.toInt) = some (a, off)) (ho : 0 ≤ (pc : Int) + off) (hp : ((pc : Int) + off).toNat = pc') (k : G (T.setTop (mkF m pc' ls st))) : G (T.setTop (mkF m pc ls (.int i :: st))) := by
  obtain ⟨locs, Y, -, -⟩ := X
  subst hp
  exact w.1 _ _ (fun t z => Y.lookupswitchHit w.2.1 (g := mkF m pc ls (.int i :: st)) rfl rfl (hb w.2.2.1 hd) hs hf ho t z) k
theorem lswMiss (w : Wk p l e R s m args below meth c n0 Z own nm bc ml rt Q G) (X : Sd p l e R s m args below meth c n0 T h cells slots) {i : Int32} {df : Int} {ps : Array (Int × Int)} {len : Nat} (hd : decode bc pc = .ok (.lookupswitch df ps, len)) (hs : (ps.toList.zip (ps.toList.drop 1)).all (fun (a, next) => a.1 < next.1) = true) (pc' : Nat) (hf : ps.find? (·.1 == i.toInt) = none) (ho : 0 ≤ (pc : Int) + df) (hp : ((pc : Int) + df).toNat = pc') (k : G (T.setTop (mkF m pc' ls st))) : G (T.setTop (mkF m pc ls (.int i :: st))) := by
  obtain ⟨locs, Y, -, -⟩ := X
  subst hp
  exact w.1 _ _ (fun t z => Y.lookupswitchMiss w.2.1 (g := mkF m pc ls (.int i :: st)) rfl rfl (hb w.2.2.1 hd) hs hf ho t z) k
theorem tswIn (w : Wk p l e R s m args below meth c n0 Z own nm bc ml rt Q G) (X : Sd p l e R s m args below meth c n0 T h cells slots) {i : Int32} {df lo hi : Int} {ofs : Array Int} {len : Nat} (hd : decode bc pc = .ok (.tableswitch df lo hi ofs, len)) (pc' : Nat) {off : Int} (hin : ¬ (i.toInt < lo ∨ i.toInt > hi)) (hoff : ofs[(i.toInt - lo).toNat]? = some off) (ho : 0 ≤ (pc : Int) + off) (hp : ((pc : Int) + off).toNat = pc') (k : G (T.setTop (mkF m pc' ls st))) : G (T.setTop (mkF m pc ls (.int i :: st))) := by
  obtain ⟨locs, Y, -, -⟩ := X
  exact w.1 _ _ (fun t z => XS.tswIn Y.here w.2.1 rfl (pc0 := pc) (pc' := pc') rfl (hb w.2.2.1 hd) rfl hin hoff ho hp z) k
theorem tswOut (w : Wk p l e R s m args below meth c n0 Z own nm bc ml rt Q G) (X : Sd p l e R s m args below meth c n0 T h cells slots) {i : Int32} {df lo hi : Int} {ofs : Array Int} {len : Nat} (hd : decode bc pc = .ok (.tableswitch df lo hi ofs, len)) (pc' : Nat) (hout : i.toInt < lo ∨ i.toInt > hi) (ho : 0 ≤ (pc : Int) + df) (hp : ((pc : Int) + df).toNat = pc') (k : G (T.setTop (mkF m pc' ls st))) : G (T.setTop (mkF m pc ls (.int i :: st))) := by
  obtain ⟨locs, Y, -, -⟩ := X
  exact w.1 _ _ (fun t z => XS.tswOut Y.here w.2.1 rfl (pc0 := pc) (pc' := pc') rfl (hb w.2.2.1 hd) rfl hout ho hp z) k
theorem retI (w : Wk p l e R s m args below meth c n0 Z own nm bc ml rt Q G) (X : Sd p l e R s m args below meth c n0 T h cells slots) {z : Int32} (hrt : rt = some .int) (hd : decode bc pc = .ok (.ireturn, 1)) (hc : cells ≤ R.cells) (hl : slots ≤ R.slots) (k : Q (some (.int z)) h) : G (T.setTop (mkF m pc ls (.int z :: st))) := by
  have hr : meth.sig.returnType = some .int := w.2.2.2.2.2.2.1.trans hrt
  refine w.2.2.2.2.2.2.2.2 T h cells slots (some (.int z)) X hc hl (fun q => by rw [hr] at q; cases q) k _ (fun fs hfs => ?_)
  obtain ⟨locs, Y, -, -⟩ := X
  exact retOut Y w.2.1 hr rfl (Or.inl ⟨rfl, Or.inl rfl, z, rfl⟩) (hb w.2.2.1 hd) hfs
theorem retN (w : Wk p l e R s m args below meth c n0 Z own nm bc ml rt Q G) (X : Sd p l e R s m args below meth c n0 T h cells slots) {z : Int32} {t : FieldType} (hrt : rt = some t) (ht : t = .boolean ∨ t = .byte ∨ t = .char ∨ t = .short) (hd : decode bc pc = .ok (.ireturn, 1)) (hc : cells ≤ R.cells) (hl : slots ≤ R.slots) (k : Q (some (.int (nar t z))) h) : G (T.setTop (mkF m pc ls (.int z :: st))) := by
  have hr : meth.sig.returnType = some t := w.2.2.2.2.2.2.1.trans hrt
  refine w.2.2.2.2.2.2.2.2 T h cells slots (some (.int (nar t z))) X hc hl (fun q => by rw [hr] at q; cases q) k _ (fun fs hfs => ?_)
  obtain ⟨locs, Y, -, -⟩ := X
  exact Jvm.RoadKit.retN Y w.2.1 hr ht (hb w.2.2.1 hd) hfs
theorem retJ (w : Wk p l e R s m args below meth c n0 Z own nm bc ml rt Q G) (X : Sd p l e R s m args below meth c n0 T h cells slots) {z : Int64} (hrt : rt = some .long) (hd : decode bc pc = .ok (.lreturn, 1)) (hc : cells ≤ R.cells) (hl : slots ≤ R.slots) (k : Q (some (.long z)) h) : G (T.setTop (mkF m pc ls (.long z :: st))) := by
  have hr : meth.sig.returnType = some .long := w.2.2.2.2.2.2.1.trans hrt
  refine w.2.2.2.2.2.2.2.2 T h cells slots (some (.long z)) X hc hl (fun q => by rw [hr] at q; cases q) k _ (fun fs hfs => ?_)
  obtain ⟨locs, Y, -, -⟩ := X
  exact retOut Y w.2.1 hr rfl (Or.inr (Or.inl ⟨rfl, rfl, z, rfl⟩)) (hb w.2.2.1 hd) hfs
theorem retA (w : Wk p l e R s m args below meth c n0 Z own nm bc ml rt Q G) (X : Sd p l e R s m args below meth c n0 T h cells slots) {z : Value} {t : FieldType} (hrt : rt = some t) (ht : t.isReference = true) (hz : z.isRef = true) (hd : decode bc pc = .ok (.areturn, 1)) (hc : cells ≤ R.cells) (hl : slots ≤ R.slots) (k : Q (some z) h) : G (T.setTop (mkF m pc ls (z :: st))) := by
  have hr : meth.sig.returnType = some t := w.2.2.2.2.2.2.1.trans hrt
  refine w.2.2.2.2.2.2.2.2 T h cells slots (some z) X hc hl (fun q => by rw [hr] at q; cases q) k _ (fun fs hfs => ?_)
  obtain ⟨locs, Y, -, -⟩ := X
  refine retOut Y w.2.1 hr ?_ (Or.inr (Or.inr (Or.inr (Or.inr ⟨rfl, ht, hz⟩)))) (hb w.2.2.1 hd) hfs
  rcases ref_cases hz with rfl | ⟨a, rfl⟩ <;> cases t <;> first | rfl | (cases ht; done)
theorem retV (w : Wk p l e R s m args below meth c n0 Z own nm bc ml rt Q G) (X : Sd p l e R s m args below meth c n0 T h cells slots) (hrt : rt = none) (hd : decode bc pc = .ok (.return_, 1)) (hc : cells ≤ R.cells) (hl : slots ≤ R.slots) (k : Q none h) : G (T.setTop (mkF m pc ls [])) := by
  have hr : meth.sig.returnType = none := w.2.2.2.2.2.2.1.trans hrt
  refine w.2.2.2.2.2.2.2.2 T h cells slots none X hc hl (fun _ => rfl) k _ (fun fs hfs => ?_)
  obtain ⟨locs, Y, -, -⟩ := X
  exact Y.returnOut w.2.1 hr (hb w.2.2.1 hd) hfs
theorem getfield (w : Wk p l e R s m args below meth c n0 Z own nm bc ml rt Q G) (X : Sd p l e R s m args below meth c n0 T h cells slots) {R0 O n d : String} {i : Nat} {a : Addr} {v : Value} (wl : (Cond.fieldLink own i R0 n d).before a0 Z = true) (via : Via Z R0 O n d) (F : Fld Z h a O n d v) (hd : decode bc pc = .ok (.getfield i, 3)) (pc' : Nat) (hp : pc + 3 = pc') (k : ∀ T' : State, Sd p l e R s m args below meth c n0 T' h cells slots → G (T'.setTop (mkF m pc' ls (v :: st)))) : G (T.setTop (mkF m pc ls (.ref a :: st))) := by
  obtain ⟨locs, Y, N, eT⟩ := X
  subst hp
  obtain ⟨T', Y', e', q⟩ := getF Y w.2.1 w.2.2.2.2.1 (host := "") w.2.2.2.2.2.1 (Or.inl wl) via eT F (g := mkF m pc ls (.ref a :: st)) rfl rfl (hb w.2.2.1 hd)
  exact w.1 _ _ q (k T' ⟨locs, Y', N, e'⟩)
theorem getfieldNest (w : Wk p l e R s m args below meth c n0 Z own nm bc ml rt Q G) (X : Sd p l e R s m args below meth c n0 T h cells slots) {R0 O n d host : String} {i : Nat} {a : Addr} {v : Value} (wl : (Cond.fieldLinkNest own i R0 n d host).before a0 Z = true) (via : Via Z R0 O n d) (F : Fld Z h a O n d v) (hd : decode bc pc = .ok (.getfield i, 3)) (pc' : Nat) (hp : pc + 3 = pc') (k : ∀ T' : State, Sd p l e R s m args below meth c n0 T' h cells slots → G (T'.setTop (mkF m pc' ls (v :: st)))) : G (T.setTop (mkF m pc ls (.ref a :: st))) := by
  obtain ⟨locs, Y, N, eT⟩ := X
  subst hp
  obtain ⟨T', Y', e', q⟩ := getF Y w.2.1 w.2.2.2.2.1 w.2.2.2.2.2.1 (Or.inr wl) via eT F (g := mkF m pc ls (.ref a :: st)) rfl rfl (hb w.2.2.1 hd)
  exact w.1 _ _ q (k T' ⟨locs, Y', N, e'⟩)
theorem getstatic (w : Wk p l e R s m args below meth c n0 Z own nm bc ml rt Q G) (X : Sd p l e R s m args below meth c n0 T h cells slots) {R0 O n d : String} {i : Nat} {v : Value} (wl : (Cond.fieldLink own i R0 n d).before a0 Z = true) (via : Via Z R0 O n d) (F : Sta Z h O n d v) (hd : decode bc pc = .ok (.getstatic i, 3)) (pc' : Nat) (hp : pc + 3 = pc') (k : ∀ T' : State, Sd p l e R s m args below meth c n0 T' h cells slots → G (T'.setTop (mkF m pc' ls (v :: st)))) : G (T.setTop (mkF m pc ls st)) := by
  obtain ⟨locs, Y, N, eT⟩ := X
  subst hp
  obtain ⟨T', Y', e', q⟩ := getS2 (host := "") Y w.2.1 w.2.2.2.2.1 w.2.2.2.2.2.1 (Or.inl wl) via eT F (g := mkF m pc ls st) rfl (hb w.2.2.1 hd)
  exact w.1 _ _ q (k T' ⟨locs, Y', N, e'⟩)
theorem getstaticNest (w : Wk p l e R s m args below meth c n0 Z own nm bc ml rt Q G) (X : Sd p l e R s m args below meth c n0 T h cells slots) {R0 O n d host : String} {i : Nat} {v : Value} (wl : (Cond.fieldLinkNest own i R0 n d host).before a0 Z = true) (via : Via Z R0 O n d) (F : Sta Z h O n d v) (hd : decode bc pc = .ok (.getstatic i, 3)) (pc' : Nat) (hp : pc + 3 = pc') (k : ∀ T' : State, Sd p l e R s m args below meth c n0 T' h cells slots → G (T'.setTop (mkF m pc' ls (v :: st)))) : G (T.setTop (mkF m pc ls st)) := by
  obtain ⟨locs, Y, N, eT⟩ := X
  subst hp
  obtain ⟨T', Y', e', q⟩ := getS2 Y w.2.1 w.2.2.2.2.1 w.2.2.2.2.2.1 (Or.inr wl) via eT F (g := mkF m pc ls st) rfl (hb w.2.2.1 hd)
  exact w.1 _ _ q (k T' ⟨locs, Y', N, e'⟩)
theorem checkcast (w : Wk p l e R s m args below meth c n0 Z own nm bc ml rt Q G) (X : Sd p l e R s m args below meth c n0 T h cells slots) {K : String} {i : Nat} {a : Addr} (wl : (Cond.classLink own i K).before a0 Z = true) (F : Ins Z h a K true) (hd : decode bc pc = .ok (.checkcast i, 3)) (pc' : Nat) (hp : pc + 3 = pc') (k : ∀ T' : State, Sd p l e R s m args below meth c n0 T' h cells slots → G (T'.setTop (mkF m pc' ls (.ref a :: st)))) : G (T.setTop (mkF m pc ls (.ref a :: st))) := by
  obtain ⟨locs, Y, N, eT⟩ := X
  subst hp
  obtain ⟨T', Y', e', q⟩ := castY Y w.2.1 w.2.2.2.2.1 w.2.2.2.2.2.1 wl eT F (g := mkF m pc ls (.ref a :: st)) rfl rfl (hb w.2.2.1 hd)
  exact w.1 _ _ q (k T' ⟨locs, Y', N, e'⟩)
theorem putfield (w : Wk p l e R s m args below meth c n0 Z own nm bc ml rt Q G) (X : Sd p l e R s m args below meth c n0 T h cells slots) {R0 O n d C : String} {i kk : Nat} {ty : FieldType} {a : Addr} {v old : Value} (wl : (Cond.fieldLink own i R0 n d).before a0 Z = true) (via : Via Z R0 O n d) (F : Fld Z h a O n d old) (E : Exa Z h a C) (L : (Cond.lays C O n d).before a0 Z = true ∨ ((Cond.laysFinal C O n d).before a0 Z = true ∧ own = O ∧ nm = "<init>")) (wi : (Cond.instantiable C kk).before a0 Z = true) (hty : parseFieldDescriptor d = some ty) (hn : narrow ty v = v) (hf : fits ty v = true) (ha : n0 ≤ a) (hd : decode bc pc = .ok (.putfield i, 3)) (pc' : Nat) (hp : pc + 3 = pc')
    (k : ∀ (T' : State) (h' : Heap), Sd p l e R s m args below meth c n0 T' h' cells slots → Wr h h' a (Jvm.RoadKit.slotOf Z O n d) v → G (T'.setTop (mkF m pc' ls st))) : G (T.setTop (mkF m pc ls (v :: .ref a :: st))) := by
  obtain ⟨locs, Y, N, eT⟩ := X
  subst hp
  obtain ⟨T', h', Y', e', W', q⟩ := putF Y w.2.1 w.2.2.2.2.1 (host := "") w.2.2.2.2.2.1 (Or.inl wl) via eT F E (L.imp id fun z => ⟨z.1, z.2.1, w.2.2.2.2.2.2.2.1.trans z.2.2⟩) wi hty hn hf (g := mkF m pc ls (v :: .ref a :: st)) rfl rfl (hb w.2.2.1 hd)
  exact w.1 _ _ q (k T' h' ⟨_, Y', Fr.snoc Y' N ha, e'⟩ W')
theorem putfieldN (w : Wk p l e R s m args below meth c n0 Z own nm bc ml rt Q G) (X : Sd p l e R s m args below meth c n0 T h cells slots) {R0 O n d C : String} {i kk : Nat} {ty : FieldType} {a : Addr} {v v' old : Value} (wl : (Cond.fieldLink own i R0 n d).before a0 Z = true) (via : Via Z R0 O n d) (F : Fld Z h a O n d old) (E : Exa Z h a C) (L : (Cond.lays C O n d).before a0 Z = true ∨ ((Cond.laysFinal C O n d).before a0 Z = true ∧ own = O ∧ nm = "<init>")) (wi : (Cond.instantiable C kk).before a0 Z = true) (hty : parseFieldDescriptor d = some ty) (hn : narrow ty v = v') (hf : fits ty v' = true) (ha : n0 ≤ a) (hd : decode bc pc = .ok (.putfield i, 3)) (pc' : Nat) (hp : pc + 3 = pc')
    (k : ∀ (T' : State) (h' : Heap), Sd p l e R s m args below meth c n0 T' h' cells slots → Wr h h' a (Jvm.RoadKit.slotOf Z O n d) v' → G (T'.setTop (mkF m pc' ls st))) : G (T.setTop (mkF m pc ls (v :: .ref a :: st))) := by
  obtain ⟨locs, Y, N, eT⟩ := X
  subst hp
  obtain ⟨T', h', Y', e', W', q⟩ := putFN Y w.2.1 w.2.2.2.2.1 w.2.2.2.2.2.1 wl via eT F E (L.imp id fun z => ⟨z.1, z.2.1, w.2.2.2.2.2.2.2.1.trans z.2.2⟩) wi hty hn hf (g := mkF m pc ls (v :: .ref a :: st)) rfl rfl (hb w.2.2.1 hd)
  exact w.1 _ _ q (k T' h' ⟨_, Y', Fr.snoc Y' N ha, e'⟩ W')
theorem new (w : Wk p l e R s m args below meth c n0 Z own nm bc ml rt Q G) (X : Sd p l e R s m args below meth c n0 T h cells slots) {C : String} {i n : Nat} (wl : (Cond.classLink own i C).before a0 Z = true) (wi : (Cond.instantiable C n).before a0 Z = true) (wz : (Cond.initialized C).before a0 Z = true) (hd : decode bc pc = .ok (.new i, 3)) (pc' : Nat) (hp : pc + 3 = pc') (hc : cells + 1 ≤ R.cells) (hl : slots + n ≤ R.slots)
    (k : ∀ (T' : State) (h' : Heap) (a : Addr), Sd p l e R s m args below meth c n0 T' h' (cells + 1) (slots + n) → a = h.size → Ext h h' → Exa Z h' a C → (∀ {O nm d : String} {ty : FieldType}, Laid Z a0 C O nm d → parseFieldDescriptor d = some ty → Fld Z h' a O nm d (defaultValue ty)) → G (T'.setTop (mkF m pc' ls (.ref a :: st)))) : G (T.setTop (mkF m pc ls st)) := by
  obtain ⟨locs, Y, N, eT⟩ := X
  subst hp
  obtain ⟨T', h', Y', e', E', A', D', -, q⟩ := newO Y w.2.1 w.2.2.2.2.1 w.2.2.2.2.2.1 wl wi wz eT (g := mkF m pc ls st) rfl (hb w.2.2.1 hd) hc hl
  exact w.1 _ _ q (k T' h' _ ⟨locs, Y', N, e'⟩ rfl E' A' D')
theorem newarr (w : Wk p l e R s m args below meth c n0 Z own nm bc ml rt Q G) (X : Sd p l e R s m args below meth c n0 T h cells slots) {aty : ArrayType} {n : Int32} (wa : (Cond.arrayClass (newarray.typeOf aty)).before a0 Z = true) (hd : decode bc pc = .ok (.newarray aty, 2)) (pc' : Nat) (hp : pc + 2 = pc') (hn : ¬ n < 0) (cap : Nat) (hcap : n.toNatClampNeg ≤ cap) (hb' : cap * 8 ≤ 536870912) (hc : cells + 1 ≤ R.cells) (hl : slots + cap ≤ R.slots)
    (k : ∀ (T' : State) (h' : Heap) (a : Addr) (cA : ClassId), Sd p l e R s m args below meth c n0 T' h' (cells + 1) (slots + cap) → a = h.size → Ext h h' → Arr Z h' a (newA cA (newarray.typeOf aty) n) (newarray.typeOf aty) → G (T'.setTop (mkF m pc' ls (.ref a :: st)))) : G (T.setTop (mkF m pc ls (.int n :: st))) := by
  obtain ⟨locs, Y, N, eT⟩ := X
  subst hp
  obtain ⟨T', h', cA, Y', e', E', A', q⟩ := newP Y w.2.1 w.2.2.2.2.1 wa eT (g := mkF m pc ls (.int n :: st)) rfl (hb w.2.2.1 hd) rfl hn hcap hb' hc hl
  exact w.1 _ _ q (k T' h' _ cA ⟨locs, Y', N, e'⟩ rfl E' A')
theorem initObj (w : Wk p l e R s m args below meth c n0 Z own nm bc ml rt Q G) (X : Sd p l e R s m args below meth c n0 T h cells slots) {i : Nat} {a : Addr} (w1 : (Cond.methodLink own i Lib.objectInit).before a0 Z = true) (w2 : (Cond.instanceMethod Lib.objectInit).before a0 Z = true) (w3 : (Cond.code Lib.objectInit ⟨#[0xb1]⟩ 1 none).before a0 Z = true) (hd : decode bc pc = .ok (.invokespecial i, 3)) (pc' : Nat) (hp : pc + 3 = pc') (hsz : ls.size = ml) (hf : 1 ≤ R.frames) (Wd : Nat) (hW : (st.map fun v => v.category).sum ≤ Wd) (hl : Wd + 12 ≤ R.locals)
    (k : ∀ T' : State, Sd p l e R s m args below meth c n0 T' h cells slots → G (T'.setTop (mkF m pc' ls st))) : G (T.setTop (mkF m pc ls (.ref a :: st))) := by
  obtain ⟨locs, Y, N, eT⟩ := X
  subst hp
  obtain ⟨T', Y', e', q⟩ := initO Y w.2.1 w.2.2.2.2.1 w.2.2.2.2.2.1 w1 w2 w3 eT (g := mkF m pc ls (.ref a :: st)) rfl (hsz.trans w.2.2.2.1.symm) rfl (hb w.2.2.1 hd) hf (W := Wd) (by show 2 * 0 + _ ≤ _; omega) hl
  exact w.1 _ _ q (k T' ⟨locs, Y', N, e'⟩)
theorem callS (w : Wk p l e R s m args below meth c n0 Z own nm bc ml rt Q G) (X : Sd p l e R s m args below meth c n0 T h cells slots) {y : MethodName} {ybc : ByteArray} {yml : Nat} {yrt : Option FieldType} {rm : Room} {i : Nat} {sk : List Value} {Qy : Option Value → Heap → Prop} (av : List Value) (w1 : (Cond.methodLink own i y).before a0 Z = true) (w2 : (Cond.static y).before a0 Z = true) (w3 : (Cond.initialized y.cls).before a0 Z = true) (w4 : (Cond.code y ybc yml yrt).before a0 Z = true) (hy : y.cls ≠ "java/lang/invoke/MethodHandle" ∧ y.cls ≠ "java/lang/invoke/VarHandle") (hM : Met l Z y ybc yml yrt [] rm av.toArray h n0 Qy) (hd : decode bc pc = .ok (.invokestatic i, 3)) (pc' : Nat) (hp : pc + 3 = pc') (Wd : Nat) (hfr : rm.frames + 1 ≤ R.frames) (hlo : Wd + (yml + 11) + rm.locals ≤ R.locals) (hlen : ∀ sig, parseMethodDescriptor y.desc = some sig → av.length = sig.parameters.length) (hst : sk = av.reverse ++ st) (hW : (st.map fun v => v.category).sum ≤ Wd) (hsz : ls.size = ml) (hc : cells + rm.cells ≤ R.cells) (hs : slots + rm.slots ≤ R.slots) (k : ∀ (v : Option Value) (T' : State) (h' : Heap), Sd p l e R s m args below meth c n0 T' h' (cells + rm.cells) (slots + rm.slots) → Qy v h' → G (T'.setTop (mkF m pc' ls (v.toList ++ st)))) : G (T.setTop (mkF m pc ls sk)) := by
  obtain ⟨locs, Y, N, eT⟩ := X
  subst hp hst
  have hZ := w.2.2.2.2.1
  obtain ⟨v, _, ⟨T', L', k', n'⟩, -, Y', ⟨Lc, ⟨hQ, NL⟩, l1, y1, z1⟩, q⟩ := Jvm.LawKit.callS Y w.2.1 (y := y) w.2.2.2.2.2.1 (mvT hZ w1) (mvT hZ w2) (mvT hZ w3) (mvT hZ w4) hy (backOf (W := Wd) (Q := fun v h' L => Qy v h' ∧ Fr n0 L) hM hZ w4 w3 hfr hlo) (g := mkF m pc ls (av.reverse ++ st)) rfl (hsz.trans w.2.2.2.1.symm) (argsL := av) (rest := st) hlen rfl (by show 2 * 0 + _ ≤ _; omega) (hb w.2.2.1 hd) (fun _ _ => ⟨rfl, eT, hc, hs⟩)
  dsimp only [Pt.U, Pt.locs, Pt.cells, Pt.slots] at Y' l1 y1 z1 q hQ
  subst l1 y1 z1
  exact w.1 _ _ q (k v T' _ ⟨_, Y', Fr.app N NL, rfl⟩ hQ)
theorem callN (w : Wk p l e R s m args below meth c n0 Z own nm bc ml rt Q G) (X : Sd p l e R s m args below meth c n0 T h cells slots) {y : MethodName} {ybc : ByteArray} {yml : Nat} {rm : Room} {i : Nat} {sk : List Value} {Qy : Option Value → Heap → Prop} {a : Addr} (av : List Value) (w1 : (Cond.methodLink own i y).before a0 Z = true) (w2 : (Cond.instanceMethod y).before a0 Z = true) (w3 : (Cond.initialized y.cls).before a0 Z = true) (w4 : (Cond.code y ybc yml none).before a0 Z = true) (hi : y.name = "<init>") (hy : y.cls ≠ "java/lang/invoke/MethodHandle" ∧ y.cls ≠ "java/lang/invoke/VarHandle") (hM : Met l Z y ybc yml none [] rm (.ref a :: av).toArray h n0 Qy) (hd : decode bc pc = .ok (.invokespecial i, 3)) (pc' : Nat) (hp : pc + 3 = pc') (Wd : Nat) (hfr : rm.frames + 1 ≤ R.frames) (hlo : Wd + (yml + 11) + rm.locals ≤ R.locals) (hlen : ∀ sig, parseMethodDescriptor y.desc = some sig → av.length = sig.parameters.length) (hst : sk = av.reverse ++ .ref a :: st) (hW : (st.map fun v => v.category).sum ≤ Wd) (hsz : ls.size = ml) (hc : cells + rm.cells ≤ R.cells) (hs : slots + rm.slots ≤ R.slots) (k : ∀ (v : Option Value) (T' : State) (h' : Heap), Sd p l e R s m args below meth c n0 T' h' (cells + rm.cells) (slots + rm.slots) → Qy v h' → G (T'.setTop (mkF m pc' ls (v.toList ++ st)))) : G (T.setTop (mkF m pc ls sk)) := by
  obtain ⟨locs, Y, N, eT⟩ := X
  subst hp hst
  have hZ := w.2.2.2.2.1
  obtain ⟨v, _, ⟨T', L', k', n'⟩, -, Y', ⟨Lc, ⟨hQ, NL⟩, l1, y1, z1⟩, q⟩ := Y.specialBack w.2.1 (y := y) hi w.2.2.2.2.2.1 (mvT hZ w1) (mvT hZ w2) (mvT hZ w4) hy (backOf (W := Wd) (Q := fun v h' L => Qy v h' ∧ Fr n0 L) hM hZ w4 w3 hfr hlo) (g := mkF m pc ls (av.reverse ++ .ref a :: st)) rfl (hsz.trans w.2.2.2.1.symm) (Steps.refl _) (a := a) (argsL := av) (rest := st) hlen rfl (by show 2 * 0 + _ ≤ _; omega) (hb w.2.2.1 hd) (fun _ _ => ⟨rfl, eT, hc, hs⟩)
  dsimp only [Pt.U, Pt.locs, Pt.cells, Pt.slots] at Y' l1 y1 z1 q hQ
  subst l1 y1 z1
  exact w.1 _ _ (fun t z => q.trans z) (k v T' _ ⟨_, Y', Fr.app N NL, rfl⟩ hQ)
theorem callV (w : Wk p l e R s m args below meth c n0 Z own nm bc ml rt Q G) (X : Sd p l e R s m args below meth c n0 T h cells slots) {y z : MethodName} {ybc : ByteArray} {yml : Nat} {yrt : Option FieldType} {rm : Room} {i : Nat} {sk : List Value} {Qy : Option Value → Heap → Prop} {C : String} {a : Addr} (av : List Value) (w1 : (Cond.methodLink own i y).before a0 Z = true) (w2 : (Cond.declares y).before a0 Z = true) (hnf : NotFace s y) (w5 : (Cond.selects C y z).before a0 Z = true) (w6 : (Cond.instanceMethod z).before a0 Z = true) (w3 : (Cond.initialized z.cls).before a0 Z = true) (w4 : (Cond.code z ybc yml yrt).before a0 Z = true) (hy : y.cls ≠ "java/lang/invoke/MethodHandle" ∧ y.cls ≠ "java/lang/invoke/VarHandle") (E : Exa Z h a C) (hM : Met l Z z ybc yml yrt [] rm (.ref a :: av).toArray h n0 Qy) (hd : decode bc pc = .ok (.invokevirtual i, 3)) (pc' : Nat) (hp : pc + 3 = pc') (Wd : Nat) (hfr : rm.frames + 1 ≤ R.frames) (hlo : Wd + (yml + 11) + rm.locals ≤ R.locals) (hlen : ∀ sig, parseMethodDescriptor y.desc = some sig → av.length = sig.parameters.length) (hst : sk = av.reverse ++ .ref a :: st) (hW : (st.map fun v => v.category).sum ≤ Wd) (hsz : ls.size = ml) (hc : cells + rm.cells ≤ R.cells) (hs : slots + rm.slots ≤ R.slots) (k : ∀ (v : Option Value) (T' : State) (h' : Heap), Sd p l e R s m args below meth c n0 T' h' (cells + rm.cells) (slots + rm.slots) → Qy v h' → G (T'.setTop (mkF m pc' ls (v.toList ++ st)))) : G (T.setTop (mkF m pc ls sk)) := by
  obtain ⟨locs, Y, N, eT⟩ := X
  subst hp hst
  have hZ := w.2.2.2.2.1
  obtain ⟨cq, kq, qa, qb, qc⟩ := isOf hZ eT E
  obtain ⟨v, _, ⟨T', L', k', n'⟩, -, Y', ⟨Lc, ⟨hQ, NL⟩, l1, y1, z1⟩, q⟩ := Y.virtualBack w.2.1 (y := y) (z := z) w.2.2.2.2.2.1 (mvT hZ w1) (mvT hZ w2) hnf (mvT hZ w5) (mvT hZ w6) hy (backOf (W := Wd) (Q := fun v h' L => Qy v h' ∧ Fr n0 L) hM hZ w4 w3 hfr hlo) qa qc (g := mkF m pc ls (av.reverse ++ .ref a :: st)) rfl (hsz.trans w.2.2.2.1.symm) (Steps.refl _) (argsL := av) (rest := st) hlen rfl (by show 2 * 0 + _ ≤ _; omega) (hb w.2.2.1 hd) (fun _ _ => ⟨rfl, eT, hc, hs⟩)
  dsimp only [Pt.U, Pt.locs, Pt.cells, Pt.slots] at Y' l1 y1 z1 q hQ
  subst l1 y1 z1
  exact w.1 _ _ (fun t z => q.trans z) (k v T' _ ⟨_, Y', Fr.app N NL, rfl⟩ hQ)
theorem callP (w : Wk p l e R s m args below meth c n0 Z own nm bc ml rt Q G) (X : Sd p l e R s m args below meth c n0 T h cells slots) {y : MethodName} {ybc : ByteArray} {yml : Nat} {yrt : Option FieldType} {rm : Room} {i : Nat} {sk : List Value} {Qy : Option Value → Heap → Prop} {a : Addr} (av : List Value) (w1 : (Cond.methodLink own i y).before a0 Z = true) (w6 : (Cond.instanceMethod y).before a0 Z = true) (w5 : (Cond.selects y.cls y y).before a0 Z = true) (w7 : (Cond.privateMethod y).before a0 Z = true) (w3 : (Cond.initialized y.cls).before a0 Z = true) (w4 : (Cond.code y ybc yml yrt).before a0 Z = true) (hy : y.cls ≠ "java/lang/invoke/MethodHandle" ∧ y.cls ≠ "java/lang/invoke/VarHandle") {C : String} (E : Exa Z h a C) (hM : Met l Z y ybc yml yrt [] rm (.ref a :: av).toArray h n0 Qy) (hd : decode bc pc = .ok (.invokevirtual i, 3)) (pc' : Nat) (hp : pc + 3 = pc') (Wd : Nat) (hfr : rm.frames + 1 ≤ R.frames) (hlo : Wd + (yml + 11) + rm.locals ≤ R.locals) (hlen : ∀ sig, parseMethodDescriptor y.desc = some sig → av.length = sig.parameters.length) (hst : sk = av.reverse ++ .ref a :: st) (hW : (st.map fun v => v.category).sum ≤ Wd) (hsz : ls.size = ml) (hc : cells + rm.cells ≤ R.cells) (hs : slots + rm.slots ≤ R.slots) (k : ∀ (v : Option Value) (T' : State) (h' : Heap), Sd p l e R s m args below meth c n0 T' h' (cells + rm.cells) (slots + rm.slots) → Qy v h' → G (T'.setTop (mkF m pc' ls (v.toList ++ st)))) : G (T.setTop (mkF m pc ls sk)) := by
  obtain ⟨locs, Y, N, eT⟩ := X
  subst hp hst
  have hZ := w.2.2.2.2.1
  obtain ⟨cq, qa, qc⟩ := E.cell
  obtain ⟨v, _, ⟨T', L', k', n'⟩, -, Y', ⟨Lc, ⟨hQ, NL⟩, l1, y1, z1⟩, q⟩ := Y.privateBack w.2.1 (y := y) w.2.2.2.2.2.1 (mvT hZ w1) (mvT hZ w6) (mvT hZ w5) (Cond.privateMethod_at (mvP hZ w7 (args := #[]))) (mvT hZ w4) hy (backOf (W := Wd) (Q := fun v h' L => Qy v h' ∧ Fr n0 L) hM hZ w4 w3 hfr hlo) (g := mkF m pc ls (av.reverse ++ .ref a :: st)) rfl (hsz.trans w.2.2.2.1.symm) (Steps.refl _) (a := a) (by rw [eT]; exact qa) qc (argsL := av) (rest := st) hlen rfl (by show 2 * 0 + _ ≤ _; omega) (hb w.2.2.1 hd) (fun _ _ => ⟨rfl, eT, hc, hs⟩)
  dsimp only [Pt.U, Pt.locs, Pt.cells, Pt.slots] at Y' l1 y1 z1 q hQ
  subst l1 y1 z1
  exact w.1 _ _ (fun t z => q.trans z) (k v T' _ ⟨_, Y', Fr.app N NL, rfl⟩ hQ)
theorem callSI (w : Wk p l e R s m args below meth c n0 Z own nm bc ml rt Q G) (X : Sd p l e R s m args below meth c n0 T h cells slots) {y : MethodName} {ybc : ByteArray} {yml : Nat} {yrt : Option FieldType} {rm : Room} {i : Nat} {sk : List Value} {P : Int32 → Heap → Prop}  (av : List Value) (w1 : (Cond.methodLink own i y).before a0 Z = true) (w2 : (Cond.static y).before a0 Z = true) (w3 : (Cond.initialized y.cls).before a0 Z = true) (w4 : (Cond.code y ybc yml yrt).before a0 Z = true) (hy : y.cls ≠ "java/lang/invoke/MethodHandle" ∧ y.cls ≠ "java/lang/invoke/VarHandle") (hM : Met l Z y ybc yml yrt [] rm av.toArray h n0 (RI P)) (hd : decode bc pc = .ok (.invokestatic i, 3)) (pc' : Nat) (hp : pc + 3 = pc') (Wd : Nat) (hfr : rm.frames + 1 ≤ R.frames) (hlo : Wd + (yml + 11) + rm.locals ≤ R.locals) (hlen : ∀ sig, parseMethodDescriptor y.desc = some sig → av.length = sig.parameters.length) (hst : sk = av.reverse ++ st) (hW : (st.map fun v => v.category).sum ≤ Wd) (hsz : ls.size = ml) (hc : cells + rm.cells ≤ R.cells) (hs : slots + rm.slots ≤ R.slots) (k : ∀ (r : Int32) (T' : State) (h' : Heap), Sd p l e R s m args below meth c n0 T' h' (cells + rm.cells) (slots + rm.slots) → P r h' → G (T'.setTop (mkF m pc' ls (.int r :: st)))) : G (T.setTop (mkF m pc ls sk)) := by
  refine callS w X av w1 w2 w3 w4 hy hM hd pc' hp Wd hfr hlo hlen hst hW hsz hc hs (fun v T' h' Y hq => ?_)
  obtain ⟨r, rfl, hr⟩ := hq
  exact k r T' h' Y hr
theorem callSPI (w : Wk p l e R s m args below meth c n0 Z own nm bc ml rt Q G) (X : Sd p l e R s m args below meth c n0 T h cells slots) {y : MethodName} {ybc : ByteArray} {yml : Nat} {yrt : Option FieldType} {rm : Room} {i : Nat} {sk : List Value} {P : Int32 → Prop}  (av : List Value) (w1 : (Cond.methodLink own i y).before a0 Z = true) (w2 : (Cond.static y).before a0 Z = true) (w3 : (Cond.initialized y.cls).before a0 Z = true) (w4 : (Cond.code y ybc yml yrt).before a0 Z = true) (hy : y.cls ≠ "java/lang/invoke/MethodHandle" ∧ y.cls ≠ "java/lang/invoke/VarHandle") (hM : Met l Z y ybc yml yrt [] rm av.toArray h n0 (RI fun r h' => h' = h ∧ P r)) (hd : decode bc pc = .ok (.invokestatic i, 3)) (pc' : Nat) (hp : pc + 3 = pc') (Wd : Nat) (hfr : rm.frames + 1 ≤ R.frames) (hlo : Wd + (yml + 11) + rm.locals ≤ R.locals) (hlen : ∀ sig, parseMethodDescriptor y.desc = some sig → av.length = sig.parameters.length) (hst : sk = av.reverse ++ st) (hW : (st.map fun v => v.category).sum ≤ Wd) (hsz : ls.size = ml) (hc : cells + rm.cells ≤ R.cells) (hs : slots + rm.slots ≤ R.slots) (k : ∀ (r : Int32) (T' : State), Sd p l e R s m args below meth c n0 T' h (cells + rm.cells) (slots + rm.slots) → P r → G (T'.setTop (mkF m pc' ls (.int r :: st)))) : G (T.setTop (mkF m pc ls sk)) := by
  refine callSI w X av w1 w2 w3 w4 hy hM hd pc' hp Wd hfr hlo hlen hst hW hsz hc hs (fun r T' h' Y hq => ?_)
  obtain ⟨q, hr⟩ := hq
  subst q
  exact k r T' Y hr
theorem callSJ (w : Wk p l e R s m args below meth c n0 Z own nm bc ml rt Q G) (X : Sd p l e R s m args below meth c n0 T h cells slots) {y : MethodName} {ybc : ByteArray} {yml : Nat} {yrt : Option FieldType} {rm : Room} {i : Nat} {sk : List Value} {P : Int64 → Heap → Prop}  (av : List Value) (w1 : (Cond.methodLink own i y).before a0 Z = true) (w2 : (Cond.static y).before a0 Z = true) (w3 : (Cond.initialized y.cls).before a0 Z = true) (w4 : (Cond.code y ybc yml yrt).before a0 Z = true) (hy : y.cls ≠ "java/lang/invoke/MethodHandle" ∧ y.cls ≠ "java/lang/invoke/VarHandle") (hM : Met l Z y ybc yml yrt [] rm av.toArray h n0 (RJ P)) (hd : decode bc pc = .ok (.invokestatic i, 3)) (pc' : Nat) (hp : pc + 3 = pc') (Wd : Nat) (hfr : rm.frames + 1 ≤ R.frames) (hlo : Wd + (yml + 11) + rm.locals ≤ R.locals) (hlen : ∀ sig, parseMethodDescriptor y.desc = some sig → av.length = sig.parameters.length) (hst : sk = av.reverse ++ st) (hW : (st.map fun v => v.category).sum ≤ Wd) (hsz : ls.size = ml) (hc : cells + rm.cells ≤ R.cells) (hs : slots + rm.slots ≤ R.slots) (k : ∀ (r : Int64) (T' : State) (h' : Heap), Sd p l e R s m args below meth c n0 T' h' (cells + rm.cells) (slots + rm.slots) → P r h' → G (T'.setTop (mkF m pc' ls (.long r :: st)))) : G (T.setTop (mkF m pc ls sk)) := by
  refine callS w X av w1 w2 w3 w4 hy hM hd pc' hp Wd hfr hlo hlen hst hW hsz hc hs (fun v T' h' Y hq => ?_)
  obtain ⟨r, rfl, hr⟩ := hq
  exact k r T' h' Y hr
theorem callSPJ (w : Wk p l e R s m args below meth c n0 Z own nm bc ml rt Q G) (X : Sd p l e R s m args below meth c n0 T h cells slots) {y : MethodName} {ybc : ByteArray} {yml : Nat} {yrt : Option FieldType} {rm : Room} {i : Nat} {sk : List Value} {P : Int64 → Prop}  (av : List Value) (w1 : (Cond.methodLink own i y).before a0 Z = true) (w2 : (Cond.static y).before a0 Z = true) (w3 : (Cond.initialized y.cls).before a0 Z = true) (w4 : (Cond.code y ybc yml yrt).before a0 Z = true) (hy : y.cls ≠ "java/lang/invoke/MethodHandle" ∧ y.cls ≠ "java/lang/invoke/VarHandle") (hM : Met l Z y ybc yml yrt [] rm av.toArray h n0 (RJ fun r h' => h' = h ∧ P r)) (hd : decode bc pc = .ok (.invokestatic i, 3)) (pc' : Nat) (hp : pc + 3 = pc') (Wd : Nat) (hfr : rm.frames + 1 ≤ R.frames) (hlo : Wd + (yml + 11) + rm.locals ≤ R.locals) (hlen : ∀ sig, parseMethodDescriptor y.desc = some sig → av.length = sig.parameters.length) (hst : sk = av.reverse ++ st) (hW : (st.map fun v => v.category).sum ≤ Wd) (hsz : ls.size = ml) (hc : cells + rm.cells ≤ R.cells) (hs : slots + rm.slots ≤ R.slots) (k : ∀ (r : Int64) (T' : State), Sd p l e R s m args below meth c n0 T' h (cells + rm.cells) (slots + rm.slots) → P r → G (T'.setTop (mkF m pc' ls (.long r :: st)))) : G (T.setTop (mkF m pc ls sk)) := by
  refine callSJ w X av w1 w2 w3 w4 hy hM hd pc' hp Wd hfr hlo hlen hst hW hsz hc hs (fun r T' h' Y hq => ?_)
  obtain ⟨q, hr⟩ := hq
  subst q
  exact k r T' Y hr
theorem callSR (w : Wk p l e R s m args below meth c n0 Z own nm bc ml rt Q G) (X : Sd p l e R s m args below meth c n0 T h cells slots) {y : MethodName} {ybc : ByteArray} {yml : Nat} {yrt : Option FieldType} {rm : Room} {i : Nat} {sk : List Value} {P : Value → Heap → Prop}  (av : List Value) (w1 : (Cond.methodLink own i y).before a0 Z = true) (w2 : (Cond.static y).before a0 Z = true) (w3 : (Cond.initialized y.cls).before a0 Z = true) (w4 : (Cond.code y ybc yml yrt).before a0 Z = true) (hy : y.cls ≠ "java/lang/invoke/MethodHandle" ∧ y.cls ≠ "java/lang/invoke/VarHandle") (hM : Met l Z y ybc yml yrt [] rm av.toArray h n0 (RR P)) (hd : decode bc pc = .ok (.invokestatic i, 3)) (pc' : Nat) (hp : pc + 3 = pc') (Wd : Nat) (hfr : rm.frames + 1 ≤ R.frames) (hlo : Wd + (yml + 11) + rm.locals ≤ R.locals) (hlen : ∀ sig, parseMethodDescriptor y.desc = some sig → av.length = sig.parameters.length) (hst : sk = av.reverse ++ st) (hW : (st.map fun v => v.category).sum ≤ Wd) (hsz : ls.size = ml) (hc : cells + rm.cells ≤ R.cells) (hs : slots + rm.slots ≤ R.slots) (k : ∀ (r : Value) (T' : State) (h' : Heap), Sd p l e R s m args below meth c n0 T' h' (cells + rm.cells) (slots + rm.slots) → P r h' → G (T'.setTop (mkF m pc' ls (r :: st)))) : G (T.setTop (mkF m pc ls sk)) := by
  refine callS w X av w1 w2 w3 w4 hy hM hd pc' hp Wd hfr hlo hlen hst hW hsz hc hs (fun v T' h' Y hq => ?_)
  obtain ⟨r, rfl, hr⟩ := hq
  exact k r T' h' Y hr
theorem callSPR (w : Wk p l e R s m args below meth c n0 Z own nm bc ml rt Q G) (X : Sd p l e R s m args below meth c n0 T h cells slots) {y : MethodName} {ybc : ByteArray} {yml : Nat} {yrt : Option FieldType} {rm : Room} {i : Nat} {sk : List Value} {P : Value → Prop}  (av : List Value) (w1 : (Cond.methodLink own i y).before a0 Z = true) (w2 : (Cond.static y).before a0 Z = true) (w3 : (Cond.initialized y.cls).before a0 Z = true) (w4 : (Cond.code y ybc yml yrt).before a0 Z = true) (hy : y.cls ≠ "java/lang/invoke/MethodHandle" ∧ y.cls ≠ "java/lang/invoke/VarHandle") (hM : Met l Z y ybc yml yrt [] rm av.toArray h n0 (RR fun r h' => h' = h ∧ P r)) (hd : decode bc pc = .ok (.invokestatic i, 3)) (pc' : Nat) (hp : pc + 3 = pc') (Wd : Nat) (hfr : rm.frames + 1 ≤ R.frames) (hlo : Wd + (yml + 11) + rm.locals ≤ R.locals) (hlen : ∀ sig, parseMethodDescriptor y.desc = some sig → av.length = sig.parameters.length) (hst : sk = av.reverse ++ st) (hW : (st.map fun v => v.category).sum ≤ Wd) (hsz : ls.size = ml) (hc : cells + rm.cells ≤ R.cells) (hs : slots + rm.slots ≤ R.slots) (k : ∀ (r : Value) (T' : State), Sd p l e R s m args below meth c n0 T' h (cells + rm.cells) (slots + rm.slots) → P r → G (T'.setTop (mkF m pc' ls (r :: st)))) : G (T.setTop (mkF m pc ls sk)) := by
  refine callSR w X av w1 w2 w3 w4 hy hM hd pc' hp Wd hfr hlo hlen hst hW hsz hc hs (fun r T' h' Y hq => ?_)
  obtain ⟨q, hr⟩ := hq
  subst q
  exact k r T' Y hr
theorem callSV (w : Wk p l e R s m args below meth c n0 Z own nm bc ml rt Q G) (X : Sd p l e R s m args below meth c n0 T h cells slots) {y : MethodName} {ybc : ByteArray} {yml : Nat} {yrt : Option FieldType} {rm : Room} {i : Nat} {sk : List Value} {P : Heap → Prop}  (av : List Value) (w1 : (Cond.methodLink own i y).before a0 Z = true) (w2 : (Cond.static y).before a0 Z = true) (w3 : (Cond.initialized y.cls).before a0 Z = true) (w4 : (Cond.code y ybc yml yrt).before a0 Z = true) (hy : y.cls ≠ "java/lang/invoke/MethodHandle" ∧ y.cls ≠ "java/lang/invoke/VarHandle") (hM : Met l Z y ybc yml yrt [] rm av.toArray h n0 (RV P)) (hd : decode bc pc = .ok (.invokestatic i, 3)) (pc' : Nat) (hp : pc + 3 = pc') (Wd : Nat) (hfr : rm.frames + 1 ≤ R.frames) (hlo : Wd + (yml + 11) + rm.locals ≤ R.locals) (hlen : ∀ sig, parseMethodDescriptor y.desc = some sig → av.length = sig.parameters.length) (hst : sk = av.reverse ++ st) (hW : (st.map fun v => v.category).sum ≤ Wd) (hsz : ls.size = ml) (hc : cells + rm.cells ≤ R.cells) (hs : slots + rm.slots ≤ R.slots) (k : ∀  (T' : State) (h' : Heap), Sd p l e R s m args below meth c n0 T' h' (cells + rm.cells) (slots + rm.slots) → P h' → G (T'.setTop (mkF m pc' ls (st)))) : G (T.setTop (mkF m pc ls sk)) := by
  refine callS w X av w1 w2 w3 w4 hy hM hd pc' hp Wd hfr hlo hlen hst hW hsz hc hs (fun v T' h' Y hq => ?_)
  obtain ⟨rfl, hr⟩ := hq
  exact k T' h' Y hr
theorem callSPV (w : Wk p l e R s m args below meth c n0 Z own nm bc ml rt Q G) (X : Sd p l e R s m args below meth c n0 T h cells slots) {y : MethodName} {ybc : ByteArray} {yml : Nat} {yrt : Option FieldType} {rm : Room} {i : Nat} {sk : List Value}  (av : List Value) (w1 : (Cond.methodLink own i y).before a0 Z = true) (w2 : (Cond.static y).before a0 Z = true) (w3 : (Cond.initialized y.cls).before a0 Z = true) (w4 : (Cond.code y ybc yml yrt).before a0 Z = true) (hy : y.cls ≠ "java/lang/invoke/MethodHandle" ∧ y.cls ≠ "java/lang/invoke/VarHandle") (hM : Met l Z y ybc yml yrt [] rm av.toArray h n0 (RV fun h' => h' = h)) (hd : decode bc pc = .ok (.invokestatic i, 3)) (pc' : Nat) (hp : pc + 3 = pc') (Wd : Nat) (hfr : rm.frames + 1 ≤ R.frames) (hlo : Wd + (yml + 11) + rm.locals ≤ R.locals) (hlen : ∀ sig, parseMethodDescriptor y.desc = some sig → av.length = sig.parameters.length) (hst : sk = av.reverse ++ st) (hW : (st.map fun v => v.category).sum ≤ Wd) (hsz : ls.size = ml) (hc : cells + rm.cells ≤ R.cells) (hs : slots + rm.slots ≤ R.slots) (k : ∀ (T' : State), Sd p l e R s m args below meth c n0 T' h (cells + rm.cells) (slots + rm.slots) → G (T'.setTop (mkF m pc' ls st))) : G (T.setTop (mkF m pc ls sk)) := by
  refine callSV w X av w1 w2 w3 w4 hy hM hd pc' hp Wd hfr hlo hlen hst hW hsz hc hs (fun T' h' Y hq => ?_)
  subst hq
  exact k T' Y
theorem callNV (w : Wk p l e R s m args below meth c n0 Z own nm bc ml rt Q G) (X : Sd p l e R s m args below meth c n0 T h cells slots) {y : MethodName} {ybc : ByteArray} {yml : Nat} {rm : Room} {i : Nat} {sk : List Value} {P : Heap → Prop} {a : Addr} (av : List Value) (w1 : (Cond.methodLink own i y).before a0 Z = true) (w2 : (Cond.instanceMethod y).before a0 Z = true) (w3 : (Cond.initialized y.cls).before a0 Z = true) (w4 : (Cond.code y ybc yml none).before a0 Z = true) (hi : y.name = "<init>") (hy : y.cls ≠ "java/lang/invoke/MethodHandle" ∧ y.cls ≠ "java/lang/invoke/VarHandle") (hM : Met l Z y ybc yml none [] rm (.ref a :: av).toArray h n0 (RV P)) (hd : decode bc pc = .ok (.invokespecial i, 3)) (pc' : Nat) (hp : pc + 3 = pc') (Wd : Nat) (hfr : rm.frames + 1 ≤ R.frames) (hlo : Wd + (yml + 11) + rm.locals ≤ R.locals) (hlen : ∀ sig, parseMethodDescriptor y.desc = some sig → av.length = sig.parameters.length) (hst : sk = av.reverse ++ .ref a :: st) (hW : (st.map fun v => v.category).sum ≤ Wd) (hsz : ls.size = ml) (hc : cells + rm.cells ≤ R.cells) (hs : slots + rm.slots ≤ R.slots) (k : ∀  (T' : State) (h' : Heap), Sd p l e R s m args below meth c n0 T' h' (cells + rm.cells) (slots + rm.slots) → P h' → G (T'.setTop (mkF m pc' ls (st)))) : G (T.setTop (mkF m pc ls sk)) := by
  refine callN w X av w1 w2 w3 w4 hi hy hM hd pc' hp Wd hfr hlo hlen hst hW hsz hc hs (fun v T' h' Y hq => ?_)
  obtain ⟨rfl, hr⟩ := hq
  exact k T' h' Y hr
theorem callNPV (w : Wk p l e R s m args below meth c n0 Z own nm bc ml rt Q G) (X : Sd p l e R s m args below meth c n0 T h cells slots) {y : MethodName} {ybc : ByteArray} {yml : Nat} {rm : Room} {i : Nat} {sk : List Value} {a : Addr} (av : List Value) (w1 : (Cond.methodLink own i y).before a0 Z = true) (w2 : (Cond.instanceMethod y).before a0 Z = true) (w3 : (Cond.initialized y.cls).before a0 Z = true) (w4 : (Cond.code y ybc yml none).before a0 Z = true) (hi : y.name = "<init>") (hy : y.cls ≠ "java/lang/invoke/MethodHandle" ∧ y.cls ≠ "java/lang/invoke/VarHandle") (hM : Met l Z y ybc yml none [] rm (.ref a :: av).toArray h n0 (RV fun h' => h' = h)) (hd : decode bc pc = .ok (.invokespecial i, 3)) (pc' : Nat) (hp : pc + 3 = pc') (Wd : Nat) (hfr : rm.frames + 1 ≤ R.frames) (hlo : Wd + (yml + 11) + rm.locals ≤ R.locals) (hlen : ∀ sig, parseMethodDescriptor y.desc = some sig → av.length = sig.parameters.length) (hst : sk = av.reverse ++ .ref a :: st) (hW : (st.map fun v => v.category).sum ≤ Wd) (hsz : ls.size = ml) (hc : cells + rm.cells ≤ R.cells) (hs : slots + rm.slots ≤ R.slots) (k : ∀ (T' : State), Sd p l e R s m args below meth c n0 T' h (cells + rm.cells) (slots + rm.slots) → G (T'.setTop (mkF m pc' ls st))) : G (T.setTop (mkF m pc ls sk)) := by
  refine callNV w X av w1 w2 w3 w4 hi hy hM hd pc' hp Wd hfr hlo hlen hst hW hsz hc hs (fun T' h' Y hq => ?_)
  subst hq
  exact k T' Y
theorem callVI (w : Wk p l e R s m args below meth c n0 Z own nm bc ml rt Q G) (X : Sd p l e R s m args below meth c n0 T h cells slots) {y z : MethodName} {ybc : ByteArray} {yml : Nat} {yrt : Option FieldType} {rm : Room} {i : Nat} {sk : List Value} {P : Int32 → Heap → Prop} {a : Addr} {C : String} (av : List Value) (w1 : (Cond.methodLink own i y).before a0 Z = true) (w2 : (Cond.declares y).before a0 Z = true) (hnf : NotFace s y) (w5 : (Cond.selects C y z).before a0 Z = true) (w6 : (Cond.instanceMethod z).before a0 Z = true) (w3 : (Cond.initialized z.cls).before a0 Z = true) (w4 : (Cond.code z ybc yml yrt).before a0 Z = true) (hy : y.cls ≠ "java/lang/invoke/MethodHandle" ∧ y.cls ≠ "java/lang/invoke/VarHandle") (E : Exa Z h a C) (hM : Met l Z z ybc yml yrt [] rm (.ref a :: av).toArray h n0 (RI P)) (hd : decode bc pc = .ok (.invokevirtual i, 3)) (pc' : Nat) (hp : pc + 3 = pc') (Wd : Nat) (hfr : rm.frames + 1 ≤ R.frames) (hlo : Wd + (yml + 11) + rm.locals ≤ R.locals) (hlen : ∀ sig, parseMethodDescriptor y.desc = some sig → av.length = sig.parameters.length) (hst : sk = av.reverse ++ .ref a :: st) (hW : (st.map fun v => v.category).sum ≤ Wd) (hsz : ls.size = ml) (hc : cells + rm.cells ≤ R.cells) (hs : slots + rm.slots ≤ R.slots) (k : ∀ (r : Int32) (T' : State) (h' : Heap), Sd p l e R s m args below meth c n0 T' h' (cells + rm.cells) (slots + rm.slots) → P r h' → G (T'.setTop (mkF m pc' ls (.int r :: st)))) : G (T.setTop (mkF m pc ls sk)) := by
  refine callV w X av w1 w2 hnf w5 w6 w3 w4 hy E hM hd pc' hp Wd hfr hlo hlen hst hW hsz hc hs (fun v T' h' Y hq => ?_)
  obtain ⟨r, rfl, hr⟩ := hq
  exact k r T' h' Y hr
theorem callVPI (w : Wk p l e R s m args below meth c n0 Z own nm bc ml rt Q G) (X : Sd p l e R s m args below meth c n0 T h cells slots) {y z : MethodName} {ybc : ByteArray} {yml : Nat} {yrt : Option FieldType} {rm : Room} {i : Nat} {sk : List Value} {P : Int32 → Prop} {a : Addr} {C : String} (av : List Value) (w1 : (Cond.methodLink own i y).before a0 Z = true) (w2 : (Cond.declares y).before a0 Z = true) (hnf : NotFace s y) (w5 : (Cond.selects C y z).before a0 Z = true) (w6 : (Cond.instanceMethod z).before a0 Z = true) (w3 : (Cond.initialized z.cls).before a0 Z = true) (w4 : (Cond.code z ybc yml yrt).before a0 Z = true) (hy : y.cls ≠ "java/lang/invoke/MethodHandle" ∧ y.cls ≠ "java/lang/invoke/VarHandle") (E : Exa Z h a C) (hM : Met l Z z ybc yml yrt [] rm (.ref a :: av).toArray h n0 (RI fun r h' => h' = h ∧ P r)) (hd : decode bc pc = .ok (.invokevirtual i, 3)) (pc' : Nat) (hp : pc + 3 = pc') (Wd : Nat) (hfr : rm.frames + 1 ≤ R.frames) (hlo : Wd + (yml + 11) + rm.locals ≤ R.locals) (hlen : ∀ sig, parseMethodDescriptor y.desc = some sig → av.length = sig.parameters.length) (hst : sk = av.reverse ++ .ref a :: st) (hW : (st.map fun v => v.category).sum ≤ Wd) (hsz : ls.size = ml) (hc : cells + rm.cells ≤ R.cells) (hs : slots + rm.slots ≤ R.slots) (k : ∀ (r : Int32) (T' : State), Sd p l e R s m args below meth c n0 T' h (cells + rm.cells) (slots + rm.slots) → P r → G (T'.setTop (mkF m pc' ls (.int r :: st)))) : G (T.setTop (mkF m pc ls sk)) := by
  refine callVI w X av w1 w2 hnf w5 w6 w3 w4 hy E hM hd pc' hp Wd hfr hlo hlen hst hW hsz hc hs (fun r T' h' Y hq => ?_)
  obtain ⟨q, hr⟩ := hq
  subst q
  exact k r T' Y hr
theorem callVJ (w : Wk p l e R s m args below meth c n0 Z own nm bc ml rt Q G) (X : Sd p l e R s m args below meth c n0 T h cells slots) {y z : MethodName} {ybc : ByteArray} {yml : Nat} {yrt : Option FieldType} {rm : Room} {i : Nat} {sk : List Value} {P : Int64 → Heap → Prop} {a : Addr} {C : String} (av : List Value) (w1 : (Cond.methodLink own i y).before a0 Z = true) (w2 : (Cond.declares y).before a0 Z = true) (hnf : NotFace s y) (w5 : (Cond.selects C y z).before a0 Z = true) (w6 : (Cond.instanceMethod z).before a0 Z = true) (w3 : (Cond.initialized z.cls).before a0 Z = true) (w4 : (Cond.code z ybc yml yrt).before a0 Z = true) (hy : y.cls ≠ "java/lang/invoke/MethodHandle" ∧ y.cls ≠ "java/lang/invoke/VarHandle") (E : Exa Z h a C) (hM : Met l Z z ybc yml yrt [] rm (.ref a :: av).toArray h n0 (RJ P)) (hd : decode bc pc = .ok (.invokevirtual i, 3)) (pc' : Nat) (hp : pc + 3 = pc') (Wd : Nat) (hfr : rm.frames + 1 ≤ R.frames) (hlo : Wd + (yml + 11) + rm.locals ≤ R.locals) (hlen : ∀ sig, parseMethodDescriptor y.desc = some sig → av.length = sig.parameters.length) (hst : sk = av.reverse ++ .ref a :: st) (hW : (st.map fun v => v.category).sum ≤ Wd) (hsz : ls.size = ml) (hc : cells + rm.cells ≤ R.cells) (hs : slots + rm.slots ≤ R.slots) (k : ∀ (r : Int64) (T' : State) (h' : Heap), Sd p l e R s m args below meth c n0 T' h' (cells + rm.cells) (slots + rm.slots) → P r h' → G (T'.setTop (mkF m pc' ls (.long r :: st)))) : G (T.setTop (mkF m pc ls sk)) := by
  refine callV w X av w1 w2 hnf w5 w6 w3 w4 hy E hM hd pc' hp Wd hfr hlo hlen hst hW hsz hc hs (fun v T' h' Y hq => ?_)
  obtain ⟨r, rfl, hr⟩ := hq
  exact k r T' h' Y hr
theorem callVPJ (w : Wk p l e R s m args below meth c n0 Z own nm bc ml rt Q G) (X : Sd p l e R s m args below meth c n0 T h cells slots) {y z : MethodName} {ybc : ByteArray} {yml : Nat} {yrt : Option FieldType} {rm : Room} {i : Nat} {sk : List Value} {P : Int64 → Prop} {a : Addr} {C : String} (av : List Value) (w1 : (Cond.methodLink own i y).before a0 Z = true) (w2 : (Cond.declares y).before a0 Z = true) (hnf : NotFace s y) (w5 : (Cond.selects C y z).before a0 Z = true) (w6 : (Cond.instanceMethod z).before a0 Z = true) (w3 : (Cond.initialized z.cls).before a0 Z = true) (w4 : (Cond.code z ybc yml yrt).before a0 Z = true) (hy : y.cls ≠ "java/lang/invoke/MethodHandle" ∧ y.cls ≠ "java/lang/invoke/VarHandle") (E : Exa Z h a C) (hM : Met l Z z ybc yml yrt [] rm (.ref a :: av).toArray h n0 (RJ fun r h' => h' = h ∧ P r)) (hd : decode bc pc = .ok (.invokevirtual i, 3)) (pc' : Nat) (hp : pc + 3 = pc') (Wd : Nat) (hfr : rm.frames + 1 ≤ R.frames) (hlo : Wd + (yml + 11) + rm.locals ≤ R.locals) (hlen : ∀ sig, parseMethodDescriptor y.desc = some sig → av.length = sig.parameters.length) (hst : sk = av.reverse ++ .ref a :: st) (hW : (st.map fun v => v.category).sum ≤ Wd) (hsz : ls.size = ml) (hc : cells + rm.cells ≤ R.cells) (hs : slots + rm.slots ≤ R.slots) (k : ∀ (r : Int64) (T' : State), Sd p l e R s m args below meth c n0 T' h (cells + rm.cells) (slots + rm.slots) → P r → G (T'.setTop (mkF m pc' ls (.long r :: st)))) : G (T.setTop (mkF m pc ls sk)) := by
  refine callVJ w X av w1 w2 hnf w5 w6 w3 w4 hy E hM hd pc' hp Wd hfr hlo hlen hst hW hsz hc hs (fun r T' h' Y hq => ?_)
  obtain ⟨q, hr⟩ := hq
  subst q
  exact k r T' Y hr
theorem callVR (w : Wk p l e R s m args below meth c n0 Z own nm bc ml rt Q G) (X : Sd p l e R s m args below meth c n0 T h cells slots) {y z : MethodName} {ybc : ByteArray} {yml : Nat} {yrt : Option FieldType} {rm : Room} {i : Nat} {sk : List Value} {P : Value → Heap → Prop} {a : Addr} {C : String} (av : List Value) (w1 : (Cond.methodLink own i y).before a0 Z = true) (w2 : (Cond.declares y).before a0 Z = true) (hnf : NotFace s y) (w5 : (Cond.selects C y z).before a0 Z = true) (w6 : (Cond.instanceMethod z).before a0 Z = true) (w3 : (Cond.initialized z.cls).before a0 Z = true) (w4 : (Cond.code z ybc yml yrt).before a0 Z = true) (hy : y.cls ≠ "java/lang/invoke/MethodHandle" ∧ y.cls ≠ "java/lang/invoke/VarHandle") (E : Exa Z h a C) (hM : Met l Z z ybc yml yrt [] rm (.ref a :: av).toArray h n0 (RR P)) (hd : decode bc pc = .ok (.invokevirtual i, 3)) (pc' : Nat) (hp : pc + 3 = pc') (Wd : Nat) (hfr : rm.frames + 1 ≤ R.frames) (hlo : Wd + (yml + 11) + rm.locals ≤ R.locals) (hlen : ∀ sig, parseMethodDescriptor y.desc = some sig → av.length = sig.parameters.length) (hst : sk = av.reverse ++ .ref a :: st) (hW : (st.map fun v => v.category).sum ≤ Wd) (hsz : ls.size = ml) (hc : cells + rm.cells ≤ R.cells) (hs : slots + rm.slots ≤ R.slots) (k : ∀ (r : Value) (T' : State) (h' : Heap), Sd p l e R s m args below meth c n0 T' h' (cells + rm.cells) (slots + rm.slots) → P r h' → G (T'.setTop (mkF m pc' ls (r :: st)))) : G (T.setTop (mkF m pc ls sk)) := by
  refine callV w X av w1 w2 hnf w5 w6 w3 w4 hy E hM hd pc' hp Wd hfr hlo hlen hst hW hsz hc hs (fun v T' h' Y hq => ?_)
  obtain ⟨r, rfl, hr⟩ := hq
  exact k r T' h' Y hr
theorem callVPR (w : Wk p l e R s m args below meth c n0 Z own nm bc ml rt Q G) (X : Sd p l e R s m args below meth c n0 T h cells slots) {y z : MethodName} {ybc : ByteArray} {yml : Nat} {yrt : Option FieldType} {rm : Room} {i : Nat} {sk : List Value} {P : Value → Prop} {a : Addr} {C : String} (av : List Value) (w1 : (Cond.methodLink own i y).before a0 Z = true) (w2 : (Cond.declares y).before a0 Z = true) (hnf : NotFace s y) (w5 : (Cond.selects C y z).before a0 Z = true) (w6 : (Cond.instanceMethod z).before a0 Z = true) (w3 : (Cond.initialized z.cls).before a0 Z = true) (w4 : (Cond.code z ybc yml yrt).before a0 Z = true) (hy : y.cls ≠ "java/lang/invoke/MethodHandle" ∧ y.cls ≠ "java/lang/invoke/VarHandle") (E : Exa Z h a C) (hM : Met l Z z ybc yml yrt [] rm (.ref a :: av).toArray h n0 (RR fun r h' => h' = h ∧ P r)) (hd : decode bc pc = .ok (.invokevirtual i, 3)) (pc' : Nat) (hp : pc + 3 = pc') (Wd : Nat) (hfr : rm.frames + 1 ≤ R.frames) (hlo : Wd + (yml + 11) + rm.locals ≤ R.locals) (hlen : ∀ sig, parseMethodDescriptor y.desc = some sig → av.length = sig.parameters.length) (hst : sk = av.reverse ++ .ref a :: st) (hW : (st.map fun v => v.category).sum ≤ Wd) (hsz : ls.size = ml) (hc : cells + rm.cells ≤ R.cells) (hs : slots + rm.slots ≤ R.slots) (k : ∀ (r : Value) (T' : State), Sd p l e R s m args below meth c n0 T' h (cells + rm.cells) (slots + rm.slots) → P r → G (T'.setTop (mkF m pc' ls (r :: st)))) : G (T.setTop (mkF m pc ls sk)) := by
  refine callVR w X av w1 w2 hnf w5 w6 w3 w4 hy E hM hd pc' hp Wd hfr hlo hlen hst hW hsz hc hs (fun r T' h' Y hq => ?_)
  obtain ⟨q, hr⟩ := hq
  subst q
  exact k r T' Y hr
theorem callVV (w : Wk p l e R s m args below meth c n0 Z own nm bc ml rt Q G) (X : Sd p l e R s m args below meth c n0 T h cells slots) {y z : MethodName} {ybc : ByteArray} {yml : Nat} {yrt : Option FieldType} {rm : Room} {i : Nat} {sk : List Value} {P : Heap → Prop} {a : Addr} {C : String} (av : List Value) (w1 : (Cond.methodLink own i y).before a0 Z = true) (w2 : (Cond.declares y).before a0 Z = true) (hnf : NotFace s y) (w5 : (Cond.selects C y z).before a0 Z = true) (w6 : (Cond.instanceMethod z).before a0 Z = true) (w3 : (Cond.initialized z.cls).before a0 Z = true) (w4 : (Cond.code z ybc yml yrt).before a0 Z = true) (hy : y.cls ≠ "java/lang/invoke/MethodHandle" ∧ y.cls ≠ "java/lang/invoke/VarHandle") (E : Exa Z h a C) (hM : Met l Z z ybc yml yrt [] rm (.ref a :: av).toArray h n0 (RV P)) (hd : decode bc pc = .ok (.invokevirtual i, 3)) (pc' : Nat) (hp : pc + 3 = pc') (Wd : Nat) (hfr : rm.frames + 1 ≤ R.frames) (hlo : Wd + (yml + 11) + rm.locals ≤ R.locals) (hlen : ∀ sig, parseMethodDescriptor y.desc = some sig → av.length = sig.parameters.length) (hst : sk = av.reverse ++ .ref a :: st) (hW : (st.map fun v => v.category).sum ≤ Wd) (hsz : ls.size = ml) (hc : cells + rm.cells ≤ R.cells) (hs : slots + rm.slots ≤ R.slots) (k : ∀  (T' : State) (h' : Heap), Sd p l e R s m args below meth c n0 T' h' (cells + rm.cells) (slots + rm.slots) → P h' → G (T'.setTop (mkF m pc' ls (st)))) : G (T.setTop (mkF m pc ls sk)) := by
  refine callV w X av w1 w2 hnf w5 w6 w3 w4 hy E hM hd pc' hp Wd hfr hlo hlen hst hW hsz hc hs (fun v T' h' Y hq => ?_)
  obtain ⟨rfl, hr⟩ := hq
  exact k T' h' Y hr
theorem callVPV (w : Wk p l e R s m args below meth c n0 Z own nm bc ml rt Q G) (X : Sd p l e R s m args below meth c n0 T h cells slots) {y z : MethodName} {ybc : ByteArray} {yml : Nat} {yrt : Option FieldType} {rm : Room} {i : Nat} {sk : List Value} {a : Addr} {C : String} (av : List Value) (w1 : (Cond.methodLink own i y).before a0 Z = true) (w2 : (Cond.declares y).before a0 Z = true) (hnf : NotFace s y) (w5 : (Cond.selects C y z).before a0 Z = true) (w6 : (Cond.instanceMethod z).before a0 Z = true) (w3 : (Cond.initialized z.cls).before a0 Z = true) (w4 : (Cond.code z ybc yml yrt).before a0 Z = true) (hy : y.cls ≠ "java/lang/invoke/MethodHandle" ∧ y.cls ≠ "java/lang/invoke/VarHandle") (E : Exa Z h a C) (hM : Met l Z z ybc yml yrt [] rm (.ref a :: av).toArray h n0 (RV fun h' => h' = h)) (hd : decode bc pc = .ok (.invokevirtual i, 3)) (pc' : Nat) (hp : pc + 3 = pc') (Wd : Nat) (hfr : rm.frames + 1 ≤ R.frames) (hlo : Wd + (yml + 11) + rm.locals ≤ R.locals) (hlen : ∀ sig, parseMethodDescriptor y.desc = some sig → av.length = sig.parameters.length) (hst : sk = av.reverse ++ .ref a :: st) (hW : (st.map fun v => v.category).sum ≤ Wd) (hsz : ls.size = ml) (hc : cells + rm.cells ≤ R.cells) (hs : slots + rm.slots ≤ R.slots) (k : ∀ (T' : State), Sd p l e R s m args below meth c n0 T' h (cells + rm.cells) (slots + rm.slots) → G (T'.setTop (mkF m pc' ls st))) : G (T.setTop (mkF m pc ls sk)) := by
  refine callVV w X av w1 w2 hnf w5 w6 w3 w4 hy E hM hd pc' hp Wd hfr hlo hlen hst hW hsz hc hs (fun T' h' Y hq => ?_)
  subst hq
  exact k T' Y
theorem callPI (w : Wk p l e R s m args below meth c n0 Z own nm bc ml rt Q G) (X : Sd p l e R s m args below meth c n0 T h cells slots) {y : MethodName} {ybc : ByteArray} {yml : Nat} {yrt : Option FieldType} {rm : Room} {i : Nat} {sk : List Value} {P : Int32 → Heap → Prop} {a : Addr} {C : String} (av : List Value) (w1 : (Cond.methodLink own i y).before a0 Z = true) (w6 : (Cond.instanceMethod y).before a0 Z = true) (w5 : (Cond.selects y.cls y y).before a0 Z = true) (w7 : (Cond.privateMethod y).before a0 Z = true) (w3 : (Cond.initialized y.cls).before a0 Z = true) (w4 : (Cond.code y ybc yml yrt).before a0 Z = true) (hy : y.cls ≠ "java/lang/invoke/MethodHandle" ∧ y.cls ≠ "java/lang/invoke/VarHandle") (E : Exa Z h a C) (hM : Met l Z y ybc yml yrt [] rm (.ref a :: av).toArray h n0 (RI P)) (hd : decode bc pc = .ok (.invokevirtual i, 3)) (pc' : Nat) (hp : pc + 3 = pc') (Wd : Nat) (hfr : rm.frames + 1 ≤ R.frames) (hlo : Wd + (yml + 11) + rm.locals ≤ R.locals) (hlen : ∀ sig, parseMethodDescriptor y.desc = some sig → av.length = sig.parameters.length) (hst : sk = av.reverse ++ .ref a :: st) (hW : (st.map fun v => v.category).sum ≤ Wd) (hsz : ls.size = ml) (hc : cells + rm.cells ≤ R.cells) (hs : slots + rm.slots ≤ R.slots) (k : ∀ (r : Int32) (T' : State) (h' : Heap), Sd p l e R s m args below meth c n0 T' h' (cells + rm.cells) (slots + rm.slots) → P r h' → G (T'.setTop (mkF m pc' ls (.int r :: st)))) : G (T.setTop (mkF m pc ls sk)) := by
  refine callP w X av w1 w6 w5 w7 w3 w4 hy E hM hd pc' hp Wd hfr hlo hlen hst hW hsz hc hs (fun v T' h' Y hq => ?_)
  obtain ⟨r, rfl, hr⟩ := hq
  exact k r T' h' Y hr
theorem callPPI (w : Wk p l e R s m args below meth c n0 Z own nm bc ml rt Q G) (X : Sd p l e R s m args below meth c n0 T h cells slots) {y : MethodName} {ybc : ByteArray} {yml : Nat} {yrt : Option FieldType} {rm : Room} {i : Nat} {sk : List Value} {P : Int32 → Prop} {a : Addr} {C : String} (av : List Value) (w1 : (Cond.methodLink own i y).before a0 Z = true) (w6 : (Cond.instanceMethod y).before a0 Z = true) (w5 : (Cond.selects y.cls y y).before a0 Z = true) (w7 : (Cond.privateMethod y).before a0 Z = true) (w3 : (Cond.initialized y.cls).before a0 Z = true) (w4 : (Cond.code y ybc yml yrt).before a0 Z = true) (hy : y.cls ≠ "java/lang/invoke/MethodHandle" ∧ y.cls ≠ "java/lang/invoke/VarHandle") (E : Exa Z h a C) (hM : Met l Z y ybc yml yrt [] rm (.ref a :: av).toArray h n0 (RI fun r h' => h' = h ∧ P r)) (hd : decode bc pc = .ok (.invokevirtual i, 3)) (pc' : Nat) (hp : pc + 3 = pc') (Wd : Nat) (hfr : rm.frames + 1 ≤ R.frames) (hlo : Wd + (yml + 11) + rm.locals ≤ R.locals) (hlen : ∀ sig, parseMethodDescriptor y.desc = some sig → av.length = sig.parameters.length) (hst : sk = av.reverse ++ .ref a :: st) (hW : (st.map fun v => v.category).sum ≤ Wd) (hsz : ls.size = ml) (hc : cells + rm.cells ≤ R.cells) (hs : slots + rm.slots ≤ R.slots) (k : ∀ (r : Int32) (T' : State), Sd p l e R s m args below meth c n0 T' h (cells + rm.cells) (slots + rm.slots) → P r → G (T'.setTop (mkF m pc' ls (.int r :: st)))) : G (T.setTop (mkF m pc ls sk)) := by
  refine callPI w X av w1 w6 w5 w7 w3 w4 hy E hM hd pc' hp Wd hfr hlo hlen hst hW hsz hc hs (fun r T' h' Y hq => ?_)
  obtain ⟨q, hr⟩ := hq
  subst q
  exact k r T' Y hr
theorem callPJ (w : Wk p l e R s m args below meth c n0 Z own nm bc ml rt Q G) (X : Sd p l e R s m args below meth c n0 T h cells slots) {y : MethodName} {ybc : ByteArray} {yml : Nat} {yrt : Option FieldType} {rm : Room} {i : Nat} {sk : List Value} {P : Int64 → Heap → Prop} {a : Addr} {C : String} (av : List Value) (w1 : (Cond.methodLink own i y).before a0 Z = true) (w6 : (Cond.instanceMethod y).before a0 Z = true) (w5 : (Cond.selects y.cls y y).before a0 Z = true) (w7 : (Cond.privateMethod y).before a0 Z = true) (w3 : (Cond.initialized y.cls).before a0 Z = true) (w4 : (Cond.code y ybc yml yrt).before a0 Z = true) (hy : y.cls ≠ "java/lang/invoke/MethodHandle" ∧ y.cls ≠ "java/lang/invoke/VarHandle") (E : Exa Z h a C) (hM : Met l Z y ybc yml yrt [] rm (.ref a :: av).toArray h n0 (RJ P)) (hd : decode bc pc = .ok (.invokevirtual i, 3)) (pc' : Nat) (hp : pc + 3 = pc') (Wd : Nat) (hfr : rm.frames + 1 ≤ R.frames) (hlo : Wd + (yml + 11) + rm.locals ≤ R.locals) (hlen : ∀ sig, parseMethodDescriptor y.desc = some sig → av.length = sig.parameters.length) (hst : sk = av.reverse ++ .ref a :: st) (hW : (st.map fun v => v.category).sum ≤ Wd) (hsz : ls.size = ml) (hc : cells + rm.cells ≤ R.cells) (hs : slots + rm.slots ≤ R.slots) (k : ∀ (r : Int64) (T' : State) (h' : Heap), Sd p l e R s m args below meth c n0 T' h' (cells + rm.cells) (slots + rm.slots) → P r h' → G (T'.setTop (mkF m pc' ls (.long r :: st)))) : G (T.setTop (mkF m pc ls sk)) := by
  refine callP w X av w1 w6 w5 w7 w3 w4 hy E hM hd pc' hp Wd hfr hlo hlen hst hW hsz hc hs (fun v T' h' Y hq => ?_)
  obtain ⟨r, rfl, hr⟩ := hq
  exact k r T' h' Y hr
theorem callPPJ (w : Wk p l e R s m args below meth c n0 Z own nm bc ml rt Q G) (X : Sd p l e R s m args below meth c n0 T h cells slots) {y : MethodName} {ybc : ByteArray} {yml : Nat} {yrt : Option FieldType} {rm : Room} {i : Nat} {sk : List Value} {P : Int64 → Prop} {a : Addr} {C : String} (av : List Value) (w1 : (Cond.methodLink own i y).before a0 Z = true) (w6 : (Cond.instanceMethod y).before a0 Z = true) (w5 : (Cond.selects y.cls y y).before a0 Z = true) (w7 : (Cond.privateMethod y).before a0 Z = true) (w3 : (Cond.initialized y.cls).before a0 Z = true) (w4 : (Cond.code y ybc yml yrt).before a0 Z = true) (hy : y.cls ≠ "java/lang/invoke/MethodHandle" ∧ y.cls ≠ "java/lang/invoke/VarHandle") (E : Exa Z h a C) (hM : Met l Z y ybc yml yrt [] rm (.ref a :: av).toArray h n0 (RJ fun r h' => h' = h ∧ P r)) (hd : decode bc pc = .ok (.invokevirtual i, 3)) (pc' : Nat) (hp : pc + 3 = pc') (Wd : Nat) (hfr : rm.frames + 1 ≤ R.frames) (hlo : Wd + (yml + 11) + rm.locals ≤ R.locals) (hlen : ∀ sig, parseMethodDescriptor y.desc = some sig → av.length = sig.parameters.length) (hst : sk = av.reverse ++ .ref a :: st) (hW : (st.map fun v => v.category).sum ≤ Wd) (hsz : ls.size = ml) (hc : cells + rm.cells ≤ R.cells) (hs : slots + rm.slots ≤ R.slots) (k : ∀ (r : Int64) (T' : State), Sd p l e R s m args below meth c n0 T' h (cells + rm.cells) (slots + rm.slots) → P r → G (T'.setTop (mkF m pc' ls (.long r :: st)))) : G (T.setTop (mkF m pc ls sk)) := by
  refine callPJ w X av w1 w6 w5 w7 w3 w4 hy E hM hd pc' hp Wd hfr hlo hlen hst hW hsz hc hs (fun r T' h' Y hq => ?_)
  obtain ⟨q, hr⟩ := hq
  subst q
  exact k r T' Y hr
theorem callPR (w : Wk p l e R s m args below meth c n0 Z own nm bc ml rt Q G) (X : Sd p l e R s m args below meth c n0 T h cells slots) {y : MethodName} {ybc : ByteArray} {yml : Nat} {yrt : Option FieldType} {rm : Room} {i : Nat} {sk : List Value} {P : Value → Heap → Prop} {a : Addr} {C : String} (av : List Value) (w1 : (Cond.methodLink own i y).before a0 Z = true) (w6 : (Cond.instanceMethod y).before a0 Z = true) (w5 : (Cond.selects y.cls y y).before a0 Z = true) (w7 : (Cond.privateMethod y).before a0 Z = true) (w3 : (Cond.initialized y.cls).before a0 Z = true) (w4 : (Cond.code y ybc yml yrt).before a0 Z = true) (hy : y.cls ≠ "java/lang/invoke/MethodHandle" ∧ y.cls ≠ "java/lang/invoke/VarHandle") (E : Exa Z h a C) (hM : Met l Z y ybc yml yrt [] rm (.ref a :: av).toArray h n0 (RR P)) (hd : decode bc pc = .ok (.invokevirtual i, 3)) (pc' : Nat) (hp : pc + 3 = pc') (Wd : Nat) (hfr : rm.frames + 1 ≤ R.frames) (hlo : Wd + (yml + 11) + rm.locals ≤ R.locals) (hlen : ∀ sig, parseMethodDescriptor y.desc = some sig → av.length = sig.parameters.length) (hst : sk = av.reverse ++ .ref a :: st) (hW : (st.map fun v => v.category).sum ≤ Wd) (hsz : ls.size = ml) (hc : cells + rm.cells ≤ R.cells) (hs : slots + rm.slots ≤ R.slots) (k : ∀ (r : Value) (T' : State) (h' : Heap), Sd p l e R s m args below meth c n0 T' h' (cells + rm.cells) (slots + rm.slots) → P r h' → G (T'.setTop (mkF m pc' ls (r :: st)))) : G (T.setTop (mkF m pc ls sk)) := by
  refine callP w X av w1 w6 w5 w7 w3 w4 hy E hM hd pc' hp Wd hfr hlo hlen hst hW hsz hc hs (fun v T' h' Y hq => ?_)
  obtain ⟨r, rfl, hr⟩ := hq
  exact k r T' h' Y hr
theorem callPPR (w : Wk p l e R s m args below meth c n0 Z own nm bc ml rt Q G) (X : Sd p l e R s m args below meth c n0 T h cells slots) {y : MethodName} {ybc : ByteArray} {yml : Nat} {yrt : Option FieldType} {rm : Room} {i : Nat} {sk : List Value} {P : Value → Prop} {a : Addr} {C : String} (av : List Value) (w1 : (Cond.methodLink own i y).before a0 Z = true) (w6 : (Cond.instanceMethod y).before a0 Z = true) (w5 : (Cond.selects y.cls y y).before a0 Z = true) (w7 : (Cond.privateMethod y).before a0 Z = true) (w3 : (Cond.initialized y.cls).before a0 Z = true) (w4 : (Cond.code y ybc yml yrt).before a0 Z = true) (hy : y.cls ≠ "java/lang/invoke/MethodHandle" ∧ y.cls ≠ "java/lang/invoke/VarHandle") (E : Exa Z h a C) (hM : Met l Z y ybc yml yrt [] rm (.ref a :: av).toArray h n0 (RR fun r h' => h' = h ∧ P r)) (hd : decode bc pc = .ok (.invokevirtual i, 3)) (pc' : Nat) (hp : pc + 3 = pc') (Wd : Nat) (hfr : rm.frames + 1 ≤ R.frames) (hlo : Wd + (yml + 11) + rm.locals ≤ R.locals) (hlen : ∀ sig, parseMethodDescriptor y.desc = some sig → av.length = sig.parameters.length) (hst : sk = av.reverse ++ .ref a :: st) (hW : (st.map fun v => v.category).sum ≤ Wd) (hsz : ls.size = ml) (hc : cells + rm.cells ≤ R.cells) (hs : slots + rm.slots ≤ R.slots) (k : ∀ (r : Value) (T' : State), Sd p l e R s m args below meth c n0 T' h (cells + rm.cells) (slots + rm.slots) → P r → G (T'.setTop (mkF m pc' ls (r :: st)))) : G (T.setTop (mkF m pc ls sk)) := by
  refine callPR w X av w1 w6 w5 w7 w3 w4 hy E hM hd pc' hp Wd hfr hlo hlen hst hW hsz hc hs (fun r T' h' Y hq => ?_)
  obtain ⟨q, hr⟩ := hq
  subst q
  exact k r T' Y hr
theorem callPV (w : Wk p l e R s m args below meth c n0 Z own nm bc ml rt Q G) (X : Sd p l e R s m args below meth c n0 T h cells slots) {y : MethodName} {ybc : ByteArray} {yml : Nat} {yrt : Option FieldType} {rm : Room} {i : Nat} {sk : List Value} {P : Heap → Prop} {a : Addr} {C : String} (av : List Value) (w1 : (Cond.methodLink own i y).before a0 Z = true) (w6 : (Cond.instanceMethod y).before a0 Z = true) (w5 : (Cond.selects y.cls y y).before a0 Z = true) (w7 : (Cond.privateMethod y).before a0 Z = true) (w3 : (Cond.initialized y.cls).before a0 Z = true) (w4 : (Cond.code y ybc yml yrt).before a0 Z = true) (hy : y.cls ≠ "java/lang/invoke/MethodHandle" ∧ y.cls ≠ "java/lang/invoke/VarHandle") (E : Exa Z h a C) (hM : Met l Z y ybc yml yrt [] rm (.ref a :: av).toArray h n0 (RV P)) (hd : decode bc pc = .ok (.invokevirtual i, 3)) (pc' : Nat) (hp : pc + 3 = pc') (Wd : Nat) (hfr : rm.frames + 1 ≤ R.frames) (hlo : Wd + (yml + 11) + rm.locals ≤ R.locals) (hlen : ∀ sig, parseMethodDescriptor y.desc = some sig → av.length = sig.parameters.length) (hst : sk = av.reverse ++ .ref a :: st) (hW : (st.map fun v => v.category).sum ≤ Wd) (hsz : ls.size = ml) (hc : cells + rm.cells ≤ R.cells) (hs : slots + rm.slots ≤ R.slots) (k : ∀  (T' : State) (h' : Heap), Sd p l e R s m args below meth c n0 T' h' (cells + rm.cells) (slots + rm.slots) → P h' → G (T'.setTop (mkF m pc' ls (st)))) : G (T.setTop (mkF m pc ls sk)) := by
  refine callP w X av w1 w6 w5 w7 w3 w4 hy E hM hd pc' hp Wd hfr hlo hlen hst hW hsz hc hs (fun v T' h' Y hq => ?_)
  obtain ⟨rfl, hr⟩ := hq
  exact k T' h' Y hr
theorem callPPV (w : Wk p l e R s m args below meth c n0 Z own nm bc ml rt Q G) (X : Sd p l e R s m args below meth c n0 T h cells slots) {y : MethodName} {ybc : ByteArray} {yml : Nat} {yrt : Option FieldType} {rm : Room} {i : Nat} {sk : List Value} {a : Addr} {C : String} (av : List Value) (w1 : (Cond.methodLink own i y).before a0 Z = true) (w6 : (Cond.instanceMethod y).before a0 Z = true) (w5 : (Cond.selects y.cls y y).before a0 Z = true) (w7 : (Cond.privateMethod y).before a0 Z = true) (w3 : (Cond.initialized y.cls).before a0 Z = true) (w4 : (Cond.code y ybc yml yrt).before a0 Z = true) (hy : y.cls ≠ "java/lang/invoke/MethodHandle" ∧ y.cls ≠ "java/lang/invoke/VarHandle") (E : Exa Z h a C) (hM : Met l Z y ybc yml yrt [] rm (.ref a :: av).toArray h n0 (RV fun h' => h' = h)) (hd : decode bc pc = .ok (.invokevirtual i, 3)) (pc' : Nat) (hp : pc + 3 = pc') (Wd : Nat) (hfr : rm.frames + 1 ≤ R.frames) (hlo : Wd + (yml + 11) + rm.locals ≤ R.locals) (hlen : ∀ sig, parseMethodDescriptor y.desc = some sig → av.length = sig.parameters.length) (hst : sk = av.reverse ++ .ref a :: st) (hW : (st.map fun v => v.category).sum ≤ Wd) (hsz : ls.size = ml) (hc : cells + rm.cells ≤ R.cells) (hs : slots + rm.slots ≤ R.slots) (k : ∀ (T' : State), Sd p l e R s m args below meth c n0 T' h (cells + rm.cells) (slots + rm.slots) → G (T'.setTop (mkF m pc' ls st))) : G (T.setTop (mkF m pc ls sk)) := by
  refine callPV w X av w1 w6 w5 w7 w3 w4 hy E hM hd pc' hp Wd hfr hlo hlen hst hW hsz hc hs (fun T' h' Y hq => ?_)
  subst hq
  exact k T' Y
end Law
/-! numbers, for omega -/
theorem b32 (x : Int32) : -2147483648 ≤ x.toInt ∧ x.toInt < 2147483648 := ⟨Int32.le_toInt x, Int32.toInt_lt x⟩
theorem b64 (x : Int64) : -9223372036854775808 ≤ x.toInt ∧ x.toInt < 9223372036854775808 := ⟨Int64.le_toInt x, Int64.toInt_lt x⟩
theorem k_mulR (x y : Int32) (d : Int) (hy : y.toInt = d) : ((x * y).toInt - (x.toInt * d)) % 4294967296 = 0 := by have := c_imul x y; rwa [hy] at this
theorem k_mulL (x y : Int32) (d : Int) (hx : x.toInt = d) : ((x * y).toInt - (d * y.toInt)) % 4294967296 = 0 := by have := c_imul x y; rwa [hx] at this
theorem k_mask (x m : Int32) (k : Nat) (P : Int) (hk : k ≤ 31) (hm : m.toBitVec.toNat = 2 ^ k - 1) (hP : ((2 ^ k : Nat) : Int) = P) : (x &&& m).toInt = x.toInt % P := by rw [c_mask x m k hk hm, hP]
theorem k_maskL (m x : Int32) (k : Nat) (P : Int) (hk : k ≤ 31) (hm : m.toBitVec.toNat = 2 ^ k - 1) (hP : ((2 ^ k : Nat) : Int) = P) : (m &&& x).toInt = x.toInt % P := by rw [Int32.and_comm, c_mask x m k hk hm, hP]
theorem k_mask64 (x m : Int64) (k : Nat) (P : Int) (hk : k ≤ 63) (hm : m.toBitVec.toNat = 2 ^ k - 1) (hP : ((2 ^ k : Nat) : Int) = P) : (x &&& m).toInt = x.toInt % P := by rw [c_maskL x m k hk hm, hP]
theorem k_or_and (x p q r : Int32) (h : p ||| q = r) : (x &&& p) ||| (x &&& q) = x &&& r := by
  subst h
  apply Int32.toBitVec_inj.mp
  simp only [Int32.toBitVec_or, Int32.toBitVec_and]
  apply BitVec.eq_of_getLsbD_eq
  intro i hi
  simp only [BitVec.getLsbD_or, BitVec.getLsbD_and]
  cases x.toBitVec.getLsbD i <;> simp
theorem k_field (x p q r : Int32) (k j : Nat) (P J : Int) (hpq : p ||| q = r) (h0 : p &&& q = 0) (hk : k ≤ 31) (hq : q.toBitVec.toNat = 2 ^ k - 1) (hP : ((2 ^ k : Nat) : Int) = P) (hj : j ≤ 31) (hr : r.toBitVec.toNat = 2 ^ j - 1) (hJ : ((2 ^ j : Nat) : Int) = J) (hp0 : 0 ≤ p.toInt) (hJ2 : J ≤ 1073741824) (hP1 : 1 ≤ P) (hPJ : P ≤ J) : (x &&& p).toInt = x.toInt % J - x.toInt % P := by
  have e1 : (x &&& p) &&& q = 0 := by rw [Int32.and_assoc, h0, Int32.and_zero]
  have e2 := k_mask (x &&& p) q k P hk hq hP
  rw [e1] at e2
  have e3 := k_or_and x p q r hpq
  have e4 := k_mask x q k P hk hq hP
  have e5 := k_mask x r j J hj hr hJ
  have e6 := c_or (x &&& p) (x &&& q) k hk P hP.symm
  rw [e3, e4, e5] at e6
  have e7 := c_and x p hp0
  have e8 : (0 : Int32).toInt = 0 := rfl
  rw [e8] at e2
  have m1 := Int.emod_nonneg x.toInt (show P ≠ 0 by omega)
  have m2 := Int.emod_lt_of_pos x.toInt (show (0 : Int) < P by omega)
  have m3 := Int.emod_nonneg x.toInt (show J ≠ 0 by omega)
  have m4 := Int.emod_lt_of_pos x.toInt (show (0 : Int) < J by omega)
  have e9 := e6 e2.symm m1 m2
  have b := b32 (x &&& p)
  omega
theorem k_shr (x q : Int32) (k : Nat) (P : Int) (hk : q.toBitVec.toNat % 32 = k) (hP : ((2 ^ k : Nat) : Int) = P) : (x >>> (q &&& 31)).toInt = x.toInt / P := by rw [c_ishr x q k hk, hP]
theorem k_shl (x q : Int32) (k : Nat) (P : Int) (hk : q.toBitVec.toNat % 32 = k) (hP : ((2 ^ k : Nat) : Int) = P) : ((x <<< (q &&& 31)).toInt - x.toInt * P) % 4294967296 = 0 := by have := c_ishl x q k hk; rwa [hP] at this
theorem k_ushr (x q : Int32) (k : Nat) (P : Int) (hk : q.toBitVec.toNat % 32 = k) (h0 : 0 < k) (hP : ((2 ^ k : Nat) : Int) = P) : ((x.toUInt32 >>> (q &&& 31).toUInt32).toInt32).toInt = (x.toInt % 4294967296) / P := by rw [c_iushr x q k hk h0, hP]

theorem nar_b (x : Int32) : nar .byte x.toInt8.toInt32 = x.toInt8.toInt32 := by simp [nar]
theorem lsw_eq {x v : Int32} {k : Int} (hv : v.toInt = k) (q : k = x.toInt) : x = v := Int32.toInt_inj.mp (by omega)
/-- an array of ints, bytes or chars with these elements -/
def PA (Z : State) (h : Heap) (a : Addr) (ty : FieldType) (bs : List Int32) : Prop :=
  ∃ c : Cell, Arr Z h a c ty ∧ c.slots.size = bs.length ∧ bs.length < 2147483648 ∧ (∀ i, i < bs.length → c.slots[i]? = some (.int (bs.getD i 0))) ∧ ∀ x ∈ bs, fits ty (.int x) = true
section Arrays
variable {p : Program} {l : Launch} {e : Env} {R : Room} {s : State} {m : MethodId} {args : Array Value} {below : List Frame} {meth : Method} {c : Code} {n0 : Nat} {T : State} {h h' : Heap} {cells slots : Nat} {Z : State} {a0 : Array Value} {own nm : String} {bc : ByteArray} {ml : Nat} {rt : Option FieldType} {Q : Option Value → Heap → Prop} {G : State → Prop}
variable {pc : Nat} {ls : Array Slot} {st : List Value} {a b : Addr} {ty : FieldType} {bs : List Int32} {j : Int32} {v : Value} {sl : Nat} {ws : List Addr}
theorem PA.lt (F : PA Z h a ty bs) : a < h.size := by obtain ⟨c, A, -⟩ := F; exact A.lt
theorem PA.ext (F : PA Z h a ty bs) (E : Ext h h') : PA Z h' a ty bs := by obtain ⟨c, A, r⟩ := F; exact ⟨c, A.ext E, r⟩
theorem PA.other (F : PA Z h b ty bs) (W : Wr h h' a sl v) (q : b ≠ a) : PA Z h' b ty bs := by obtain ⟨c, A, r⟩ := F; exact ⟨c, A.other W q, r⟩
theorem PA.keep (F : PA Z h a ty bs) (K : Keep h h' ws) (q : a ∉ ws) : PA Z h' a ty bs := by obtain ⟨c, A, r⟩ := F; exact ⟨c, ⟨K.2.1 a c A.1 q, A.2⟩, r⟩
theorem PA.fit (F : PA Z h a ty bs) : ∀ x ∈ bs, fits ty (.int x) = true := by obtain ⟨c, A, r⟩ := F; exact r.2.2.2
theorem PA.len (F : PA Z h a ty bs) : bs.length < 2147483648 := by obtain ⟨c, A, r⟩ := F; exact r.2.1
theorem clampI {j : Int32} (h : ¬ j < 0) : (j.toNatClampNeg : Int) = j.toInt := by
  rw [Int32.lt_iff_toInt_lt] at h
  have e0 : (0 : Int32).toInt = 0 := rfl
  simp only [Int32.toNatClampNeg]; omega
theorem PA.new {cA : ClassId} {n : Int32} (ty : FieldType) (hty : defaultValue ty = .int 0) (hf : fits ty (.int 0) = true) (k : Nat) (A : Arr Z h a (newA cA ty n) ty) (hn : n.toNatClampNeg = k) : PA Z h a ty (List.replicate k 0) := by
  refine ⟨_, A, by rw [sz_new, hn, List.length_replicate], ?_, fun i hi => ?_, fun x hx => ?_⟩
  · rw [List.length_replicate, ← hn]; have := Int32.toInt_lt n; simp only [Int32.toNatClampNeg]; omega
  · rw [List.length_replicate] at hi
    simp [newA, hn, hi, hty, List.getD_eq_getElem?_getD]
  · rw [List.eq_of_mem_replicate hx]; exact hf
theorem PA.ofL {cl : Cell} {n : Int32} (A : Arr Z h a cl ty) (hs : cl.slots.size < 2 ^ 31) (hn : cl.slots.size.toInt32 = n) (hz : n.toNatClampNeg = bs.length) (hz0 : ¬ n < 0) (H : HasL cl 0 (bs.map Value.int)) (hf : ∀ x ∈ bs, fits ty (.int x) = true) : PA Z h a ty bs := by
  have S : cl.slots.size = n.toNatClampNeg := by rw [← hn]; simp only [Int32.toNatClampNeg, len_toInt hs]; rfl
  refine ⟨cl, A, S.trans hz, by omega, fun i hi => ?_, hf⟩
  have := HasL.at (dv := .int 0) (bs.map Value.int) 0 H i (by rw [List.length_map]; exact hi)
  rw [Nat.zero_add] at this
  rw [this]
  simp [List.getD_eq_getElem?_getD, List.getElem?_map, List.getElem?_eq_getElem hi]
theorem PA.inb {c : Cell} (hlen : c.slots.size = bs.length) (h1 : ¬ j < 0) (h2 : j.toNatClampNeg < bs.length) : ¬ (j < 0 ∨ c.slots.size ≤ j.toNatClampNeg) := fun q => q.elim h1 fun z => absurd h2 (Nat.not_lt.mpr (hlen ▸ z))

theorem iaload (w : Wk p l e R s m args below meth c n0 Z own nm bc ml rt Q G) (X : Sd p l e R s m args below meth c n0 T h cells slots) (F : PA Z h a .int bs) (h1 : ¬ j < 0) (i : Nat) (hi : j.toNatClampNeg = i) (h2 : i < bs.length) (hd : decode bc pc = .ok (.iaload, 1)) (pc' : Nat) (hp : pc + 1 = pc') (z : Int32) (hz : z = bs.getD i 0) (k : G (T.setTop (mkF m pc' ls (.int z :: st)))) : G (T.setTop (mkF m pc ls (.int j :: .ref a :: st))) := by
  obtain ⟨locs, Y, N, eT⟩ := X
  subst hp hz hi
  obtain ⟨cl, A, hl, -, hg, -⟩ := F
  exact w.1 _ _ (fun t q => Y.iaload w.2.1 (j := j) (v := .int (bs.getD j.toNatClampNeg 0)) (by rw [eT]; exact A.1) (State.isArrayOf_alike w.2.2.2.2.1.alike A.2.1) A.2.2 (PA.inb hl h1 h2) (hg _ h2) (g := mkF m pc ls (.int j :: .ref a :: st)) rfl rfl (hb w.2.2.1 hd) t q) k
theorem baload (w : Wk p l e R s m args below meth c n0 Z own nm bc ml rt Q G) (X : Sd p l e R s m args below meth c n0 T h cells slots) (F : PA Z h a .byte bs) (h1 : ¬ j < 0) (i : Nat) (hi : j.toNatClampNeg = i) (h2 : i < bs.length) (hd : decode bc pc = .ok (.baload, 1)) (pc' : Nat) (hp : pc + 1 = pc') (z : Int32) (hz : z = bs.getD i 0) (k : G (T.setTop (mkF m pc' ls (.int z :: st)))) : G (T.setTop (mkF m pc ls (.int j :: .ref a :: st))) := by
  obtain ⟨locs, Y, N, eT⟩ := X
  subst hp hz hi
  obtain ⟨cl, A, hl, -, hg, -⟩ := F
  exact w.1 _ _ (fun t q => Y.baloadBytes w.2.1 (j := j) (v := .int (bs.getD j.toNatClampNeg 0)) (by rw [eT]; exact A.1) (State.isArrayOf_alike w.2.2.2.2.1.alike A.2.1) A.2.2 (PA.inb hl h1 h2) (hg _ h2) (g := mkF m pc ls (.int j :: .ref a :: st)) rfl rfl (hb w.2.2.1 hd) t q) k
theorem caload (w : Wk p l e R s m args below meth c n0 Z own nm bc ml rt Q G) (X : Sd p l e R s m args below meth c n0 T h cells slots) (F : PA Z h a .char bs) (h1 : ¬ j < 0) (i : Nat) (hi : j.toNatClampNeg = i) (h2 : i < bs.length) (hd : decode bc pc = .ok (.caload, 1)) (pc' : Nat) (hp : pc + 1 = pc') (z : Int32) (hz : z = bs.getD i 0) (k : G (T.setTop (mkF m pc' ls (.int z :: st)))) : G (T.setTop (mkF m pc ls (.int j :: .ref a :: st))) := by
  obtain ⟨locs, Y, N, eT⟩ := X
  subst hp hz hi
  obtain ⟨cl, A, hl, -, hg, -⟩ := F
  exact w.1 _ _ (fun t q => Y.caload w.2.1 (j := j) (v := .int (bs.getD j.toNatClampNeg 0)) (by rw [eT]; exact A.1) (State.isArrayOf_alike w.2.2.2.2.1.alike A.2.1) A.2.2 (PA.inb hl h1 h2) (hg _ h2) (g := mkF m pc ls (.int j :: .ref a :: st)) rfl rfl (hb w.2.2.1 hd) t q) k
theorem zaload (w : Wk p l e R s m args below meth c n0 Z own nm bc ml rt Q G) (X : Sd p l e R s m args below meth c n0 T h cells slots) (F : PA Z h a .boolean bs) (h1 : ¬ j < 0) (i : Nat) (hi : j.toNatClampNeg = i) (h2 : i < bs.length) (hd : decode bc pc = .ok (.baload, 1)) (pc' : Nat) (hp : pc + 1 = pc') (z : Int32) (hz : z = bs.getD i 0) (k : G (T.setTop (mkF m pc' ls (.int z :: st)))) : G (T.setTop (mkF m pc ls (.int j :: .ref a :: st))) := by
  obtain ⟨locs, Y, N, eT⟩ := X
  subst hp hz hi
  obtain ⟨cl, A, hl, -, hg, -⟩ := F
  exact w.1 _ _ (fun t q => Y.baloadBooleans w.2.1 (j := j) (v := .int (bs.getD j.toNatClampNeg 0)) (by rw [eT]; exact A.1) (State.isArrayOf_alike w.2.2.2.2.1.alike A.2.1) A.2.2 (PA.inb hl h1 h2) (hg _ h2) (g := mkF m pc ls (.int j :: .ref a :: st)) rfl rfl (hb w.2.2.1 hd) t q) k
theorem iastore (w : Wk p l e R s m args below meth c n0 Z own nm bc ml rt Q G) (X : Sd p l e R s m args below meth c n0 T h cells slots) {x : Int32} (F : PA Z h a .int bs) (h1 : ¬ j < 0) (i : Nat) (hi : j.toNatClampNeg = i) (h2 : i < bs.length) (ha : n0 ≤ a) (hd : decode bc pc = .ok (.iastore, 1)) (pc' : Nat) (hp : pc + 1 = pc') (z : Int32) (hz : z = x)
    (k : ∀ (T' : State) (h' : Heap), Sd p l e R s m args below meth c n0 T' h' cells slots → Wr h h' a i (.int z) → PA Z h' a .int (bs.set i z) → G (T'.setTop (mkF m pc' ls st))) : G (T.setTop (mkF m pc ls (.int x :: .int j :: .ref a :: st))) := by
  obtain ⟨locs, Y, N, eT⟩ := X
  subst hp hz hi
  obtain ⟨cl, A, hl, hl2, hg, hf⟩ := F
  obtain ⟨T', h', Y', e', W', q⟩ := stI Y w.2.1 w.2.2.2.2.1 eT A (j := j) (PA.inb hl h1 h2) (g := mkF m pc ls (.int z :: .int j :: .ref a :: st)) rfl rfl (hb w.2.2.1 hd)
  refine w.1 _ _ q (k T' h' ⟨_, Y', Fr.snoc Y' N ha, e'⟩ W' ⟨_, A.same W', by rw [sz_set, List.length_set]; exact hl, by rw [List.length_set]; exact hl2, fun i hi => ?_, fun y hy => ?_⟩)
  · rw [List.length_set] at hi
    by_cases u : j.toNatClampNeg = i
    · subst u; simp [Cell.setSlot, hl, hi, List.getD_eq_getElem?_getD]
    · have := hg i hi
      simp only [Cell.setSlot, List.getD_eq_getElem?_getD] at this ⊢
      rw [Array.getElem?_setIfInBounds_ne u, List.getElem?_set_ne u]; exact this
  · rcases List.mem_or_eq_of_mem_set hy with y1 | rfl
    · exact hf y y1
    · exact rfl
theorem bastore (w : Wk p l e R s m args below meth c n0 Z own nm bc ml rt Q G) (X : Sd p l e R s m args below meth c n0 T h cells slots) {x : Int32} (F : PA Z h a .byte bs) (h1 : ¬ j < 0) (i : Nat) (hi : j.toNatClampNeg = i) (h2 : i < bs.length) (ha : n0 ≤ a) (hd : decode bc pc = .ok (.bastore, 1)) (pc' : Nat) (hp : pc + 1 = pc') (z : Int32) (hz : z = (nar .byte x))
    (k : ∀ (T' : State) (h' : Heap), Sd p l e R s m args below meth c n0 T' h' cells slots → Wr h h' a i (.int z) → PA Z h' a .byte (bs.set i z) → G (T'.setTop (mkF m pc' ls st))) : G (T.setTop (mkF m pc ls (.int x :: .int j :: .ref a :: st))) := by
  obtain ⟨locs, Y, N, eT⟩ := X
  subst hp hz hi
  obtain ⟨cl, A, hl, hl2, hg, hf⟩ := F
  obtain ⟨T', h', Y', e', W', q⟩ := stB Y w.2.1 w.2.2.2.2.1 eT A (j := j) (PA.inb hl h1 h2) (g := mkF m pc ls (.int x :: .int j :: .ref a :: st)) rfl rfl (hb w.2.2.1 hd)
  refine w.1 _ _ q (k T' h' ⟨_, Y', Fr.snoc Y' N ha, e'⟩ W' ⟨_, A.same W', by rw [sz_set, List.length_set]; exact hl, by rw [List.length_set]; exact hl2, fun i hi => ?_, fun y hy => ?_⟩)
  · rw [List.length_set] at hi
    by_cases u : j.toNatClampNeg = i
    · subst u; simp [Cell.setSlot, hl, hi, List.getD_eq_getElem?_getD]
    · have := hg i hi
      simp only [Cell.setSlot, List.getD_eq_getElem?_getD] at this ⊢
      rw [Array.getElem?_setIfInBounds_ne u, List.getElem?_set_ne u]; exact this
  · rcases List.mem_or_eq_of_mem_set hy with y1 | rfl
    · exact hf y y1
    · exact (fits_nar_byte x)
theorem castore (w : Wk p l e R s m args below meth c n0 Z own nm bc ml rt Q G) (X : Sd p l e R s m args below meth c n0 T h cells slots) {x : Int32} (F : PA Z h a .char bs) (h1 : ¬ j < 0) (i : Nat) (hi : j.toNatClampNeg = i) (h2 : i < bs.length) (ha : n0 ≤ a) (hd : decode bc pc = .ok (.castore, 1)) (pc' : Nat) (hp : pc + 1 = pc') (z : Int32) (hz : z = (nar .char x))
    (k : ∀ (T' : State) (h' : Heap), Sd p l e R s m args below meth c n0 T' h' cells slots → Wr h h' a i (.int z) → PA Z h' a .char (bs.set i z) → G (T'.setTop (mkF m pc' ls st))) : G (T.setTop (mkF m pc ls (.int x :: .int j :: .ref a :: st))) := by
  obtain ⟨locs, Y, N, eT⟩ := X
  subst hp hz hi
  obtain ⟨cl, A, hl, hl2, hg, hf⟩ := F
  obtain ⟨T', h', Y', e', W', q⟩ := stC Y w.2.1 w.2.2.2.2.1 eT A (j := j) (PA.inb hl h1 h2) (g := mkF m pc ls (.int x :: .int j :: .ref a :: st)) rfl rfl (hb w.2.2.1 hd)
  refine w.1 _ _ q (k T' h' ⟨_, Y', Fr.snoc Y' N ha, e'⟩ W' ⟨_, A.same W', by rw [sz_set, List.length_set]; exact hl, by rw [List.length_set]; exact hl2, fun i hi => ?_, fun y hy => ?_⟩)
  · rw [List.length_set] at hi
    by_cases u : j.toNatClampNeg = i
    · subst u; simp [Cell.setSlot, hl, hi, List.getD_eq_getElem?_getD]
    · have := hg i hi
      simp only [Cell.setSlot, List.getD_eq_getElem?_getD] at this ⊢
      rw [Array.getElem?_setIfInBounds_ne u, List.getElem?_set_ne u]; exact this
  · rcases List.mem_or_eq_of_mem_set hy with y1 | rfl
    · exact hf y y1
    · exact (fits_nar_char x)
theorem zastore (w : Wk p l e R s m args below meth c n0 Z own nm bc ml rt Q G) (X : Sd p l e R s m args below meth c n0 T h cells slots) {x : Int32} (F : PA Z h a .boolean bs) (h1 : ¬ j < 0) (i : Nat) (hi : j.toNatClampNeg = i) (h2 : i < bs.length) (ha : n0 ≤ a) (hd : decode bc pc = .ok (.bastore, 1)) (pc' : Nat) (hp : pc + 1 = pc') (z : Int32) (hz : z = (nar .boolean x))
    (k : ∀ (T' : State) (h' : Heap), Sd p l e R s m args below meth c n0 T' h' cells slots → Wr h h' a i (.int z) → PA Z h' a .boolean (bs.set i z) → G (T'.setTop (mkF m pc' ls st))) : G (T.setTop (mkF m pc ls (.int x :: .int j :: .ref a :: st))) := by
  obtain ⟨locs, Y, N, eT⟩ := X
  subst hp hz hi
  obtain ⟨cl, A, hl, hl2, hg, hf⟩ := F
  obtain ⟨T', h', Y', e', W', q⟩ := stZ Y w.2.1 w.2.2.2.2.1 eT A (j := j) (PA.inb hl h1 h2) (g := mkF m pc ls (.int x :: .int j :: .ref a :: st)) rfl rfl (hb w.2.2.1 hd)
  refine w.1 _ _ q (k T' h' ⟨_, Y', Fr.snoc Y' N ha, e'⟩ W' ⟨_, A.same W', by rw [sz_set, List.length_set]; exact hl, by rw [List.length_set]; exact hl2, fun i hi => ?_, fun y hy => ?_⟩)
  · rw [List.length_set] at hi
    by_cases u : j.toNatClampNeg = i
    · subst u; simp [Cell.setSlot, hl, hi, List.getD_eq_getElem?_getD]
    · have := hg i hi
      simp only [Cell.setSlot, List.getD_eq_getElem?_getD] at this ⊢
      rw [Array.getElem?_setIfInBounds_ne u, List.getElem?_set_ne u]; exact this
  · rcases List.mem_or_eq_of_mem_set hy with y1 | rfl
    · exact hf y y1
    · exact (fits_nar_bool x)
theorem arraylength (w : Wk p l e R s m args below meth c n0 Z own nm bc ml rt Q G) (X : Sd p l e R s m args below meth c n0 T h cells slots) (F : PA Z h a ty bs) (hd : decode bc pc = .ok (.arraylength, 1)) (pc' : Nat) (hp : pc + 1 = pc') (z : Int32) (hz : z = Int32.ofNat bs.length) (k : G (T.setTop (mkF m pc' ls (.int z :: st)))) : G (T.setTop (mkF m pc ls (.ref a :: st))) := by
  obtain ⟨locs, Y, N, eT⟩ := X
  subst hp hz
  obtain ⟨cl, A, hl, -, -⟩ := F
  refine w.1 _ _ (fun t q => Y.arraylength w.2.1 (by rw [eT]; exact A.1) (State.isArrayOf_alike w.2.2.2.2.1.alike A.2.1) (g := mkF m pc ls (.ref a :: st)) rfl rfl (hb w.2.2.1 hd) t ?_) k
  rw [hl]; exact q
end Arrays
end Jvm.Own
namespace Jvm.Pilot.@@N@@
open Jvm Jvm.ClassFile Sem Op Lib Jvm.Free Jvm.Stand Jvm.LawKit Jvm.RoadKit Jvm.Own Bundle Jvm.Pilot.@@N@@.Jvm.D
theorem own_ord {args : Array Value} {s : State} {t : Term} {C n d : String} {k : Int32} {a : Addr} (h : (Cond.eq (Term.field t C n d) (Term.int k)).value args s none s [] = some true) (ht : t.eval args s none [] s = some (.ref a)) : Fld s s.heap a C n d (.int k) := by
  obtain ⟨x, y, h1, h2, k1, k2⟩ := cmp_v (Or.inl h)
  have hy : y = .int k := (Option.some.inj h2).symm
  subst hy
  obtain ⟨z, rfl⟩ := k2
  have hz : z = k := by simpa [Cond.value, h1, h2] using h
  subst hz
  rw [fld_at ht] at h1
  exact Fld.start h1
theorem own_len {args : Array Value} {s : State} {t : Term} {n : Int32} {a : Addr} {cl : Cell} {ty : FieldType} (A : Arr s s.heap a cl ty) (ev : t.eval args s none [] s = some (.ref a)) (h : (Cond.eq (Term.length t) (Term.int n)).value args s none s [] = some true) : cl.slots.size < 2 ^ 31 ∧ cl.slots.size.toInt32 = n := by
  obtain ⟨x, y, h1, h2, k1, k2⟩ := cmp_v (Or.inl h)
  have hy : y = .int n := (Option.some.inj h2).symm
  subst hy
  obtain ⟨z, rfl⟩ := k2
  have hz : z = n := by simpa [Cond.value, h1, h2] using h
  subst hz
  have ha := A.fin (Vm.Alike.refl _)
  by_cases q : cl.slots.size < 2 ^ 31
  · rw [len_f ev ha q] at h1
    exact ⟨q, by injection h1 with h1; injection h1⟩
  · simp [Term.eval, ev, ha, q] at h1
theorem own_el {args : Array Value} {s : State} {t : Term} {i v : Int32} {a : Addr} {cl : Cell} {ty : FieldType} (A : Arr s s.heap a cl ty) (ev : t.eval args s none [] s = some (.ref a)) (h : (Cond.eq (Term.elem t (Term.int i)) (Term.int v)).value args s none s [] = some true) : cl.slots[i.toNatClampNeg]? = some (.int v) := by
  obtain ⟨x, y, h1, h2, k1, k2⟩ := cmp_v (Or.inl h)
  have hy : y = .int v := (Option.some.inj h2).symm
  subst hy
  obtain ⟨z, rfl⟩ := k2
  have hz : z = v := by simpa [Cond.value, h1, h2] using h
  subst hz
  exact (elem_in h1 ev rfl A.1).2
/-- the sign at a place of a Latin-1 string -/
def own_ch (bs : List Int32) (i : Nat) : Int32 := nar .char (((bs.getD i 0) &&& 255).toUInt32.toUInt16.toUInt32.toInt32)
theorem own_shr0 (x : Int32) : x >>> ((0 : Int32) &&& 31) = x := by
  rw [show ((0 : Int32) &&& 31) = 0 from rfl]
  apply Int32.toBitVec_inj.mp
  rw [Int32.toBitVec_shiftRight]
  simp
theorem own_nar_ch (bs : List Int32) (i : Nat) : nar .char (own_ch bs i) = own_ch bs i := by
  unfold own_ch nar
  simp only [UInt32.toUInt32_toInt32, UInt16.toUInt16_toUInt32]
def own_isMultiple (t en_MULTIPLE en_AT_LEAST_ONE : Addr) : Int32 := if t = en_MULTIPLE ∨ t = en_AT_LEAST_ONE then 1 else 0
def own_pick (i : Int32) (a b c d : Addr) : Addr := if i = 0 then a else if i = 1 then b else if i = 2 then c else d
theorem own_and3 (x : Int32) : (x &&& 3) = 0 ∨ (x &&& 3) = 1 ∨ (x &&& 3) = 2 ∨ (x &&& 3) = 3 := by
  have h := k_mask x 3 2 4 (by decide) (by decide) (by decide)
  simp only [← Int32.toInt_inj, Int32.reduceToInt]
  omega
theorem wd0 {a0 : Array Value} {Z : State} (hw : ∀ d ∈ tables_1, d.before a0 Z = true) : ((Jvm.Cond.methodLink "com/example/bindkeeper/bindkeeper/model/CardinalityIsMultiplePinLaw" (22 : Nat) ({ cls := "com/example/bindkeeper/bindkeeper/model/CardinalityIsMultiplePinLaw", name := "pick", desc := "(I)Lcom/example/bindkeeper/bindkeeper/model/ReferenceDescription$Cardinality;" } : Jvm.MethodName))).before a0 Z = true := hw _ (List.mem_of_getElem? (i := 0) rfl)
theorem wd1 {a0 : Array Value} {Z : State} (hw : ∀ d ∈ tables_1, d.before a0 Z = true) : ((Jvm.Cond.static ({ cls := "com/example/bindkeeper/bindkeeper/model/CardinalityIsMultiplePinLaw", name := "pick", desc := "(I)Lcom/example/bindkeeper/bindkeeper/model/ReferenceDescription$Cardinality;" } : Jvm.MethodName))).before a0 Z = true := hw _ (List.mem_of_getElem? (i := 1) rfl)
theorem wd2 {a0 : Array Value} {Z : State} (hw : ∀ d ∈ tables_1, d.before a0 Z = true) : ((Jvm.Cond.initialized "com/example/bindkeeper/bindkeeper/model/CardinalityIsMultiplePinLaw")).before a0 Z = true := hw _ (List.mem_of_getElem? (i := 2) rfl)
theorem wd3 {a0 : Array Value} {Z : State} (hw : ∀ d ∈ tables_1, d.before a0 Z = true) : ((Jvm.Cond.code ({ cls := "com/example/bindkeeper/bindkeeper/model/CardinalityIsMultiplePinLaw", name := "pick", desc := "(I)Lcom/example/bindkeeper/bindkeeper/model/ReferenceDescription$Cardinality;" } : Jvm.MethodName) method_2_code (1 : Nat) (Option.some (Jvm.ClassFile.FieldType.object "com/example/bindkeeper/bindkeeper/model/ReferenceDescription$Cardinality")))).before a0 Z = true := hw _ (List.mem_of_getElem? (i := 3) rfl)
theorem wd4 {a0 : Array Value} {Z : State} (hw : ∀ d ∈ tables_1, d.before a0 Z = true) : ((Jvm.Cond.fieldLink "com/example/bindkeeper/bindkeeper/model/CardinalityIsMultiplePinLaw" (7 : Nat) "com/example/bindkeeper/bindkeeper/model/ReferenceDescription$Cardinality" "OPTIONAL" "Lcom/example/bindkeeper/bindkeeper/model/ReferenceDescription$Cardinality;")).before a0 Z = true := hw _ (List.mem_of_getElem? (i := 4) rfl)
theorem wd5 {a0 : Array Value} {Z : State} (hw : ∀ d ∈ tables_1, d.before a0 Z = true) : ((Jvm.Cond.initialized "com/example/bindkeeper/bindkeeper/model/ReferenceDescription$Cardinality")).before a0 Z = true := hw _ (List.mem_of_getElem? (i := 5) rfl)
theorem wd6 {a0 : Array Value} {Z : State} (hw : ∀ d ∈ tables_1, d.before a0 Z = true) : ((Jvm.Cond.laysStatic "com/example/bindkeeper/bindkeeper/model/ReferenceDescription$Cardinality" "OPTIONAL" "Lcom/example/bindkeeper/bindkeeper/model/ReferenceDescription$Cardinality;")).before a0 Z = true := hw _ (List.mem_of_getElem? (i := 6) rfl)
theorem wd7 {a0 : Array Value} {Z : State} (hw : ∀ d ∈ tables_1, d.before a0 Z = true) : ((Jvm.Cond.methodLink "com/example/bindkeeper/bindkeeper/model/CardinalityIsMultiplePinLaw" (28 : Nat) ({ cls := "com/example/bindkeeper/bindkeeper/model/ReferenceDescription$Cardinality", name := "isMultiple", desc := "()Z" } : Jvm.MethodName))).before a0 Z = true := hw _ (List.mem_of_getElem? (i := 7) rfl)
theorem wd8 {a0 : Array Value} {Z : State} (hw : ∀ d ∈ tables_1, d.before a0 Z = true) : ((Jvm.Cond.declares ({ cls := "com/example/bindkeeper/bindkeeper/model/ReferenceDescription$Cardinality", name := "isMultiple", desc := "()Z" } : Jvm.MethodName))).before a0 Z = true := hw _ (List.mem_of_getElem? (i := 8) rfl)
theorem wd9 {a0 : Array Value} {Z : State} (hw : ∀ d ∈ tables_1, d.before a0 Z = true) : ((Jvm.Cond.instanceMethod ({ cls := "com/example/bindkeeper/bindkeeper/model/ReferenceDescription$Cardinality", name := "isMultiple", desc := "()Z" } : Jvm.MethodName))).before a0 Z = true := hw _ (List.mem_of_getElem? (i := 9) rfl)
theorem wd10 {a0 : Array Value} {Z : State} (hw : ∀ d ∈ tables_1, d.before a0 Z = true) : ((Jvm.Cond.selects "com/example/bindkeeper/bindkeeper/model/ReferenceDescription$Cardinality" ({ cls := "com/example/bindkeeper/bindkeeper/model/ReferenceDescription$Cardinality", name := "isMultiple", desc := "()Z" } : Jvm.MethodName) ({ cls := "com/example/bindkeeper/bindkeeper/model/ReferenceDescription$Cardinality", name := "isMultiple", desc := "()Z" } : Jvm.MethodName))).before a0 Z = true := hw _ (List.mem_of_getElem? (i := 10) rfl)
theorem wd11 {a0 : Array Value} {Z : State} (hw : ∀ d ∈ tables_1, d.before a0 Z = true) : ((Jvm.Cond.code ({ cls := "com/example/bindkeeper/bindkeeper/model/ReferenceDescription$Cardinality", name := "isMultiple", desc := "()Z" } : Jvm.MethodName) prog_16_method_6_code (1 : Nat) (Option.some Jvm.ClassFile.FieldType.boolean))).before a0 Z = true := hw _ (List.mem_of_getElem? (i := 11) rfl)
theorem wd12 {a0 : Array Value} {Z : State} (hw : ∀ d ∈ tables_1, d.before a0 Z = true) : ((Jvm.Cond.fieldLink "com/example/bindkeeper/bindkeeper/model/ReferenceDescription$Cardinality" (10 : Nat) "com/example/bindkeeper/bindkeeper/model/ReferenceDescription$Cardinality" "MULTIPLE" "Lcom/example/bindkeeper/bindkeeper/model/ReferenceDescription$Cardinality;")).before a0 Z = true := hw _ (List.mem_of_getElem? (i := 12) rfl)
theorem wd13 {a0 : Array Value} {Z : State} (hw : ∀ d ∈ tables_1, d.before a0 Z = true) : ((Jvm.Cond.laysStatic "com/example/bindkeeper/bindkeeper/model/ReferenceDescription$Cardinality" "MULTIPLE" "Lcom/example/bindkeeper/bindkeeper/model/ReferenceDescription$Cardinality;")).before a0 Z = true := hw _ (List.mem_of_getElem? (i := 13) rfl)
theorem wd14 {a0 : Array Value} {Z : State} (hw : ∀ d ∈ tables_1, d.before a0 Z = true) : ((Jvm.Cond.fieldLink "com/example/bindkeeper/bindkeeper/model/ReferenceDescription$Cardinality" (13 : Nat) "com/example/bindkeeper/bindkeeper/model/ReferenceDescription$Cardinality" "AT_LEAST_ONE" "Lcom/example/bindkeeper/bindkeeper/model/ReferenceDescription$Cardinality;")).before a0 Z = true := hw _ (List.mem_of_getElem? (i := 14) rfl)
theorem wd15 {a0 : Array Value} {Z : State} (hw : ∀ d ∈ tables_1, d.before a0 Z = true) : ((Jvm.Cond.laysStatic "com/example/bindkeeper/bindkeeper/model/ReferenceDescription$Cardinality" "AT_LEAST_ONE" "Lcom/example/bindkeeper/bindkeeper/model/ReferenceDescription$Cardinality;")).before a0 Z = true := hw _ (List.mem_of_getElem? (i := 15) rfl)
theorem wd16 {a0 : Array Value} {Z : State} (hw : ∀ d ∈ tables_1, d.before a0 Z = true) : ((Jvm.Cond.methodLink "com/example/bindkeeper/bindkeeper/model/CardinalityIsMultiplePinLaw" (32 : Nat) ({ cls := "com/example/bindkeeper/bindkeeper/model/ReferenceDescription$Cardinality", name := "keyword", desc := "()Ljava/lang/String;" } : Jvm.MethodName))).before a0 Z = true := hw _ (List.mem_of_getElem? (i := 16) rfl)
theorem wd17 {a0 : Array Value} {Z : State} (hw : ∀ d ∈ tables_1, d.before a0 Z = true) : ((Jvm.Cond.declares ({ cls := "com/example/bindkeeper/bindkeeper/model/ReferenceDescription$Cardinality", name := "keyword", desc := "()Ljava/lang/String;" } : Jvm.MethodName))).before a0 Z = true := hw _ (List.mem_of_getElem? (i := 17) rfl)
theorem wd18 {a0 : Array Value} {Z : State} (hw : ∀ d ∈ tables_1, d.before a0 Z = true) : ((Jvm.Cond.instanceMethod ({ cls := "com/example/bindkeeper/bindkeeper/model/ReferenceDescription$Cardinality", name := "keyword", desc := "()Ljava/lang/String;" } : Jvm.MethodName))).before a0 Z = true := hw _ (List.mem_of_getElem? (i := 18) rfl)
theorem wd19 {a0 : Array Value} {Z : State} (hw : ∀ d ∈ tables_1, d.before a0 Z = true) : ((Jvm.Cond.selects "com/example/bindkeeper/bindkeeper/model/ReferenceDescription$Cardinality" ({ cls := "com/example/bindkeeper/bindkeeper/model/ReferenceDescription$Cardinality", name := "keyword", desc := "()Ljava/lang/String;" } : Jvm.MethodName) ({ cls := "com/example/bindkeeper/bindkeeper/model/ReferenceDescription$Cardinality", name := "keyword", desc := "()Ljava/lang/String;" } : Jvm.MethodName))).before a0 Z = true := hw _ (List.mem_of_getElem? (i := 19) rfl)
theorem wd20 {a0 : Array Value} {Z : State} (hw : ∀ d ∈ tables_1, d.before a0 Z = true) : ((Jvm.Cond.code ({ cls := "com/example/bindkeeper/bindkeeper/model/ReferenceDescription$Cardinality", name := "keyword", desc := "()Ljava/lang/String;" } : Jvm.MethodName) prog_16_method_4_code (1 : Nat) (Option.some (Jvm.ClassFile.FieldType.object "java/lang/String")))).before a0 Z = true := hw _ (List.mem_of_getElem? (i := 20) rfl)
theorem wd21 {a0 : Array Value} {Z : State} (hw : ∀ d ∈ tables_1, d.before a0 Z = true) : ((Jvm.Cond.fieldLink "com/example/bindkeeper/bindkeeper/model/ReferenceDescription$Cardinality" (35 : Nat) "com/example/bindkeeper/bindkeeper/model/ReferenceDescription$Cardinality" "keyword" "Ljava/lang/String;")).before a0 Z = true := hw _ (List.mem_of_getElem? (i := 21) rfl)
theorem wd23 {a0 : Array Value} {Z : State} (hw : ∀ d ∈ tables_1, d.before a0 Z = true) : ((Jvm.Cond.methodLink "com/example/bindkeeper/bindkeeper/model/CardinalityIsMultiplePinLaw" (36 : Nat) ({ cls := "java/lang/String", name := "length", desc := "()I" } : Jvm.MethodName))).before a0 Z = true := hw _ (List.mem_of_getElem? (i := 23) rfl)
theorem wd24 {a0 : Array Value} {Z : State} (hw : ∀ d ∈ tables_1, d.before a0 Z = true) : ((Jvm.Cond.declares ({ cls := "java/lang/String", name := "length", desc := "()I" } : Jvm.MethodName))).before a0 Z = true := hw _ (List.mem_of_getElem? (i := 24) rfl)
theorem wd25 {a0 : Array Value} {Z : State} (hw : ∀ d ∈ tables_1, d.before a0 Z = true) : ((Jvm.Cond.instanceMethod ({ cls := "java/lang/String", name := "length", desc := "()I" } : Jvm.MethodName))).before a0 Z = true := hw _ (List.mem_of_getElem? (i := 25) rfl)
theorem wd26 {a0 : Array Value} {Z : State} (hw : ∀ d ∈ tables_1, d.before a0 Z = true) : ((Jvm.Cond.selects "java/lang/String" ({ cls := "java/lang/String", name := "length", desc := "()I" } : Jvm.MethodName) ({ cls := "java/lang/String", name := "length", desc := "()I" } : Jvm.MethodName))).before a0 Z = true := hw _ (List.mem_of_getElem? (i := 26) rfl)
theorem wd27 {a0 : Array Value} {Z : State} (hw : ∀ d ∈ tables_1, d.before a0 Z = true) : ((Jvm.Cond.initialized "java/lang/String")).before a0 Z = true := hw _ (List.mem_of_getElem? (i := 27) rfl)
theorem wd28 {a0 : Array Value} {Z : State} (hw : ∀ d ∈ tables_1, d.before a0 Z = true) : ((Jvm.Cond.code ({ cls := "java/lang/String", name := "length", desc := "()I" } : Jvm.MethodName) jdk_42_method_54_code (1 : Nat) (Option.some Jvm.ClassFile.FieldType.int))).before a0 Z = true := hw _ (List.mem_of_getElem? (i := 28) rfl)
theorem wd29 {a0 : Array Value} {Z : State} (hw : ∀ d ∈ tables_1, d.before a0 Z = true) : ((Jvm.Cond.fieldLink "java/lang/String" (9 : Nat) "java/lang/String" "value" "[B")).before a0 Z = true := hw _ (List.mem_of_getElem? (i := 29) rfl)
theorem wd31 {a0 : Array Value} {Z : State} (hw : ∀ d ∈ tables_1, d.before a0 Z = true) : ((Jvm.Cond.methodLink "java/lang/String" (335 : Nat) ({ cls := "java/lang/String", name := "coder", desc := "()B" } : Jvm.MethodName))).before a0 Z = true := hw _ (List.mem_of_getElem? (i := 31) rfl)
theorem wd32 {a0 : Array Value} {Z : State} (hw : ∀ d ∈ tables_1, d.before a0 Z = true) : ((Jvm.Cond.declares ({ cls := "java/lang/String", name := "coder", desc := "()B" } : Jvm.MethodName))).before a0 Z = true := hw _ (List.mem_of_getElem? (i := 32) rfl)
theorem wd33 {a0 : Array Value} {Z : State} (hw : ∀ d ∈ tables_1, d.before a0 Z = true) : ((Jvm.Cond.instanceMethod ({ cls := "java/lang/String", name := "coder", desc := "()B" } : Jvm.MethodName))).before a0 Z = true := hw _ (List.mem_of_getElem? (i := 33) rfl)
theorem wd34 {a0 : Array Value} {Z : State} (hw : ∀ d ∈ tables_1, d.before a0 Z = true) : ((Jvm.Cond.selects "java/lang/String" ({ cls := "java/lang/String", name := "coder", desc := "()B" } : Jvm.MethodName) ({ cls := "java/lang/String", name := "coder", desc := "()B" } : Jvm.MethodName))).before a0 Z = true := hw _ (List.mem_of_getElem? (i := 34) rfl)
theorem wd35 {a0 : Array Value} {Z : State} (hw : ∀ d ∈ tables_1, d.before a0 Z = true) : ((Jvm.Cond.code ({ cls := "java/lang/String", name := "coder", desc := "()B" } : Jvm.MethodName) jdk_42_method_152_code (1 : Nat) (Option.some Jvm.ClassFile.FieldType.byte))).before a0 Z = true := hw _ (List.mem_of_getElem? (i := 35) rfl)
theorem wd36 {a0 : Array Value} {Z : State} (hw : ∀ d ∈ tables_1, d.before a0 Z = true) : ((Jvm.Cond.fieldLink "java/lang/String" (38 : Nat) "java/lang/String" "COMPACT_STRINGS" "Z")).before a0 Z = true := hw _ (List.mem_of_getElem? (i := 36) rfl)
theorem wd37 {a0 : Array Value} {Z : State} (hw : ∀ d ∈ tables_1, d.before a0 Z = true) : ((Jvm.Cond.fieldLink "java/lang/String" (15 : Nat) "java/lang/String" "coder" "B")).before a0 Z = true := hw _ (List.mem_of_getElem? (i := 37) rfl)
theorem wd39 {a0 : Array Value} {Z : State} (hw : ∀ d ∈ tables_1, d.before a0 Z = true) : ((Jvm.Cond.methodLink "com/example/bindkeeper/bindkeeper/model/CardinalityIsMultiplePinLaw" (42 : Nat) ({ cls := "java/lang/String", name := "charAt", desc := "(I)C" } : Jvm.MethodName))).before a0 Z = true := hw _ (List.mem_of_getElem? (i := 39) rfl)
theorem wd40 {a0 : Array Value} {Z : State} (hw : ∀ d ∈ tables_1, d.before a0 Z = true) : ((Jvm.Cond.declares ({ cls := "java/lang/String", name := "charAt", desc := "(I)C" } : Jvm.MethodName))).before a0 Z = true := hw _ (List.mem_of_getElem? (i := 40) rfl)
theorem wd41 {a0 : Array Value} {Z : State} (hw : ∀ d ∈ tables_1, d.before a0 Z = true) : ((Jvm.Cond.instanceMethod ({ cls := "java/lang/String", name := "charAt", desc := "(I)C" } : Jvm.MethodName))).before a0 Z = true := hw _ (List.mem_of_getElem? (i := 41) rfl)
theorem wd42 {a0 : Array Value} {Z : State} (hw : ∀ d ∈ tables_1, d.before a0 Z = true) : ((Jvm.Cond.selects "java/lang/String" ({ cls := "java/lang/String", name := "charAt", desc := "(I)C" } : Jvm.MethodName) ({ cls := "java/lang/String", name := "charAt", desc := "(I)C" } : Jvm.MethodName))).before a0 Z = true := hw _ (List.mem_of_getElem? (i := 42) rfl)
theorem wd43 {a0 : Array Value} {Z : State} (hw : ∀ d ∈ tables_1, d.before a0 Z = true) : ((Jvm.Cond.code ({ cls := "java/lang/String", name := "charAt", desc := "(I)C" } : Jvm.MethodName) jdk_42_method_56_code (2 : Nat) (Option.some Jvm.ClassFile.FieldType.char))).before a0 Z = true := hw _ (List.mem_of_getElem? (i := 43) rfl)
theorem wd44 {a0 : Array Value} {Z : State} (hw : ∀ d ∈ tables_1, d.before a0 Z = true) : ((Jvm.Cond.methodLink "java/lang/String" (492 : Nat) ({ cls := "java/lang/String", name := "isLatin1", desc := "()Z" } : Jvm.MethodName))).before a0 Z = true := hw _ (List.mem_of_getElem? (i := 44) rfl)
theorem wd45 {a0 : Array Value} {Z : State} (hw : ∀ d ∈ tables_1, d.before a0 Z = true) : ((Jvm.Cond.declares ({ cls := "java/lang/String", name := "isLatin1", desc := "()Z" } : Jvm.MethodName))).before a0 Z = true := hw _ (List.mem_of_getElem? (i := 45) rfl)
theorem wd46 {a0 : Array Value} {Z : State} (hw : ∀ d ∈ tables_1, d.before a0 Z = true) : ((Jvm.Cond.instanceMethod ({ cls := "java/lang/String", name := "isLatin1", desc := "()Z" } : Jvm.MethodName))).before a0 Z = true := hw _ (List.mem_of_getElem? (i := 46) rfl)
theorem wd47 {a0 : Array Value} {Z : State} (hw : ∀ d ∈ tables_1, d.before a0 Z = true) : ((Jvm.Cond.selects "java/lang/String" ({ cls := "java/lang/String", name := "isLatin1", desc := "()Z" } : Jvm.MethodName) ({ cls := "java/lang/String", name := "isLatin1", desc := "()Z" } : Jvm.MethodName))).before a0 Z = true := hw _ (List.mem_of_getElem? (i := 47) rfl)
theorem wd48 {a0 : Array Value} {Z : State} (hw : ∀ d ∈ tables_1, d.before a0 Z = true) : ((Jvm.Cond.code ({ cls := "java/lang/String", name := "isLatin1", desc := "()Z" } : Jvm.MethodName) jdk_42_method_154_code (1 : Nat) (Option.some Jvm.ClassFile.FieldType.boolean))).before a0 Z = true := hw _ (List.mem_of_getElem? (i := 48) rfl)
theorem wd49 {a0 : Array Value} {Z : State} (hw : ∀ d ∈ tables_1, d.before a0 Z = true) : ((Jvm.Cond.methodLink "java/lang/String" (495 : Nat) ({ cls := "java/lang/StringLatin1", name := "charAt", desc := "([BI)C" } : Jvm.MethodName))).before a0 Z = true := hw _ (List.mem_of_getElem? (i := 49) rfl)
theorem wd50 {a0 : Array Value} {Z : State} (hw : ∀ d ∈ tables_1, d.before a0 Z = true) : ((Jvm.Cond.static ({ cls := "java/lang/StringLatin1", name := "charAt", desc := "([BI)C" } : Jvm.MethodName))).before a0 Z = true := hw _ (List.mem_of_getElem? (i := 50) rfl)
theorem wd51 {a0 : Array Value} {Z : State} (hw : ∀ d ∈ tables_1, d.before a0 Z = true) : ((Jvm.Cond.initialized "java/lang/StringLatin1")).before a0 Z = true := hw _ (List.mem_of_getElem? (i := 51) rfl)
theorem wd52 {a0 : Array Value} {Z : State} (hw : ∀ d ∈ tables_1, d.before a0 Z = true) : ((Jvm.Cond.code ({ cls := "java/lang/StringLatin1", name := "charAt", desc := "([BI)C" } : Jvm.MethodName) jdk_43_method_2_code (2 : Nat) (Option.some Jvm.ClassFile.FieldType.char))).before a0 Z = true := hw _ (List.mem_of_getElem? (i := 52) rfl)
theorem wd53 {a0 : Array Value} {Z : State} (hw : ∀ d ∈ tables_1, d.before a0 Z = true) : ((Jvm.Cond.methodLink "java/lang/StringLatin1" (9 : Nat) ({ cls := "java/lang/String", name := "checkIndex", desc := "(II)V" } : Jvm.MethodName))).before a0 Z = true := hw _ (List.mem_of_getElem? (i := 53) rfl)
theorem wd54 {a0 : Array Value} {Z : State} (hw : ∀ d ∈ tables_1, d.before a0 Z = true) : ((Jvm.Cond.static ({ cls := "java/lang/String", name := "checkIndex", desc := "(II)V" } : Jvm.MethodName))).before a0 Z = true := hw _ (List.mem_of_getElem? (i := 54) rfl)
theorem wd55 {a0 : Array Value} {Z : State} (hw : ∀ d ∈ tables_1, d.before a0 Z = true) : ((Jvm.Cond.code ({ cls := "java/lang/String", name := "checkIndex", desc := "(II)V" } : Jvm.MethodName) jdk_42_method_155_code (2 : Nat) (Option.none : Option Jvm.ClassFile.FieldType))).before a0 Z = true := hw _ (List.mem_of_getElem? (i := 55) rfl)
theorem wd56 {a0 : Array Value} {Z : State} (hw : ∀ d ∈ tables_1, d.before a0 Z = true) : ((Jvm.Cond.fieldLink "java/lang/String" (1053 : Nat) "jdk/internal/util/Preconditions" "SIOOBE_FORMATTER" "Ljava/util/function/BiFunction;")).before a0 Z = true := hw _ (List.mem_of_getElem? (i := 56) rfl)
theorem wd57 {a0 : Array Value} {Z : State} (hw : ∀ d ∈ tables_1, d.before a0 Z = true) : ((Jvm.Cond.initialized "jdk/internal/util/Preconditions")).before a0 Z = true := hw _ (List.mem_of_getElem? (i := 57) rfl)
theorem wd58 {a0 : Array Value} {Z : State} (hw : ∀ d ∈ tables_1, d.before a0 Z = true) : ((Jvm.Cond.methodLink "java/lang/String" (1059 : Nat) ({ cls := "jdk/internal/util/Preconditions", name := "checkIndex", desc := "(IILjava/util/function/BiFunction;)I" } : Jvm.MethodName))).before a0 Z = true := hw _ (List.mem_of_getElem? (i := 58) rfl)
theorem wd59 {a0 : Array Value} {Z : State} (hw : ∀ d ∈ tables_1, d.before a0 Z = true) : ((Jvm.Cond.static ({ cls := "jdk/internal/util/Preconditions", name := "checkIndex", desc := "(IILjava/util/function/BiFunction;)I" } : Jvm.MethodName))).before a0 Z = true := hw _ (List.mem_of_getElem? (i := 59) rfl)
theorem wd60 {a0 : Array Value} {Z : State} (hw : ∀ d ∈ tables_1, d.before a0 Z = true) : ((Jvm.Cond.code ({ cls := "jdk/internal/util/Preconditions", name := "checkIndex", desc := "(IILjava/util/function/BiFunction;)I" } : Jvm.MethodName) jdk_41_method_11_code (3 : Nat) (Option.some Jvm.ClassFile.FieldType.int))).before a0 Z = true := hw _ (List.mem_of_getElem? (i := 60) rfl)
theorem wd61 {a0 : Array Value} {Z : State} (hw : ∀ d ∈ tables_1, d.before a0 Z = true) : ((Jvm.Cond.fieldLink "com/example/bindkeeper/bindkeeper/model/CardinalityIsMultiplePinLaw" (19 : Nat) "com/example/bindkeeper/bindkeeper/model/ReferenceDescription$Cardinality" "AT_LEAST_ONE" "Lcom/example/bindkeeper/bindkeeper/model/ReferenceDescription$Cardinality;")).before a0 Z = true := hw _ (List.mem_of_getElem? (i := 61) rfl)
theorem wd62 {a0 : Array Value} {Z : State} (hw : ∀ d ∈ tables_1, d.before a0 Z = true) : ((Jvm.Cond.fieldLink "com/example/bindkeeper/bindkeeper/model/CardinalityIsMultiplePinLaw" (16 : Nat) "com/example/bindkeeper/bindkeeper/model/ReferenceDescription$Cardinality" "MULTIPLE" "Lcom/example/bindkeeper/bindkeeper/model/ReferenceDescription$Cardinality;")).before a0 Z = true := hw _ (List.mem_of_getElem? (i := 62) rfl)
theorem wd63 {a0 : Array Value} {Z : State} (hw : ∀ d ∈ tables_1, d.before a0 Z = true) : ((Jvm.Cond.fieldLink "com/example/bindkeeper/bindkeeper/model/CardinalityIsMultiplePinLaw" (13 : Nat) "com/example/bindkeeper/bindkeeper/model/ReferenceDescription$Cardinality" "MANDATORY" "Lcom/example/bindkeeper/bindkeeper/model/ReferenceDescription$Cardinality;")).before a0 Z = true := hw _ (List.mem_of_getElem? (i := 63) rfl)
theorem wd64 {a0 : Array Value} {Z : State} (hw : ∀ d ∈ tables_1, d.before a0 Z = true) : ((Jvm.Cond.laysStatic "com/example/bindkeeper/bindkeeper/model/ReferenceDescription$Cardinality" "MANDATORY" "Lcom/example/bindkeeper/bindkeeper/model/ReferenceDescription$Cardinality;")).before a0 Z = true := hw _ (List.mem_of_getElem? (i := 64) rfl)
theorem pd0 : parseMethodDescriptor "()B" = some ⟨[], some .byte⟩ := by decide +kernel
theorem pd1 : parseMethodDescriptor "(IILjava/util/function/BiFunction;)I" = some ⟨[.int, .int, (.object "java/util/function/BiFunction")], some .int⟩ := by decide +kernel
theorem pd2 : parseMethodDescriptor "(II)V" = some ⟨[.int, .int], none⟩ := by decide +kernel
theorem pd3 : parseMethodDescriptor "()Z" = some ⟨[], some .boolean⟩ := by decide +kernel
theorem pd4 : parseMethodDescriptor "([BI)C" = some ⟨[(.array .byte), .int], some .char⟩ := by decide +kernel
theorem pd5 : parseMethodDescriptor "(I)Lcom/example/bindkeeper/bindkeeper/model/ReferenceDescription$Cardinality;" = some ⟨[.int], some (.object "com/example/bindkeeper/bindkeeper/model/ReferenceDescription$Cardinality")⟩ := by decide +kernel
theorem pd6 : parseMethodDescriptor "()Ljava/lang/String;" = some ⟨[], some (.object "java/lang/String")⟩ := by decide +kernel
theorem pd7 : parseMethodDescriptor "()I" = some ⟨[], some .int⟩ := by decide +kernel
theorem pd8 : parseMethodDescriptor "(I)C" = some ⟨[.int], some .char⟩ := by decide +kernel
theorem d5_0 : decode jdk_42_method_152_code 0 = .ok (.getstatic 38, 3) := by decide +kernel
theorem d5_3 : decode jdk_42_method_152_code 3 = .ok (.ifCond .eq 10, 3) := by decide +kernel
theorem d5_6 : decode jdk_42_method_152_code 6 = .ok (.aload_n 0, 1) := by decide +kernel
theorem d5_7 : decode jdk_42_method_152_code 7 = .ok (.getfield 15, 3) := by decide +kernel
theorem d5_10 : decode jdk_42_method_152_code 10 = .ok (.goto 4, 3) := by decide +kernel
theorem d5_14 : decode jdk_42_method_152_code 14 = .ok (.ireturn, 1) := by decide +kernel
theorem pn5 : plainName "java/lang/String" = true := by first | (simp [plainName, overriddenIn]; done) | decide +kernel
set_option maxRecDepth 65536 in
set_option maxHeartbeats 40000000 in
theorem rm_coder {l : Launch} {Z : State} {a0 : Array Value} (hw : ∀ d ∈ tables_1, d.before a0 Z = true) (t : Addr) (cs : Int32) (h : Heap) (n0 : Nat) (zn : n0 ≤ h.size) (S_cs : Sta Z h "java/lang/String" "COMPACT_STRINGS" "Z" (.int cs)) (hcs : ¬ cs = 0) (E_t : Exa Z h t "java/lang/String") (F_coder_t : Fld Z h t "java/lang/String" "coder" "B" (.int (0 : Int32))) :
    Met l Z (⟨"java/lang/String", "coder", "()B"⟩ : MethodName) jdk_42_method_152_code 1 (some .byte) [] ({ frames := 0, cells := 0, slots := 0, locals := 0 } : Room) #[(.ref t)] h n0 (RI fun r h' => h' = h ∧ r = (0 : Int32)) := by
  refine start (ls := #[.val (.ref t)]) (plainFor_of_name pn5) (fun m => by first | (simp [entryFrame, mkF, argsToLocals, Value.category]; done) | rfl) ?_
  intro p e s m below meth c T G w X
  refine getstatic w X (wd36 hw) Via.refl S_cs d5_0 3 rfl (fun T X => ?_)
  refine if_eq w X d5_3 13 6 (by decide) (by decide) rfl (fun q => False.elim (by exact hcs q)) (fun hc3_1 => ?_)
  refine aloadN w X d5_6 7 rfl rfl rfl ?_
  refine getfield w X (wd37 hw) Via.refl F_coder_t d5_7 10 rfl (fun T X => ?_)
  refine goto w X d5_10 14 (by decide) (by decide) ?_
  refine retN w X (t := .byte) rfl (by simp) d5_14 (by decide) (by decide) ?_
  exact ⟨(0 : Int32), rfl, rfl, rfl⟩
theorem d4_0 : decode jdk_42_method_54_code 0 = .ok (.aload_n 0, 1) := by decide +kernel
theorem d4_1 : decode jdk_42_method_54_code 1 = .ok (.getfield 9, 3) := by decide +kernel
theorem d4_4 : decode jdk_42_method_54_code 4 = .ok (.arraylength, 1) := by decide +kernel
theorem d4_5 : decode jdk_42_method_54_code 5 = .ok (.aload_n 0, 1) := by decide +kernel
theorem d4_6 : decode jdk_42_method_54_code 6 = .ok (.invokevirtual 335, 3) := by decide +kernel
theorem d4_9 : decode jdk_42_method_54_code 9 = .ok (.ishr, 1) := by decide +kernel
theorem d4_10 : decode jdk_42_method_54_code 10 = .ok (.ireturn, 1) := by decide +kernel
set_option maxRecDepth 65536 in
set_option maxHeartbeats 40000000 in
theorem rm_length {l : Launch} {Z : State} {a0 : Array Value} (hw : ∀ d ∈ tables_1, d.before a0 Z = true) (t v : Addr) (bs : List Int32) (cs : Int32) (h : Heap) (n0 : Nat) (zn : n0 ≤ h.size) (S_cs : Sta Z h "java/lang/String" "COMPACT_STRINGS" "Z" (.int cs)) (hcs : ¬ cs = 0) (E_t : Exa Z h t "java/lang/String") (F_value_t : Fld Z h t "java/lang/String" "value" "[B" (.ref v)) (V_v : PA Z h v .byte bs) (F_coder_t : Fld Z h t "java/lang/String" "coder" "B" (.int (0 : Int32))) :
    Met l Z (⟨"java/lang/String", "length", "()I"⟩ : MethodName) jdk_42_method_54_code 1 (some .int) [] ({ frames := 1, cells := 0, slots := 0, locals := 13 } : Room) #[(.ref t)] h n0 (RI fun r h' => h' = h ∧ r = Int32.ofNat bs.length) := by
  refine start (ls := #[.val (.ref t)]) (plainFor_of_name pn5) (fun m => by first | (simp [entryFrame, mkF, argsToLocals, Value.category]; done) | rfl) ?_
  intro p e s m below meth c T G w X
  refine aloadN w X d4_0 1 rfl rfl rfl ?_
  refine getfield w X (wd29 hw) Via.refl F_value_t d4_1 4 rfl (fun T X => ?_)
  refine arraylength w X V_v d4_4 5 rfl (Int32.ofNat bs.length) rfl ?_
  refine aloadN w X d4_5 6 rfl rfl rfl ?_
  refine callVPI w X [] (wd31 hw) (wd32 hw) (notFace_of_selects (args := #[]) (mvT w.2.2.2.2.1 (wd34 hw))) (wd34 hw) (wd33 hw) (wd27 hw) (wd35 hw) (by decide) E_t (rm_coder hw t cs h n0 zn S_cs hcs E_t F_coder_t) d4_6 9 rfl 1 (by decide) (by decide) (lenOf pd0 rfl) rfl (Nat.le_of_eq rfl) rfl (by decide) (by decide) (fun r1 T X hq => ?_)
  have hr1 := hq
  refine ishr w X ((Int32.ofNat bs.length) >>> (r1 &&& 31)) d4_9 10 rfl rfl ?_
  refine retI w X rfl d4_10 (by decide) (by decide) ?_
  exact ⟨_, rfl, rfl, by subst_vars; exact own_shr0 _⟩
theorem d7_0 : decode jdk_42_method_154_code 0 = .ok (.getstatic 38, 3) := by decide +kernel
theorem d7_3 : decode jdk_42_method_154_code 3 = .ok (.ifCond .eq 14, 3) := by decide +kernel
theorem d7_6 : decode jdk_42_method_154_code 6 = .ok (.aload_n 0, 1) := by decide +kernel
theorem d7_7 : decode jdk_42_method_154_code 7 = .ok (.getfield 15, 3) := by decide +kernel
theorem d7_10 : decode jdk_42_method_154_code 10 = .ok (.ifCond .ne 7, 3) := by decide +kernel
theorem d7_13 : decode jdk_42_method_154_code 13 = .ok (.iconst 1, 1) := by decide +kernel
theorem d7_14 : decode jdk_42_method_154_code 14 = .ok (.goto 4, 3) := by decide +kernel
theorem d7_18 : decode jdk_42_method_154_code 18 = .ok (.ireturn, 1) := by decide +kernel
set_option maxRecDepth 65536 in
set_option maxHeartbeats 40000000 in
theorem rm_lat {l : Launch} {Z : State} {a0 : Array Value} (hw : ∀ d ∈ tables_1, d.before a0 Z = true) (t : Addr) (cs : Int32) (h : Heap) (n0 : Nat) (zn : n0 ≤ h.size) (S_cs : Sta Z h "java/lang/String" "COMPACT_STRINGS" "Z" (.int cs)) (hcs : ¬ cs = 0) (E_t : Exa Z h t "java/lang/String") (F_coder_t : Fld Z h t "java/lang/String" "coder" "B" (.int (0 : Int32))) :
    Met l Z (⟨"java/lang/String", "isLatin1", "()Z"⟩ : MethodName) jdk_42_method_154_code 1 (some .boolean) [] ({ frames := 0, cells := 0, slots := 0, locals := 0 } : Room) #[(.ref t)] h n0 (RI fun r h' => h' = h ∧ r = (1 : Int32)) := by
  refine start (ls := #[.val (.ref t)]) (plainFor_of_name pn5) (fun m => by first | (simp [entryFrame, mkF, argsToLocals, Value.category]; done) | rfl) ?_
  intro p e s m below meth c T G w X
  refine getstatic w X (wd36 hw) Via.refl S_cs d7_0 3 rfl (fun T X => ?_)
  refine if_eq w X d7_3 17 6 (by decide) (by decide) rfl (fun q => False.elim (by exact hcs q)) (fun hc3_1 => ?_)
  refine aloadN w X d7_6 7 rfl rfl rfl ?_
  refine getfield w X (wd37 hw) Via.refl F_coder_t d7_7 10 rfl (fun T X => ?_)
  refine if_ne w X d7_10 17 13 (by decide) (by decide) rfl (fun q => absurd q (by decide)) (fun hc10_2 => ?_)
  refine iconst w X (1 : Int32) d7_13 14 rfl rfl ?_
  refine goto w X d7_14 18 (by decide) (by decide) ?_
  refine retN w X (t := .boolean) rfl (by simp) d7_18 (by decide) (by decide) ?_
  exact ⟨(1 : Int32), rfl, rfl, rfl⟩
theorem d10_0 : decode jdk_41_method_11_code 0 = .ok (.iload_n 0, 1) := by decide +kernel
theorem d10_1 : decode jdk_41_method_11_code 1 = .ok (.ifCond .lt 8, 3) := by decide +kernel
theorem d10_4 : decode jdk_41_method_11_code 4 = .ok (.iload_n 0, 1) := by decide +kernel
theorem d10_5 : decode jdk_41_method_11_code 5 = .ok (.iload_n 1, 1) := by decide +kernel
theorem d10_6 : decode jdk_41_method_11_code 6 = .ok (.if_icmp .lt 10, 3) := by decide +kernel
theorem d10_16 : decode jdk_41_method_11_code 16 = .ok (.iload_n 0, 1) := by decide +kernel
theorem d10_17 : decode jdk_41_method_11_code 17 = .ok (.ireturn, 1) := by decide +kernel
theorem pn10 : plainName "jdk/internal/util/Preconditions" = true := by first | (simp [plainName, overriddenIn]; done) | decide +kernel
set_option maxRecDepth 65536 in
set_option maxHeartbeats 40000000 in
theorem rm_pciN {l : Launch} {Z : State} {a0 : Array Value} (hw : ∀ d ∈ tables_1, d.before a0 Z = true) (i n : Int32) (h : Heap) (n0 : Nat) (zn : n0 ≤ h.size) (h1 : ¬ i < 0) (h2 : i < n) :
    Met l Z (⟨"jdk/internal/util/Preconditions", "checkIndex", "(IILjava/util/function/BiFunction;)I"⟩ : MethodName) jdk_41_method_11_code 3 (some .int) [] ({ frames := 0, cells := 0, slots := 0, locals := 0 } : Room) #[(.int i), (.int n), .null] h n0 (RI fun r h' => h' = h ∧ r = i) := by
  refine start (ls := #[.val (.int i), .val (.int n), .val .null]) (plainFor_of_name pn10) (fun m => by first | (simp [entryFrame, mkF, argsToLocals, Value.category]; done) | rfl) ?_
  intro p e s m below meth c T G w X
  refine iloadN w X d10_0 1 rfl rfl ?_
  refine if_lt w X d10_1 9 4 (by decide) (by decide) rfl (fun q => False.elim (by exact h1 q)) (fun hc1_1 => ?_)
  refine iloadN w X d10_4 5 rfl rfl ?_
  refine iloadN w X d10_5 6 rfl rfl ?_
  refine icmp_lt w X d10_6 16 9 (by decide) (by decide) rfl (fun hc6_2 => ?_) (fun q => False.elim (by exact q h2))
  refine iloadN w X d10_16 17 rfl rfl ?_
  refine retI w X rfl d10_17 (by decide) (by decide) ?_
  exact ⟨_, rfl, rfl, rfl⟩
set_option maxRecDepth 65536 in
set_option maxHeartbeats 40000000 in
theorem rm_pciR {l : Launch} {Z : State} {a0 : Array Value} (hw : ∀ d ∈ tables_1, d.before a0 Z = true) (i n : Int32) (q : Addr) (h : Heap) (n0 : Nat) (zn : n0 ≤ h.size) (h1 : ¬ i < 0) (h2 : i < n) :
    Met l Z (⟨"jdk/internal/util/Preconditions", "checkIndex", "(IILjava/util/function/BiFunction;)I"⟩ : MethodName) jdk_41_method_11_code 3 (some .int) [] ({ frames := 0, cells := 0, slots := 0, locals := 0 } : Room) #[(.int i), (.int n), (.ref q)] h n0 (RI fun r h' => h' = h ∧ r = i) := by
  refine start (ls := #[.val (.int i), .val (.int n), .val (.ref q)]) (plainFor_of_name pn10) (fun m => by first | (simp [entryFrame, mkF, argsToLocals, Value.category]; done) | rfl) ?_
  intro p e s m below meth c T G w X
  refine iloadN w X d10_0 1 rfl rfl ?_
  refine if_lt w X d10_1 9 4 (by decide) (by decide) rfl (fun q => False.elim (by exact h1 q)) (fun hc1_1 => ?_)
  refine iloadN w X d10_4 5 rfl rfl ?_
  refine iloadN w X d10_5 6 rfl rfl ?_
  refine icmp_lt w X d10_6 16 9 (by decide) (by decide) rfl (fun hc6_2 => ?_) (fun q => False.elim (by exact q h2))
  refine iloadN w X d10_16 17 rfl rfl ?_
  refine retI w X rfl d10_17 (by decide) (by decide) ?_
  exact ⟨_, rfl, rfl, rfl⟩
theorem d9_0 : decode jdk_42_method_155_code 0 = .ok (.iload_n 0, 1) := by decide +kernel
theorem d9_1 : decode jdk_42_method_155_code 1 = .ok (.iload_n 1, 1) := by decide +kernel
theorem d9_2 : decode jdk_42_method_155_code 2 = .ok (.getstatic 1053, 3) := by decide +kernel
theorem d9_5 : decode jdk_42_method_155_code 5 = .ok (.invokestatic 1059, 3) := by decide +kernel
theorem d9_8 : decode jdk_42_method_155_code 8 = .ok (.pop, 1) := by decide +kernel
theorem d9_9 : decode jdk_42_method_155_code 9 = .ok (.return_, 1) := by decide +kernel
set_option maxRecDepth 65536 in
set_option maxHeartbeats 40000000 in
theorem rm_sci {l : Launch} {Z : State} {a0 : Array Value} (hw : ∀ d ∈ tables_1, d.before a0 Z = true) (i n : Int32) (sio : Value) (h : Heap) (n0 : Nat) (zn : n0 ≤ h.size) (h1 : ¬ i < 0) (h2 : i < n) (S_sio : Sta Z h "jdk/internal/util/Preconditions" "SIOOBE_FORMATTER" "Ljava/util/function/BiFunction;" sio) (hsio : sio.isRef = true) :
    Met l Z (⟨"java/lang/String", "checkIndex", "(II)V"⟩ : MethodName) jdk_42_method_155_code 2 none [] ({ frames := 1, cells := 0, slots := 0, locals := 14 } : Room) #[(.int i), (.int n)] h n0 (RV fun h' => h' = h) := by
  refine start (ls := #[.val (.int i), .val (.int n)]) (plainFor_of_name pn5) (fun m => by first | (simp [entryFrame, mkF, argsToLocals, Value.category]; done) | rfl) ?_
  intro p e s m below meth c T G w X
  rcases ref_cases hsio with rfl | ⟨q, rfl⟩
  ·
    refine iloadN w X d9_0 1 rfl rfl ?_
    refine iloadN w X d9_1 2 rfl rfl ?_
    refine getstatic w X (wd56 hw) Via.refl S_sio d9_2 5 rfl (fun T X => ?_)
    refine callSPI w X [(.int i), (.int n), .null] (wd58 hw) (wd59 hw) (wd57 hw) (wd60 hw) (by decide) (rm_pciN hw i n h n0 zn h1 h2) d9_5 8 rfl 0 (by decide) (by decide) (lenOf pd1 rfl) rfl (Nat.le_of_eq rfl) rfl (by decide) (by decide) (fun r1 T X hq => ?_)
    refine popV w X d9_8 9 rfl rfl ?_
    refine retV w X rfl d9_9 (by decide) (by decide) ?_
    exact ⟨rfl, rfl⟩
  ·
    refine iloadN w X d9_0 1 rfl rfl ?_
    refine iloadN w X d9_1 2 rfl rfl ?_
    refine getstatic w X (wd56 hw) Via.refl S_sio d9_2 5 rfl (fun T X => ?_)
    refine callSPI w X [(.int i), (.int n), (.ref q)] (wd58 hw) (wd59 hw) (wd57 hw) (wd60 hw) (by decide) (rm_pciR hw i n q h n0 zn h1 h2) d9_5 8 rfl 0 (by decide) (by decide) (lenOf pd1 rfl) rfl (Nat.le_of_eq rfl) rfl (by decide) (by decide) (fun r2 T X hq => ?_)
    refine popV w X d9_8 9 rfl rfl ?_
    refine retV w X rfl d9_9 (by decide) (by decide) ?_
    exact ⟨rfl, rfl⟩
theorem d8_0 : decode jdk_43_method_2_code 0 = .ok (.iload_n 1, 1) := by decide +kernel
theorem d8_1 : decode jdk_43_method_2_code 1 = .ok (.aload_n 0, 1) := by decide +kernel
theorem d8_2 : decode jdk_43_method_2_code 2 = .ok (.arraylength, 1) := by decide +kernel
theorem d8_3 : decode jdk_43_method_2_code 3 = .ok (.invokestatic 9, 3) := by decide +kernel
theorem d8_6 : decode jdk_43_method_2_code 6 = .ok (.aload_n 0, 1) := by decide +kernel
theorem d8_7 : decode jdk_43_method_2_code 7 = .ok (.iload_n 1, 1) := by decide +kernel
theorem d8_8 : decode jdk_43_method_2_code 8 = .ok (.baload, 1) := by decide +kernel
theorem d8_9 : decode jdk_43_method_2_code 9 = .ok (.sipush 255, 3) := by decide +kernel
theorem d8_12 : decode jdk_43_method_2_code 12 = .ok (.iand, 1) := by decide +kernel
theorem d8_13 : decode jdk_43_method_2_code 13 = .ok (.i2c, 1) := by decide +kernel
theorem d8_14 : decode jdk_43_method_2_code 14 = .ok (.ireturn, 1) := by decide +kernel
theorem pn8 : plainName "java/lang/StringLatin1" = true := by first | (simp [plainName, overriddenIn]; done) | decide +kernel
set_option maxRecDepth 65536 in
set_option maxHeartbeats 40000000 in
theorem rm_lch {l : Launch} {Z : State} {a0 : Array Value} (hw : ∀ d ∈ tables_1, d.before a0 Z = true) (v : Addr) (i : Int32) (bs : List Int32) (n : Int32) (sio : Value) (h : Heap) (n0 : Nat) (zn : n0 ≤ h.size) (V_v : PA Z h v .byte bs) (hn : n = Int32.ofNat bs.length) (h1 : ¬ i < 0) (h2 : i < n) (h3 : i.toNatClampNeg < bs.length) (S_sio : Sta Z h "jdk/internal/util/Preconditions" "SIOOBE_FORMATTER" "Ljava/util/function/BiFunction;" sio) (hsio : sio.isRef = true) :
    Met l Z (⟨"java/lang/StringLatin1", "charAt", "([BI)C"⟩ : MethodName) jdk_43_method_2_code 2 (some .char) [] ({ frames := 2, cells := 0, slots := 0, locals := 27 } : Room) #[(.ref v), (.int i)] h n0 (RI fun r h' => h' = h ∧ r = own_ch bs i.toNatClampNeg) := by
  refine start (ls := #[.val (.ref v), .val (.int i)]) (plainFor_of_name pn8) (fun m => by first | (simp [entryFrame, mkF, argsToLocals, Value.category]; done) | rfl) ?_
  intro p e s m below meth c T G w X
  refine iloadN w X d8_0 1 rfl rfl ?_
  refine aloadN w X d8_1 2 rfl rfl rfl ?_
  refine arraylength w X V_v d8_2 3 rfl (Int32.ofNat bs.length) rfl ?_
  refine callSPV w X [(.int i), (.int (Int32.ofNat bs.length))] (wd53 hw) (wd54 hw) (wd27 hw) (wd55 hw) (by decide) (rm_sci hw i (Int32.ofNat bs.length) sio h n0 zn h1 (hn ▸ h2) S_sio hsio) d8_3 6 rfl 0 (by decide) (by decide) (lenOf pd2 rfl) rfl (Nat.le_of_eq rfl) rfl (by decide) (by decide) (fun T X => ?_)
  refine aloadN w X d8_6 7 rfl rfl rfl ?_
  refine iloadN w X d8_7 8 rfl rfl ?_
  refine baload w X V_v h1 i.toNatClampNeg rfl h3 d8_8 9 rfl (bs.getD i.toNatClampNeg 0) rfl ?_
  refine sipush w X (255 : Int32) d8_9 12 rfl rfl ?_
  refine iand w X ((bs.getD i.toNatClampNeg 0) &&& (255 : Int32)) d8_12 13 rfl rfl ?_
  refine i2c w X (((bs.getD i.toNatClampNeg 0) &&& (255 : Int32)).toUInt32.toUInt16.toUInt32.toInt32) d8_13 14 rfl rfl ?_
  refine retN w X (t := .char) rfl (by simp) d8_14 (by decide) (by decide) ?_
  exact ⟨_, rfl, rfl, rfl⟩
theorem d6_0 : decode jdk_42_method_56_code 0 = .ok (.aload_n 0, 1) := by decide +kernel
theorem d6_1 : decode jdk_42_method_56_code 1 = .ok (.invokevirtual 492, 3) := by decide +kernel
theorem d6_4 : decode jdk_42_method_56_code 4 = .ok (.ifCond .eq 12, 3) := by decide +kernel
theorem d6_7 : decode jdk_42_method_56_code 7 = .ok (.aload_n 0, 1) := by decide +kernel
theorem d6_8 : decode jdk_42_method_56_code 8 = .ok (.getfield 9, 3) := by decide +kernel
theorem d6_11 : decode jdk_42_method_56_code 11 = .ok (.iload_n 1, 1) := by decide +kernel
theorem d6_12 : decode jdk_42_method_56_code 12 = .ok (.invokestatic 495, 3) := by decide +kernel
theorem d6_15 : decode jdk_42_method_56_code 15 = .ok (.ireturn, 1) := by decide +kernel
set_option maxRecDepth 65536 in
set_option maxHeartbeats 40000000 in
theorem rm_charAt {l : Launch} {Z : State} {a0 : Array Value} (hw : ∀ d ∈ tables_1, d.before a0 Z = true) (t v : Addr) (i : Int32) (bs : List Int32) (n : Int32) (cs : Int32) (sio : Value) (h : Heap) (n0 : Nat) (zn : n0 ≤ h.size) (S_cs : Sta Z h "java/lang/String" "COMPACT_STRINGS" "Z" (.int cs)) (hcs : ¬ cs = 0) (E_t : Exa Z h t "java/lang/String") (F_value_t : Fld Z h t "java/lang/String" "value" "[B" (.ref v)) (V_v : PA Z h v .byte bs) (F_coder_t : Fld Z h t "java/lang/String" "coder" "B" (.int (0 : Int32))) (hn : n = Int32.ofNat bs.length) (h1 : ¬ i < 0) (h2 : i < n) (h3 : i.toNatClampNeg < bs.length) (S_sio : Sta Z h "jdk/internal/util/Preconditions" "SIOOBE_FORMATTER" "Ljava/util/function/BiFunction;" sio) (hsio : sio.isRef = true) :
    Met l Z (⟨"java/lang/String", "charAt", "(I)C"⟩ : MethodName) jdk_42_method_56_code 2 (some .char) [] ({ frames := 3, cells := 0, slots := 0, locals := 40 } : Room) #[(.ref t), (.int i)] h n0 (RI fun r h' => h' = h ∧ r = own_ch bs i.toNatClampNeg) := by
  refine start (ls := #[.val (.ref t), .val (.int i)]) (plainFor_of_name pn5) (fun m => by first | (simp [entryFrame, mkF, argsToLocals, Value.category]; done) | rfl) ?_
  intro p e s m below meth c T G w X
  refine aloadN w X d6_0 1 rfl rfl rfl ?_
  refine callVPI w X [] (wd44 hw) (wd45 hw) (notFace_of_selects (args := #[]) (mvT w.2.2.2.2.1 (wd47 hw))) (wd47 hw) (wd46 hw) (wd27 hw) (wd48 hw) (by decide) E_t (rm_lat hw t cs h n0 zn S_cs hcs E_t F_coder_t) d6_1 4 rfl 0 (by decide) (by decide) (lenOf pd3 rfl) rfl (Nat.le_of_eq rfl) rfl (by decide) (by decide) (fun r1 T X hq => ?_)
  have hr1 := hq
  refine if_eq w X d6_4 16 7 (by decide) (by decide) rfl (fun q => False.elim (by rw [hr1] at q; exact absurd q (by decide))) (fun hc4_2 => ?_)
  refine aloadN w X d6_7 8 rfl rfl rfl ?_
  refine getfield w X (wd29 hw) Via.refl F_value_t d6_8 11 rfl (fun T X => ?_)
  refine iloadN w X d6_11 12 rfl rfl ?_
  refine callSPI w X [(.ref v), (.int i)] (wd49 hw) (wd50 hw) (wd51 hw) (wd52 hw) (by decide) (rm_lch hw v i bs n sio h n0 zn V_v hn h1 h2 h3 S_sio hsio) d6_12 15 rfl 0 (by decide) (by decide) (lenOf pd4 rfl) rfl (Nat.le_of_eq rfl) rfl (by decide) (by decide) (fun r3 T X hq => ?_)
  have hr3 := hq
  refine retN w X (t := .char) rfl (by simp) d6_15 (by decide) (by decide) ?_
  exact ⟨_, rfl, rfl, by rw [hr3]; exact own_nar_ch _ _⟩
set_option maxRecDepth 65536 in
set_option maxHeartbeats 40000000 in
theorem lf2_1 (t : Addr) (en_MULTIPLE : Addr) (en_AT_LEAST_ONE : Addr) (hc4_1 : (Value.ref t) = (Value.ref en_MULTIPLE)) : (1 : Int32) = own_isMultiple t en_MULTIPLE en_AT_LEAST_ONE := by
  unfold own_isMultiple
  simp_all
set_option maxRecDepth 65536 in
set_option maxHeartbeats 40000000 in
theorem lf2_2 (t : Addr) (en_MULTIPLE : Addr) (en_AT_LEAST_ONE : Addr) (hc4_1 : ¬ ((Value.ref t) = (Value.ref en_MULTIPLE))) (hc11_2 : ¬ ((Value.ref t) = (Value.ref en_AT_LEAST_ONE))) : (0 : Int32) = own_isMultiple t en_MULTIPLE en_AT_LEAST_ONE := by
  unfold own_isMultiple
  simp_all
set_option maxRecDepth 65536 in
set_option maxHeartbeats 40000000 in
theorem lf2_3 (t : Addr) (en_MULTIPLE : Addr) (en_AT_LEAST_ONE : Addr) (hc4_1 : ¬ ((Value.ref t) = (Value.ref en_MULTIPLE))) (hc11_2 : (Value.ref t) = (Value.ref en_AT_LEAST_ONE)) : (1 : Int32) = own_isMultiple t en_MULTIPLE en_AT_LEAST_ONE := by
  unfold own_isMultiple
  simp_all
theorem d2_0 : decode prog_16_method_6_code 0 = .ok (.aload_n 0, 1) := by decide +kernel
theorem d2_1 : decode prog_16_method_6_code 1 = .ok (.getstatic 10, 3) := by decide +kernel
theorem d2_4 : decode prog_16_method_6_code 4 = .ok (.if_acmp .eq 10, 3) := by decide +kernel
theorem d2_7 : decode prog_16_method_6_code 7 = .ok (.aload_n 0, 1) := by decide +kernel
theorem d2_8 : decode prog_16_method_6_code 8 = .ok (.getstatic 13, 3) := by decide +kernel
theorem d2_11 : decode prog_16_method_6_code 11 = .ok (.if_acmp .ne 7, 3) := by decide +kernel
theorem d2_14 : decode prog_16_method_6_code 14 = .ok (.iconst 1, 1) := by decide +kernel
theorem d2_15 : decode prog_16_method_6_code 15 = .ok (.goto 4, 3) := by decide +kernel
theorem d2_18 : decode prog_16_method_6_code 18 = .ok (.iconst 0, 1) := by decide +kernel
theorem d2_19 : decode prog_16_method_6_code 19 = .ok (.ireturn, 1) := by decide +kernel
theorem pn2 : plainName "com/example/bindkeeper/bindkeeper/model/ReferenceDescription$Cardinality" = true := by first | (simp [plainName, overriddenIn]; done) | decide +kernel
set_option maxRecDepth 65536 in
set_option maxHeartbeats 40000000 in
theorem rm_isMultiple {l : Launch} {Z : State} {a0 : Array Value} (hw : ∀ d ∈ tables_1, d.before a0 Z = true) (t en_MULTIPLE en_AT_LEAST_ONE : Addr) (h : Heap) (n0 : Nat) (zn : n0 ≤ h.size) (S_en_MULTIPLE : Sta Z h "com/example/bindkeeper/bindkeeper/model/ReferenceDescription$Cardinality" "MULTIPLE" "Lcom/example/bindkeeper/bindkeeper/model/ReferenceDescription$Cardinality;" (.ref en_MULTIPLE)) (S_en_AT_LEAST_ONE : Sta Z h "com/example/bindkeeper/bindkeeper/model/ReferenceDescription$Cardinality" "AT_LEAST_ONE" "Lcom/example/bindkeeper/bindkeeper/model/ReferenceDescription$Cardinality;" (.ref en_AT_LEAST_ONE)) :
    Met l Z (⟨"com/example/bindkeeper/bindkeeper/model/ReferenceDescription$Cardinality", "isMultiple", "()Z"⟩ : MethodName) prog_16_method_6_code 1 (some .boolean) [] ({ frames := 0, cells := 0, slots := 0, locals := 0 } : Room) #[(.ref t)] h n0 (RI fun r h' => h' = h ∧ r = own_isMultiple t en_MULTIPLE en_AT_LEAST_ONE) := by
  refine start (ls := #[.val (.ref t)]) (plainFor_of_name pn2) (fun m => by first | (simp [entryFrame, mkF, argsToLocals, Value.category]; done) | rfl) ?_
  intro p e s m below meth c T G w X
  refine aloadN w X d2_0 1 rfl rfl rfl ?_
  refine getstatic w X (wd12 hw) Via.refl S_en_MULTIPLE d2_1 4 rfl (fun T X => ?_)
  refine acmp_eq w X rfl rfl d2_4 14 7 (by decide) (by decide) rfl (fun hc4_1 => ?_) (fun hc4_1 => ?_)
  ·
    refine iconst w X (1 : Int32) d2_14 15 rfl rfl ?_
    refine goto w X d2_15 19 (by decide) (by decide) ?_
    refine retN w X (t := .boolean) rfl (by simp) d2_19 (by decide) (by decide) ?_
    exact ⟨(1 : Int32), rfl, rfl, lf2_1 t en_MULTIPLE en_AT_LEAST_ONE hc4_1⟩
  ·
    refine aloadN w X d2_7 8 rfl rfl rfl ?_
    refine getstatic w X (wd14 hw) Via.refl S_en_AT_LEAST_ONE d2_8 11 rfl (fun T X => ?_)
    refine acmp_ne w X rfl rfl d2_11 18 14 (by decide) (by decide) rfl (fun hc11_2 => ?_) (fun hc11_2 => ?_)
    ·
      refine iconst w X (0 : Int32) d2_18 19 rfl rfl ?_
      refine retN w X (t := .boolean) rfl (by simp) d2_19 (by decide) (by decide) ?_
      exact ⟨(0 : Int32), rfl, rfl, lf2_2 t en_MULTIPLE en_AT_LEAST_ONE hc4_1 hc11_2⟩
    ·
      refine iconst w X (1 : Int32) d2_14 15 rfl rfl ?_
      refine goto w X d2_15 19 (by decide) (by decide) ?_
      refine retN w X (t := .boolean) rfl (by simp) d2_19 (by decide) (by decide) ?_
      exact ⟨(1 : Int32), rfl, rfl, lf2_3 t en_MULTIPLE en_AT_LEAST_ONE hc4_1 hc11_2⟩
theorem d3_0 : decode prog_16_method_4_code 0 = .ok (.aload_n 0, 1) := by decide +kernel
theorem d3_1 : decode prog_16_method_4_code 1 = .ok (.getfield 35, 3) := by decide +kernel
theorem d3_4 : decode prog_16_method_4_code 4 = .ok (.areturn, 1) := by decide +kernel
set_option maxRecDepth 65536 in
set_option maxHeartbeats 40000000 in
theorem rm_keyword {l : Launch} {Z : State} {a0 : Array Value} (hw : ∀ d ∈ tables_1, d.before a0 Z = true) (t kw : Addr) (h : Heap) (n0 : Nat) (zn : n0 ≤ h.size) (F_keyword_t : Fld Z h t "com/example/bindkeeper/bindkeeper/model/ReferenceDescription$Cardinality" "keyword" "Ljava/lang/String;" (.ref kw)) :
    Met l Z (⟨"com/example/bindkeeper/bindkeeper/model/ReferenceDescription$Cardinality", "keyword", "()Ljava/lang/String;"⟩ : MethodName) prog_16_method_4_code 1 (some (.object "java/lang/String")) [] ({ frames := 0, cells := 0, slots := 0, locals := 0 } : Room) #[(.ref t)] h n0 (RR fun r h' => h' = h ∧ r = .ref kw) := by
  refine start (ls := #[.val (.ref t)]) (plainFor_of_name pn2) (fun m => by first | (simp [entryFrame, mkF, argsToLocals, Value.category]; done) | rfl) ?_
  intro p e s m below meth c T G w X
  refine aloadN w X d3_0 1 rfl rfl rfl ?_
  refine getfield w X (wd21 hw) Via.refl F_keyword_t d3_1 4 rfl (fun T X => ?_)
  refine retA w X rfl rfl rfl d3_4 (by decide) (by decide) ?_
  exact ⟨_, rfl, rfl, rfl⟩
set_option maxRecDepth 65536 in
set_option maxHeartbeats 40000000 in
theorem lf1_1 (i : Int32) (en_OPTIONAL : Addr) (en_MANDATORY : Addr) (en_MULTIPLE : Addr) (en_AT_LEAST_ONE : Addr) (hc1_1 : ¬ (i = 0)) (hc10_2 : ¬ (i = (1 : Int32))) (hc19_3 : ¬ (i = (2 : Int32))) : Value.ref en_AT_LEAST_ONE = Value.ref (own_pick i en_OPTIONAL en_MANDATORY en_MULTIPLE en_AT_LEAST_ONE) := by
  unfold own_pick
  simp_all
set_option maxRecDepth 65536 in
set_option maxHeartbeats 40000000 in
theorem lf1_2 (i : Int32) (en_OPTIONAL : Addr) (en_MANDATORY : Addr) (en_MULTIPLE : Addr) (en_AT_LEAST_ONE : Addr) (hc1_1 : ¬ (i = 0)) (hc10_2 : ¬ (i = (1 : Int32))) (hc19_3 : i = (2 : Int32)) : Value.ref en_MULTIPLE = Value.ref (own_pick i en_OPTIONAL en_MANDATORY en_MULTIPLE en_AT_LEAST_ONE) := by
  unfold own_pick
  simp_all
set_option maxRecDepth 65536 in
set_option maxHeartbeats 40000000 in
theorem lf1_3 (i : Int32) (en_OPTIONAL : Addr) (en_MANDATORY : Addr) (en_MULTIPLE : Addr) (en_AT_LEAST_ONE : Addr) (hc1_1 : ¬ (i = 0)) (hc10_2 : i = (1 : Int32)) : Value.ref en_MANDATORY = Value.ref (own_pick i en_OPTIONAL en_MANDATORY en_MULTIPLE en_AT_LEAST_ONE) := by
  unfold own_pick
  simp_all
set_option maxRecDepth 65536 in
set_option maxHeartbeats 40000000 in
theorem lf1_4 (i : Int32) (en_OPTIONAL : Addr) (en_MANDATORY : Addr) (en_MULTIPLE : Addr) (en_AT_LEAST_ONE : Addr) (hc1_1 : i = 0) : Value.ref en_OPTIONAL = Value.ref (own_pick i en_OPTIONAL en_MANDATORY en_MULTIPLE en_AT_LEAST_ONE) := by
  unfold own_pick
  simp_all
theorem d1_0 : decode method_2_code 0 = .ok (.iload_n 0, 1) := by decide +kernel
theorem d1_1 : decode method_2_code 1 = .ok (.ifCond .ne 7, 3) := by decide +kernel
theorem d1_4 : decode method_2_code 4 = .ok (.getstatic 7, 3) := by decide +kernel
theorem d1_7 : decode method_2_code 7 = .ok (.areturn, 1) := by decide +kernel
theorem d1_8 : decode method_2_code 8 = .ok (.iload_n 0, 1) := by decide +kernel
theorem d1_9 : decode method_2_code 9 = .ok (.iconst 1, 1) := by decide +kernel
theorem d1_10 : decode method_2_code 10 = .ok (.if_icmp .ne 7, 3) := by decide +kernel
theorem d1_13 : decode method_2_code 13 = .ok (.getstatic 13, 3) := by decide +kernel
theorem d1_16 : decode method_2_code 16 = .ok (.areturn, 1) := by decide +kernel
theorem d1_17 : decode method_2_code 17 = .ok (.iload_n 0, 1) := by decide +kernel
theorem d1_18 : decode method_2_code 18 = .ok (.iconst 2, 1) := by decide +kernel
theorem d1_19 : decode method_2_code 19 = .ok (.if_icmp .ne 7, 3) := by decide +kernel
theorem d1_22 : decode method_2_code 22 = .ok (.getstatic 16, 3) := by decide +kernel
theorem d1_25 : decode method_2_code 25 = .ok (.areturn, 1) := by decide +kernel
theorem d1_26 : decode method_2_code 26 = .ok (.getstatic 19, 3) := by decide +kernel
theorem d1_29 : decode method_2_code 29 = .ok (.areturn, 1) := by decide +kernel
theorem pn1 : plainName "com/example/bindkeeper/bindkeeper/model/CardinalityIsMultiplePinLaw" = true := by first | (simp [plainName, overriddenIn]; done) | decide +kernel
set_option maxRecDepth 65536 in
set_option maxHeartbeats 40000000 in
theorem rm_pick {l : Launch} {Z : State} {a0 : Array Value} (hw : ∀ d ∈ tables_1, d.before a0 Z = true) (i : Int32) (en_OPTIONAL en_MANDATORY en_MULTIPLE en_AT_LEAST_ONE : Addr) (h : Heap) (n0 : Nat) (zn : n0 ≤ h.size) (S_en_OPTIONAL : Sta Z h "com/example/bindkeeper/bindkeeper/model/ReferenceDescription$Cardinality" "OPTIONAL" "Lcom/example/bindkeeper/bindkeeper/model/ReferenceDescription$Cardinality;" (.ref en_OPTIONAL)) (S_en_MANDATORY : Sta Z h "com/example/bindkeeper/bindkeeper/model/ReferenceDescription$Cardinality" "MANDATORY" "Lcom/example/bindkeeper/bindkeeper/model/ReferenceDescription$Cardinality;" (.ref en_MANDATORY)) (S_en_MULTIPLE : Sta Z h "com/example/bindkeeper/bindkeeper/model/ReferenceDescription$Cardinality" "MULTIPLE" "Lcom/example/bindkeeper/bindkeeper/model/ReferenceDescription$Cardinality;" (.ref en_MULTIPLE)) (S_en_AT_LEAST_ONE : Sta Z h "com/example/bindkeeper/bindkeeper/model/ReferenceDescription$Cardinality" "AT_LEAST_ONE" "Lcom/example/bindkeeper/bindkeeper/model/ReferenceDescription$Cardinality;" (.ref en_AT_LEAST_ONE)) :
    Met l Z (⟨"com/example/bindkeeper/bindkeeper/model/CardinalityIsMultiplePinLaw", "pick", "(I)Lcom/example/bindkeeper/bindkeeper/model/ReferenceDescription$Cardinality;"⟩ : MethodName) method_2_code 1 (some (.object "com/example/bindkeeper/bindkeeper/model/ReferenceDescription$Cardinality")) [] ({ frames := 0, cells := 0, slots := 0, locals := 0 } : Room) #[(.int i)] h n0 (RR fun r h' => h' = h ∧ r = .ref (own_pick i en_OPTIONAL en_MANDATORY en_MULTIPLE en_AT_LEAST_ONE)) := by
  refine start (ls := #[.val (.int i)]) (plainFor_of_name pn1) (fun m => by first | (simp [entryFrame, mkF, argsToLocals, Value.category]; done) | rfl) ?_
  intro p e s m below meth c T G w X
  refine iloadN w X d1_0 1 rfl rfl ?_
  refine if_ne w X d1_1 8 4 (by decide) (by decide) rfl (fun hc1_1 => ?_) (fun hc1_1 => ?_)
  ·
    refine iloadN w X d1_8 9 rfl rfl ?_
    refine iconst w X (1 : Int32) d1_9 10 rfl rfl ?_
    refine icmp_ne w X d1_10 17 13 (by decide) (by decide) rfl (fun hc10_2 => ?_) (fun hc10_2 => ?_)
    ·
      refine iloadN w X d1_17 18 rfl rfl ?_
      refine iconst w X (2 : Int32) d1_18 19 rfl rfl ?_
      refine icmp_ne w X d1_19 26 22 (by decide) (by decide) rfl (fun hc19_3 => ?_) (fun hc19_3 => ?_)
      ·
        refine getstatic w X (wd61 hw) Via.refl S_en_AT_LEAST_ONE d1_26 29 rfl (fun T X => ?_)
        refine retA w X rfl rfl rfl d1_29 (by decide) (by decide) ?_
        exact ⟨_, rfl, rfl, lf1_1 i en_OPTIONAL en_MANDATORY en_MULTIPLE en_AT_LEAST_ONE hc1_1 hc10_2 hc19_3⟩
      ·
        refine getstatic w X (wd62 hw) Via.refl S_en_MULTIPLE d1_22 25 rfl (fun T X => ?_)
        refine retA w X rfl rfl rfl d1_25 (by decide) (by decide) ?_
        exact ⟨_, rfl, rfl, lf1_2 i en_OPTIONAL en_MANDATORY en_MULTIPLE en_AT_LEAST_ONE hc1_1 hc10_2 hc19_3⟩
    ·
      refine getstatic w X (wd63 hw) Via.refl S_en_MANDATORY d1_13 16 rfl (fun T X => ?_)
      refine retA w X rfl rfl rfl d1_16 (by decide) (by decide) ?_
      exact ⟨_, rfl, rfl, lf1_3 i en_OPTIONAL en_MANDATORY en_MULTIPLE en_AT_LEAST_ONE hc1_1 hc10_2⟩
  ·
    refine getstatic w X (wd4 hw) Via.refl S_en_OPTIONAL d1_4 7 rfl (fun T X => ?_)
    refine retA w X rfl rfl rfl d1_7 (by decide) (by decide) ?_
    exact ⟨_, rfl, rfl, lf1_4 i en_OPTIONAL en_MANDATORY en_MULTIPLE en_AT_LEAST_ONE hc1_1⟩
set_option maxRecDepth 65536 in
set_option maxHeartbeats 40000000 in
theorem rm_law {l : Launch} {Z : State} {a0 : Array Value} (hw : ∀ d ∈ tables_1, d.before a0 Z = true) (v : Int32) (en_OPTIONAL en_MULTIPLE en_AT_LEAST_ONE en_OPTIONAL_keyword en_AT_LEAST_ONE_keyword en_MULTIPLE_keyword en_MANDATORY en_MANDATORY_keyword en_OPTIONAL_keyword_value en_AT_LEAST_ONE_keyword_value en_MULTIPLE_keyword_value en_MANDATORY_keyword_value : Addr) (cs : Int32) (sio : Value) (h : Heap) (n0 : Nat) (zn : n0 ≤ h.size) (S_en_OPTIONAL : Sta Z h "com/example/bindkeeper/bindkeeper/model/ReferenceDescription$Cardinality" "OPTIONAL" "Lcom/example/bindkeeper/bindkeeper/model/ReferenceDescription$Cardinality;" (.ref en_OPTIONAL)) (E_en_OPTIONAL : Exa Z h en_OPTIONAL "com/example/bindkeeper/bindkeeper/model/ReferenceDescription$Cardinality") (S_en_MULTIPLE : Sta Z h "com/example/bindkeeper/bindkeeper/model/ReferenceDescription$Cardinality" "MULTIPLE" "Lcom/example/bindkeeper/bindkeeper/model/ReferenceDescription$Cardinality;" (.ref en_MULTIPLE)) (E_en_MULTIPLE : Exa Z h en_MULTIPLE "com/example/bindkeeper/bindkeeper/model/ReferenceDescription$Cardinality") (S_en_AT_LEAST_ONE : Sta Z h "com/example/bindkeeper/bindkeeper/model/ReferenceDescription$Cardinality" "AT_LEAST_ONE" "Lcom/example/bindkeeper/bindkeeper/model/ReferenceDescription$Cardinality;" (.ref en_AT_LEAST_ONE)) (E_en_AT_LEAST_ONE : Exa Z h en_AT_LEAST_ONE "com/example/bindkeeper/bindkeeper/model/ReferenceDescription$Cardinality") (F_keyword_en_OPTIONAL : Fld Z h en_OPTIONAL "com/example/bindkeeper/bindkeeper/model/ReferenceDescription$Cardinality" "keyword" "Ljava/lang/String;" (.ref en_OPTIONAL_keyword)) (E_en_OPTIONAL_keyword : Exa Z h en_OPTIONAL_keyword "java/lang/String") (F_keyword_en_AT_LEAST_ONE : Fld Z h en_AT_LEAST_ONE "com/example/bindkeeper/bindkeeper/model/ReferenceDescription$Cardinality" "keyword" "Ljava/lang/String;" (.ref en_AT_LEAST_ONE_keyword)) (E_en_AT_LEAST_ONE_keyword : Exa Z h en_AT_LEAST_ONE_keyword "java/lang/String") (F_keyword_en_MULTIPLE : Fld Z h en_MULTIPLE "com/example/bindkeeper/bindkeeper/model/ReferenceDescription$Cardinality" "keyword" "Ljava/lang/String;" (.ref en_MULTIPLE_keyword)) (E_en_MULTIPLE_keyword : Exa Z h en_MULTIPLE_keyword "java/lang/String") (S_en_MANDATORY : Sta Z h "com/example/bindkeeper/bindkeeper/model/ReferenceDescription$Cardinality" "MANDATORY" "Lcom/example/bindkeeper/bindkeeper/model/ReferenceDescription$Cardinality;" (.ref en_MANDATORY)) (E_en_MANDATORY : Exa Z h en_MANDATORY "com/example/bindkeeper/bindkeeper/model/ReferenceDescription$Cardinality") (F_keyword_en_MANDATORY : Fld Z h en_MANDATORY "com/example/bindkeeper/bindkeeper/model/ReferenceDescription$Cardinality" "keyword" "Ljava/lang/String;" (.ref en_MANDATORY_keyword)) (E_en_MANDATORY_keyword : Exa Z h en_MANDATORY_keyword "java/lang/String") (F_ordinal_en_OPTIONAL : Fld Z h en_OPTIONAL "java/lang/Enum" "ordinal" "I" (.int (0 : Int32))) (F_ordinal_en_MULTIPLE : Fld Z h en_MULTIPLE "java/lang/Enum" "ordinal" "I" (.int (2 : Int32))) (F_ordinal_en_AT_LEAST_ONE : Fld Z h en_AT_LEAST_ONE "java/lang/Enum" "ordinal" "I" (.int (3 : Int32))) (F_coder_en_OPTIONAL_keyword : Fld Z h en_OPTIONAL_keyword "java/lang/String" "coder" "B" (.int (0 : Int32))) (F_coder_en_AT_LEAST_ONE_keyword : Fld Z h en_AT_LEAST_ONE_keyword "java/lang/String" "coder" "B" (.int (0 : Int32))) (F_coder_en_MULTIPLE_keyword : Fld Z h en_MULTIPLE_keyword "java/lang/String" "coder" "B" (.int (0 : Int32))) (F_ordinal_en_MANDATORY : Fld Z h en_MANDATORY "java/lang/Enum" "ordinal" "I" (.int (1 : Int32))) (F_coder_en_MANDATORY_keyword : Fld Z h en_MANDATORY_keyword "java/lang/String" "coder" "B" (.int (0 : Int32))) (F_value_en_OPTIONAL_keyword : Fld Z h en_OPTIONAL_keyword "java/lang/String" "value" "[B" (.ref en_OPTIONAL_keyword_value)) (V_en_OPTIONAL_keyword_value : PA Z h en_OPTIONAL_keyword_value .byte [(48 : Int32), (46 : Int32), (46 : Int32), (49 : Int32)]) (F_value_en_AT_LEAST_ONE_keyword : Fld Z h en_AT_LEAST_ONE_keyword "java/lang/String" "value" "[B" (.ref en_AT_LEAST_ONE_keyword_value)) (V_en_AT_LEAST_ONE_keyword_value : PA Z h en_AT_LEAST_ONE_keyword_value .byte [(49 : Int32), (46 : Int32), (46 : Int32), (110 : Int32)]) (F_value_en_MULTIPLE_keyword : Fld Z h en_MULTIPLE_keyword "java/lang/String" "value" "[B" (.ref en_MULTIPLE_keyword_value)) (V_en_MULTIPLE_keyword_value : PA Z h en_MULTIPLE_keyword_value .byte [(48 : Int32), (46 : Int32), (46 : Int32), (110 : Int32)]) (F_value_en_MANDATORY_keyword : Fld Z h en_MANDATORY_keyword "java/lang/String" "value" "[B" (.ref en_MANDATORY_keyword_value)) (V_en_MANDATORY_keyword_value : PA Z h en_MANDATORY_keyword_value .byte [(49 : Int32), (46 : Int32), (46 : Int32), (49 : Int32)]) (ne_en_OPTIONAL_en_MULTIPLE : en_OPTIONAL ≠ en_MULTIPLE) (ne_en_OPTIONAL_en_AT_LEAST_ONE : en_OPTIONAL ≠ en_AT_LEAST_ONE) (ne_en_OPTIONAL_en_MANDATORY : en_OPTIONAL ≠ en_MANDATORY) (ne_en_MULTIPLE_en_AT_LEAST_ONE : en_MULTIPLE ≠ en_AT_LEAST_ONE) (ne_en_MULTIPLE_en_MANDATORY : en_MULTIPLE ≠ en_MANDATORY) (ne_en_AT_LEAST_ONE_en_MANDATORY : en_AT_LEAST_ONE ≠ en_MANDATORY) (S_cs : Sta Z h "java/lang/String" "COMPACT_STRINGS" "Z" (.int cs)) (hcs : ¬ cs = 0) (S_sio : Sta Z h "jdk/internal/util/Preconditions" "SIOOBE_FORMATTER" "Ljava/util/function/BiFunction;" sio) (hsio : sio.isRef = true) :
    Met l Z x code maxLocals ret tables_1 room_1 #[(.int v)] h n0 (RI fun r _ => r = 1) := by
  refine start (ls := #[.val (.int v), .unset, .unset, .unset, .unset, .unset, .unset]) (plainFor_of_name pn1) (fun m => by first | (simp [entryFrame, mkF, argsToLocals, Value.category, maxLocals]; done) | rfl) ?_
  intro p e s m below meth c T G w X
  refine iloadN w X at_0 1 rfl rfl ?_
  refine iconst w X (3 : Int32) at_1 2 rfl rfl ?_
  refine iand w X (v &&& (3 : Int32)) at_2 3 rfl rfl ?_
  obtain ⟨i1_1, hi1_1⟩ : ∃ z : Int32, z = (v &&& (3 : Int32)) := ⟨_, rfl⟩
  refine istoreN w X i1_1 at_3 4 rfl hi1_1 #[.val (.int v), .val (.int i1_1), .unset, .unset, .unset, .unset, .unset] rfl ?_
  have h4 := own_and3 v
  rw [← hi1_1] at h4
  clear hi1_1
  rcases h4 with rfl | rfl | rfl | rfl
  ·
    refine iloadN w X at_4 5 rfl rfl ?_
    refine callSPR w X [(.int (0 : Int32))] (wd0 hw) (wd1 hw) (wd2 hw) (wd3 hw) (by decide) (rm_pick hw (0 : Int32) en_OPTIONAL en_MANDATORY en_MULTIPLE en_AT_LEAST_ONE h n0 zn S_en_OPTIONAL S_en_MANDATORY S_en_MULTIPLE S_en_AT_LEAST_ONE) at_5 8 rfl 0 (by decide) (by decide) (lenOf pd5 rfl) rfl (Nat.le_of_eq rfl) rfl (by decide) (by decide) (fun r2 T X hq => ?_)
    have hq' : r2 = .ref en_OPTIONAL := hq.trans (by simp [own_pick])
    subst hq'
    refine astoreN w X at_8 9 rfl rfl #[.val (.int v), .val (.int (0 : Int32)), .val (.ref en_OPTIONAL), .unset, .unset, .unset, .unset] rfl ?_
    refine aloadN w X at_9 10 rfl rfl rfl ?_
    refine callVPI w X [] (wd7 hw) (wd8 hw) (notFace_of_selects (args := #[]) (mvT w.2.2.2.2.1 (wd10 hw))) (wd10 hw) (wd9 hw) (wd5 hw) (wd11 hw) (by decide) E_en_OPTIONAL (rm_isMultiple hw en_OPTIONAL en_MULTIPLE en_AT_LEAST_ONE h n0 zn S_en_MULTIPLE S_en_AT_LEAST_ONE) at_10 13 rfl 0 (by decide) (by decide) (lenOf pd3 rfl) rfl (Nat.le_of_eq rfl) rfl (by decide) (by decide) (fun r3 T X hq => ?_)
    have hr3 := hq
    refine istoreN w X r3 at_13 14 rfl rfl #[.val (.int v), .val (.int (0 : Int32)), .val (.ref en_OPTIONAL), .val (.int r3), .unset, .unset, .unset] rfl ?_
    refine aloadN w X at_14 15 rfl rfl rfl ?_
    refine callVPR w X [] (wd16 hw) (wd17 hw) (notFace_of_selects (args := #[]) (mvT w.2.2.2.2.1 (wd19 hw))) (wd19 hw) (wd18 hw) (wd5 hw) (wd20 hw) (by decide) E_en_OPTIONAL (rm_keyword hw en_OPTIONAL en_OPTIONAL_keyword h n0 zn F_keyword_en_OPTIONAL) at_15 18 rfl 0 (by decide) (by decide) (lenOf pd6 rfl) rfl (Nat.le_of_eq rfl) rfl (by decide) (by decide) (fun r4 T X hq => ?_)
    subst hq
    refine astore w X at_18 20 rfl rfl #[.val (.int v), .val (.int (0 : Int32)), .val (.ref en_OPTIONAL), .val (.int r3), .val (.ref en_OPTIONAL_keyword), .unset, .unset] rfl ?_
    refine aload w X at_20 22 rfl rfl rfl ?_
    refine callVPI w X [] (wd23 hw) (wd24 hw) (notFace_of_selects (args := #[]) (mvT w.2.2.2.2.1 (wd26 hw))) (wd26 hw) (wd25 hw) (wd27 hw) (wd28 hw) (by decide) E_en_OPTIONAL_keyword (rm_length hw en_OPTIONAL_keyword en_OPTIONAL_keyword_value [(48 : Int32), (46 : Int32), (46 : Int32), (49 : Int32)] cs h n0 zn S_cs hcs E_en_OPTIONAL_keyword F_value_en_OPTIONAL_keyword V_en_OPTIONAL_keyword_value F_coder_en_OPTIONAL_keyword) at_22 25 rfl 0 (by decide) (by decide) (lenOf pd7 rfl) rfl (Nat.le_of_eq rfl) rfl (by decide) (by decide) (fun r5 T X hq => ?_)
    have hr5 := hq
    refine iconst w X (4 : Int32) at_25 26 rfl rfl ?_
    refine icmp_ne w X at_26 44 29 (by decide) (by decide) rfl (fun q => False.elim (by have hv_r5 : r5 = (4 : Int32) := (by rw [hr5]; decide); revert q; rw [hv_r5]; decide)) (fun hc26_6 => ?_)
    refine aload w X at_29 31 rfl rfl rfl ?_
    refine iconst w X (3 : Int32) at_31 32 rfl rfl ?_
    refine callVPI w X [(.int (3 : Int32))] (wd39 hw) (wd40 hw) (notFace_of_selects (args := #[]) (mvT w.2.2.2.2.1 (wd42 hw))) (wd42 hw) (wd41 hw) (wd27 hw) (wd43 hw) (by decide) E_en_OPTIONAL_keyword (rm_charAt hw en_OPTIONAL_keyword en_OPTIONAL_keyword_value (3 : Int32) [(48 : Int32), (46 : Int32), (46 : Int32), (49 : Int32)] (4 : Int32) cs sio h n0 zn S_cs hcs E_en_OPTIONAL_keyword F_value_en_OPTIONAL_keyword V_en_OPTIONAL_keyword_value F_coder_en_OPTIONAL_keyword rfl (by decide) (by decide) (by decide) S_sio hsio) at_32 35 rfl 0 (by decide) (by decide) (lenOf pd8 rfl) rfl (Nat.le_of_eq rfl) rfl (by decide) (by decide) (fun r7 T X hq => ?_)
    have hr7 := hq
    refine bipush w X (110 : Int32) at_35 37 rfl rfl ?_
    refine icmp_ne w X at_37 44 40 (by decide) (by decide) rfl (fun hc37_8 => ?_) (fun q => False.elim (by have hv_r7 : r7 = (49 : Int32) := (by rw [hr7]; decide); revert q; rw [hv_r7]; decide))
    refine iconst w X (0 : Int32) at_44 45 rfl rfl ?_
    refine istore w X (0 : Int32) at_45 47 rfl rfl #[.val (.int v), .val (.int (0 : Int32)), .val (.ref en_OPTIONAL), .val (.int r3), .val (.ref en_OPTIONAL_keyword), .val (.int (0 : Int32)), .unset] rfl ?_
    refine iloadN w X at_47 48 rfl rfl ?_
    refine iconst w X (2 : Int32) at_48 49 rfl rfl ?_
    refine icmp_lt w X at_49 56 52 (by decide) (by decide) rfl (fun hc49_9 => ?_) (fun q => absurd q (by decide))
    refine iconst w X (0 : Int32) at_56 57 rfl rfl ?_
    refine istore w X (0 : Int32) at_57 59 rfl rfl #[.val (.int v), .val (.int (0 : Int32)), .val (.ref en_OPTIONAL), .val (.int r3), .val (.ref en_OPTIONAL_keyword), .val (.int (0 : Int32)), .val (.int (0 : Int32))] rfl ?_
    refine iloadN w X at_59 60 rfl rfl ?_
    refine iload w X at_60 62 rfl rfl ?_
    refine icmp_ne w X at_62 75 65 (by decide) (by decide) rfl (fun q => False.elim (by have hv_r3 : r3 = (0 : Int32) := (by rw [hr3]; simp [own_isMultiple, ne_en_OPTIONAL_en_MULTIPLE, Ne.symm ne_en_OPTIONAL_en_MULTIPLE, ne_en_OPTIONAL_en_AT_LEAST_ONE, Ne.symm ne_en_OPTIONAL_en_AT_LEAST_ONE, ne_en_OPTIONAL_en_MANDATORY, Ne.symm ne_en_OPTIONAL_en_MANDATORY, ne_en_MULTIPLE_en_AT_LEAST_ONE, Ne.symm ne_en_MULTIPLE_en_AT_LEAST_ONE, ne_en_MULTIPLE_en_MANDATORY, Ne.symm ne_en_MULTIPLE_en_MANDATORY, ne_en_AT_LEAST_ONE_en_MANDATORY, Ne.symm ne_en_AT_LEAST_ONE_en_MANDATORY]); revert q; rw [hv_r3]; decide)) (fun hc62_10 => ?_)
    refine iloadN w X at_65 66 rfl rfl ?_
    refine iload w X at_66 68 rfl rfl ?_
    refine icmp_ne w X at_68 75 71 (by decide) (by decide) rfl (fun q => False.elim (by have hv_r3 : r3 = (0 : Int32) := (by rw [hr3]; simp [own_isMultiple, ne_en_OPTIONAL_en_MULTIPLE, Ne.symm ne_en_OPTIONAL_en_MULTIPLE, ne_en_OPTIONAL_en_AT_LEAST_ONE, Ne.symm ne_en_OPTIONAL_en_AT_LEAST_ONE, ne_en_OPTIONAL_en_MANDATORY, Ne.symm ne_en_OPTIONAL_en_MANDATORY, ne_en_MULTIPLE_en_AT_LEAST_ONE, Ne.symm ne_en_MULTIPLE_en_AT_LEAST_ONE, ne_en_MULTIPLE_en_MANDATORY, Ne.symm ne_en_MULTIPLE_en_MANDATORY, ne_en_AT_LEAST_ONE_en_MANDATORY, Ne.symm ne_en_AT_LEAST_ONE_en_MANDATORY]); revert q; rw [hv_r3]; decide)) (fun hc68_11 => ?_)
    refine iconst w X (1 : Int32) at_71 72 rfl rfl ?_
    refine goto w X at_72 76 (by decide) (by decide) ?_
    refine retN w X (t := .boolean) rfl (by simp) at_76 (by decide) (by decide) ?_
    exact ⟨_, rfl, rfl⟩
  ·
    refine iloadN w X at_4 5 rfl rfl ?_
    refine callSPR w X [(.int (1 : Int32))] (wd0 hw) (wd1 hw) (wd2 hw) (wd3 hw) (by decide) (rm_pick hw (1 : Int32) en_OPTIONAL en_MANDATORY en_MULTIPLE en_AT_LEAST_ONE h n0 zn S_en_OPTIONAL S_en_MANDATORY S_en_MULTIPLE S_en_AT_LEAST_ONE) at_5 8 rfl 0 (by decide) (by decide) (lenOf pd5 rfl) rfl (Nat.le_of_eq rfl) rfl (by decide) (by decide) (fun r12 T X hq => ?_)
    have hq' : r12 = .ref en_MANDATORY := hq.trans (by simp [own_pick])
    subst hq'
    refine astoreN w X at_8 9 rfl rfl #[.val (.int v), .val (.int (1 : Int32)), .val (.ref en_MANDATORY), .unset, .unset, .unset, .unset] rfl ?_
    refine aloadN w X at_9 10 rfl rfl rfl ?_
    refine callVPI w X [] (wd7 hw) (wd8 hw) (notFace_of_selects (args := #[]) (mvT w.2.2.2.2.1 (wd10 hw))) (wd10 hw) (wd9 hw) (wd5 hw) (wd11 hw) (by decide) E_en_MANDATORY (rm_isMultiple hw en_MANDATORY en_MULTIPLE en_AT_LEAST_ONE h n0 zn S_en_MULTIPLE S_en_AT_LEAST_ONE) at_10 13 rfl 0 (by decide) (by decide) (lenOf pd3 rfl) rfl (Nat.le_of_eq rfl) rfl (by decide) (by decide) (fun r13 T X hq => ?_)
    have hr13 := hq
    refine istoreN w X r13 at_13 14 rfl rfl #[.val (.int v), .val (.int (1 : Int32)), .val (.ref en_MANDATORY), .val (.int r13), .unset, .unset, .unset] rfl ?_
    refine aloadN w X at_14 15 rfl rfl rfl ?_
    refine callVPR w X [] (wd16 hw) (wd17 hw) (notFace_of_selects (args := #[]) (mvT w.2.2.2.2.1 (wd19 hw))) (wd19 hw) (wd18 hw) (wd5 hw) (wd20 hw) (by decide) E_en_MANDATORY (rm_keyword hw en_MANDATORY en_MANDATORY_keyword h n0 zn F_keyword_en_MANDATORY) at_15 18 rfl 0 (by decide) (by decide) (lenOf pd6 rfl) rfl (Nat.le_of_eq rfl) rfl (by decide) (by decide) (fun r14 T X hq => ?_)
    subst hq
    refine astore w X at_18 20 rfl rfl #[.val (.int v), .val (.int (1 : Int32)), .val (.ref en_MANDATORY), .val (.int r13), .val (.ref en_MANDATORY_keyword), .unset, .unset] rfl ?_
    refine aload w X at_20 22 rfl rfl rfl ?_
    refine callVPI w X [] (wd23 hw) (wd24 hw) (notFace_of_selects (args := #[]) (mvT w.2.2.2.2.1 (wd26 hw))) (wd26 hw) (wd25 hw) (wd27 hw) (wd28 hw) (by decide) E_en_MANDATORY_keyword (rm_length hw en_MANDATORY_keyword en_MANDATORY_keyword_value [(49 : Int32), (46 : Int32), (46 : Int32), (49 : Int32)] cs h n0 zn S_cs hcs E_en_MANDATORY_keyword F_value_en_MANDATORY_keyword V_en_MANDATORY_keyword_value F_coder_en_MANDATORY_keyword) at_22 25 rfl 0 (by decide) (by decide) (lenOf pd7 rfl) rfl (Nat.le_of_eq rfl) rfl (by decide) (by decide) (fun r15 T X hq => ?_)
    have hr15 := hq
    refine iconst w X (4 : Int32) at_25 26 rfl rfl ?_
    refine icmp_ne w X at_26 44 29 (by decide) (by decide) rfl (fun q => False.elim (by have hv_r15 : r15 = (4 : Int32) := (by rw [hr15]; decide); revert q; rw [hv_r15]; decide)) (fun hc26_16 => ?_)
    refine aload w X at_29 31 rfl rfl rfl ?_
    refine iconst w X (3 : Int32) at_31 32 rfl rfl ?_
    refine callVPI w X [(.int (3 : Int32))] (wd39 hw) (wd40 hw) (notFace_of_selects (args := #[]) (mvT w.2.2.2.2.1 (wd42 hw))) (wd42 hw) (wd41 hw) (wd27 hw) (wd43 hw) (by decide) E_en_MANDATORY_keyword (rm_charAt hw en_MANDATORY_keyword en_MANDATORY_keyword_value (3 : Int32) [(49 : Int32), (46 : Int32), (46 : Int32), (49 : Int32)] (4 : Int32) cs sio h n0 zn S_cs hcs E_en_MANDATORY_keyword F_value_en_MANDATORY_keyword V_en_MANDATORY_keyword_value F_coder_en_MANDATORY_keyword rfl (by decide) (by decide) (by decide) S_sio hsio) at_32 35 rfl 0 (by decide) (by decide) (lenOf pd8 rfl) rfl (Nat.le_of_eq rfl) rfl (by decide) (by decide) (fun r17 T X hq => ?_)
    have hr17 := hq
    refine bipush w X (110 : Int32) at_35 37 rfl rfl ?_
    refine icmp_ne w X at_37 44 40 (by decide) (by decide) rfl (fun hc37_18 => ?_) (fun q => False.elim (by have hv_r17 : r17 = (49 : Int32) := (by rw [hr17]; decide); revert q; rw [hv_r17]; decide))
    refine iconst w X (0 : Int32) at_44 45 rfl rfl ?_
    refine istore w X (0 : Int32) at_45 47 rfl rfl #[.val (.int v), .val (.int (1 : Int32)), .val (.ref en_MANDATORY), .val (.int r13), .val (.ref en_MANDATORY_keyword), .val (.int (0 : Int32)), .unset] rfl ?_
    refine iloadN w X at_47 48 rfl rfl ?_
    refine iconst w X (2 : Int32) at_48 49 rfl rfl ?_
    refine icmp_lt w X at_49 56 52 (by decide) (by decide) rfl (fun hc49_19 => ?_) (fun q => absurd q (by decide))
    refine iconst w X (0 : Int32) at_56 57 rfl rfl ?_
    refine istore w X (0 : Int32) at_57 59 rfl rfl #[.val (.int v), .val (.int (1 : Int32)), .val (.ref en_MANDATORY), .val (.int r13), .val (.ref en_MANDATORY_keyword), .val (.int (0 : Int32)), .val (.int (0 : Int32))] rfl ?_
    refine iloadN w X at_59 60 rfl rfl ?_
    refine iload w X at_60 62 rfl rfl ?_
    refine icmp_ne w X at_62 75 65 (by decide) (by decide) rfl (fun q => False.elim (by have hv_r13 : r13 = (0 : Int32) := (by rw [hr13]; simp [own_isMultiple, ne_en_OPTIONAL_en_MULTIPLE, Ne.symm ne_en_OPTIONAL_en_MULTIPLE, ne_en_OPTIONAL_en_AT_LEAST_ONE, Ne.symm ne_en_OPTIONAL_en_AT_LEAST_ONE, ne_en_OPTIONAL_en_MANDATORY, Ne.symm ne_en_OPTIONAL_en_MANDATORY, ne_en_MULTIPLE_en_AT_LEAST_ONE, Ne.symm ne_en_MULTIPLE_en_AT_LEAST_ONE, ne_en_MULTIPLE_en_MANDATORY, Ne.symm ne_en_MULTIPLE_en_MANDATORY, ne_en_AT_LEAST_ONE_en_MANDATORY, Ne.symm ne_en_AT_LEAST_ONE_en_MANDATORY]); revert q; rw [hv_r13]; decide)) (fun hc62_20 => ?_)
    refine iloadN w X at_65 66 rfl rfl ?_
    refine iload w X at_66 68 rfl rfl ?_
    refine icmp_ne w X at_68 75 71 (by decide) (by decide) rfl (fun q => False.elim (by have hv_r13 : r13 = (0 : Int32) := (by rw [hr13]; simp [own_isMultiple, ne_en_OPTIONAL_en_MULTIPLE, Ne.symm ne_en_OPTIONAL_en_MULTIPLE, ne_en_OPTIONAL_en_AT_LEAST_ONE, Ne.symm ne_en_OPTIONAL_en_AT_LEAST_ONE, ne_en_OPTIONAL_en_MANDATORY, Ne.symm ne_en_OPTIONAL_en_MANDATORY, ne_en_MULTIPLE_en_AT_LEAST_ONE, Ne.symm ne_en_MULTIPLE_en_AT_LEAST_ONE, ne_en_MULTIPLE_en_MANDATORY, Ne.symm ne_en_MULTIPLE_en_MANDATORY, ne_en_AT_LEAST_ONE_en_MANDATORY, Ne.symm ne_en_AT_LEAST_ONE_en_MANDATORY]); revert q; rw [hv_r13]; decide)) (fun hc68_21 => ?_)
    refine iconst w X (1 : Int32) at_71 72 rfl rfl ?_
    refine goto w X at_72 76 (by decide) (by decide) ?_
    refine retN w X (t := .boolean) rfl (by simp) at_76 (by decide) (by decide) ?_
    exact ⟨_, rfl, rfl⟩
  ·
    refine iloadN w X at_4 5 rfl rfl ?_
    refine callSPR w X [(.int (2 : Int32))] (wd0 hw) (wd1 hw) (wd2 hw) (wd3 hw) (by decide) (rm_pick hw (2 : Int32) en_OPTIONAL en_MANDATORY en_MULTIPLE en_AT_LEAST_ONE h n0 zn S_en_OPTIONAL S_en_MANDATORY S_en_MULTIPLE S_en_AT_LEAST_ONE) at_5 8 rfl 0 (by decide) (by decide) (lenOf pd5 rfl) rfl (Nat.le_of_eq rfl) rfl (by decide) (by decide) (fun r22 T X hq => ?_)
    have hq' : r22 = .ref en_MULTIPLE := hq.trans (by simp [own_pick])
    subst hq'
    refine astoreN w X at_8 9 rfl rfl #[.val (.int v), .val (.int (2 : Int32)), .val (.ref en_MULTIPLE), .unset, .unset, .unset, .unset] rfl ?_
    refine aloadN w X at_9 10 rfl rfl rfl ?_
    refine callVPI w X [] (wd7 hw) (wd8 hw) (notFace_of_selects (args := #[]) (mvT w.2.2.2.2.1 (wd10 hw))) (wd10 hw) (wd9 hw) (wd5 hw) (wd11 hw) (by decide) E_en_MULTIPLE (rm_isMultiple hw en_MULTIPLE en_MULTIPLE en_AT_LEAST_ONE h n0 zn S_en_MULTIPLE S_en_AT_LEAST_ONE) at_10 13 rfl 0 (by decide) (by decide) (lenOf pd3 rfl) rfl (Nat.le_of_eq rfl) rfl (by decide) (by decide) (fun r23 T X hq => ?_)
    have hr23 := hq
    refine istoreN w X r23 at_13 14 rfl rfl #[.val (.int v), .val (.int (2 : Int32)), .val (.ref en_MULTIPLE), .val (.int r23), .unset, .unset, .unset] rfl ?_
    refine aloadN w X at_14 15 rfl rfl rfl ?_
    refine callVPR w X [] (wd16 hw) (wd17 hw) (notFace_of_selects (args := #[]) (mvT w.2.2.2.2.1 (wd19 hw))) (wd19 hw) (wd18 hw) (wd5 hw) (wd20 hw) (by decide) E_en_MULTIPLE (rm_keyword hw en_MULTIPLE en_MULTIPLE_keyword h n0 zn F_keyword_en_MULTIPLE) at_15 18 rfl 0 (by decide) (by decide) (lenOf pd6 rfl) rfl (Nat.le_of_eq rfl) rfl (by decide) (by decide) (fun r24 T X hq => ?_)
    subst hq
    refine astore w X at_18 20 rfl rfl #[.val (.int v), .val (.int (2 : Int32)), .val (.ref en_MULTIPLE), .val (.int r23), .val (.ref en_MULTIPLE_keyword), .unset, .unset] rfl ?_
    refine aload w X at_20 22 rfl rfl rfl ?_
    refine callVPI w X [] (wd23 hw) (wd24 hw) (notFace_of_selects (args := #[]) (mvT w.2.2.2.2.1 (wd26 hw))) (wd26 hw) (wd25 hw) (wd27 hw) (wd28 hw) (by decide) E_en_MULTIPLE_keyword (rm_length hw en_MULTIPLE_keyword en_MULTIPLE_keyword_value [(48 : Int32), (46 : Int32), (46 : Int32), (110 : Int32)] cs h n0 zn S_cs hcs E_en_MULTIPLE_keyword F_value_en_MULTIPLE_keyword V_en_MULTIPLE_keyword_value F_coder_en_MULTIPLE_keyword) at_22 25 rfl 0 (by decide) (by decide) (lenOf pd7 rfl) rfl (Nat.le_of_eq rfl) rfl (by decide) (by decide) (fun r25 T X hq => ?_)
    have hr25 := hq
    refine iconst w X (4 : Int32) at_25 26 rfl rfl ?_
    refine icmp_ne w X at_26 44 29 (by decide) (by decide) rfl (fun q => False.elim (by have hv_r25 : r25 = (4 : Int32) := (by rw [hr25]; decide); revert q; rw [hv_r25]; decide)) (fun hc26_26 => ?_)
    refine aload w X at_29 31 rfl rfl rfl ?_
    refine iconst w X (3 : Int32) at_31 32 rfl rfl ?_
    refine callVPI w X [(.int (3 : Int32))] (wd39 hw) (wd40 hw) (notFace_of_selects (args := #[]) (mvT w.2.2.2.2.1 (wd42 hw))) (wd42 hw) (wd41 hw) (wd27 hw) (wd43 hw) (by decide) E_en_MULTIPLE_keyword (rm_charAt hw en_MULTIPLE_keyword en_MULTIPLE_keyword_value (3 : Int32) [(48 : Int32), (46 : Int32), (46 : Int32), (110 : Int32)] (4 : Int32) cs sio h n0 zn S_cs hcs E_en_MULTIPLE_keyword F_value_en_MULTIPLE_keyword V_en_MULTIPLE_keyword_value F_coder_en_MULTIPLE_keyword rfl (by decide) (by decide) (by decide) S_sio hsio) at_32 35 rfl 0 (by decide) (by decide) (lenOf pd8 rfl) rfl (Nat.le_of_eq rfl) rfl (by decide) (by decide) (fun r27 T X hq => ?_)
    have hr27 := hq
    refine bipush w X (110 : Int32) at_35 37 rfl rfl ?_
    refine icmp_ne w X at_37 44 40 (by decide) (by decide) rfl (fun q => False.elim (by have hv_r27 : r27 = (110 : Int32) := (by rw [hr27]; decide); revert q; rw [hv_r27]; decide)) (fun hc37_28 => ?_)
    refine iconst w X (1 : Int32) at_40 41 rfl rfl ?_
    refine goto w X at_41 45 (by decide) (by decide) ?_
    refine istore w X (1 : Int32) at_45 47 rfl rfl #[.val (.int v), .val (.int (2 : Int32)), .val (.ref en_MULTIPLE), .val (.int r23), .val (.ref en_MULTIPLE_keyword), .val (.int (1 : Int32)), .unset] rfl ?_
    refine iloadN w X at_47 48 rfl rfl ?_
    refine iconst w X (2 : Int32) at_48 49 rfl rfl ?_
    refine icmp_lt w X at_49 56 52 (by decide) (by decide) rfl (fun q => absurd q (by decide)) (fun hc49_29 => ?_)
    refine iconst w X (1 : Int32) at_52 53 rfl rfl ?_
    refine goto w X at_53 57 (by decide) (by decide) ?_
    refine istore w X (1 : Int32) at_57 59 rfl rfl #[.val (.int v), .val (.int (2 : Int32)), .val (.ref en_MULTIPLE), .val (.int r23), .val (.ref en_MULTIPLE_keyword), .val (.int (1 : Int32)), .val (.int (1 : Int32))] rfl ?_
    refine iloadN w X at_59 60 rfl rfl ?_
    refine iload w X at_60 62 rfl rfl ?_
    refine icmp_ne w X at_62 75 65 (by decide) (by decide) rfl (fun q => False.elim (by have hv_r23 : r23 = (1 : Int32) := (by rw [hr23]; simp [own_isMultiple, ne_en_OPTIONAL_en_MULTIPLE, Ne.symm ne_en_OPTIONAL_en_MULTIPLE, ne_en_OPTIONAL_en_AT_LEAST_ONE, Ne.symm ne_en_OPTIONAL_en_AT_LEAST_ONE, ne_en_OPTIONAL_en_MANDATORY, Ne.symm ne_en_OPTIONAL_en_MANDATORY, ne_en_MULTIPLE_en_AT_LEAST_ONE, Ne.symm ne_en_MULTIPLE_en_AT_LEAST_ONE, ne_en_MULTIPLE_en_MANDATORY, Ne.symm ne_en_MULTIPLE_en_MANDATORY, ne_en_AT_LEAST_ONE_en_MANDATORY, Ne.symm ne_en_AT_LEAST_ONE_en_MANDATORY]); revert q; rw [hv_r23]; decide)) (fun hc62_30 => ?_)
    refine iloadN w X at_65 66 rfl rfl ?_
    refine iload w X at_66 68 rfl rfl ?_
    refine icmp_ne w X at_68 75 71 (by decide) (by decide) rfl (fun q => False.elim (by have hv_r23 : r23 = (1 : Int32) := (by rw [hr23]; simp [own_isMultiple, ne_en_OPTIONAL_en_MULTIPLE, Ne.symm ne_en_OPTIONAL_en_MULTIPLE, ne_en_OPTIONAL_en_AT_LEAST_ONE, Ne.symm ne_en_OPTIONAL_en_AT_LEAST_ONE, ne_en_OPTIONAL_en_MANDATORY, Ne.symm ne_en_OPTIONAL_en_MANDATORY, ne_en_MULTIPLE_en_AT_LEAST_ONE, Ne.symm ne_en_MULTIPLE_en_AT_LEAST_ONE, ne_en_MULTIPLE_en_MANDATORY, Ne.symm ne_en_MULTIPLE_en_MANDATORY, ne_en_AT_LEAST_ONE_en_MANDATORY, Ne.symm ne_en_AT_LEAST_ONE_en_MANDATORY]); revert q; rw [hv_r23]; decide)) (fun hc68_31 => ?_)
    refine iconst w X (1 : Int32) at_71 72 rfl rfl ?_
    refine goto w X at_72 76 (by decide) (by decide) ?_
    refine retN w X (t := .boolean) rfl (by simp) at_76 (by decide) (by decide) ?_
    exact ⟨_, rfl, rfl⟩
  ·
    refine iloadN w X at_4 5 rfl rfl ?_
    refine callSPR w X [(.int (3 : Int32))] (wd0 hw) (wd1 hw) (wd2 hw) (wd3 hw) (by decide) (rm_pick hw (3 : Int32) en_OPTIONAL en_MANDATORY en_MULTIPLE en_AT_LEAST_ONE h n0 zn S_en_OPTIONAL S_en_MANDATORY S_en_MULTIPLE S_en_AT_LEAST_ONE) at_5 8 rfl 0 (by decide) (by decide) (lenOf pd5 rfl) rfl (Nat.le_of_eq rfl) rfl (by decide) (by decide) (fun r32 T X hq => ?_)
    have hq' : r32 = .ref en_AT_LEAST_ONE := hq.trans (by simp [own_pick])
    subst hq'
    refine astoreN w X at_8 9 rfl rfl #[.val (.int v), .val (.int (3 : Int32)), .val (.ref en_AT_LEAST_ONE), .unset, .unset, .unset, .unset] rfl ?_
    refine aloadN w X at_9 10 rfl rfl rfl ?_
    refine callVPI w X [] (wd7 hw) (wd8 hw) (notFace_of_selects (args := #[]) (mvT w.2.2.2.2.1 (wd10 hw))) (wd10 hw) (wd9 hw) (wd5 hw) (wd11 hw) (by decide) E_en_AT_LEAST_ONE (rm_isMultiple hw en_AT_LEAST_ONE en_MULTIPLE en_AT_LEAST_ONE h n0 zn S_en_MULTIPLE S_en_AT_LEAST_ONE) at_10 13 rfl 0 (by decide) (by decide) (lenOf pd3 rfl) rfl (Nat.le_of_eq rfl) rfl (by decide) (by decide) (fun r33 T X hq => ?_)
    have hr33 := hq
    refine istoreN w X r33 at_13 14 rfl rfl #[.val (.int v), .val (.int (3 : Int32)), .val (.ref en_AT_LEAST_ONE), .val (.int r33), .unset, .unset, .unset] rfl ?_
    refine aloadN w X at_14 15 rfl rfl rfl ?_
    refine callVPR w X [] (wd16 hw) (wd17 hw) (notFace_of_selects (args := #[]) (mvT w.2.2.2.2.1 (wd19 hw))) (wd19 hw) (wd18 hw) (wd5 hw) (wd20 hw) (by decide) E_en_AT_LEAST_ONE (rm_keyword hw en_AT_LEAST_ONE en_AT_LEAST_ONE_keyword h n0 zn F_keyword_en_AT_LEAST_ONE) at_15 18 rfl 0 (by decide) (by decide) (lenOf pd6 rfl) rfl (Nat.le_of_eq rfl) rfl (by decide) (by decide) (fun r34 T X hq => ?_)
    subst hq
    refine astore w X at_18 20 rfl rfl #[.val (.int v), .val (.int (3 : Int32)), .val (.ref en_AT_LEAST_ONE), .val (.int r33), .val (.ref en_AT_LEAST_ONE_keyword), .unset, .unset] rfl ?_
    refine aload w X at_20 22 rfl rfl rfl ?_
    refine callVPI w X [] (wd23 hw) (wd24 hw) (notFace_of_selects (args := #[]) (mvT w.2.2.2.2.1 (wd26 hw))) (wd26 hw) (wd25 hw) (wd27 hw) (wd28 hw) (by decide) E_en_AT_LEAST_ONE_keyword (rm_length hw en_AT_LEAST_ONE_keyword en_AT_LEAST_ONE_keyword_value [(49 : Int32), (46 : Int32), (46 : Int32), (110 : Int32)] cs h n0 zn S_cs hcs E_en_AT_LEAST_ONE_keyword F_value_en_AT_LEAST_ONE_keyword V_en_AT_LEAST_ONE_keyword_value F_coder_en_AT_LEAST_ONE_keyword) at_22 25 rfl 0 (by decide) (by decide) (lenOf pd7 rfl) rfl (Nat.le_of_eq rfl) rfl (by decide) (by decide) (fun r35 T X hq => ?_)
    have hr35 := hq
    refine iconst w X (4 : Int32) at_25 26 rfl rfl ?_
    refine icmp_ne w X at_26 44 29 (by decide) (by decide) rfl (fun q => False.elim (by have hv_r35 : r35 = (4 : Int32) := (by rw [hr35]; decide); revert q; rw [hv_r35]; decide)) (fun hc26_36 => ?_)
    refine aload w X at_29 31 rfl rfl rfl ?_
    refine iconst w X (3 : Int32) at_31 32 rfl rfl ?_
    refine callVPI w X [(.int (3 : Int32))] (wd39 hw) (wd40 hw) (notFace_of_selects (args := #[]) (mvT w.2.2.2.2.1 (wd42 hw))) (wd42 hw) (wd41 hw) (wd27 hw) (wd43 hw) (by decide) E_en_AT_LEAST_ONE_keyword (rm_charAt hw en_AT_LEAST_ONE_keyword en_AT_LEAST_ONE_keyword_value (3 : Int32) [(49 : Int32), (46 : Int32), (46 : Int32), (110 : Int32)] (4 : Int32) cs sio h n0 zn S_cs hcs E_en_AT_LEAST_ONE_keyword F_value_en_AT_LEAST_ONE_keyword V_en_AT_LEAST_ONE_keyword_value F_coder_en_AT_LEAST_ONE_keyword rfl (by decide) (by decide) (by decide) S_sio hsio) at_32 35 rfl 0 (by decide) (by decide) (lenOf pd8 rfl) rfl (Nat.le_of_eq rfl) rfl (by decide) (by decide) (fun r37 T X hq => ?_)
    have hr37 := hq
    refine bipush w X (110 : Int32) at_35 37 rfl rfl ?_
    refine icmp_ne w X at_37 44 40 (by decide) (by decide) rfl (fun q => False.elim (by have hv_r37 : r37 = (110 : Int32) := (by rw [hr37]; decide); revert q; rw [hv_r37]; decide)) (fun hc37_38 => ?_)
    refine iconst w X (1 : Int32) at_40 41 rfl rfl ?_
    refine goto w X at_41 45 (by decide) (by decide) ?_
    refine istore w X (1 : Int32) at_45 47 rfl rfl #[.val (.int v), .val (.int (3 : Int32)), .val (.ref en_AT_LEAST_ONE), .val (.int r33), .val (.ref en_AT_LEAST_ONE_keyword), .val (.int (1 : Int32)), .unset] rfl ?_
    refine iloadN w X at_47 48 rfl rfl ?_
    refine iconst w X (2 : Int32) at_48 49 rfl rfl ?_
    refine icmp_lt w X at_49 56 52 (by decide) (by decide) rfl (fun q => absurd q (by decide)) (fun hc49_39 => ?_)
    refine iconst w X (1 : Int32) at_52 53 rfl rfl ?_
    refine goto w X at_53 57 (by decide) (by decide) ?_
    refine istore w X (1 : Int32) at_57 59 rfl rfl #[.val (.int v), .val (.int (3 : Int32)), .val (.ref en_AT_LEAST_ONE), .val (.int r33), .val (.ref en_AT_LEAST_ONE_keyword), .val (.int (1 : Int32)), .val (.int (1 : Int32))] rfl ?_
    refine iloadN w X at_59 60 rfl rfl ?_
    refine iload w X at_60 62 rfl rfl ?_
    refine icmp_ne w X at_62 75 65 (by decide) (by decide) rfl (fun q => False.elim (by have hv_r33 : r33 = (1 : Int32) := (by rw [hr33]; simp [own_isMultiple, ne_en_OPTIONAL_en_MULTIPLE, Ne.symm ne_en_OPTIONAL_en_MULTIPLE, ne_en_OPTIONAL_en_AT_LEAST_ONE, Ne.symm ne_en_OPTIONAL_en_AT_LEAST_ONE, ne_en_OPTIONAL_en_MANDATORY, Ne.symm ne_en_OPTIONAL_en_MANDATORY, ne_en_MULTIPLE_en_AT_LEAST_ONE, Ne.symm ne_en_MULTIPLE_en_AT_LEAST_ONE, ne_en_MULTIPLE_en_MANDATORY, Ne.symm ne_en_MULTIPLE_en_MANDATORY, ne_en_AT_LEAST_ONE_en_MANDATORY, Ne.symm ne_en_AT_LEAST_ONE_en_MANDATORY]); revert q; rw [hv_r33]; decide)) (fun hc62_40 => ?_)
    refine iloadN w X at_65 66 rfl rfl ?_
    refine iload w X at_66 68 rfl rfl ?_
    refine icmp_ne w X at_68 75 71 (by decide) (by decide) rfl (fun q => False.elim (by have hv_r33 : r33 = (1 : Int32) := (by rw [hr33]; simp [own_isMultiple, ne_en_OPTIONAL_en_MULTIPLE, Ne.symm ne_en_OPTIONAL_en_MULTIPLE, ne_en_OPTIONAL_en_AT_LEAST_ONE, Ne.symm ne_en_OPTIONAL_en_AT_LEAST_ONE, ne_en_OPTIONAL_en_MANDATORY, Ne.symm ne_en_OPTIONAL_en_MANDATORY, ne_en_MULTIPLE_en_AT_LEAST_ONE, Ne.symm ne_en_MULTIPLE_en_AT_LEAST_ONE, ne_en_MULTIPLE_en_MANDATORY, Ne.symm ne_en_MULTIPLE_en_MANDATORY, ne_en_AT_LEAST_ONE_en_MANDATORY, Ne.symm ne_en_AT_LEAST_ONE_en_MANDATORY]); revert q; rw [hv_r33]; decide)) (fun hc68_41 => ?_)
    refine iconst w X (1 : Int32) at_71 72 rfl rfl ?_
    refine goto w X at_72 76 (by decide) (by decide) ?_
    refine retN w X (t := .boolean) rfl (by simp) at_76 (by decide) (by decide) ?_
    exact ⟨_, rfl, rfl⟩
set_option maxRecDepth 65536 in
set_option maxHeartbeats 40000000 in
theorem comes_1 {Post : Tables → Env → Array Value → State → Outcome → State → Prop} (hpost : ∀ tb e args s v u, (limb_1_1.after args s (.returned v) u = true ∧ limb_1_2.after args s (.returned v) u = true ∧ True) → FrameEnd s (.returned v) u (Jvm.fieldLocs frame_1_writes args s ++ Jvm.arrayLocs frame_1_arrays args s ++ Jvm.staticLocs frame_1_statics s) 0 0 → Post tb e args s (.returned v) u) :
    ArmFor flags0 classFile x code maxLocals ret World_1 tables_1 room_1 Calls_1 rest_1 Pre_1 Post := by
  intro l hfl _ _ p e ha hc hk s m args below hf hA hF happ hP
  obtain ⟨hcalls, hrest, hpre⟩ := hP
  obtain ⟨-, -, -, hnamed, -, -, -, hat⟩ := (Spec.applies_iff hf).mp happ
  obtain ⟨hg, hn⟩ := and_e (Cond.before_iff.mp (show (Jvm.Cond.and given_1 narrow_1).before args s = true from hpre))
  obtain ⟨g1, g2⟩ := and_e hg
  obtain ⟨w0, rfl⟩ : ∃ w0 : Value, args = #[w0] := by
    have hs : args.size = 1 := by simpa [Cond.value, given_1] using g1
    obtain ⟨L⟩ := args
    match L, hs with
    | [w0], _ => exact ⟨w0, rfl⟩
  have hw := fun d (hd : d ∈ tables_1) => atoms_spec (ws := Jvm.Cond.code x code maxLocals ret :: tables_1) hat d (List.mem_cons_of_mem _ hd)
  obtain ⟨i0, ei0⟩ := is_v g2
  obtain rfl : w0 = (.int i0) := Option.some.inj ei0
  obtain ⟨nw1, nw2⟩ := and_e hn
  obtain ⟨nw3, nw4⟩ := and_e nw2
  obtain ⟨nw5, nw6⟩ := and_e nw4
  obtain ⟨nw7, nw8⟩ := and_e nw6
  obtain ⟨nw9, nw10⟩ := and_e nw8
  obtain ⟨nw11, nw12⟩ := and_e nw10
  obtain ⟨nw13, nw14⟩ := and_e nw12
  obtain ⟨nw15, nw16⟩ := and_e nw14
  obtain ⟨nw17, nw18⟩ := and_e nw16
  obtain ⟨nw19, nw20⟩ := and_e nw18
  obtain ⟨nw21, nw22⟩ := and_e nw20
  obtain ⟨nw23, nw24⟩ := and_e nw22
  obtain ⟨nw25, nw26⟩ := and_e nw24
  obtain ⟨nw27, nw28⟩ := and_e nw26
  obtain ⟨nw29, nw30⟩ := and_e nw28
  obtain ⟨nw31, nw32⟩ := and_e nw30
  obtain ⟨nw33, nw34⟩ := and_e nw32
  obtain ⟨nw35, nw36⟩ := and_e nw34
  obtain ⟨nw37, nw38⟩ := and_e nw36
  obtain ⟨nw39, nw40⟩ := and_e nw38
  obtain ⟨nw41, nw42⟩ := and_e nw40
  obtain ⟨nw43, nw44⟩ := and_e nw42
  obtain ⟨nw45, nw46⟩ := and_e nw44
  obtain ⟨nw47, nw48⟩ := and_e nw46
  obtain ⟨nw49, nw50⟩ := and_e nw48
  obtain ⟨nw51, nw52⟩ := and_e nw50
  obtain ⟨nw53, nw54⟩ := and_e nw52
  obtain ⟨nw55, nw56⟩ := and_e nw54
  obtain ⟨nw57, nw58⟩ := and_e nw56
  obtain ⟨nw59, nw60⟩ := and_e nw58
  obtain ⟨nw61, nw62⟩ := and_e nw60
  obtain ⟨nw63, nw64⟩ := and_e nw62
  obtain ⟨nw65, nw66⟩ := and_e nw64
  obtain ⟨nw67, nw68⟩ := and_e nw66
  obtain ⟨nw69, nw70⟩ := and_e nw68
  obtain ⟨nw71, nw72⟩ := and_e nw70
  obtain ⟨nw73, nw74⟩ := and_e nw72
  obtain ⟨nw75, nw76⟩ := and_e nw74
  obtain ⟨nw77, nw78⟩ := and_e nw76
  obtain ⟨en_OPTIONAL, ev_en_OPTIONAL⟩ := exa_v nw1
  have S_en_OPTIONAL := Sta.start ev_en_OPTIONAL (Or.inr ⟨(wd5 hw), (wd6 hw)⟩)
  have E_en_OPTIONAL := Exa.start ev_en_OPTIONAL nw1
  obtain ⟨en_MULTIPLE, ev_en_MULTIPLE⟩ := exa_v nw3
  have S_en_MULTIPLE := Sta.start ev_en_MULTIPLE (Or.inr ⟨(wd5 hw), (wd13 hw)⟩)
  have E_en_MULTIPLE := Exa.start ev_en_MULTIPLE nw3
  obtain ⟨en_AT_LEAST_ONE, ev_en_AT_LEAST_ONE⟩ := exa_v nw9
  have S_en_AT_LEAST_ONE := Sta.start ev_en_AT_LEAST_ONE (Or.inr ⟨(wd5 hw), (wd15 hw)⟩)
  have E_en_AT_LEAST_ONE := Exa.start ev_en_AT_LEAST_ONE nw9
  obtain ⟨en_OPTIONAL_keyword, ev_en_OPTIONAL_keyword⟩ := exa_v nw13
  have F_keyword_en_OPTIONAL : Fld s s.heap en_OPTIONAL "com/example/bindkeeper/bindkeeper/model/ReferenceDescription$Cardinality" "keyword" "Ljava/lang/String;" (.ref en_OPTIONAL_keyword) := Fld.start (by rw [← fld_at ev_en_OPTIONAL]; exact ev_en_OPTIONAL_keyword)
  have E_en_OPTIONAL_keyword := Exa.start ev_en_OPTIONAL_keyword nw13
  obtain ⟨en_AT_LEAST_ONE_keyword, ev_en_AT_LEAST_ONE_keyword⟩ := exa_v nw23
  have F_keyword_en_AT_LEAST_ONE : Fld s s.heap en_AT_LEAST_ONE "com/example/bindkeeper/bindkeeper/model/ReferenceDescription$Cardinality" "keyword" "Ljava/lang/String;" (.ref en_AT_LEAST_ONE_keyword) := Fld.start (by rw [← fld_at ev_en_AT_LEAST_ONE]; exact ev_en_AT_LEAST_ONE_keyword)
  have E_en_AT_LEAST_ONE_keyword := Exa.start ev_en_AT_LEAST_ONE_keyword nw23
  obtain ⟨en_MULTIPLE_keyword, ev_en_MULTIPLE_keyword⟩ := exa_v nw33
  have F_keyword_en_MULTIPLE : Fld s s.heap en_MULTIPLE "com/example/bindkeeper/bindkeeper/model/ReferenceDescription$Cardinality" "keyword" "Ljava/lang/String;" (.ref en_MULTIPLE_keyword) := Fld.start (by rw [← fld_at ev_en_MULTIPLE]; exact ev_en_MULTIPLE_keyword)
  have E_en_MULTIPLE_keyword := Exa.start ev_en_MULTIPLE_keyword nw33
  obtain ⟨en_MANDATORY, ev_en_MANDATORY⟩ := exa_v nw43
  have S_en_MANDATORY := Sta.start ev_en_MANDATORY (Or.inr ⟨(wd5 hw), (wd64 hw)⟩)
  have E_en_MANDATORY := Exa.start ev_en_MANDATORY nw43
  obtain ⟨en_MANDATORY_keyword, ev_en_MANDATORY_keyword⟩ := exa_v nw47
  have F_keyword_en_MANDATORY : Fld s s.heap en_MANDATORY "com/example/bindkeeper/bindkeeper/model/ReferenceDescription$Cardinality" "keyword" "Ljava/lang/String;" (.ref en_MANDATORY_keyword) := Fld.start (by rw [← fld_at ev_en_MANDATORY]; exact ev_en_MANDATORY_keyword)
  have E_en_MANDATORY_keyword := Exa.start ev_en_MANDATORY_keyword nw47
  have F_ordinal_en_OPTIONAL := own_ord nw5 ev_en_OPTIONAL
  have F_ordinal_en_MULTIPLE := own_ord nw7 ev_en_MULTIPLE
  have F_ordinal_en_AT_LEAST_ONE := own_ord nw11 ev_en_AT_LEAST_ONE
  have F_coder_en_OPTIONAL_keyword := own_ord nw19 ev_en_OPTIONAL_keyword
  have F_coder_en_AT_LEAST_ONE_keyword := own_ord nw29 ev_en_AT_LEAST_ONE_keyword
  have F_coder_en_MULTIPLE_keyword := own_ord nw39 ev_en_MULTIPLE_keyword
  have F_ordinal_en_MANDATORY := own_ord nw45 ev_en_MANDATORY
  have F_coder_en_MANDATORY_keyword := own_ord nw53 ev_en_MANDATORY_keyword
  obtain ⟨en_OPTIONAL_keyword_value, ev_en_OPTIONAL_keyword_value⟩ := arr_v nw15
  have F_value_en_OPTIONAL_keyword : Fld s s.heap en_OPTIONAL_keyword "java/lang/String" "value" "[B" (.ref en_OPTIONAL_keyword_value) := Fld.start (by rw [← fld_at ev_en_OPTIONAL_keyword]; exact ev_en_OPTIONAL_keyword_value)
  obtain ⟨cl_en_OPTIONAL_keyword_value, A_en_OPTIONAL_keyword_value⟩ := Arr.start ev_en_OPTIONAL_keyword_value nw15
  have L_en_OPTIONAL_keyword_value := own_len A_en_OPTIONAL_keyword_value ev_en_OPTIONAL_keyword_value nw17
  have V_en_OPTIONAL_keyword_value : PA s s.heap en_OPTIONAL_keyword_value .byte [(48 : Int32), (46 : Int32), (46 : Int32), (49 : Int32)] := PA.ofL A_en_OPTIONAL_keyword_value L_en_OPTIONAL_keyword_value.1 L_en_OPTIONAL_keyword_value.2 (by decide) (by decide) ⟨own_el A_en_OPTIONAL_keyword_value ev_en_OPTIONAL_keyword_value nw57, own_el A_en_OPTIONAL_keyword_value ev_en_OPTIONAL_keyword_value nw59, own_el A_en_OPTIONAL_keyword_value ev_en_OPTIONAL_keyword_value nw61, own_el A_en_OPTIONAL_keyword_value ev_en_OPTIONAL_keyword_value nw21, trivial⟩ (by decide)
  obtain ⟨en_AT_LEAST_ONE_keyword_value, ev_en_AT_LEAST_ONE_keyword_value⟩ := arr_v nw25
  have F_value_en_AT_LEAST_ONE_keyword : Fld s s.heap en_AT_LEAST_ONE_keyword "java/lang/String" "value" "[B" (.ref en_AT_LEAST_ONE_keyword_value) := Fld.start (by rw [← fld_at ev_en_AT_LEAST_ONE_keyword]; exact ev_en_AT_LEAST_ONE_keyword_value)
  obtain ⟨cl_en_AT_LEAST_ONE_keyword_value, A_en_AT_LEAST_ONE_keyword_value⟩ := Arr.start ev_en_AT_LEAST_ONE_keyword_value nw25
  have L_en_AT_LEAST_ONE_keyword_value := own_len A_en_AT_LEAST_ONE_keyword_value ev_en_AT_LEAST_ONE_keyword_value nw27
  have V_en_AT_LEAST_ONE_keyword_value : PA s s.heap en_AT_LEAST_ONE_keyword_value .byte [(49 : Int32), (46 : Int32), (46 : Int32), (110 : Int32)] := PA.ofL A_en_AT_LEAST_ONE_keyword_value L_en_AT_LEAST_ONE_keyword_value.1 L_en_AT_LEAST_ONE_keyword_value.2 (by decide) (by decide) ⟨own_el A_en_AT_LEAST_ONE_keyword_value ev_en_AT_LEAST_ONE_keyword_value nw63, own_el A_en_AT_LEAST_ONE_keyword_value ev_en_AT_LEAST_ONE_keyword_value nw65, own_el A_en_AT_LEAST_ONE_keyword_value ev_en_AT_LEAST_ONE_keyword_value nw67, own_el A_en_AT_LEAST_ONE_keyword_value ev_en_AT_LEAST_ONE_keyword_value nw31, trivial⟩ (by decide)
  obtain ⟨en_MULTIPLE_keyword_value, ev_en_MULTIPLE_keyword_value⟩ := arr_v nw35
  have F_value_en_MULTIPLE_keyword : Fld s s.heap en_MULTIPLE_keyword "java/lang/String" "value" "[B" (.ref en_MULTIPLE_keyword_value) := Fld.start (by rw [← fld_at ev_en_MULTIPLE_keyword]; exact ev_en_MULTIPLE_keyword_value)
  obtain ⟨cl_en_MULTIPLE_keyword_value, A_en_MULTIPLE_keyword_value⟩ := Arr.start ev_en_MULTIPLE_keyword_value nw35
  have L_en_MULTIPLE_keyword_value := own_len A_en_MULTIPLE_keyword_value ev_en_MULTIPLE_keyword_value nw37
  have V_en_MULTIPLE_keyword_value : PA s s.heap en_MULTIPLE_keyword_value .byte [(48 : Int32), (46 : Int32), (46 : Int32), (110 : Int32)] := PA.ofL A_en_MULTIPLE_keyword_value L_en_MULTIPLE_keyword_value.1 L_en_MULTIPLE_keyword_value.2 (by decide) (by decide) ⟨own_el A_en_MULTIPLE_keyword_value ev_en_MULTIPLE_keyword_value nw69, own_el A_en_MULTIPLE_keyword_value ev_en_MULTIPLE_keyword_value nw71, own_el A_en_MULTIPLE_keyword_value ev_en_MULTIPLE_keyword_value nw73, own_el A_en_MULTIPLE_keyword_value ev_en_MULTIPLE_keyword_value nw41, trivial⟩ (by decide)
  obtain ⟨en_MANDATORY_keyword_value, ev_en_MANDATORY_keyword_value⟩ := arr_v nw49
  have F_value_en_MANDATORY_keyword : Fld s s.heap en_MANDATORY_keyword "java/lang/String" "value" "[B" (.ref en_MANDATORY_keyword_value) := Fld.start (by rw [← fld_at ev_en_MANDATORY_keyword]; exact ev_en_MANDATORY_keyword_value)
  obtain ⟨cl_en_MANDATORY_keyword_value, A_en_MANDATORY_keyword_value⟩ := Arr.start ev_en_MANDATORY_keyword_value nw49
  have L_en_MANDATORY_keyword_value := own_len A_en_MANDATORY_keyword_value ev_en_MANDATORY_keyword_value nw51
  have V_en_MANDATORY_keyword_value : PA s s.heap en_MANDATORY_keyword_value .byte [(49 : Int32), (46 : Int32), (46 : Int32), (49 : Int32)] := PA.ofL A_en_MANDATORY_keyword_value L_en_MANDATORY_keyword_value.1 L_en_MANDATORY_keyword_value.2 (by decide) (by decide) ⟨own_el A_en_MANDATORY_keyword_value ev_en_MANDATORY_keyword_value nw75, own_el A_en_MANDATORY_keyword_value ev_en_MANDATORY_keyword_value nw77, own_el A_en_MANDATORY_keyword_value ev_en_MANDATORY_keyword_value nw78, own_el A_en_MANDATORY_keyword_value ev_en_MANDATORY_keyword_value nw55, trivial⟩ (by decide)
  have ne_en_OPTIONAL_en_MULTIPLE := Fld.ne F_ordinal_en_OPTIONAL F_ordinal_en_MULTIPLE (by decide)
  have ne_en_OPTIONAL_en_AT_LEAST_ONE := Fld.ne F_ordinal_en_OPTIONAL F_ordinal_en_AT_LEAST_ONE (by decide)
  have ne_en_OPTIONAL_en_MANDATORY := Fld.ne F_ordinal_en_OPTIONAL F_ordinal_en_MANDATORY (by decide)
  have ne_en_MULTIPLE_en_AT_LEAST_ONE := Fld.ne F_ordinal_en_MULTIPLE F_ordinal_en_AT_LEAST_ONE (by decide)
  have ne_en_MULTIPLE_en_MANDATORY := Fld.ne F_ordinal_en_MULTIPLE F_ordinal_en_MANDATORY (by decide)
  have ne_en_AT_LEAST_ONE_en_MANDATORY := Fld.ne F_ordinal_en_AT_LEAST_ONE F_ordinal_en_MANDATORY (by decide)
  obtain ⟨hsets, hown0⟩ := atoms_of _ (rest_1_c_eq ▸ (show rest_1_c.before _ s = true from hrest))
  obtain ⟨cs, ev_cs⟩ := is_v (Cond.before_iff.mp (hsets _ (List.mem_of_getElem? (i := 1) rfl)))
  have S_cs := Sta.start ev_cs (Or.inl (hsets _ (List.mem_of_getElem? (i := 0) rfl)))
  have hcs : ¬ cs = 0 := by
    have hq := not_v (Cond.before_iff.mp (hsets _ (List.mem_of_getElem? (i := 2) rfl)))
    exact gotF (Cond.eq_ints ev_cs rfl) hq
  obtain ⟨sio, ev_sio, hsio⟩ := isR_v (Cond.before_iff.mp (hsets _ (List.mem_of_getElem? (i := 8) rfl)))
  have S_sio := Sta.start ev_sio (Or.inl (hsets _ (List.mem_of_getElem? (i := 7) rfl)))
  obtain ⟨n, o, h1, h2, h3, _, L, rfl, ⟨⟨_, rfl, rfl⟩, N⟩, hq⟩ := rm_law (l := l) hw i0 en_OPTIONAL en_MULTIPLE en_AT_LEAST_ONE en_OPTIONAL_keyword en_AT_LEAST_ONE_keyword en_MULTIPLE_keyword en_MANDATORY en_MANDATORY_keyword en_OPTIONAL_keyword_value en_AT_LEAST_ONE_keyword_value en_MULTIPLE_keyword_value en_MANDATORY_keyword_value cs sio s.heap s.heap.size (Nat.le_refl _) S_en_OPTIONAL E_en_OPTIONAL S_en_MULTIPLE E_en_MULTIPLE S_en_AT_LEAST_ONE E_en_AT_LEAST_ONE F_keyword_en_OPTIONAL E_en_OPTIONAL_keyword F_keyword_en_AT_LEAST_ONE E_en_AT_LEAST_ONE_keyword F_keyword_en_MULTIPLE E_en_MULTIPLE_keyword S_en_MANDATORY E_en_MANDATORY F_keyword_en_MANDATORY E_en_MANDATORY_keyword F_ordinal_en_OPTIONAL F_ordinal_en_MULTIPLE F_ordinal_en_AT_LEAST_ONE F_coder_en_OPTIONAL_keyword F_coder_en_AT_LEAST_ONE_keyword F_coder_en_MULTIPLE_keyword F_ordinal_en_MANDATORY F_coder_en_MANDATORY_keyword F_value_en_OPTIONAL_keyword V_en_OPTIONAL_keyword_value F_value_en_AT_LEAST_ONE_keyword V_en_AT_LEAST_ONE_keyword_value F_value_en_MULTIPLE_keyword V_en_MULTIPLE_keyword_value F_value_en_MANDATORY_keyword V_en_MANDATORY_keyword_value ne_en_OPTIONAL_en_MULTIPLE ne_en_OPTIONAL_en_AT_LEAST_ONE ne_en_OPTIONAL_en_MANDATORY ne_en_MULTIPLE_en_AT_LEAST_ONE ne_en_MULTIPLE_en_MANDATORY ne_en_AT_LEAST_ONE_en_MANDATORY S_cs hcs S_sio hsio p e ha hc hk s m _ below hf ((Spec.applies_iff_loose hf).mp happ).1 ⟨rfl, State.Warmed39.refl s, rfl⟩ trivial
  refine ⟨n, _, h1, h2, h3, hpost _ _ _ _ _ _ ⟨Cond.after_iff.mpr rfl, Cond.after_iff.mpr (eq_i res_at (Term.int_eval (1)) rfl), trivial⟩ ⟨hq.1, hq.2.1, (hq.2.2.sift fun y hy => Or.inr (N y hy)).mono (by decide) (by decide)⟩⟩
theorem main_1_1 : Claimed_1_1 := comes_1 fun _ _ _ _ _ _ h hF => ⟨h.1, hF⟩
theorem main_1_2 : Claimed_1_2 := comes_1 fun _ _ _ _ _ _ h hF => ⟨h.2.1, hF⟩
end Jvm.Pilot.@@N@@
namespace Jvm.Pilot.@@N@@
open Jvm Jvm.ClassFile Sem Op Lib Jvm.Free Jvm.Stand Jvm.Pilot.@@N@@.Jvm.D
/-! MADE BY PROGRAM (witnessworld.py) out of the Statement's table words and the real class files: 19 classes; the members and pool entries that the words name. The judged class is class 1, her method 2. -/
namespace start1
open Jvm.ClassFile
def u (s : String) : CpInfo := .utf8 (stringToUtf16 s)
/-- a pool by its gaps: so many unusable entries, then the entry; so many at the end -/
def gap : Nat → List CpInfo → List CpInfo
  | 0, r => r
  | n + 1, r => .unusable :: gap n r
def poolList (es : List (Nat × CpInfo)) (last : Nat) : List CpInfo := es.foldr (fun e r => gap e.1 (e.2 :: r)) (gap last [])
def pool (es : List (Nat × CpInfo)) (last : Nat) : Array CpInfo := ⟨poolList es last⟩
def fileOf (pool : Array CpInfo) (this : Nat) (attrs : Array Attribute := #[]) (ms : Array MethodInfo := #[]) (fl : Nat := 33) (sup : Nat := 0) (ifs : Array Nat := #[]) (fds : Array FieldInfo := #[]) : ClassFile where
  minorVersion := 0
  majorVersion := 65
  constantPool := pool
  accessFlags := fl
  thisClass := this
  superClass := sup
  interfaces := ifs
  fields := fds
  methods := ms
  attributes := attrs
def plain (name : String) (sup : Option ClassId) : Class where
  name := name
  kind := .ordinary
  loader := none
  accessFlags := 33
  super := sup
  interfaces := #[]
  cf := none
  fields := #[]
  methods := #[]
  instanceTypes := #[]
  staticTypes := #[]
  resolved := #[]
  callSites := []
  init := .initialized
  statics := none
  mirror := none

def pool0 : Array CpInfo := pool [(5, u "<init>"), (0, u "()V"), (1, .class_ 10), (1, u "java/lang/Object")] 113

def k0m0 : Method := { name := "<init>", desc := "()V", sig := { parameters := [], returnType := none }, accessFlags := 1, code := none }
/-- java/lang/Object -/
def k0 : Class := { plain "java/lang/Object" none with
  accessFlags := 33
  interfaces := #[]
  cf := some (fileOf pool0 8 #[] #[{ accessFlags := 1, nameIndex := 5, descriptorIndex := 6, attributes := #[] }] 33 0 #[] #[])
  fields := #[]
  methods := #[k0m0]
  instanceTypes := #[]
  staticTypes := #[]
  resolved := Array.replicate 124 none
  statics := none }

def pool1 : Array CpInfo := pool [(2, .class_ 4), (1, u "java/lang/Object"), (0, u "<init>"), (0, u "()V"), (0, .fieldref 8 9), (0, .class_ 10), (0, .nameAndType 11 12), (0, u "com/example/bindkeeper/bindkeeper/model/ReferenceDescription$Cardinality"), (0, u "OPTIONAL"), (0, u "Lcom/example/bindkeeper/bindkeeper/model/ReferenceDescription$Cardinality;"), (0, .fieldref 8 14), (0, .nameAndType 15 12), (0, u "MANDATORY"), (0, .fieldref 8 17), (0, .nameAndType 18 12), (0, u "MULTIPLE"), (0, .fieldref 8 20), (0, .nameAndType 21 12), (0, u "AT_LEAST_ONE"), (0, .methodref 23 24), (0, .class_ 25), (0, .nameAndType 26 27), (0, u "com/example/bindkeeper/bindkeeper/model/CardinalityIsMultiplePinLaw"), (0, u "pick"), (0, u "(I)Lcom/example/bindkeeper/bindkeeper/model/ReferenceDescription$Cardinality;"), (0, .methodref 8 29), (0, .nameAndType 30 31), (0, u "isMultiple"), (0, u "()Z"), (0, .methodref 8 33), (0, .nameAndType 34 35), (0, u "keyword"), (0, u "()Ljava/lang/String;"), (0, .methodref 37 38), (0, .class_ 39), (0, .nameAndType 40 41), (0, u "java/lang/String"), (0, u "length"), (0, u "()I"), (0, .methodref 37 43), (0, .nameAndType 44 45), (0, u "charAt"), (0, u "(I)C"), (3, u "law"), (0, u "(I)Z")] 6

def k1m0 : Method := { name := "<init>", desc := "()V", sig := { parameters := [], returnType := none }, accessFlags := 1, code := none }
def k1c1 : Code := { maxStack := 2, maxLocals := 1, code := method_2_code, exceptionTable := #[], attributes := #[] }
def k1m1 : Method := { name := "pick", desc := "(I)Lcom/example/bindkeeper/bindkeeper/model/ReferenceDescription$Cardinality;", sig := { parameters := [.int], returnType := some (.object "com/example/bindkeeper/bindkeeper/model/ReferenceDescription$Cardinality") }, accessFlags := 10, code := some k1c1 }
def k1c2 : Code := { maxStack := 2, maxLocals := 7, code := code, exceptionTable := #[], attributes := #[] }
def k1m2 : Method := { name := "law", desc := "(I)Z", sig := { parameters := [.int], returnType := some .boolean }, accessFlags := 9, code := some k1c2 }
/-- com/example/bindkeeper/bindkeeper/model/CardinalityIsMultiplePinLaw -/
def k1 : Class := { plain "com/example/bindkeeper/bindkeeper/model/CardinalityIsMultiplePinLaw" (some 0) with
  accessFlags := 49
  interfaces := #[]
  cf := some (fileOf pool1 23 #[] #[{ accessFlags := 1, nameIndex := 5, descriptorIndex := 6, attributes := #[] }, { accessFlags := 10, nameIndex := 26, descriptorIndex := 27, attributes := #[] }, { accessFlags := 9, nameIndex := 49, descriptorIndex := 50, attributes := #[] }] 49 2 #[] #[])
  fields := #[]
  methods := #[k1m0, k1m1, k1m2]
  instanceTypes := #[]
  staticTypes := #[]
  resolved := Array.replicate 57 none
  statics := none }

def pool2 : Array CpInfo := pool [(1, .class_ 2), (0, u "java/lang/constant/Constable"), (0, .class_ 4), (0, u "java/lang/Object")] 6

/-- java/lang/constant/Constable -/
def k2 : Class := { plain "java/lang/constant/Constable" (some 0) with
  accessFlags := 1537
  interfaces := #[]
  cf := some (fileOf pool2 1 #[] #[] 1537 3 #[] #[])
  fields := #[]
  methods := #[]
  instanceTypes := #[]
  staticTypes := #[]
  resolved := Array.replicate 11 none
  statics := none }

def pool3 : Array CpInfo := pool [(1, .class_ 2), (0, u "java/lang/Comparable"), (0, .class_ 4), (0, u "java/lang/Object")] 7

/-- java/lang/Comparable -/
def k3 : Class := { plain "java/lang/Comparable" (some 0) with
  accessFlags := 1537
  interfaces := #[]
  cf := some (fileOf pool3 1 #[] #[] 1537 3 #[] #[])
  fields := #[]
  methods := #[]
  instanceTypes := #[]
  staticTypes := #[]
  resolved := Array.replicate 12 none
  statics := none }

def pool4 : Array CpInfo := pool [(1, .class_ 2), (0, u "java/io/Serializable"), (0, .class_ 4), (0, u "java/lang/Object")] 2

/-- java/io/Serializable -/
def k4 : Class := { plain "java/io/Serializable" (some 0) with
  accessFlags := 1537
  interfaces := #[]
  cf := some (fileOf pool4 1 #[] #[] 1537 3 #[] #[])
  fields := #[]
  methods := #[]
  instanceTypes := #[]
  staticTypes := #[]
  resolved := Array.replicate 7 none
  statics := none }

def pool5 : Array CpInfo := pool [(2, .class_ 4), (1, u "java/lang/Enum"), (0, u "name"), (0, u "Ljava/lang/String;"), (2, u "ordinal"), (0, u "I"), (1, .class_ 14), (1, u "java/lang/Object"), (4, u "hash"), (86, .class_ 108), (1, u "java/lang/Enum$EnumDesc"), (2, .class_ 112), (0, u "java/lang/constant/Constable"), (0, .class_ 114), (0, u "java/lang/Comparable"), (0, .class_ 116), (0, u "java/io/Serializable")] 87

/-- java/lang/Enum -/
def k5 : Class := { plain "java/lang/Enum" (some 0) with
  accessFlags := 1057
  interfaces := #[2, 3, 4]
  cf := some (fileOf pool5 2 #[.nestMembers #[106]] #[] 1057 12 #[111, 113, 115] #[{ accessFlags := 18, nameIndex := 5, descriptorIndex := 6, attributes := #[] }, { accessFlags := 18, nameIndex := 9, descriptorIndex := 10, attributes := #[] }, { accessFlags := 2, nameIndex := 19, descriptorIndex := 10, attributes := #[] }])
  fields := #[{ name := "name", type := (.object "java/lang/String"), accessFlags := 18, slot := 0, constantValue := 0 }, { name := "ordinal", type := .int, accessFlags := 18, slot := 1, constantValue := 0 }, { name := "hash", type := .int, accessFlags := 2, slot := 2, constantValue := 0 }]
  methods := #[]
  instanceTypes := #[(.object "java/lang/String"), .int, .int]
  staticTypes := #[]
  resolved := Array.replicate 204 none
  statics := none }

def pool6 : Array CpInfo := pool [(1, .class_ 2), (0, u "com/example/bindkeeper/bindkeeper/model/Keyword"), (0, .class_ 4), (0, u "java/lang/Object")] 4

/-- com/example/bindkeeper/bindkeeper/model/Keyword -/
def k6 : Class := { plain "com/example/bindkeeper/bindkeeper/model/Keyword" (some 0) with
  accessFlags := 1537
  interfaces := #[]
  cf := some (fileOf pool6 1 #[] #[] 1537 3 #[] #[])
  fields := #[]
  methods := #[]
  instanceTypes := #[]
  staticTypes := #[]
  resolved := Array.replicate 9 none
  statics := none }

def pool7 : Array CpInfo := pool [(1, .class_ 2), (0, u "com/example/bindkeeper/bindkeeper/model/ReferenceDescription$Cardinality"), (2, u "OPTIONAL"), (0, u "Lcom/example/bindkeeper/bindkeeper/model/ReferenceDescription$Cardinality;"), (2, u "MANDATORY"), (0, .fieldref 1 11), (0, .nameAndType 12 6), (0, u "MULTIPLE"), (0, .fieldref 1 14), (0, .nameAndType 15 6), (0, u "AT_LEAST_ONE"), (2, u "$VALUES"), (0, u "[Lcom/example/bindkeeper/bindkeeper/model/ReferenceDescription$Cardinality;"), (6, .class_ 28), (1, u "java/lang/Enum"), (6, .fieldref 1 36), (0, .nameAndType 37 38), (0, u "keyword"), (0, u "Ljava/lang/String;"), (19, .class_ 59), (0, u "com/example/bindkeeper/bindkeeper/model/Keyword"), (7, u "()Ljava/lang/String;"), (3, u "isMultiple"), (0, u "()Z"), (6, .class_ 80), (0, u "com/example/bindkeeper/bindkeeper/model/ReferenceDescription")] 2

def k7c0 : Code := { maxStack := 1, maxLocals := 1, code := prog_16_method_4_code, exceptionTable := #[], attributes := #[] }
def k7m0 : Method := { name := "keyword", desc := "()Ljava/lang/String;", sig := { parameters := [], returnType := some (.object "java/lang/String") }, accessFlags := 1, code := some k7c0 }
def k7c1 : Code := { maxStack := 2, maxLocals := 1, code := prog_16_method_6_code, exceptionTable := #[], attributes := #[] }
def k7m1 : Method := { name := "isMultiple", desc := "()Z", sig := { parameters := [], returnType := some .boolean }, accessFlags := 1, code := some k7c1 }
/-- com/example/bindkeeper/bindkeeper/model/ReferenceDescription$Cardinality -/
def k7 : Class := { plain "com/example/bindkeeper/bindkeeper/model/ReferenceDescription$Cardinality" (some 5) with
  accessFlags := 16433
  interfaces := #[6]
  cf := some (fileOf pool7 1 #[.nestHost 79] #[{ accessFlags := 1, nameIndex := 37, descriptorIndex := 67, attributes := #[] }, { accessFlags := 1, nameIndex := 71, descriptorIndex := 72, attributes := #[] }] 16433 26 #[58] #[{ accessFlags := 16409, nameIndex := 5, descriptorIndex := 6, attributes := #[] }, { accessFlags := 16409, nameIndex := 9, descriptorIndex := 6, attributes := #[] }, { accessFlags := 16409, nameIndex := 12, descriptorIndex := 6, attributes := #[] }, { accessFlags := 16409, nameIndex := 15, descriptorIndex := 6, attributes := #[] }, { accessFlags := 18, nameIndex := 37, descriptorIndex := 38, attributes := #[] }, { accessFlags := 4122, nameIndex := 18, descriptorIndex := 19, attributes := #[] }])
  fields := #[{ name := "OPTIONAL", type := (.object "com/example/bindkeeper/bindkeeper/model/ReferenceDescription$Cardinality"), accessFlags := 16409, slot := 0, constantValue := 0 }, { name := "MANDATORY", type := (.object "com/example/bindkeeper/bindkeeper/model/ReferenceDescription$Cardinality"), accessFlags := 16409, slot := 1, constantValue := 0 }, { name := "MULTIPLE", type := (.object "com/example/bindkeeper/bindkeeper/model/ReferenceDescription$Cardinality"), accessFlags := 16409, slot := 2, constantValue := 0 }, { name := "AT_LEAST_ONE", type := (.object "com/example/bindkeeper/bindkeeper/model/ReferenceDescription$Cardinality"), accessFlags := 16409, slot := 3, constantValue := 0 }, { name := "keyword", type := (.object "java/lang/String"), accessFlags := 18, slot := 3, constantValue := 0 }, { name := "$VALUES", type := (.array (.object "com/example/bindkeeper/bindkeeper/model/ReferenceDescription$Cardinality")), accessFlags := 4122, slot := 4, constantValue := 0 }]
  methods := #[k7m0, k7m1]
  instanceTypes := #[(.object "java/lang/String"), .int, .int, (.object "java/lang/String")]
  staticTypes := #[(.object "com/example/bindkeeper/bindkeeper/model/ReferenceDescription$Cardinality"), (.object "com/example/bindkeeper/bindkeeper/model/ReferenceDescription$Cardinality"), (.object "com/example/bindkeeper/bindkeeper/model/ReferenceDescription$Cardinality"), (.object "com/example/bindkeeper/bindkeeper/model/ReferenceDescription$Cardinality"), (.array (.object "com/example/bindkeeper/bindkeeper/model/ReferenceDescription$Cardinality"))]
  resolved := Array.replicate 83 none
  statics := some 0 }

def pool8 : Array CpInfo := pool [(2, .class_ 4), (1, u "java/lang/CharSequence"), (42, .class_ 48), (0, u "java/lang/CharSequence$1CodePointIterator"), (10, .class_ 60), (0, u "java/lang/CharSequence$1CharIterator"), (5, .class_ 67), (0, u "java/lang/Object")] 63

/-- java/lang/CharSequence -/
def k8 : Class := { plain "java/lang/CharSequence" (some 0) with
  accessFlags := 1537
  interfaces := #[]
  cf := some (fileOf pool8 2 #[.nestMembers #[47, 59]] #[] 1537 66 #[] #[])
  fields := #[]
  methods := #[]
  instanceTypes := #[]
  staticTypes := #[]
  resolved := Array.replicate 131 none
  statics := none }

def pool9 : Array CpInfo := pool [(1, .class_ 2), (0, u "java/lang/constant/ConstantDesc"), (0, .class_ 4), (0, u "java/lang/Object")] 32

/-- java/lang/constant/ConstantDesc -/
def k9 : Class := { plain "java/lang/constant/ConstantDesc" (some 0) with
  accessFlags := 1537
  interfaces := #[]
  cf := some (fileOf pool9 1 #[] #[] 1537 3 #[] #[])
  fields := #[]
  methods := #[]
  instanceTypes := #[]
  staticTypes := #[]
  resolved := Array.replicate 37 none
  statics := none }

def pool10 : Array CpInfo := pool [(2, .class_ 4), (1, u "java/lang/Object"), (0, u "<init>"), (0, u "()V"), (2, .fieldref 10 11), (0, .class_ 12), (0, .nameAndType 13 14), (0, u "java/lang/String"), (0, u "value"), (0, u "[B"), (0, .fieldref 10 16), (0, .nameAndType 17 18), (0, u "coder"), (0, u "B"), (2, u "hash"), (0, u "I"), (2, u "hashIsZero"), (0, u "Z"), (11, .fieldref 10 39), (0, .nameAndType 40 26), (0, u "COMPACT_STRINGS"), (66, .class_ 109), (1, u "java/lang/StringLatin1"), (32, u "()Z"), (191, u "()I"), (0, .methodref 10 336), (0, .nameAndType 17 337), (0, u "()B"), (25, u "([BI)C"), (27, u "(II)V"), (35, u "(I)C"), (64, .methodref 10 493), (0, .nameAndType 494 142), (0, u "isLatin1"), (0, .methodref 107 496), (0, .nameAndType 497 363), (0, u "charAt"), (3, u "checkIndex"), (5, u "length"), (67, .class_ 576), (0, u "java/lang/CharSequence"), (22, u "CASE_INSENSITIVE_ORDER"), (0, u "Ljava/util/Comparator;"), (452, .fieldref 1054 1055), (0, .class_ 1056), (0, .nameAndType 1057 1058), (0, u "jdk/internal/util/Preconditions"), (0, u "SIOOBE_FORMATTER"), (0, u "Ljava/util/function/BiFunction;"), (0, .methodref 1054 1060), (0, .nameAndType 501 1061), (0, u "(IILjava/util/function/BiFunction;)I"), (39, u "serialPersistentFields"), (0, u "[Ljava/io/ObjectStreamField;"), (0, .class_ 1104), (0, u "java/lang/String$CaseInsensitiveComparator"), (1, .class_ 1107), (0, u "java/io/Serializable"), (0, .class_ 1109), (0, u "java/lang/Comparable"), (0, .class_ 1111), (0, u "java/lang/constant/Constable"), (0, .class_ 1113), (0, u "java/lang/constant/ConstantDesc"), (2, u "serialVersionUID"), (0, u "J"), (3, u "REPL"), (0, u "C"), (2, u "LATIN1"), (1, u "UTF16")] 323

def k10m0 : Method := { name := "<init>", desc := "()V", sig := { parameters := [], returnType := none }, accessFlags := 1, code := none }
def k10c1 : Code := { maxStack := 2, maxLocals := 1, code := jdk_42_method_54_code, exceptionTable := #[], attributes := #[] }
def k10m1 : Method := { name := "length", desc := "()I", sig := { parameters := [], returnType := some .int }, accessFlags := 1, code := some k10c1 }
def k10c2 : Code := { maxStack := 2, maxLocals := 2, code := jdk_42_method_56_code, exceptionTable := #[], attributes := #[] }
def k10m2 : Method := { name := "charAt", desc := "(I)C", sig := { parameters := [.int], returnType := some .char }, accessFlags := 1, code := some k10c2 }
def k10c3 : Code := { maxStack := 1, maxLocals := 1, code := jdk_42_method_152_code, exceptionTable := #[], attributes := #[] }
def k10m3 : Method := { name := "coder", desc := "()B", sig := { parameters := [], returnType := some .byte }, accessFlags := 0, code := some k10c3 }
def k10c4 : Code := { maxStack := 1, maxLocals := 1, code := jdk_42_method_154_code, exceptionTable := #[], attributes := #[] }
def k10m4 : Method := { name := "isLatin1", desc := "()Z", sig := { parameters := [], returnType := some .boolean }, accessFlags := 0, code := some k10c4 }
def k10c5 : Code := { maxStack := 3, maxLocals := 2, code := jdk_42_method_155_code, exceptionTable := #[], attributes := #[] }
def k10m5 : Method := { name := "checkIndex", desc := "(II)V", sig := { parameters := [.int, .int], returnType := none }, accessFlags := 8, code := some k10c5 }
/-- java/lang/String -/
def k10 : Class := { plain "java/lang/String" (some 0) with
  accessFlags := 49
  interfaces := #[4, 3, 8, 2, 9]
  cf := some (fileOf pool10 10 #[.nestMembers #[1103]] #[{ accessFlags := 1, nameIndex := 5, descriptorIndex := 6, attributes := #[] }, { accessFlags := 1, nameIndex := 507, descriptorIndex := 334, attributes := #[] }, { accessFlags := 1, nameIndex := 497, descriptorIndex := 427, attributes := #[] }, { accessFlags := 0, nameIndex := 17, descriptorIndex := 337, attributes := #[] }, { accessFlags := 0, nameIndex := 494, descriptorIndex := 142, attributes := #[] }, { accessFlags := 8, nameIndex := 501, descriptorIndex := 391, attributes := #[] }] 49 2 #[1106, 1108, 575, 1110, 1112] #[{ accessFlags := 18, nameIndex := 13, descriptorIndex := 14, attributes := #[] }, { accessFlags := 18, nameIndex := 17, descriptorIndex := 18, attributes := #[] }, { accessFlags := 2, nameIndex := 21, descriptorIndex := 22, attributes := #[] }, { accessFlags := 2, nameIndex := 25, descriptorIndex := 26, attributes := #[] }, { accessFlags := 26, nameIndex := 1116, descriptorIndex := 1117, attributes := #[] }, { accessFlags := 24, nameIndex := 40, descriptorIndex := 26, attributes := #[] }, { accessFlags := 26, nameIndex := 1101, descriptorIndex := 1102, attributes := #[] }, { accessFlags := 26, nameIndex := 1121, descriptorIndex := 1122, attributes := #[] }, { accessFlags := 25, nameIndex := 599, descriptorIndex := 600, attributes := #[] }, { accessFlags := 24, nameIndex := 1125, descriptorIndex := 18, attributes := #[] }, { accessFlags := 24, nameIndex := 1127, descriptorIndex := 18, attributes := #[] }])
  fields := #[{ name := "value", type := (.array .byte), accessFlags := 18, slot := 0, constantValue := 0 }, { name := "coder", type := .byte, accessFlags := 18, slot := 1, constantValue := 0 }, { name := "hash", type := .int, accessFlags := 2, slot := 2, constantValue := 0 }, { name := "hashIsZero", type := .boolean, accessFlags := 2, slot := 3, constantValue := 0 }, { name := "serialVersionUID", type := .long, accessFlags := 26, slot := 0, constantValue := 0 }, { name := "COMPACT_STRINGS", type := .boolean, accessFlags := 24, slot := 1, constantValue := 0 }, { name := "serialPersistentFields", type := (.array (.object "java/io/ObjectStreamField")), accessFlags := 26, slot := 2, constantValue := 0 }, { name := "REPL", type := .char, accessFlags := 26, slot := 3, constantValue := 0 }, { name := "CASE_INSENSITIVE_ORDER", type := (.object "java/util/Comparator"), accessFlags := 25, slot := 4, constantValue := 0 }, { name := "LATIN1", type := .byte, accessFlags := 24, slot := 5, constantValue := 0 }, { name := "UTF16", type := .byte, accessFlags := 24, slot := 6, constantValue := 0 }]
  methods := #[k10m0, k10m1, k10m2, k10m3, k10m4, k10m5]
  instanceTypes := #[(.array .byte), .byte, .int, .boolean]
  staticTypes := #[.long, .boolean, (.array (.object "java/io/ObjectStreamField")), .char, (.object "java/util/Comparator"), .byte, .byte]
  resolved := Array.replicate 1451 none
  statics := some 1 }

def pool11 : Array CpInfo := pool [(1, .class_ 2), (0, u "java/lang/String"), (1, .class_ 6), (1, u "java/lang/Object"), (0, u "<init>"), (0, u "()V"), (0, .methodref 1 10), (0, .nameAndType 11 12), (0, u "checkIndex"), (0, u "(II)V"), (1, .class_ 16), (1, u "java/lang/StringLatin1"), (36, u "([BI)C"), (67, u "$assertionsDisabled"), (0, u "Z"), (98, .class_ 223), (1, u "java/lang/StringLatin1$LinesSpliterator"), (28, u "charAt"), (137, .class_ 391), (0, u "java/lang/StringLatin1$CharsSpliterator")] 3

def k11m0 : Method := { name := "<init>", desc := "()V", sig := { parameters := [], returnType := none }, accessFlags := 0, code := none }
def k11c1 : Code := { maxStack := 2, maxLocals := 2, code := jdk_43_method_2_code, exceptionTable := #[], attributes := #[] }
def k11m1 : Method := { name := "charAt", desc := "([BI)C", sig := { parameters := [(.array .byte), .int], returnType := some .char }, accessFlags := 9, code := some k11c1 }
/-- java/lang/StringLatin1 -/
def k11 : Class := { plain "java/lang/StringLatin1" (some 0) with
  accessFlags := 48
  interfaces := #[]
  cf := some (fileOf pool11 14 #[.nestMembers #[390, 221]] #[{ accessFlags := 0, nameIndex := 7, descriptorIndex := 8, attributes := #[] }, { accessFlags := 9, nameIndex := 252, descriptorIndex := 53, attributes := #[] }] 48 4 #[] #[{ accessFlags := 4120, nameIndex := 121, descriptorIndex := 122, attributes := #[] }])
  fields := #[{ name := "$assertionsDisabled", type := .boolean, accessFlags := 4120, slot := 0, constantValue := 0 }]
  methods := #[k11m0, k11m1]
  instanceTypes := #[]
  staticTypes := #[.boolean]
  resolved := Array.replicate 395 none
  statics := none }

def pool12 : Array CpInfo := pool [(2, .class_ 4), (1, u "java/lang/Object"), (0, u "<init>"), (0, u "()V"), (17, .class_ 26), (1, u "jdk/internal/util/Preconditions"), (6, u "checkIndex"), (21, .class_ 56), (0, u "jdk/internal/util/Preconditions$4"), (57, .class_ 115), (0, u "jdk/internal/util/Preconditions$1"), (7, u "SIOOBE_FORMATTER"), (0, u "Ljava/util/function/BiFunction;"), (0, .class_ 126), (0, u "jdk/internal/util/Preconditions$2"), (3, u "AIOOBE_FORMATTER"), (0, .class_ 132), (0, u "jdk/internal/util/Preconditions$3"), (3, u "IOOBE_FORMATTER"), (41, u "(IILjava/util/function/BiFunction;)I")] 15

def k12m0 : Method := { name := "<init>", desc := "()V", sig := { parameters := [], returnType := none }, accessFlags := 1, code := none }
def k12c1 : Code := { maxStack := 3, maxLocals := 3, code := jdk_41_method_11_code, exceptionTable := #[], attributes := #[] }
def k12m1 : Method := { name := "checkIndex", desc := "(IILjava/util/function/BiFunction;)I", sig := { parameters := [.int, .int, (.object "java/util/function/BiFunction")], returnType := some .int }, accessFlags := 9, code := some k12c1 }
/-- jdk/internal/util/Preconditions -/
def k12 : Class := { plain "jdk/internal/util/Preconditions" (some 0) with
  accessFlags := 33
  interfaces := #[]
  cf := some (fileOf pool12 24 #[.nestMembers #[55, 131, 125, 114]] #[{ accessFlags := 1, nameIndex := 5, descriptorIndex := 6, attributes := #[] }, { accessFlags := 9, nameIndex := 33, descriptorIndex := 178, attributes := #[] }] 33 2 #[] #[{ accessFlags := 25, nameIndex := 123, descriptorIndex := 124, attributes := #[] }, { accessFlags := 25, nameIndex := 130, descriptorIndex := 124, attributes := #[] }, { accessFlags := 25, nameIndex := 136, descriptorIndex := 124, attributes := #[] }])
  fields := #[{ name := "SIOOBE_FORMATTER", type := (.object "java/util/function/BiFunction"), accessFlags := 25, slot := 0, constantValue := 0 }, { name := "AIOOBE_FORMATTER", type := (.object "java/util/function/BiFunction"), accessFlags := 25, slot := 1, constantValue := 0 }, { name := "IOOBE_FORMATTER", type := (.object "java/util/function/BiFunction"), accessFlags := 25, slot := 2, constantValue := 0 }]
  methods := #[k12m0, k12m1]
  instanceTypes := #[]
  staticTypes := #[(.object "java/util/function/BiFunction"), (.object "java/util/function/BiFunction"), (.object "java/util/function/BiFunction")]
  resolved := Array.replicate 194 none
  statics := some 2 }

def pool13 : Array CpInfo := pool [(9, u "<init>"), (6, .class_ 18), (1, u "java/lang/Object"), (0, u "()V"), (1, .class_ 23), (1, u "jdk/internal/util/ArraysSupport"), (0, u "LOG2_ARRAY_LONG_INDEX_SCALE"), (0, u "I"), (2, u "U"), (0, u "Ljdk/internal/misc/Unsafe;"), (8, u "BIG_ENDIAN"), (0, u "Z"), (8, u "LOG2_BYTE_BIT_SIZE"), (4, u "LOG2_ARRAY_INT_INDEX_SCALE"), (54, u "JLA"), (0, u "Ljdk/internal/access/JavaLangAccess;"), (11, u "LOG2_ARRAY_BOOLEAN_INDEX_SCALE"), (9, u "LOG2_ARRAY_BYTE_INDEX_SCALE"), (5, u "LOG2_ARRAY_CHAR_INDEX_SCALE"), (5, u "LOG2_ARRAY_SHORT_INDEX_SCALE"), (18, u "LOG2_ARRAY_FLOAT_INDEX_SCALE"), (24, u "LOG2_ARRAY_DOUBLE_INDEX_SCALE"), (89, u "T_BOOLEAN"), (2, u "T_CHAR"), (1, u "T_FLOAT"), (1, u "T_DOUBLE"), (1, u "T_BYTE"), (1, u "T_SHORT"), (1, u "T_INT"), (1, u "T_LONG"), (1, u "SOFT_MAX_ARRAY_LENGTH")] 83

def k13m0 : Method := { name := "<init>", desc := "()V", sig := { parameters := [], returnType := none }, accessFlags := 2, code := none }
/-- jdk/internal/util/ArraysSupport -/
def k13 : Class := { plain "jdk/internal/util/ArraysSupport" (some 0) with
  accessFlags := 33
  interfaces := #[]
  cf := some (fileOf pool13 21 #[] #[{ accessFlags := 2, nameIndex := 9, descriptorIndex := 19, attributes := #[] }] 33 16 #[] #[{ accessFlags := 24, nameIndex := 28, descriptorIndex := 29, attributes := #[] }, { accessFlags := 26, nameIndex := 38, descriptorIndex := 39, attributes := #[] }, { accessFlags := 25, nameIndex := 121, descriptorIndex := 25, attributes := #[] }, { accessFlags := 25, nameIndex := 131, descriptorIndex := 25, attributes := #[] }, { accessFlags := 25, nameIndex := 137, descriptorIndex := 25, attributes := #[] }, { accessFlags := 25, nameIndex := 143, descriptorIndex := 25, attributes := #[] }, { accessFlags := 25, nameIndex := 53, descriptorIndex := 25, attributes := #[] }, { accessFlags := 25, nameIndex := 24, descriptorIndex := 25, attributes := #[] }, { accessFlags := 25, nameIndex := 162, descriptorIndex := 25, attributes := #[] }, { accessFlags := 25, nameIndex := 187, descriptorIndex := 25, attributes := #[] }, { accessFlags := 26, nameIndex := 48, descriptorIndex := 25, attributes := #[] }, { accessFlags := 25, nameIndex := 277, descriptorIndex := 25, attributes := #[] }, { accessFlags := 25, nameIndex := 280, descriptorIndex := 25, attributes := #[] }, { accessFlags := 25, nameIndex := 282, descriptorIndex := 25, attributes := #[] }, { accessFlags := 25, nameIndex := 284, descriptorIndex := 25, attributes := #[] }, { accessFlags := 25, nameIndex := 286, descriptorIndex := 25, attributes := #[] }, { accessFlags := 25, nameIndex := 288, descriptorIndex := 25, attributes := #[] }, { accessFlags := 25, nameIndex := 290, descriptorIndex := 25, attributes := #[] }, { accessFlags := 25, nameIndex := 292, descriptorIndex := 25, attributes := #[] }, { accessFlags := 26, nameIndex := 108, descriptorIndex := 109, attributes := #[] }, { accessFlags := 25, nameIndex := 294, descriptorIndex := 25, attributes := #[] }])
  fields := #[{ name := "U", type := (.object "jdk/internal/misc/Unsafe"), accessFlags := 24, slot := 0, constantValue := 0 }, { name := "BIG_ENDIAN", type := .boolean, accessFlags := 26, slot := 1, constantValue := 0 }, { name := "LOG2_ARRAY_BOOLEAN_INDEX_SCALE", type := .int, accessFlags := 25, slot := 2, constantValue := 0 }, { name := "LOG2_ARRAY_BYTE_INDEX_SCALE", type := .int, accessFlags := 25, slot := 3, constantValue := 0 }, { name := "LOG2_ARRAY_CHAR_INDEX_SCALE", type := .int, accessFlags := 25, slot := 4, constantValue := 0 }, { name := "LOG2_ARRAY_SHORT_INDEX_SCALE", type := .int, accessFlags := 25, slot := 5, constantValue := 0 }, { name := "LOG2_ARRAY_INT_INDEX_SCALE", type := .int, accessFlags := 25, slot := 6, constantValue := 0 }, { name := "LOG2_ARRAY_LONG_INDEX_SCALE", type := .int, accessFlags := 25, slot := 7, constantValue := 0 }, { name := "LOG2_ARRAY_FLOAT_INDEX_SCALE", type := .int, accessFlags := 25, slot := 8, constantValue := 0 }, { name := "LOG2_ARRAY_DOUBLE_INDEX_SCALE", type := .int, accessFlags := 25, slot := 9, constantValue := 0 }, { name := "LOG2_BYTE_BIT_SIZE", type := .int, accessFlags := 26, slot := 10, constantValue := 0 }, { name := "T_BOOLEAN", type := .int, accessFlags := 25, slot := 11, constantValue := 0 }, { name := "T_CHAR", type := .int, accessFlags := 25, slot := 12, constantValue := 0 }, { name := "T_FLOAT", type := .int, accessFlags := 25, slot := 13, constantValue := 0 }, { name := "T_DOUBLE", type := .int, accessFlags := 25, slot := 14, constantValue := 0 }, { name := "T_BYTE", type := .int, accessFlags := 25, slot := 15, constantValue := 0 }, { name := "T_SHORT", type := .int, accessFlags := 25, slot := 16, constantValue := 0 }, { name := "T_INT", type := .int, accessFlags := 25, slot := 17, constantValue := 0 }, { name := "T_LONG", type := .int, accessFlags := 25, slot := 18, constantValue := 0 }, { name := "JLA", type := (.object "jdk/internal/access/JavaLangAccess"), accessFlags := 26, slot := 19, constantValue := 0 }, { name := "SOFT_MAX_ARRAY_LENGTH", type := .int, accessFlags := 25, slot := 20, constantValue := 0 }]
  methods := #[k13m0]
  instanceTypes := #[]
  staticTypes := #[(.object "jdk/internal/misc/Unsafe"), .boolean, .int, .int, .int, .int, .int, .int, .int, .int, .int, .int, .int, .int, .int, .int, .int, .int, .int, (.object "jdk/internal/access/JavaLangAccess"), .int]
  resolved := Array.replicate 378 none
  statics := none }

def pool14 : Array CpInfo := pool [(1, u "java/lang/Cloneable"), (0, .class_ 1), (0, u "java/lang/Object"), (0, .class_ 3)] 3

/-- java/lang/Cloneable -/
def k14 : Class := { plain "java/lang/Cloneable" (some 0) with
  accessFlags := 1537
  interfaces := #[]
  cf := some (fileOf pool14 2 #[] #[] 1537 4 #[] #[])
  fields := #[]
  methods := #[]
  instanceTypes := #[]
  staticTypes := #[]
  resolved := Array.replicate 8 none
  statics := none }

/-- the primitive byte -/
def k15 : Class := { plain "byte" none with kind := .primitive 'B', accessFlags := 0x411 }
/-- [B -/
def k16 : Class := { plain "[B" (some 0) with kind := .array 15 .byte, interfaces := #[14, 4], accessFlags := 1041 }

/-- the primitive int -/
def k17 : Class := { plain "int" none with kind := .primitive 'I', accessFlags := 0x411 }
/-- [I -/
def k18 : Class := { plain "[I" (some 0) with kind := .array 17 .int, interfaces := #[14, 4], accessFlags := 1041 }

def heap : Heap := #[{ cls := 7, slots := #[.ref 11, .ref 12, .ref 13, .ref 14, .null], vm := .statics 7 },
  { cls := 10, slots := #[.long 0, .int 1, .null, .int 0, .null, .int 0, .int 0], vm := .statics 10 },
  { cls := 12, slots := #[.null, .null, .null], vm := .statics 12 },
  { cls := 16, slots := #[.int 48, .int 46, .int 46, .int 49], vm := .none },
  { cls := 16, slots := #[.int 49, .int 46, .int 46, .int 49], vm := .none },
  { cls := 16, slots := #[.int 48, .int 46, .int 46, .int 110], vm := .none },
  { cls := 16, slots := #[.int 49, .int 46, .int 46, .int 110], vm := .none },
  { cls := 10, slots := #[.ref 3, .int 0, .int 0, .int 0], vm := .none },
  { cls := 10, slots := #[.ref 4, .int 0, .int 0, .int 0], vm := .none },
  { cls := 10, slots := #[.ref 5, .int 0, .int 0, .int 0], vm := .none },
  { cls := 10, slots := #[.ref 6, .int 0, .int 0, .int 0], vm := .none },
  { cls := 7, slots := #[.null, .int 0, .int 0, .ref 7], vm := .none },
  { cls := 7, slots := #[.null, .int 1, .int 0, .ref 8], vm := .none },
  { cls := 7, slots := #[.null, .int 2, .int 0, .ref 9], vm := .none },
  { cls := 7, slots := #[.null, .int 3, .int 0, .ref 10], vm := .none }]
def classes : Array Class := #[k0, k1, k2, k3, k4, k5, k6, k7, k8, k9, k10, k11, k12, k13, k14, k15, k16, k17, k18]
def interned : List (Array UInt16 × Addr) := []
def slotsUsed : Nat := 63
def theMethod : MethodId := ⟨1, 2⟩
def args0 : Array Value := #[.int 5]
def aboutOver (below : List Frame) : State where
  vm := { classes := classes, interned := interned.toArray }
  heap := heap
  slotsUsed := slotsUsed
  threads := #[{ frames := .invoking theMethod args0 :: below }]
def below0 : List Frame := [.native { method := ⟨0, 0⟩, args := #[] }]
def about1 : State := aboutOver below0
def p0 : Program := .bare "" "" ""
def e0 : Env := launch0.env 0 0 0
theorem w_frames : about1.frames = Frame.invoking theMethod args0 :: below0 := rfl
set_option maxRecDepth 65536 in
theorem w_args : argsFit about1.vm theMethod args0 = true := by decide +kernel
set_option maxRecDepth 65536 in
theorem w_heap : heapFits about1 = true := by decide +kernel
set_option maxRecDepth 65536 in
theorem w_runnable : about1.curStatus? = some .runnable := by decide +kernel
set_option maxRecDepth 65536 in
theorem w_alone : about1.alone = true := by decide +kernel
set_option maxRecDepth 65536 in
theorem w_named : about1.methodNamed? x = some theMethod := by decide +kernel
set_option maxRecDepth 65536 in
theorem w_hears : about1.hears theMethod below0 = true := by decide +kernel
set_option maxRecDepth 65536 in
theorem w_ripe : about1.ripe theMethod args0 below0 = true := by decide +kernel
theorem w_running : about1.status = .running := rfl
set_option maxRecDepth 65536 in
theorem w_room : about1.hasRoom e0.platform room_1 = true :=
  launch0.hasRoom_least _ room_1 (by decide +kernel) (by decide +kernel) (by decide +kernel) (by decide +kernel) (by decide +kernel) (by decide +kernel)
theorem allAtoms_all (ts : List Jvm.Cond) (a : Array Jvm.Value) (st : Jvm.State) : (allAtoms ts).before a st = ts.all (fun c => c.before a st) := by
  induction ts with
  | nil => rfl
  | cons c t ih =>
    show (Jvm.Cond.and c (allAtoms t)).before a st = _
    rw [Jvm.Cond.before_and, ih, List.all_cons]
def words1 : List Jvm.Cond := Jvm.Cond.code x code maxLocals ret :: tables_1
/-- a 'code' word, met by the world's own term for the bytes: nothing is compared byte by byte -/
theorem code_word {y : MethodName} {bytes : ByteArray} {mx : Nat} {rt : Option FieldType} {a : Array Value} {s : State} {m : MethodId} {meth : Method} {c : Code} (h1 : s.methodNamed? y = some m) (h2 : s.vm.method? m = some meth) (h3 : meth.code = some c) (h4 : c.code = bytes)
    (h5 : (c.maxLocals == mx && c.exceptionTable.isEmpty && decide (c.maxStack ≤ mostOperands) && decide (meth.sig.returnType = rt) && !meth.locks && decide (parseMethodDescriptor y.desc = some meth.sig)) = true) : (Jvm.Cond.code y bytes mx rt).before a s = true := by
  simp only [Bool.and_eq_true, beq_iff_eq, Bool.not_eq_true', decide_eq_true_eq] at h5
  obtain ⟨⟨⟨⟨⟨g1, g2⟩, g3⟩, g4⟩, g5⟩, g6⟩ := h5
  simp [Cond.before, Cond.holds, Cond.value, h1, h2, h3, h4, g1, g2, g3, g4, g5, g6]
def isCode : Jvm.Cond → Bool
  | .code _ _ _ _ => true
  | _ => false
theorem all_split {L : List Jvm.Cond} {P : Jvm.Cond → Bool} (h1 : L.all (fun c => isCode c || P c) = true) (h2 : ∀ c ∈ L.filter isCode, P c = true) : L.all P = true := by
  refine List.all_eq_true.mpr fun c hc => ?_
  have h := List.all_eq_true.mp h1 c hc
  rcases Bool.eq_false_or_eq_true (isCode c) with hi | hi
  · exact h2 c (List.mem_filter.mpr ⟨hc, hi⟩)
  · simpa [hi] using h
set_option maxRecDepth 65536 in
theorem w_c0 : (Jvm.Cond.code x code maxLocals ret).before args0 about1 = true := code_word (m := ⟨1, 2⟩) (meth := k1m2) (c := k1c2) (by decide +kernel) rfl rfl rfl (by decide +kernel)
set_option maxRecDepth 65536 in
theorem w_c1 : (Jvm.Cond.code ({ cls := "com/example/bindkeeper/bindkeeper/model/CardinalityIsMultiplePinLaw", name := "pick", desc := "(I)Lcom/example/bindkeeper/bindkeeper/model/ReferenceDescription$Cardinality;" } : Jvm.MethodName) method_2_code (1 : Nat) (Option.some (Jvm.ClassFile.FieldType.object "com/example/bindkeeper/bindkeeper/model/ReferenceDescription$Cardinality"))).before args0 about1 = true := code_word (m := ⟨1, 1⟩) (meth := k1m1) (c := k1c1) (by decide +kernel) rfl rfl rfl (by decide +kernel)
set_option maxRecDepth 65536 in
theorem w_c2 : (Jvm.Cond.code ({ cls := "com/example/bindkeeper/bindkeeper/model/ReferenceDescription$Cardinality", name := "isMultiple", desc := "()Z" } : Jvm.MethodName) prog_16_method_6_code (1 : Nat) (Option.some Jvm.ClassFile.FieldType.boolean)).before args0 about1 = true := code_word (m := ⟨7, 1⟩) (meth := k7m1) (c := k7c1) (by decide +kernel) rfl rfl rfl (by decide +kernel)
set_option maxRecDepth 65536 in
theorem w_c3 : (Jvm.Cond.code ({ cls := "com/example/bindkeeper/bindkeeper/model/ReferenceDescription$Cardinality", name := "keyword", desc := "()Ljava/lang/String;" } : Jvm.MethodName) prog_16_method_4_code (1 : Nat) (Option.some (Jvm.ClassFile.FieldType.object "java/lang/String"))).before args0 about1 = true := code_word (m := ⟨7, 0⟩) (meth := k7m0) (c := k7c0) (by decide +kernel) rfl rfl rfl (by decide +kernel)
set_option maxRecDepth 65536 in
theorem w_c4 : (Jvm.Cond.code ({ cls := "java/lang/String", name := "length", desc := "()I" } : Jvm.MethodName) jdk_42_method_54_code (1 : Nat) (Option.some Jvm.ClassFile.FieldType.int)).before args0 about1 = true := code_word (m := ⟨10, 1⟩) (meth := k10m1) (c := k10c1) (by decide +kernel) rfl rfl rfl (by decide +kernel)
set_option maxRecDepth 65536 in
theorem w_c5 : (Jvm.Cond.code ({ cls := "java/lang/String", name := "coder", desc := "()B" } : Jvm.MethodName) jdk_42_method_152_code (1 : Nat) (Option.some Jvm.ClassFile.FieldType.byte)).before args0 about1 = true := code_word (m := ⟨10, 3⟩) (meth := k10m3) (c := k10c3) (by decide +kernel) rfl rfl rfl (by decide +kernel)
set_option maxRecDepth 65536 in
theorem w_c6 : (Jvm.Cond.code ({ cls := "java/lang/String", name := "charAt", desc := "(I)C" } : Jvm.MethodName) jdk_42_method_56_code (2 : Nat) (Option.some Jvm.ClassFile.FieldType.char)).before args0 about1 = true := code_word (m := ⟨10, 2⟩) (meth := k10m2) (c := k10c2) (by decide +kernel) rfl rfl rfl (by decide +kernel)
set_option maxRecDepth 65536 in
theorem w_c7 : (Jvm.Cond.code ({ cls := "java/lang/String", name := "isLatin1", desc := "()Z" } : Jvm.MethodName) jdk_42_method_154_code (1 : Nat) (Option.some Jvm.ClassFile.FieldType.boolean)).before args0 about1 = true := code_word (m := ⟨10, 4⟩) (meth := k10m4) (c := k10c4) (by decide +kernel) rfl rfl rfl (by decide +kernel)
set_option maxRecDepth 65536 in
theorem w_c8 : (Jvm.Cond.code ({ cls := "java/lang/StringLatin1", name := "charAt", desc := "([BI)C" } : Jvm.MethodName) jdk_43_method_2_code (2 : Nat) (Option.some Jvm.ClassFile.FieldType.char)).before args0 about1 = true := code_word (m := ⟨11, 1⟩) (meth := k11m1) (c := k11c1) (by decide +kernel) rfl rfl rfl (by decide +kernel)
set_option maxRecDepth 65536 in
theorem w_c9 : (Jvm.Cond.code ({ cls := "java/lang/String", name := "checkIndex", desc := "(II)V" } : Jvm.MethodName) jdk_42_method_155_code (2 : Nat) (Option.none : Option Jvm.ClassFile.FieldType)).before args0 about1 = true := code_word (m := ⟨10, 5⟩) (meth := k10m5) (c := k10c5) (by decide +kernel) rfl rfl rfl (by decide +kernel)
set_option maxRecDepth 65536 in
theorem w_c10 : (Jvm.Cond.code ({ cls := "jdk/internal/util/Preconditions", name := "checkIndex", desc := "(IILjava/util/function/BiFunction;)I" } : Jvm.MethodName) jdk_41_method_11_code (3 : Nat) (Option.some Jvm.ClassFile.FieldType.int)).before args0 about1 = true := code_word (m := ⟨12, 1⟩) (meth := k12m1) (c := k12c1) (by decide +kernel) rfl rfl rfl (by decide +kernel)
def codes1 : List Jvm.Cond := [Jvm.Cond.code x code maxLocals ret, Jvm.Cond.code ({ cls := "com/example/bindkeeper/bindkeeper/model/CardinalityIsMultiplePinLaw", name := "pick", desc := "(I)Lcom/example/bindkeeper/bindkeeper/model/ReferenceDescription$Cardinality;" } : Jvm.MethodName) method_2_code (1 : Nat) (Option.some (Jvm.ClassFile.FieldType.object "com/example/bindkeeper/bindkeeper/model/ReferenceDescription$Cardinality")), Jvm.Cond.code ({ cls := "com/example/bindkeeper/bindkeeper/model/ReferenceDescription$Cardinality", name := "isMultiple", desc := "()Z" } : Jvm.MethodName) prog_16_method_6_code (1 : Nat) (Option.some Jvm.ClassFile.FieldType.boolean), Jvm.Cond.code ({ cls := "com/example/bindkeeper/bindkeeper/model/ReferenceDescription$Cardinality", name := "keyword", desc := "()Ljava/lang/String;" } : Jvm.MethodName) prog_16_method_4_code (1 : Nat) (Option.some (Jvm.ClassFile.FieldType.object "java/lang/String")), Jvm.Cond.code ({ cls := "java/lang/String", name := "length", desc := "()I" } : Jvm.MethodName) jdk_42_method_54_code (1 : Nat) (Option.some Jvm.ClassFile.FieldType.int), Jvm.Cond.code ({ cls := "java/lang/String", name := "coder", desc := "()B" } : Jvm.MethodName) jdk_42_method_152_code (1 : Nat) (Option.some Jvm.ClassFile.FieldType.byte), Jvm.Cond.code ({ cls := "java/lang/String", name := "charAt", desc := "(I)C" } : Jvm.MethodName) jdk_42_method_56_code (2 : Nat) (Option.some Jvm.ClassFile.FieldType.char), Jvm.Cond.code ({ cls := "java/lang/String", name := "isLatin1", desc := "()Z" } : Jvm.MethodName) jdk_42_method_154_code (1 : Nat) (Option.some Jvm.ClassFile.FieldType.boolean), Jvm.Cond.code ({ cls := "java/lang/StringLatin1", name := "charAt", desc := "([BI)C" } : Jvm.MethodName) jdk_43_method_2_code (2 : Nat) (Option.some Jvm.ClassFile.FieldType.char), Jvm.Cond.code ({ cls := "java/lang/String", name := "checkIndex", desc := "(II)V" } : Jvm.MethodName) jdk_42_method_155_code (2 : Nat) (Option.none : Option Jvm.ClassFile.FieldType), Jvm.Cond.code ({ cls := "jdk/internal/util/Preconditions", name := "checkIndex", desc := "(IILjava/util/function/BiFunction;)I" } : Jvm.MethodName) jdk_41_method_11_code (3 : Nat) (Option.some Jvm.ClassFile.FieldType.int)]
set_option maxRecDepth 65536 in
theorem codes_eq : words1.filter isCode = codes1 := rfl
theorem w_codes : ∀ c ∈ words1.filter isCode, c.before args0 about1 = true := by
  rw [codes_eq]
  intro c hc
  simp only [codes1, List.mem_cons, List.not_mem_nil, or_false] at hc
  rcases hc with rfl | rfl | rfl | rfl | rfl | rfl | rfl | rfl | rfl | rfl | rfl
  · exact w_c0
  · exact w_c1
  · exact w_c2
  · exact w_c3
  · exact w_c4
  · exact w_c5
  · exact w_c6
  · exact w_c7
  · exact w_c8
  · exact w_c9
  · exact w_c10
set_option maxRecDepth 65536 in
theorem w_t1 : (words1.take 24).all (fun c => isCode c || c.before args0 about1) = true := by decide +kernel
set_option maxRecDepth 65536 in
theorem w_t2 : ((words1.drop 24).take 24).all (fun c => isCode c || c.before args0 about1) = true := by decide +kernel
set_option maxRecDepth 65536 in
theorem w_t3 : ((words1.drop 24).drop 24).all (fun c => isCode c || c.before args0 about1) = true := by decide +kernel
theorem w_tables : (allAtoms (Jvm.Cond.code x code maxLocals ret :: tables_1)).before args0 about1 = true := by
  rw [allAtoms_all]
  show words1.all (fun c => c.before args0 about1) = true
  refine all_split ?_ w_codes
  rw [← List.take_append_drop 24 words1, List.all_append, w_t1, ← List.take_append_drop 24 (words1.drop 24), List.all_append, w_t2, w_t3]
  rfl
set_option maxRecDepth 65536 in
theorem w_rest : rest_1_c.before args0 about1 = true := by decide +kernel
set_option maxRecDepth 65536 in
theorem w_case : (Jvm.Cond.and given_1 narrow_1).before args0 about1 = true := by decide +kernel
theorem w_applies : (headSpec (Jvm.Cond.code x code maxLocals ret :: tables_1) room_1).applies x e0.platform about1 = true :=
  (Spec.applies_iff w_frames).mpr ⟨w_running, w_runnable, w_alone, w_named, w_hears, w_ripe, w_room, w_tables⟩
theorem atStart : AtStart classFile x code maxLocals ret World_1 tables_1 room_1 Calls_1 rest_1 Pre_1 launch0 p0 e0 about1 theMethod args0 below0 :=
  ⟨lists_1, trivial, launch0.admits_env _ _ _, launch0.least_env, fairChoices_fair.cas, fairChoices_fair.clock, w_frames, w_args, w_heap, w_applies, trivial, w_rest, w_case⟩
end start1
theorem witness_1 : WitnessClaimed_1 := ⟨start1.p0, start1.e0, start1.about1, start1.theMethod, start1.args0, start1.below0, start1.atStart⟩
end Jvm.Pilot.@@N@@
