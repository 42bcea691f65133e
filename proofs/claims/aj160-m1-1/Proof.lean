import JvmDerived
import JvmDerived.Pilot.@@N@@Statement
import JvmDerived.Pilot.@@N@@Code
set_option linter.unusedVariables false
set_option linter.unusedSimpArgs false
namespace Jvm.Own
open Jvm Jvm.ClassFile Sem Op Lib Jvm.Free Jvm.Stand Jvm.LawKit Jvm.RoadKit
/-- where the run stands: nothing older than n0 is written, the heap is h -/
def Sd (p : Program) (l : Launch) (e : Env) (R : Room) (s : State) (m : MethodId) (args : Array Value) (below : List Frame) (meth : Method) (c : Code) (n0 : Nat) (T : State) (h : Heap) (cells slots : Nat) : Prop :=
  ∃ locs, Stand p l e R s m args below meth c T locs cells slots ∧ Fr n0 locs ∧ T.heap = h
/-- what a walk knows throughout -/
def Wk (p : Program) (l : Launch) (e : Env) (R : Room) (s : State) (m : MethodId) (args : Array Value) (below : List Frame) (meth : Method) (c : Code) (n0 : Nat) (Z : State) (own nm : String) (bc : ByteArray) (ml : Nat) (rt : Option FieldType) (Q : Option Value → Heap → Prop) (G : State → Prop) : Prop :=
  (∀ S S' : State, (∀ t, Steps p.tables e below S' t → Steps p.tables e below S t) → G S' → G S) ∧
  p.tables.exec = Jvm.exec ∧ c.code = bc ∧ c.maxLocals = ml ∧ Z.Warmed39 s.vm ∧ s.vm.findClass own = some m.cls ∧ meth.sig.returnType = rt ∧ meth.name = nm ∧
  (∀ (T : State) (h : Heap) (cells slots : Nat) (v : Option Value), Sd p l e R s m args below meth c n0 T h cells slots → cells ≤ R.cells → slots ≤ R.slots → (meth.sig.returnType = none → v = none) → Q v h →
    ∀ S : State, (∀ fs : List Frame, (∀ (f : JFrame) (acts : List Action), f.method = m → f.locked = none → f.entered = [] → (doReturn e (T.setTop f) acts v).1 = T.setFrames fs) → Steps p.tables e below S (T.setFrames fs)) → G S)
/-- a body's contract -/
abbrev Met (l : Launch) (Z : State) (x : MethodName) (bc : ByteArray) (ml : Nat) (rt : Option FieldType) (ws : List Jvm.Cond) (rm : Room) (av : Array Value) (h : Heap) (n0 : Nat) (Q : Option Value → Heap → Prop) : Prop :=
  MetFree l x (head1 (Jvm.Cond.code x bc ml rt :: ws) rm) (fun a U => a = av ∧ Z.Warmed39 U.vm ∧ U.heap = h) (fun _ _ _ _ _ => True) (fun _ U o U' => ∃ v L, o = .returned v ∧ (Q v U'.heap ∧ Fr n0 L) ∧ FrameEnd U o U' L rm.cells rm.slots)
def RI (P : Int32 → Heap → Prop) (v : Option Value) (h : Heap) : Prop := ∃ r, v = some (.int r) ∧ P r h
def RJ (P : Int64 → Heap → Prop) (v : Option Value) (h : Heap) : Prop := ∃ r, v = some (.long r) ∧ P r h
def RR (P : Value → Heap → Prop) (v : Option Value) (h : Heap) : Prop := ∃ r, v = some r ∧ P r h
def RV (P : Heap → Prop) (v : Option Value) (h : Heap) : Prop := v = none ∧ P h
section Law
variable {p : Program} {l : Launch} {e : Env} {R : Room} {s : State} {m : MethodId} {args : Array Value} {below : List Frame} {meth : Method} {c : Code} {n0 : Nat} {T : State} {h : Heap} {cells slots : Nat} {Z : State} {a0 : Array Value} {own nm : String} {bc : ByteArray} {ml : Nat} {rt : Option FieldType} {Q : Option Value → Heap → Prop} {G : State → Prop}
variable {pc : Nat} {ls : Array Slot} {st : List Value}
theorem nf_same {s : State} {a : Array Value} {C : String} {y y' : MethodName} (hs : (Cond.selects C y' y').before a s = true) (hi : (Cond.instanceMethod y').before a s = true) (hc : y'.cls = y.cls) : NotFace s y := fun r0 h0 => by
  obtain ⟨mk, methM, hn, -⟩ := Cond.instanceMethod_spec hi
  have h1 := findClass_of_methodNamed h0
  have h2 := findClass_of_methodNamed hn
  rw [hc] at h2
  have e : r0.cls = mk.cls := Option.some.inj (h1.symm.trans h2)
  rw [e]
  exact notFace_of_selects hs mk hn
theorem privB {p : Program} {l : Launch} {e : Env} {R : Room} {s : State} {m : MethodId} {args : Array Value} {below : List Frame} {meth : Method} {c : Code} {T : State} {locs : List Loc} {cells slots : Nat} (X : Stand p l e R s m args below meth c T locs cells slots) (hexec : p.tables.exec = Jvm.exec) {own : String} {index : Nat} {y : MethodName} {bytes : ByteArray} {maxL : Nat} {ret : Option FieldType}
    (hown : s.vm.findClass own = some m.cls) (hlink : (Cond.methodLink own index y).before args s = true) (hinst : (Cond.instanceMethod y).before args s = true) (hnf : NotFace s y)
    (hpriv : s.PrivateAt y) (hcode : (Cond.code y bytes maxL ret).before args s = true) (hy : y.cls ≠ "java/lang/invoke/MethodHandle" ∧ y.cls ≠ "java/lang/invoke/VarHandle")
    {W : Nat} {Pre : Free.Pt → Array Value → Prop} {Post : Free.Pt → Array Value → Option Value → Free.Pt → Prop} (hK : Free.Back l R p e below s args y 3 W Pre Post)
    {g : JFrame} (hg : g.method = m) (hsize : g.locals.size = c.maxLocals) {s₀ : State} (hcome : Steps p.tables e below s₀ (T.setTop g)) {a : Addr} {cell : Cell} (hcell : T.heap[a]? = some cell) (hobj : ∀ q, cell.vm ≠ .statics q)
    {argsL rest : List Value} (hlen : ∀ sig, parseMethodDescriptor y.desc = some sig → argsL.length = sig.parameters.length)
    (hstack : g.stack = argsL.reverse ++ .ref a :: rest) (hW : 2 * g.monitorRoom + (rest.map fun v => v.category).sum ≤ W) (hdg : decode c.code g.pc = .ok (.invokevirtual index, 3))
    (hpre : ∀ vm₁, s.WarmedH vm₁ → Pre ⟨T.setVm vm₁, locs, cells, slots⟩ (.ref a :: argsL).toArray) :
    ∃ (v : Option Value) (vm₁ : Vm) (B : Free.Pt), s.WarmedH vm₁ ∧ Stand p l e R s m args below meth c B.U B.locs B.cells B.slots ∧ Post ⟨T.setVm vm₁, locs, cells, slots⟩ (.ref a :: argsL).toArray v B ∧
      Steps p.tables e below s₀ (B.U.setTop { g with pc := g.pc + 3, stack := v.toList ++ rest }) := by
  obtain ⟨mk, methM, hnamed, hmethM, hstM, habM⟩ := Cond.instanceMethod_spec hinst
  obtain ⟨methM', cM, hmethM', -, -, -, -, -, -, hsigM⟩ := Cond.code_spec hnamed hcode
  cases hmethM.symm.trans hmethM'
  obtain ⟨kP, hkP, hkPi⟩ := hnf mk hnamed
  have hselP : selectMethod e.platform s.vm cell.cls mk = .method mk := selectMethod_private hmethM (hpriv mk methM hnamed hmethM)
  obtain ⟨vm₁, X₁, hstep₁⟩ := X.invokevirtual hexec hown hlink hnamed hmethM hstM hkP hkPi hy (a := a) (cell := cell) hcell hobj hselP hmethM habM hkP hkPi (g := g) hg (argsL := argsL) (rest := rest) (hlen _ hsigM) hstack hdg
  obtain ⟨v, B, X', hpost, hsteps⟩ := hK m meth c ⟨T.setVm vm₁, locs, cells, slots⟩ { g with stack := rest } (.invokevirtual index) mk (.ref a :: argsL).toArray X₁ hg hsize hdg hW (X₁.named hnamed) (hpre vm₁ X₁.warmed)
  exact ⟨v, vm₁, B, X₁.warmed, X', hpost, (hcome.trans (hstep₁ _ fun acts => by rw [doInvoke_state]; exact Steps.refl _)).trans hsteps⟩
theorem start {x : MethodName} {ws : List Jvm.Cond} {rm : Room} {av : Array Value} (hpl : plainFor x = true) (hef : ∀ m, entryFrame m av ml = mkF m 0 ls [])
    (body : ∀ (p : Program) (e : Env) (s : State) (m : MethodId) (below : List Frame) (meth : Method) (c : Code) (T : State) (G : State → Prop), Wk p l e rm s m av below meth c n0 Z x.cls x.name bc ml rt Q G → Sd p l e rm s m av below meth c n0 T h 0 0 → G (T.setTop (mkF m 0 ls []))) :
    Met l Z x bc ml rt ws rm av h n0 Q := by
  refine MetFree.of_bodySF hpl hisR ?_
  intro p e s m args below meth c s₁ Bd hml0 hP hK
  obtain ⟨rfl, hZ, hh⟩ := hP
  have X0 : Stand p l e rm s m args below meth c s₁ [] 0 0 := Stand.of_body Bd
  have e0 : s₁.heap = h := by rw [← hh, Bd.state]; rfl
  rw [hef m]
  refine body p e s m below meth c s₁ (fun S => ∃ s₂ o, Steps p.tables e below S s₂ ∧ s₂.status = .running ∧ Ended s₂ below o ∧ ∃ v L, o = .returned v ∧ (Q v s₂.heap ∧ Fr n0 L) ∧ FrameEnd s o s₂ L rm.cells rm.slots)
    ⟨fun S S' hs hg => ?_, Bd.exec, Bd.bytes, hml0, hZ, findClass_of_methodNamed Bd.named, Bd.returns, (name_of_methodNamed Bd.named Bd.method).1, ?_⟩ ⟨[], X0, Fr.nil n0, e0⟩
  · obtain ⟨s2, o, h1, h2⟩ := hg
    exact ⟨s2, o, hs _ h1, h2⟩
  · intro T h cells slots v ⟨locs, X, N, eT⟩ hc hl hv hQ S hS
    obtain ⟨fs, hr, hrun, hended, hW, hsame⟩ := X.leave (v := v) hv Bd.notSynchronized
    subst eT
    exact ⟨_, _, hS fs hr, hrun, hended, v, locs, rfl, ⟨hQ, N⟩, ⟨_, rfl⟩, hW, hsame.mono hc hl⟩
theorem Sd.mono {cells' slots' : Nat} (X : Sd p l e R s m args below meth c n0 T h cells slots) (hc : cells ≤ cells') (hl : slots ≤ slots') : Sd p l e R s m args below meth c n0 T h cells' slots' := by
  obtain ⟨locs, X, N, eT⟩ := X
  exact ⟨locs, { X with same := X.same.mono hc hl }, N, eT⟩

theorem aloadN (w : Wk p l e R s m args below meth c n0 Z own nm bc ml rt Q G) (X : Sd p l e R s m args below meth c n0 T h cells slots) {k : Fin 4} {v : Value} (hd : decode bc pc = .ok (.aload_n k, 1)) (pc' : Nat) (hp : pc + 1 = pc') (hl : ls[k.val]? = some (.val v)) (hv : v.isRef = true) (k : G (T.setTop (mkF m pc' ls (v :: st)))) : G (T.setTop (mkF m pc ls st)) := by
  obtain ⟨locs, Y, -, -⟩ := X
  subst hp
  exact w.1 _ _ (fun t q => XS.aloadN Y.here w.2.1 rfl (hb w.2.2.1 hd) hl hv q) k
theorem aload (w : Wk p l e R s m args below meth c n0 Z own nm bc ml rt Q G) (X : Sd p l e R s m args below meth c n0 T h cells slots) {k : Nat} {v : Value} (hd : decode bc pc = .ok (.aload k, 2)) (pc' : Nat) (hp : pc + 2 = pc') (hl : ls[k]? = some (.val v)) (hv : v.isRef = true) (k : G (T.setTop (mkF m pc' ls (v :: st)))) : G (T.setTop (mkF m pc ls st)) := by
  obtain ⟨locs, Y, -, -⟩ := X
  subst hp
  exact w.1 _ _ (fun t q => XS.aload Y.here w.2.1 rfl (hb w.2.2.1 hd) hl hv q) k
theorem iloadN (w : Wk p l e R s m args below meth c n0 Z own nm bc ml rt Q G) (X : Sd p l e R s m args below meth c n0 T h cells slots) {k : Fin 4} {v : Int32} (hd : decode bc pc = .ok (.iload_n k, 1)) (pc' : Nat) (hp : pc + 1 = pc') (hl : ls[k.val]? = some (.val (.int v))) (k : G (T.setTop (mkF m pc' ls (.int v :: st)))) : G (T.setTop (mkF m pc ls st)) := by
  obtain ⟨locs, Y, -, -⟩ := X
  subst hp
  exact w.1 _ _ (fun t q => XS.iloadN Y.here w.2.1 rfl (hb w.2.2.1 hd) hl q) k
theorem iload (w : Wk p l e R s m args below meth c n0 Z own nm bc ml rt Q G) (X : Sd p l e R s m args below meth c n0 T h cells slots) {k : Nat} {v : Int32} (hd : decode bc pc = .ok (.iload k, 2)) (pc' : Nat) (hp : pc + 2 = pc') (hl : ls[k]? = some (.val (.int v))) (k : G (T.setTop (mkF m pc' ls (.int v :: st)))) : G (T.setTop (mkF m pc ls st)) := by
  obtain ⟨locs, Y, -, -⟩ := X
  subst hp
  exact w.1 _ _ (fun t q => XS.iload Y.here w.2.1 rfl (hb w.2.2.1 hd) hl q) k
theorem lloadN (w : Wk p l e R s m args below meth c n0 Z own nm bc ml rt Q G) (X : Sd p l e R s m args below meth c n0 T h cells slots) {k : Fin 4} {v : Int64} (hd : decode bc pc = .ok (.lload_n k, 1)) (pc' : Nat) (hp : pc + 1 = pc') (hl : ls[k.val]? = some (.val (.long v))) (k : G (T.setTop (mkF m pc' ls (.long v :: st)))) : G (T.setTop (mkF m pc ls st)) := by
  obtain ⟨locs, Y, -, -⟩ := X
  subst hp
  exact w.1 _ _ (fun t q => XT.lloadN Y.here w.2.1 rfl (hb w.2.2.1 hd) hl q) k
theorem lload (w : Wk p l e R s m args below meth c n0 Z own nm bc ml rt Q G) (X : Sd p l e R s m args below meth c n0 T h cells slots) {k : Nat} {v : Int64} (hd : decode bc pc = .ok (.lload k, 2)) (pc' : Nat) (hp : pc + 2 = pc') (hl : ls[k]? = some (.val (.long v))) (k : G (T.setTop (mkF m pc' ls (.long v :: st)))) : G (T.setTop (mkF m pc ls st)) := by
  obtain ⟨locs, Y, -, -⟩ := X
  subst hp
  exact w.1 _ _ (fun t q => XT.lload Y.here w.2.1 rfl (hb w.2.2.1 hd) hl q) k
theorem istoreN (w : Wk p l e R s m args below meth c n0 Z own nm bc ml rt Q G) (X : Sd p l e R s m args below meth c n0 T h cells slots) {k : Fin 4} {x : Int32} (z : Int32) (hd : decode bc pc = .ok (.istore_n k, 1)) (pc' : Nat) (hp : pc + 1 = pc') (hz : z = x) (l' : Array Slot) (hl : storeLocals ls k.val (.int z) = some l') (k : G (T.setTop (mkF m pc' l' st))) : G (T.setTop (mkF m pc ls (.int x :: st))) := by
  obtain ⟨locs, Y, -, -⟩ := X
  subst hp
  subst hz
  exact w.1 _ _ (fun t q => XS.istoreN Y.here w.2.1 rfl (hb w.2.2.1 hd) rfl hl q) k
theorem istore (w : Wk p l e R s m args below meth c n0 Z own nm bc ml rt Q G) (X : Sd p l e R s m args below meth c n0 T h cells slots) {k : Nat} {x : Int32} (z : Int32) (hd : decode bc pc = .ok (.istore k, 2)) (pc' : Nat) (hp : pc + 2 = pc') (hz : z = x) (l' : Array Slot) (hl : storeLocals ls k (.int z) = some l') (k : G (T.setTop (mkF m pc' l' st))) : G (T.setTop (mkF m pc ls (.int x :: st))) := by
  obtain ⟨locs, Y, -, -⟩ := X
  subst hp
  subst hz
  exact w.1 _ _ (fun t q => XS.istore Y.here w.2.1 rfl (hb w.2.2.1 hd) rfl hl q) k
theorem lstoreN (w : Wk p l e R s m args below meth c n0 Z own nm bc ml rt Q G) (X : Sd p l e R s m args below meth c n0 T h cells slots) {k : Fin 4} {x : Int64} (z : Int64) (hd : decode bc pc = .ok (.lstore_n k, 1)) (pc' : Nat) (hp : pc + 1 = pc') (hz : z = x) (l' : Array Slot) (hl : storeLocals ls k.val (.long z) = some l') (k : G (T.setTop (mkF m pc' l' st))) : G (T.setTop (mkF m pc ls (.long x :: st))) := by
  obtain ⟨locs, Y, -, -⟩ := X
  subst hp
  subst hz
  exact w.1 _ _ (fun t q => XT.lstoreN Y.here w.2.1 rfl (hb w.2.2.1 hd) rfl hl q) k
theorem lstore (w : Wk p l e R s m args below meth c n0 Z own nm bc ml rt Q G) (X : Sd p l e R s m args below meth c n0 T h cells slots) {k : Nat} {x : Int64} (z : Int64) (hd : decode bc pc = .ok (.lstore k, 2)) (pc' : Nat) (hp : pc + 2 = pc') (hz : z = x) (l' : Array Slot) (hl : storeLocals ls k (.long z) = some l') (k : G (T.setTop (mkF m pc' l' st))) : G (T.setTop (mkF m pc ls (.long x :: st))) := by
  obtain ⟨locs, Y, -, -⟩ := X
  subst hp
  subst hz
  exact w.1 _ _ (fun t q => XT.lstore Y.here w.2.1 rfl (hb w.2.2.1 hd) rfl hl q) k
theorem astoreN (w : Wk p l e R s m args below meth c n0 Z own nm bc ml rt Q G) (X : Sd p l e R s m args below meth c n0 T h cells slots) {k : Fin 4} {x : Value} (hd : decode bc pc = .ok (.astore_n k, 1)) (pc' : Nat) (hp : pc + 1 = pc') (hv : x.isRef = true) (l' : Array Slot) (hl : storeLocals ls k.val x = some l') (k : G (T.setTop (mkF m pc' l' st))) : G (T.setTop (mkF m pc ls (x :: st))) := by
  obtain ⟨locs, Y, -, -⟩ := X
  subst hp
  exact w.1 _ _ (fun t q => XS.astoreN Y.here w.2.1 rfl (hb w.2.2.1 hd) rfl hv hl q) k
theorem astore (w : Wk p l e R s m args below meth c n0 Z own nm bc ml rt Q G) (X : Sd p l e R s m args below meth c n0 T h cells slots) {k : Nat} {x : Value} (hd : decode bc pc = .ok (.astore k, 2)) (pc' : Nat) (hp : pc + 2 = pc') (hv : x.isRef = true) (l' : Array Slot) (hl : storeLocals ls k x = some l') (k : G (T.setTop (mkF m pc' l' st))) : G (T.setTop (mkF m pc ls (x :: st))) := by
  obtain ⟨locs, Y, -, -⟩ := X
  subst hp
  exact w.1 _ _ (fun t q => XS.astore Y.here w.2.1 rfl (hb w.2.2.1 hd) rfl hv hl q) k
theorem iconst (w : Wk p l e R s m args below meth c n0 Z own nm bc ml rt Q G) (X : Sd p l e R s m args below meth c n0 T h cells slots) {i : Int} (v : Int32) (hd : decode bc pc = .ok (.iconst i, 1)) (pc' : Nat) (hp : pc + 1 = pc') (hv : Int32.ofInt i = v) (k : G (T.setTop (mkF m pc' ls (.int v :: st)))) : G (T.setTop (mkF m pc ls st)) := by
  obtain ⟨locs, Y, -, -⟩ := X
  subst hp
  subst hv
  exact w.1 _ _ (fun t q => XS.iconst Y.here w.2.1 rfl (hb w.2.2.1 hd) q) k
theorem bipush (w : Wk p l e R s m args below meth c n0 Z own nm bc ml rt Q G) (X : Sd p l e R s m args below meth c n0 T h cells slots) {i : Int} (v : Int32) (hd : decode bc pc = .ok (.bipush i, 2)) (pc' : Nat) (hp : pc + 2 = pc') (hv : (Int8.ofInt i).toInt32 = v) (k : G (T.setTop (mkF m pc' ls (.int v :: st)))) : G (T.setTop (mkF m pc ls st)) := by
  obtain ⟨locs, Y, -, -⟩ := X
  subst hp
  subst hv
  exact w.1 _ _ (fun t q => XS.bipush Y.here w.2.1 rfl (hb w.2.2.1 hd) q) k
theorem sipush (w : Wk p l e R s m args below meth c n0 Z own nm bc ml rt Q G) (X : Sd p l e R s m args below meth c n0 T h cells slots) {i : Int} (v : Int32) (hd : decode bc pc = .ok (.sipush i, 3)) (pc' : Nat) (hp : pc + 3 = pc') (hv : (Int16.ofInt i).toInt32 = v) (k : G (T.setTop (mkF m pc' ls (.int v :: st)))) : G (T.setTop (mkF m pc ls st)) := by
  obtain ⟨locs, Y, -, -⟩ := X
  subst hp
  subst hv
  exact w.1 _ _ (fun t q => XS.sipush Y.here w.2.1 rfl (hb w.2.2.1 hd) q) k
theorem lconst (w : Wk p l e R s m args below meth c n0 Z own nm bc ml rt Q G) (X : Sd p l e R s m args below meth c n0 T h cells slots) {i : Fin 2} (v : Int64) (hd : decode bc pc = .ok (.lconst i, 1)) (pc' : Nat) (hp : pc + 1 = pc') (hv : Int64.ofNat i = v) (k : G (T.setTop (mkF m pc' ls (.long v :: st)))) : G (T.setTop (mkF m pc ls st)) := by
  obtain ⟨locs, Y, -, -⟩ := X
  subst hp
  subst hv
  exact w.1 _ _ (fun t q => XS.lconst Y.here w.2.1 rfl (hb w.2.2.1 hd) q) k
theorem aconstNull (w : Wk p l e R s m args below meth c n0 Z own nm bc ml rt Q G) (X : Sd p l e R s m args below meth c n0 T h cells slots)  (hd : decode bc pc = .ok (.aconst_null, 1)) (pc' : Nat) (hp : pc + 1 = pc')  (k : G (T.setTop (mkF m pc' ls (.null :: st)))) : G (T.setTop (mkF m pc ls st)) := by
  obtain ⟨locs, Y, -, -⟩ := X
  subst hp
  exact w.1 _ _ (fun t q => XS.aconstNull Y.here w.2.1 rfl (hb w.2.2.1 hd) q) k
theorem iadd (w : Wk p l e R s m args below meth c n0 Z own nm bc ml rt Q G) (X : Sd p l e R s m args below meth c n0 T h cells slots) {x y : Int32} (z : Int32) (hd : decode bc pc = .ok (.iadd, 1)) (pc' : Nat) (hp : pc + 1 = pc') (hz : z = x + y) (k : G (T.setTop (mkF m pc' ls (.int z :: st)))) : G (T.setTop (mkF m pc ls (.int y :: .int x :: st))) := by
  obtain ⟨locs, Y, -, -⟩ := X
  subst hp
  subst hz
  exact w.1 _ _ (fun t q => XS.iadd Y.here w.2.1 rfl (hb w.2.2.1 hd) rfl q) k
theorem isub (w : Wk p l e R s m args below meth c n0 Z own nm bc ml rt Q G) (X : Sd p l e R s m args below meth c n0 T h cells slots) {x y : Int32} (z : Int32) (hd : decode bc pc = .ok (.isub, 1)) (pc' : Nat) (hp : pc + 1 = pc') (hz : z = x - y) (k : G (T.setTop (mkF m pc' ls (.int z :: st)))) : G (T.setTop (mkF m pc ls (.int y :: .int x :: st))) := by
  obtain ⟨locs, Y, -, -⟩ := X
  subst hp
  subst hz
  exact w.1 _ _ (fun t q => XS.isub Y.here w.2.1 rfl (hb w.2.2.1 hd) rfl q) k
theorem imul (w : Wk p l e R s m args below meth c n0 Z own nm bc ml rt Q G) (X : Sd p l e R s m args below meth c n0 T h cells slots) {x y : Int32} (z : Int32) (hd : decode bc pc = .ok (.imul, 1)) (pc' : Nat) (hp : pc + 1 = pc') (hz : z = x * y) (k : G (T.setTop (mkF m pc' ls (.int z :: st)))) : G (T.setTop (mkF m pc ls (.int y :: .int x :: st))) := by
  obtain ⟨locs, Y, -, -⟩ := X
  subst hp
  subst hz
  exact w.1 _ _ (fun t q => XS.imul Y.here w.2.1 rfl (hb w.2.2.1 hd) rfl q) k
theorem iand (w : Wk p l e R s m args below meth c n0 Z own nm bc ml rt Q G) (X : Sd p l e R s m args below meth c n0 T h cells slots) {x y : Int32} (z : Int32) (hd : decode bc pc = .ok (.iand, 1)) (pc' : Nat) (hp : pc + 1 = pc') (hz : z = x &&& y) (k : G (T.setTop (mkF m pc' ls (.int z :: st)))) : G (T.setTop (mkF m pc ls (.int y :: .int x :: st))) := by
  obtain ⟨locs, Y, -, -⟩ := X
  subst hp
  subst hz
  exact w.1 _ _ (fun t q => XS.iand Y.here w.2.1 rfl (hb w.2.2.1 hd) rfl q) k
theorem ior (w : Wk p l e R s m args below meth c n0 Z own nm bc ml rt Q G) (X : Sd p l e R s m args below meth c n0 T h cells slots) {x y : Int32} (z : Int32) (hd : decode bc pc = .ok (.ior, 1)) (pc' : Nat) (hp : pc + 1 = pc') (hz : z = x ||| y) (k : G (T.setTop (mkF m pc' ls (.int z :: st)))) : G (T.setTop (mkF m pc ls (.int y :: .int x :: st))) := by
  obtain ⟨locs, Y, -, -⟩ := X
  subst hp
  subst hz
  exact w.1 _ _ (fun t q => XS.ior Y.here w.2.1 rfl (hb w.2.2.1 hd) rfl q) k
theorem ixor (w : Wk p l e R s m args below meth c n0 Z own nm bc ml rt Q G) (X : Sd p l e R s m args below meth c n0 T h cells slots) {x y : Int32} (z : Int32) (hd : decode bc pc = .ok (.ixor, 1)) (pc' : Nat) (hp : pc + 1 = pc') (hz : z = x ^^^ y) (k : G (T.setTop (mkF m pc' ls (.int z :: st)))) : G (T.setTop (mkF m pc ls (.int y :: .int x :: st))) := by
  obtain ⟨locs, Y, -, -⟩ := X
  subst hp
  subst hz
  exact w.1 _ _ (fun t q => XS.ixor Y.here w.2.1 rfl (hb w.2.2.1 hd) rfl q) k
theorem ishl (w : Wk p l e R s m args below meth c n0 Z own nm bc ml rt Q G) (X : Sd p l e R s m args below meth c n0 T h cells slots) {x y : Int32} (z : Int32) (hd : decode bc pc = .ok (.ishl, 1)) (pc' : Nat) (hp : pc + 1 = pc') (hz : z = x <<< (y &&& 31)) (k : G (T.setTop (mkF m pc' ls (.int z :: st)))) : G (T.setTop (mkF m pc ls (.int y :: .int x :: st))) := by
  obtain ⟨locs, Y, -, -⟩ := X
  subst hp
  subst hz
  exact w.1 _ _ (fun t q => XS.ishl Y.here w.2.1 rfl (hb w.2.2.1 hd) rfl q) k
theorem ishr (w : Wk p l e R s m args below meth c n0 Z own nm bc ml rt Q G) (X : Sd p l e R s m args below meth c n0 T h cells slots) {x y : Int32} (z : Int32) (hd : decode bc pc = .ok (.ishr, 1)) (pc' : Nat) (hp : pc + 1 = pc') (hz : z = x >>> (y &&& 31)) (k : G (T.setTop (mkF m pc' ls (.int z :: st)))) : G (T.setTop (mkF m pc ls (.int y :: .int x :: st))) := by
  obtain ⟨locs, Y, -, -⟩ := X
  subst hp
  subst hz
  exact w.1 _ _ (fun t q => XS.ishr Y.here w.2.1 rfl (hb w.2.2.1 hd) rfl q) k
theorem iushr (w : Wk p l e R s m args below meth c n0 Z own nm bc ml rt Q G) (X : Sd p l e R s m args below meth c n0 T h cells slots) {x y : Int32} (z : Int32) (hd : decode bc pc = .ok (.iushr, 1)) (pc' : Nat) (hp : pc + 1 = pc') (hz : z = (x.toUInt32 >>> (y &&& 31).toUInt32).toInt32) (k : G (T.setTop (mkF m pc' ls (.int z :: st)))) : G (T.setTop (mkF m pc ls (.int y :: .int x :: st))) := by
  obtain ⟨locs, Y, -, -⟩ := X
  subst hp
  subst hz
  exact w.1 _ _ (fun t q => XS.iushr Y.here w.2.1 rfl (hb w.2.2.1 hd) rfl q) k
theorem irem (w : Wk p l e R s m args below meth c n0 Z own nm bc ml rt Q G) (X : Sd p l e R s m args below meth c n0 T h cells slots) {x y : Int32} (z : Int32) (hd : decode bc pc = .ok (.irem, 1)) (pc' : Nat) (hp : pc + 1 = pc') (hz : z = x % y) (hy : y ≠ 0) (k : G (T.setTop (mkF m pc' ls (.int z :: st)))) : G (T.setTop (mkF m pc ls (.int y :: .int x :: st))) := by
  obtain ⟨locs, Y, -, -⟩ := X
  subst hp
  subst hz
  exact w.1 _ _ (fun t q => Jvm.RoadKit.iremM Y w.2.1 rfl (hb w.2.2.1 hd) rfl hy q) k
theorem idiv (w : Wk p l e R s m args below meth c n0 Z own nm bc ml rt Q G) (X : Sd p l e R s m args below meth c n0 T h cells slots) {x y : Int32} (z : Int32) (hd : decode bc pc = .ok (.idiv, 1)) (pc' : Nat) (hp : pc + 1 = pc') (hz : z = x / y) (hy : y ≠ 0) (k : G (T.setTop (mkF m pc' ls (.int z :: st)))) : G (T.setTop (mkF m pc ls (.int y :: .int x :: st))) := by
  obtain ⟨locs, Y, -, -⟩ := X
  subst hp
  subst hz
  exact w.1 _ _ (fun t q => XS.idiv Y.here w.2.1 rfl (hb w.2.2.1 hd) rfl hy q) k
theorem ineg (w : Wk p l e R s m args below meth c n0 Z own nm bc ml rt Q G) (X : Sd p l e R s m args below meth c n0 T h cells slots) {x : Int32} (z : Int32) (hd : decode bc pc = .ok (.ineg, 1)) (pc' : Nat) (hp : pc + 1 = pc') (hz : z = -x) (k : G (T.setTop (mkF m pc' ls (.int z :: st)))) : G (T.setTop (mkF m pc ls (.int x :: st))) := by
  obtain ⟨locs, Y, -, -⟩ := X
  subst hp
  subst hz
  exact w.1 _ _ (fun t q => XS.ineg Y.here w.2.1 rfl (hb w.2.2.1 hd) rfl q) k
theorem ladd (w : Wk p l e R s m args below meth c n0 Z own nm bc ml rt Q G) (X : Sd p l e R s m args below meth c n0 T h cells slots) {x y : Int64} (z : Int64) (hd : decode bc pc = .ok (.ladd, 1)) (pc' : Nat) (hp : pc + 1 = pc') (hz : z = x + y) (k : G (T.setTop (mkF m pc' ls (.long z :: st)))) : G (T.setTop (mkF m pc ls (.long y :: .long x :: st))) := by
  obtain ⟨locs, Y, -, -⟩ := X
  subst hp
  subst hz
  exact w.1 _ _ (fun t q => XS.ladd Y.here w.2.1 rfl (hb w.2.2.1 hd) rfl q) k
theorem lsub (w : Wk p l e R s m args below meth c n0 Z own nm bc ml rt Q G) (X : Sd p l e R s m args below meth c n0 T h cells slots) {x y : Int64} (z : Int64) (hd : decode bc pc = .ok (.lsub, 1)) (pc' : Nat) (hp : pc + 1 = pc') (hz : z = x - y) (k : G (T.setTop (mkF m pc' ls (.long z :: st)))) : G (T.setTop (mkF m pc ls (.long y :: .long x :: st))) := by
  obtain ⟨locs, Y, -, -⟩ := X
  subst hp
  subst hz
  exact w.1 _ _ (fun t q => XS.lsub Y.here w.2.1 rfl (hb w.2.2.1 hd) rfl q) k
theorem lmul (w : Wk p l e R s m args below meth c n0 Z own nm bc ml rt Q G) (X : Sd p l e R s m args below meth c n0 T h cells slots) {x y : Int64} (z : Int64) (hd : decode bc pc = .ok (.lmul, 1)) (pc' : Nat) (hp : pc + 1 = pc') (hz : z = x * y) (k : G (T.setTop (mkF m pc' ls (.long z :: st)))) : G (T.setTop (mkF m pc ls (.long y :: .long x :: st))) := by
  obtain ⟨locs, Y, -, -⟩ := X
  subst hp
  subst hz
  exact w.1 _ _ (fun t q => XS.lmul Y.here w.2.1 rfl (hb w.2.2.1 hd) rfl q) k
theorem land (w : Wk p l e R s m args below meth c n0 Z own nm bc ml rt Q G) (X : Sd p l e R s m args below meth c n0 T h cells slots) {x y : Int64} (z : Int64) (hd : decode bc pc = .ok (.land, 1)) (pc' : Nat) (hp : pc + 1 = pc') (hz : z = x &&& y) (k : G (T.setTop (mkF m pc' ls (.long z :: st)))) : G (T.setTop (mkF m pc ls (.long y :: .long x :: st))) := by
  obtain ⟨locs, Y, -, -⟩ := X
  subst hp
  subst hz
  exact w.1 _ _ (fun t q => XS.land Y.here w.2.1 rfl (hb w.2.2.1 hd) rfl q) k
theorem lor (w : Wk p l e R s m args below meth c n0 Z own nm bc ml rt Q G) (X : Sd p l e R s m args below meth c n0 T h cells slots) {x y : Int64} (z : Int64) (hd : decode bc pc = .ok (.lor, 1)) (pc' : Nat) (hp : pc + 1 = pc') (hz : z = x ||| y) (k : G (T.setTop (mkF m pc' ls (.long z :: st)))) : G (T.setTop (mkF m pc ls (.long y :: .long x :: st))) := by
  obtain ⟨locs, Y, -, -⟩ := X
  subst hp
  subst hz
  exact w.1 _ _ (fun t q => XS.lor Y.here w.2.1 rfl (hb w.2.2.1 hd) rfl q) k
theorem lxor (w : Wk p l e R s m args below meth c n0 Z own nm bc ml rt Q G) (X : Sd p l e R s m args below meth c n0 T h cells slots) {x y : Int64} (z : Int64) (hd : decode bc pc = .ok (.lxor, 1)) (pc' : Nat) (hp : pc + 1 = pc') (hz : z = x ^^^ y) (k : G (T.setTop (mkF m pc' ls (.long z :: st)))) : G (T.setTop (mkF m pc ls (.long y :: .long x :: st))) := by
  obtain ⟨locs, Y, -, -⟩ := X
  subst hp
  subst hz
  exact w.1 _ _ (fun t q => XS.lxor Y.here w.2.1 rfl (hb w.2.2.1 hd) rfl q) k
theorem lshl (w : Wk p l e R s m args below meth c n0 Z own nm bc ml rt Q G) (X : Sd p l e R s m args below meth c n0 T h cells slots) {x : Int64} {y : Int32} (z : Int64) (hd : decode bc pc = .ok (.lshl, 1)) (pc' : Nat) (hp : pc + 1 = pc') (hz : z = x <<< (y &&& 0x3f).toInt64) (k : G (T.setTop (mkF m pc' ls (.long z :: st)))) : G (T.setTop (mkF m pc ls (.int y :: .long x :: st))) := by
  obtain ⟨locs, Y, -, -⟩ := X
  subst hp
  subst hz
  exact w.1 _ _ (fun t q => XS.lshl Y.here w.2.1 rfl (hb w.2.2.1 hd) rfl q) k
theorem lshr (w : Wk p l e R s m args below meth c n0 Z own nm bc ml rt Q G) (X : Sd p l e R s m args below meth c n0 T h cells slots) {x : Int64} {y : Int32} (z : Int64) (hd : decode bc pc = .ok (.lshr, 1)) (pc' : Nat) (hp : pc + 1 = pc') (hz : z = x >>> (y &&& 0x3f).toInt64) (k : G (T.setTop (mkF m pc' ls (.long z :: st)))) : G (T.setTop (mkF m pc ls (.int y :: .long x :: st))) := by
  obtain ⟨locs, Y, -, -⟩ := X
  subst hp
  subst hz
  exact w.1 _ _ (fun t q => XS.lshr Y.here w.2.1 rfl (hb w.2.2.1 hd) rfl q) k
theorem lushr (w : Wk p l e R s m args below meth c n0 Z own nm bc ml rt Q G) (X : Sd p l e R s m args below meth c n0 T h cells slots) {x : Int64} {y : Int32} (z : Int64) (hd : decode bc pc = .ok (.lushr, 1)) (pc' : Nat) (hp : pc + 1 = pc') (hz : z = (x.toUInt64 >>> (y &&& 0x3f).toInt64.toUInt64).toInt64) (k : G (T.setTop (mkF m pc' ls (.long z :: st)))) : G (T.setTop (mkF m pc ls (.int y :: .long x :: st))) := by
  obtain ⟨locs, Y, -, -⟩ := X
  subst hp
  subst hz
  exact w.1 _ _ (fun t q => XS.lushr Y.here w.2.1 rfl (hb w.2.2.1 hd) rfl q) k
theorem i2b (w : Wk p l e R s m args below meth c n0 Z own nm bc ml rt Q G) (X : Sd p l e R s m args below meth c n0 T h cells slots) {x : Int32} (z : Int32) (hd : decode bc pc = .ok (.i2b, 1)) (pc' : Nat) (hp : pc + 1 = pc') (hz : z = x.toInt8.toInt32) (k : G (T.setTop (mkF m pc' ls (.int z :: st)))) : G (T.setTop (mkF m pc ls (.int x :: st))) := by
  obtain ⟨locs, Y, -, -⟩ := X
  subst hp
  subst hz
  exact w.1 _ _ (fun t q => XS.i2b Y.here w.2.1 rfl (hb w.2.2.1 hd) rfl q) k
theorem i2c (w : Wk p l e R s m args below meth c n0 Z own nm bc ml rt Q G) (X : Sd p l e R s m args below meth c n0 T h cells slots) {x : Int32} (z : Int32) (hd : decode bc pc = .ok (.i2c, 1)) (pc' : Nat) (hp : pc + 1 = pc') (hz : z = x.toUInt32.toUInt16.toUInt32.toInt32) (k : G (T.setTop (mkF m pc' ls (.int z :: st)))) : G (T.setTop (mkF m pc ls (.int x :: st))) := by
  obtain ⟨locs, Y, -, -⟩ := X
  subst hp
  subst hz
  exact w.1 _ _ (fun t q => XS.i2c Y.here w.2.1 rfl (hb w.2.2.1 hd) rfl q) k
theorem i2s (w : Wk p l e R s m args below meth c n0 Z own nm bc ml rt Q G) (X : Sd p l e R s m args below meth c n0 T h cells slots) {x : Int32} (z : Int32) (hd : decode bc pc = .ok (.i2s, 1)) (pc' : Nat) (hp : pc + 1 = pc') (hz : z = x.toInt16.toInt32) (k : G (T.setTop (mkF m pc' ls (.int z :: st)))) : G (T.setTop (mkF m pc ls (.int x :: st))) := by
  obtain ⟨locs, Y, -, -⟩ := X
  subst hp
  subst hz
  exact w.1 _ _ (fun t q => XS.i2s Y.here w.2.1 rfl (hb w.2.2.1 hd) rfl q) k
theorem l2i (w : Wk p l e R s m args below meth c n0 Z own nm bc ml rt Q G) (X : Sd p l e R s m args below meth c n0 T h cells slots) {x : Int64} (z : Int32) (hd : decode bc pc = .ok (.l2i, 1)) (pc' : Nat) (hp : pc + 1 = pc') (hz : z = x.toInt32) (k : G (T.setTop (mkF m pc' ls (.int z :: st)))) : G (T.setTop (mkF m pc ls (.long x :: st))) := by
  obtain ⟨locs, Y, -, -⟩ := X
  subst hp
  subst hz
  exact w.1 _ _ (fun t q => XS.l2i Y.here w.2.1 rfl (hb w.2.2.1 hd) rfl q) k
theorem i2l (w : Wk p l e R s m args below meth c n0 Z own nm bc ml rt Q G) (X : Sd p l e R s m args below meth c n0 T h cells slots) {x : Int32} (z : Int64) (hd : decode bc pc = .ok (.i2l, 1)) (pc' : Nat) (hp : pc + 1 = pc') (hz : z = x.toInt64) (k : G (T.setTop (mkF m pc' ls (.long z :: st)))) : G (T.setTop (mkF m pc ls (.int x :: st))) := by
  obtain ⟨locs, Y, -, -⟩ := X
  subst hp
  subst hz
  exact w.1 _ _ (fun t q => XS.i2l Y.here w.2.1 rfl (hb w.2.2.1 hd) rfl q) k
theorem lcmp (w : Wk p l e R s m args below meth c n0 Z own nm bc ml rt Q G) (X : Sd p l e R s m args below meth c n0 T h cells slots) {x y : Int64} (z : Int32) (hd : decode bc pc = .ok (.lcmp, 1)) (pc' : Nat) (hp : pc + 1 = pc') (hz : z = lcmpW x y) (k : G (T.setTop (mkF m pc' ls (.int z :: st)))) : G (T.setTop (mkF m pc ls (.long y :: .long x :: st))) := by
  obtain ⟨locs, Y, -, -⟩ := X
  subst hp
  subst hz
  exact w.1 _ _ (fun t q => XS.lcmp Y.here w.2.1 rfl (hb w.2.2.1 hd) rfl q) k
theorem dup (w : Wk p l e R s m args below meth c n0 Z own nm bc ml rt Q G) (X : Sd p l e R s m args below meth c n0 T h cells slots) {x : Value} (hd : decode bc pc = .ok (.dup, 1)) (pc' : Nat) (hp : pc + 1 = pc') (hx : x.category = 1) (k : G (T.setTop (mkF m pc' ls (x :: x :: st)))) : G (T.setTop (mkF m pc ls (x :: st))) := by
  obtain ⟨locs, Y, -, -⟩ := X
  subst hp
  exact w.1 _ _ (fun t q => XS.dup Y.here w.2.1 rfl (hb w.2.2.1 hd) rfl hx q) k
theorem dupX1 (w : Wk p l e R s m args below meth c n0 Z own nm bc ml rt Q G) (X : Sd p l e R s m args below meth c n0 T h cells slots) {x y : Value} (hd : decode bc pc = .ok (.dup_x1, 1)) (pc' : Nat) (hp : pc + 1 = pc') (hx : x.category = 1) (hy : y.category = 1) (k : G (T.setTop (mkF m pc' ls (x :: y :: x :: st)))) : G (T.setTop (mkF m pc ls (x :: y :: st))) := by
  obtain ⟨locs, Y, -, -⟩ := X
  subst hp
  exact w.1 _ _ (fun t q => XS.dupX1 Y.here w.2.1 rfl (hb w.2.2.1 hd) rfl hx hy q) k
theorem dup2 (w : Wk p l e R s m args below meth c n0 Z own nm bc ml rt Q G) (X : Sd p l e R s m args below meth c n0 T h cells slots) {x y : Value} (hd : decode bc pc = .ok (.dup2, 1)) (pc' : Nat) (hp : pc + 1 = pc') (hx : x.category = 1) (hy : y.category = 1) (k : G (T.setTop (mkF m pc' ls (x :: y :: x :: y :: st)))) : G (T.setTop (mkF m pc ls (x :: y :: st))) := by
  obtain ⟨locs, Y, -, -⟩ := X
  subst hp
  exact w.1 _ _ (fun t q => XT.dup2 Y.here w.2.1 rfl (hb w.2.2.1 hd) rfl hx hy q) k
theorem popV (w : Wk p l e R s m args below meth c n0 Z own nm bc ml rt Q G) (X : Sd p l e R s m args below meth c n0 T h cells slots) {x : Value} (hd : decode bc pc = .ok (.pop, 1)) (pc' : Nat) (hp : pc + 1 = pc') (hx : x.category = 1) (k : G (T.setTop (mkF m pc' ls st))) : G (T.setTop (mkF m pc ls (x :: st))) := by
  obtain ⟨locs, Y, -, -⟩ := X
  subst hp
  exact w.1 _ _ (fun t q => XS.pop Y.here w.2.1 rfl (hb w.2.2.1 hd) rfl hx q) k
theorem iinc (w : Wk p l e R s m args below meth c n0 Z own nm bc ml rt Q G) (X : Sd p l e R s m args below meth c n0 T h cells slots) {k : Nat} {i : Int} {x : Int32} (z : Int32) (hd : decode bc pc = .ok (.iinc k i, 3)) (pc' : Nat) (hp : pc + 3 = pc') (hl : ls[k]? = some (.val (.int x))) (hz : z = x + Int32.ofInt i) (l' : Array Slot) (hl' : storeLocals ls k (.int z) = some l') (k : G (T.setTop (mkF m pc' l' st))) : G (T.setTop (mkF m pc ls st)) := by
  obtain ⟨locs, Y, -, -⟩ := X
  subst hp
  subst hz
  exact w.1 _ _ (fun t q => XS.iinc Y.here w.2.1 rfl (hb w.2.2.1 hd) hl hl' q) k
theorem goto (w : Wk p l e R s m args below meth c n0 Z own nm bc ml rt Q G) (X : Sd p l e R s m args below meth c n0 T h cells slots) {o : Int} (hd : decode bc pc = .ok (.goto o, 3)) (pc' : Nat) (ho : 0 ≤ (pc : Int) + o) (hp : ((pc : Int) + o).toNat = pc') (k : G (T.setTop (mkF m pc' ls st))) : G (T.setTop (mkF m pc ls st)) := by
  obtain ⟨locs, Y, -, -⟩ := X
  exact w.1 _ _ (fun t q => XS.goto Y.here w.2.1 rfl (pc0 := pc) (pc' := pc') rfl (hb w.2.2.1 hd) ho hp q) k
theorem ldcI (w : Wk p l e R s m args below meth c n0 Z own nm bc ml rt Q G) (X : Sd p l e R s m args below meth c n0 T h cells slots) {i : Nat} {v : Int32} (wc : (Cond.constant own i v).before a0 Z = true) (hd : decode bc pc = .ok (.ldc i, 2)) (pc' : Nat) (hp : pc + 2 = pc') (k : G (T.setTop (mkF m pc' ls (.int v :: st)))) : G (T.setTop (mkF m pc ls st)) := by
  obtain ⟨locs, Y, -, -⟩ := X
  subst hp
  exact w.1 _ _ (Y.ldcInt w.2.1 w.2.2.2.2.2.1 (mvT w.2.2.2.2.1 wc) (g := mkF m pc ls st) rfl (hb w.2.2.1 hd)) k
theorem ldcwI (w : Wk p l e R s m args below meth c n0 Z own nm bc ml rt Q G) (X : Sd p l e R s m args below meth c n0 T h cells slots) {i : Nat} {v : Int32} (wc : (Cond.constant own i v).before a0 Z = true) (hd : decode bc pc = .ok (.ldc_w i, 3)) (pc' : Nat) (hp : pc + 3 = pc') (k : G (T.setTop (mkF m pc' ls (.int v :: st)))) : G (T.setTop (mkF m pc ls st)) := by
  obtain ⟨locs, Y, -, -⟩ := X
  subst hp
  exact w.1 _ _ (Y.ldcwInt w.2.1 w.2.2.2.2.2.1 (mvT w.2.2.2.2.1 wc) (g := mkF m pc ls st) rfl (hb w.2.2.1 hd)) k
theorem ldc2J (w : Wk p l e R s m args below meth c n0 Z own nm bc ml rt Q G) (X : Sd p l e R s m args below meth c n0 T h cells slots) {i : Nat} {v : Int64} (wc : (Cond.constantLong own i v).before a0 Z = true) (hd : decode bc pc = .ok (.ldc2_w i, 3)) (pc' : Nat) (hp : pc + 3 = pc') (k : G (T.setTop (mkF m pc' ls (.long v :: st)))) : G (T.setTop (mkF m pc ls st)) := by
  obtain ⟨locs, Y, -, -⟩ := X
  subst hp
  exact w.1 _ _ (Y.ldc2Long w.2.1 w.2.2.2.2.2.1 (mvT w.2.2.2.2.1 wc) (g := mkF m pc ls st) rfl (hb w.2.2.1 hd)) k
theorem icmp_lt (w : Wk p l e R s m args below meth c n0 Z own nm bc ml rt Q G) (X : Sd p l e R s m args below meth c n0 T h cells slots) {x y : Int32} {o : Int} (hd : decode bc pc = .ok (.if_icmp .lt o, 3)) (pT pF : Nat) (ho : 0 ≤ (pc : Int) + o) (hp : ((pc : Int) + o).toNat = pT) (hq : pc + 3 = pF) (k1 : x < y → G (T.setTop (mkF m pT ls st))) (k2 : ¬ x < y → G (T.setTop (mkF m pF ls st))) : G (T.setTop (mkF m pc ls (.int y :: .int x :: st))) := by
  obtain ⟨locs, Y, -, -⟩ := X
  subst hq
  by_cases q : x < y
  · exact w.1 _ _ (fun t z => XS.icmpYes Y.here w.2.1 rfl (pc0 := pc) (pc' := pT) rfl (hb w.2.2.1 hd) rfl (tlt q).1 ho hp z) (k1 q)
  · exact w.1 _ _ (fun t z => XS.icmpNo Y.here w.2.1 rfl (hb w.2.2.1 hd) rfl (flt q).1 z) (k2 q)
theorem if_lt (w : Wk p l e R s m args below meth c n0 Z own nm bc ml rt Q G) (X : Sd p l e R s m args below meth c n0 T h cells slots) {x : Int32} {o : Int} (hd : decode bc pc = .ok (.ifCond .lt o, 3)) (pT pF : Nat) (ho : 0 ≤ (pc : Int) + o) (hp : ((pc : Int) + o).toNat = pT) (hq : pc + 3 = pF) (k1 : x < 0 → G (T.setTop (mkF m pT ls st))) (k2 : ¬ x < 0 → G (T.setTop (mkF m pF ls st))) : G (T.setTop (mkF m pc ls (.int x :: st))) := by
  obtain ⟨locs, Y, -, -⟩ := X
  subst hq
  by_cases q : x < 0
  · exact w.1 _ _ (fun t z => XS.ifYes Y.here w.2.1 rfl (pc0 := pc) (pc' := pT) rfl (hb w.2.2.1 hd) rfl ((if0 _ _).trans (tlt q).1) ho hp z) (k1 q)
  · exact w.1 _ _ (fun t z => XS.ifNo Y.here w.2.1 rfl (hb w.2.2.1 hd) rfl ((if0 _ _).trans (flt q).1) z) (k2 q)
theorem icmp_ge (w : Wk p l e R s m args below meth c n0 Z own nm bc ml rt Q G) (X : Sd p l e R s m args below meth c n0 T h cells slots) {x y : Int32} {o : Int} (hd : decode bc pc = .ok (.if_icmp .ge o, 3)) (pT pF : Nat) (ho : 0 ≤ (pc : Int) + o) (hp : ((pc : Int) + o).toNat = pT) (hq : pc + 3 = pF) (k1 : ¬ x < y → G (T.setTop (mkF m pT ls st))) (k2 : x < y → G (T.setTop (mkF m pF ls st))) : G (T.setTop (mkF m pc ls (.int y :: .int x :: st))) := by
  obtain ⟨locs, Y, -, -⟩ := X
  subst hq
  by_cases q : x < y
  · exact w.1 _ _ (fun t z => XS.icmpNo Y.here w.2.1 rfl (hb w.2.2.1 hd) rfl (tlt q).2.1 z) (k2 q)
  · exact w.1 _ _ (fun t z => XS.icmpYes Y.here w.2.1 rfl (pc0 := pc) (pc' := pT) rfl (hb w.2.2.1 hd) rfl (flt q).2.1 ho hp z) (k1 q)
theorem if_ge (w : Wk p l e R s m args below meth c n0 Z own nm bc ml rt Q G) (X : Sd p l e R s m args below meth c n0 T h cells slots) {x : Int32} {o : Int} (hd : decode bc pc = .ok (.ifCond .ge o, 3)) (pT pF : Nat) (ho : 0 ≤ (pc : Int) + o) (hp : ((pc : Int) + o).toNat = pT) (hq : pc + 3 = pF) (k1 : ¬ x < 0 → G (T.setTop (mkF m pT ls st))) (k2 : x < 0 → G (T.setTop (mkF m pF ls st))) : G (T.setTop (mkF m pc ls (.int x :: st))) := by
  obtain ⟨locs, Y, -, -⟩ := X
  subst hq
  by_cases q : x < 0
  · exact w.1 _ _ (fun t z => XS.ifNo Y.here w.2.1 rfl (hb w.2.2.1 hd) rfl ((if0 _ _).trans (tlt q).2.1) z) (k2 q)
  · exact w.1 _ _ (fun t z => XS.ifYes Y.here w.2.1 rfl (pc0 := pc) (pc' := pT) rfl (hb w.2.2.1 hd) rfl ((if0 _ _).trans (flt q).2.1) ho hp z) (k1 q)
theorem icmp_gt (w : Wk p l e R s m args below meth c n0 Z own nm bc ml rt Q G) (X : Sd p l e R s m args below meth c n0 T h cells slots) {x y : Int32} {o : Int} (hd : decode bc pc = .ok (.if_icmp .gt o, 3)) (pT pF : Nat) (ho : 0 ≤ (pc : Int) + o) (hp : ((pc : Int) + o).toNat = pT) (hq : pc + 3 = pF) (k1 : y < x → G (T.setTop (mkF m pT ls st))) (k2 : ¬ y < x → G (T.setTop (mkF m pF ls st))) : G (T.setTop (mkF m pc ls (.int y :: .int x :: st))) := by
  obtain ⟨locs, Y, -, -⟩ := X
  subst hq
  by_cases q : y < x
  · exact w.1 _ _ (fun t z => XS.icmpYes Y.here w.2.1 rfl (pc0 := pc) (pc' := pT) rfl (hb w.2.2.1 hd) rfl (tlt q).2.2.1 ho hp z) (k1 q)
  · exact w.1 _ _ (fun t z => XS.icmpNo Y.here w.2.1 rfl (hb w.2.2.1 hd) rfl (flt q).2.2.1 z) (k2 q)
theorem if_gt (w : Wk p l e R s m args below meth c n0 Z own nm bc ml rt Q G) (X : Sd p l e R s m args below meth c n0 T h cells slots) {x : Int32} {o : Int} (hd : decode bc pc = .ok (.ifCond .gt o, 3)) (pT pF : Nat) (ho : 0 ≤ (pc : Int) + o) (hp : ((pc : Int) + o).toNat = pT) (hq : pc + 3 = pF) (k1 : 0 < x → G (T.setTop (mkF m pT ls st))) (k2 : ¬ 0 < x → G (T.setTop (mkF m pF ls st))) : G (T.setTop (mkF m pc ls (.int x :: st))) := by
  obtain ⟨locs, Y, -, -⟩ := X
  subst hq
  by_cases q : 0 < x
  · exact w.1 _ _ (fun t z => XS.ifYes Y.here w.2.1 rfl (pc0 := pc) (pc' := pT) rfl (hb w.2.2.1 hd) rfl ((if0 _ _).trans (tlt q).2.2.1) ho hp z) (k1 q)
  · exact w.1 _ _ (fun t z => XS.ifNo Y.here w.2.1 rfl (hb w.2.2.1 hd) rfl ((if0 _ _).trans (flt q).2.2.1) z) (k2 q)
theorem icmp_le (w : Wk p l e R s m args below meth c n0 Z own nm bc ml rt Q G) (X : Sd p l e R s m args below meth c n0 T h cells slots) {x y : Int32} {o : Int} (hd : decode bc pc = .ok (.if_icmp .le o, 3)) (pT pF : Nat) (ho : 0 ≤ (pc : Int) + o) (hp : ((pc : Int) + o).toNat = pT) (hq : pc + 3 = pF) (k1 : ¬ y < x → G (T.setTop (mkF m pT ls st))) (k2 : y < x → G (T.setTop (mkF m pF ls st))) : G (T.setTop (mkF m pc ls (.int y :: .int x :: st))) := by
  obtain ⟨locs, Y, -, -⟩ := X
  subst hq
  by_cases q : y < x
  · exact w.1 _ _ (fun t z => XS.icmpNo Y.here w.2.1 rfl (hb w.2.2.1 hd) rfl (tlt q).2.2.2 z) (k2 q)
  · exact w.1 _ _ (fun t z => XS.icmpYes Y.here w.2.1 rfl (pc0 := pc) (pc' := pT) rfl (hb w.2.2.1 hd) rfl (flt q).2.2.2 ho hp z) (k1 q)
theorem if_le (w : Wk p l e R s m args below meth c n0 Z own nm bc ml rt Q G) (X : Sd p l e R s m args below meth c n0 T h cells slots) {x : Int32} {o : Int} (hd : decode bc pc = .ok (.ifCond .le o, 3)) (pT pF : Nat) (ho : 0 ≤ (pc : Int) + o) (hp : ((pc : Int) + o).toNat = pT) (hq : pc + 3 = pF) (k1 : ¬ 0 < x → G (T.setTop (mkF m pT ls st))) (k2 : 0 < x → G (T.setTop (mkF m pF ls st))) : G (T.setTop (mkF m pc ls (.int x :: st))) := by
  obtain ⟨locs, Y, -, -⟩ := X
  subst hq
  by_cases q : 0 < x
  · exact w.1 _ _ (fun t z => XS.ifNo Y.here w.2.1 rfl (hb w.2.2.1 hd) rfl ((if0 _ _).trans (tlt q).2.2.2) z) (k2 q)
  · exact w.1 _ _ (fun t z => XS.ifYes Y.here w.2.1 rfl (pc0 := pc) (pc' := pT) rfl (hb w.2.2.1 hd) rfl ((if0 _ _).trans (flt q).2.2.2) ho hp z) (k1 q)
theorem icmp_eq (w : Wk p l e R s m args below meth c n0 Z own nm bc ml rt Q G) (X : Sd p l e R s m args below meth c n0 T h cells slots) {x y : Int32} {o : Int} (hd : decode bc pc = .ok (.if_icmp .eq o, 3)) (pT pF : Nat) (ho : 0 ≤ (pc : Int) + o) (hp : ((pc : Int) + o).toNat = pT) (hq : pc + 3 = pF) (k1 : x = y → G (T.setTop (mkF m pT ls st))) (k2 : ¬ x = y → G (T.setTop (mkF m pF ls st))) : G (T.setTop (mkF m pc ls (.int y :: .int x :: st))) := by
  obtain ⟨locs, Y, -, -⟩ := X
  subst hq
  by_cases q : x = y
  · exact w.1 _ _ (fun t z => XS.icmpYes Y.here w.2.1 rfl (pc0 := pc) (pc' := pT) rfl (hb w.2.2.1 hd) rfl (teq q).1 ho hp z) (k1 q)
  · exact w.1 _ _ (fun t z => XS.icmpNo Y.here w.2.1 rfl (hb w.2.2.1 hd) rfl (feq q).1 z) (k2 q)
theorem if_eq (w : Wk p l e R s m args below meth c n0 Z own nm bc ml rt Q G) (X : Sd p l e R s m args below meth c n0 T h cells slots) {x : Int32} {o : Int} (hd : decode bc pc = .ok (.ifCond .eq o, 3)) (pT pF : Nat) (ho : 0 ≤ (pc : Int) + o) (hp : ((pc : Int) + o).toNat = pT) (hq : pc + 3 = pF) (k1 : x = 0 → G (T.setTop (mkF m pT ls st))) (k2 : ¬ x = 0 → G (T.setTop (mkF m pF ls st))) : G (T.setTop (mkF m pc ls (.int x :: st))) := by
  obtain ⟨locs, Y, -, -⟩ := X
  subst hq
  by_cases q : x = 0
  · exact w.1 _ _ (fun t z => XS.ifYes Y.here w.2.1 rfl (pc0 := pc) (pc' := pT) rfl (hb w.2.2.1 hd) rfl ((if0 _ _).trans (teq q).1) ho hp z) (k1 q)
  · exact w.1 _ _ (fun t z => XS.ifNo Y.here w.2.1 rfl (hb w.2.2.1 hd) rfl ((if0 _ _).trans (feq q).1) z) (k2 q)
theorem icmp_ne (w : Wk p l e R s m args below meth c n0 Z own nm bc ml rt Q G) (X : Sd p l e R s m args below meth c n0 T h cells slots) {x y : Int32} {o : Int} (hd : decode bc pc = .ok (.if_icmp .ne o, 3)) (pT pF : Nat) (ho : 0 ≤ (pc : Int) + o) (hp : ((pc : Int) + o).toNat = pT) (hq : pc + 3 = pF) (k1 : ¬ x = y → G (T.setTop (mkF m pT ls st))) (k2 : x = y → G (T.setTop (mkF m pF ls st))) : G (T.setTop (mkF m pc ls (.int y :: .int x :: st))) := by
  obtain ⟨locs, Y, -, -⟩ := X
  subst hq
  by_cases q : x = y
  · exact w.1 _ _ (fun t z => XS.icmpNo Y.here w.2.1 rfl (hb w.2.2.1 hd) rfl (teq q).2 z) (k2 q)
  · exact w.1 _ _ (fun t z => XS.icmpYes Y.here w.2.1 rfl (pc0 := pc) (pc' := pT) rfl (hb w.2.2.1 hd) rfl (feq q).2 ho hp z) (k1 q)
theorem if_ne (w : Wk p l e R s m args below meth c n0 Z own nm bc ml rt Q G) (X : Sd p l e R s m args below meth c n0 T h cells slots) {x : Int32} {o : Int} (hd : decode bc pc = .ok (.ifCond .ne o, 3)) (pT pF : Nat) (ho : 0 ≤ (pc : Int) + o) (hp : ((pc : Int) + o).toNat = pT) (hq : pc + 3 = pF) (k1 : ¬ x = 0 → G (T.setTop (mkF m pT ls st))) (k2 : x = 0 → G (T.setTop (mkF m pF ls st))) : G (T.setTop (mkF m pc ls (.int x :: st))) := by
  obtain ⟨locs, Y, -, -⟩ := X
  subst hq
  by_cases q : x = 0
  · exact w.1 _ _ (fun t z => XS.ifNo Y.here w.2.1 rfl (hb w.2.2.1 hd) rfl ((if0 _ _).trans (teq q).2) z) (k2 q)
  · exact w.1 _ _ (fun t z => XS.ifYes Y.here w.2.1 rfl (pc0 := pc) (pc' := pT) rfl (hb w.2.2.1 hd) rfl ((if0 _ _).trans (feq q).2) ho hp z) (k1 q)
theorem acmp_eq (w : Wk p l e R s m args below meth c n0 Z own nm bc ml rt Q G) (X : Sd p l e R s m args below meth c n0 T h cells slots) {x y : Value} (hx : x.isRef = true) (hy : y.isRef = true) {o : Int} (hd : decode bc pc = .ok (.if_acmp .eq o, 3)) (pT pF : Nat) (ho : 0 ≤ (pc : Int) + o) (hp : ((pc : Int) + o).toNat = pT) (hq : pc + 3 = pF) (k1 : x = y → G (T.setTop (mkF m pT ls st))) (k2 : ¬ x = y → G (T.setTop (mkF m pF ls st))) : G (T.setTop (mkF m pc ls (y :: x :: st))) := by
  obtain ⟨locs, Y, -, -⟩ := X
  subst hq
  by_cases q : x = y
  · exact w.1 _ _ (fun t z => Jvm.RoadKit.acmp (g := mkF m pc ls (y :: x :: st)) Y w.2.1 rfl hx hy (pc0 := pc) (pc' := pT) (same := true) rfl (hb w.2.2.1 hd) rfl (decide_eq_true q) ho (by simp [acV]; omega) z) (k1 q)
  · exact w.1 _ _ (fun t z => Jvm.RoadKit.acmp (g := mkF m pc ls (y :: x :: st)) Y w.2.1 rfl hx hy (pc0 := pc) (pc' := pc + 3) (same := false) rfl (hb w.2.2.1 hd) rfl (decide_eq_false q) ho (by simp [acV]) z) (k2 q)
theorem acmp_ne (w : Wk p l e R s m args below meth c n0 Z own nm bc ml rt Q G) (X : Sd p l e R s m args below meth c n0 T h cells slots) {x y : Value} (hx : x.isRef = true) (hy : y.isRef = true) {o : Int} (hd : decode bc pc = .ok (.if_acmp .ne o, 3)) (pT pF : Nat) (ho : 0 ≤ (pc : Int) + o) (hp : ((pc : Int) + o).toNat = pT) (hq : pc + 3 = pF) (k1 : ¬ x = y → G (T.setTop (mkF m pT ls st))) (k2 : x = y → G (T.setTop (mkF m pF ls st))) : G (T.setTop (mkF m pc ls (y :: x :: st))) := by
  obtain ⟨locs, Y, -, -⟩ := X
  subst hq
  by_cases q : x = y
  · exact w.1 _ _ (fun t z => Jvm.RoadKit.acmp (g := mkF m pc ls (y :: x :: st)) Y w.2.1 rfl hx hy (pc0 := pc) (pc' := pc + 3) (same := true) rfl (hb w.2.2.1 hd) rfl (decide_eq_true q) ho (by simp [acV]) z) (k2 q)
  · exact w.1 _ _ (fun t z => Jvm.RoadKit.acmp (g := mkF m pc ls (y :: x :: st)) Y w.2.1 rfl hx hy (pc0 := pc) (pc' := pT) (same := false) rfl (hb w.2.2.1 hd) rfl (decide_eq_false q) ho (by simp [acV]; omega) z) (k1 q)
theorem ifnull_ref (w : Wk p l e R s m args below meth c n0 Z own nm bc ml rt Q G) (X : Sd p l e R s m args below meth c n0 T h cells slots) {b : Addr} {o : Int} (hd : decode bc pc = .ok (.ifnull o, 3)) (pF : Nat) (hq : pc + 3 = pF) (k : G (T.setTop (mkF m pF ls st))) : G (T.setTop (mkF m pc ls (.ref b :: st))) := by
  obtain ⟨locs, Y, -, -⟩ := X
  subst hq
  exact w.1 _ _ (fun t z => XS.ifnullNo Y.here w.2.1 rfl (hb w.2.2.1 hd) rfl z) k
theorem ifnull_null (w : Wk p l e R s m args below meth c n0 Z own nm bc ml rt Q G) (X : Sd p l e R s m args below meth c n0 T h cells slots) {o : Int} (hd : decode bc pc = .ok (.ifnull o, 3)) (pT : Nat) (ho : 0 ≤ (pc : Int) + o) (hp : ((pc : Int) + o).toNat = pT) (k : G (T.setTop (mkF m pT ls st))) : G (T.setTop (mkF m pc ls (.null :: st))) := by
  obtain ⟨locs, Y, -, -⟩ := X
  exact w.1 _ _ (fun t z => XS.ifnullYes Y.here w.2.1 rfl (pc0 := pc) (pc' := pT) rfl (hb w.2.2.1 hd) rfl ho hp z) k
theorem ifnonnull_ref (w : Wk p l e R s m args below meth c n0 Z own nm bc ml rt Q G) (X : Sd p l e R s m args below meth c n0 T h cells slots) {b : Addr} {o : Int} (hd : decode bc pc = .ok (.ifnonnull o, 3)) (pT : Nat) (ho : 0 ≤ (pc : Int) + o) (hp : ((pc : Int) + o).toNat = pT) (k : G (T.setTop (mkF m pT ls st))) : G (T.setTop (mkF m pc ls (.ref b :: st))) := by
  obtain ⟨locs, Y, -, -⟩ := X
  exact w.1 _ _ (fun t z => XT.ifnonnullYes Y.here w.2.1 rfl (pc0 := pc) (pc' := pT) rfl (hb w.2.2.1 hd) rfl ho hp z) k
theorem ifnonnull_null (w : Wk p l e R s m args below meth c n0 Z own nm bc ml rt Q G) (X : Sd p l e R s m args below meth c n0 T h cells slots) {o : Int} (hd : decode bc pc = .ok (.ifnonnull o, 3)) (pF : Nat) (hq : pc + 3 = pF) (k : G (T.setTop (mkF m pF ls st))) : G (T.setTop (mkF m pc ls (.null :: st))) := by
  obtain ⟨locs, Y, -, -⟩ := X
  subst hq
  exact w.1 _ _ (fun t z => XT.ifnonnullNo Y.here w.2.1 rfl (hb w.2.2.1 hd) rfl z) k
theorem lswHit (w : Wk p l e R s m args below meth c n0 Z own nm bc ml rt Q G) (X : Sd p l e R s m args below meth c n0 T h cells slots) {i : Int32} {df : Int} {ps : Array (Int × Int)} {len : Nat} (hd : decode bc pc = .ok (.lookupswitch df ps, len)) (hs : (ps.toList.zip (ps.toList.drop 1)).all (fun (a, next) => a.1 < next.1) = true) {a off : Int} (pc' : Nat) (hf : ps.find? (·.1 == i.toInt) = some (a, off)) (ho : 0 ≤ (pc : Int) + off) (hp : ((pc : Int) + off).toNat = pc') (k : G (T.setTop (mkF m pc' ls st))) : G (T.setTop (mkF m pc ls (.int i :: st))) := by
  obtain ⟨locs, Y, -, -⟩ := X
  subst hp
  exact w.1 _ _ (fun t z => Y.lookupswitchHit w.2.1 (g := mkF m pc ls (.int i :: st)) rfl rfl (hb w.2.2.1 hd) hs hf ho t z) k
theorem lswMiss (w : Wk p l e R s m args below meth c n0 Z own nm bc ml rt Q G) (X : Sd p l e R s m args below meth c n0 T h cells slots) {i : Int32} {df : Int} {ps : Array (Int × Int)} {len : Nat} (hd : decode bc pc = .ok (.lookupswitch df ps, len)) (hs : (ps.toList.zip (ps.toList.drop 1)).all (fun (a, next) => a.1 < next.1) = true) (pc' : Nat) (hf : ps.find? (·.1 == i.toInt) = none) (ho : 0 ≤ (pc : Int) + df) (hp : ((pc : Int) + df).toNat = pc') (k : G (T.setTop (mkF m pc' ls st))) : G (T.setTop (mkF m pc ls (.int i :: st))) := by
  obtain ⟨locs, Y, -, -⟩ := X
  subst hp
  exact w.1 _ _ (fun t z => Y.lookupswitchMiss w.2.1 (g := mkF m pc ls (.int i :: st)) rfl rfl (hb w.2.2.1 hd) hs hf ho t z) k
theorem tswIn (w : Wk p l e R s m args below meth c n0 Z own nm bc ml rt Q G) (X : Sd p l e R s m args below meth c n0 T h cells slots) {i : Int32} {df lo hi : Int} {ofs : Array Int} {len : Nat} (hd : decode bc pc = .ok (.tableswitch df lo hi ofs, len)) (pc' : Nat) {off : Int} (hin : ¬ (i.toInt < lo ∨ i.toInt > hi)) (hoff : ofs[(i.toInt - lo).toNat]? = some off) (ho : 0 ≤ (pc : Int) + off) (hp : ((pc : Int) + off).toNat = pc') (k : G (T.setTop (mkF m pc' ls st))) : G (T.setTop (mkF m pc ls (.int i :: st))) := by
  obtain ⟨locs, Y, -, -⟩ := X
  exact w.1 _ _ (fun t z => XS.tswIn Y.here w.2.1 rfl (pc0 := pc) (pc' := pc') rfl (hb w.2.2.1 hd) rfl hin hoff ho hp z) k
theorem tswOut (w : Wk p l e R s m args below meth c n0 Z own nm bc ml rt Q G) (X : Sd p l e R s m args below meth c n0 T h cells slots) {i : Int32} {df lo hi : Int} {ofs : Array Int} {len : Nat} (hd : decode bc pc = .ok (.tableswitch df lo hi ofs, len)) (pc' : Nat) (hout : i.toInt < lo ∨ i.toInt > hi) (ho : 0 ≤ (pc : Int) + df) (hp : ((pc : Int) + df).toNat = pc') (k : G (T.setTop (mkF m pc' ls st))) : G (T.setTop (mkF m pc ls (.int i :: st))) := by
  obtain ⟨locs, Y, -, -⟩ := X
  exact w.1 _ _ (fun t z => XS.tswOut Y.here w.2.1 rfl (pc0 := pc) (pc' := pc') rfl (hb w.2.2.1 hd) rfl hout ho hp z) k
theorem retI (w : Wk p l e R s m args below meth c n0 Z own nm bc ml rt Q G) (X : Sd p l e R s m args below meth c n0 T h cells slots) {z : Int32} (hrt : rt = some .int) (hd : decode bc pc = .ok (.ireturn, 1)) (hc : cells ≤ R.cells) (hl : slots ≤ R.slots) (k : Q (some (.int z)) h) : G (T.setTop (mkF m pc ls (.int z :: st))) := by
  have hr : meth.sig.returnType = some .int := w.2.2.2.2.2.2.1.trans hrt
  refine w.2.2.2.2.2.2.2.2 T h cells slots (some (.int z)) X hc hl (fun q => by rw [hr] at q; cases q) k _ (fun fs hfs => ?_)
  obtain ⟨locs, Y, -, -⟩ := X
  exact retOut Y w.2.1 hr rfl (Or.inl ⟨rfl, Or.inl rfl, z, rfl⟩) (hb w.2.2.1 hd) hfs
theorem retN (w : Wk p l e R s m args below meth c n0 Z own nm bc ml rt Q G) (X : Sd p l e R s m args below meth c n0 T h cells slots) {z : Int32} {t : FieldType} (hrt : rt = some t) (ht : t = .boolean ∨ t = .byte ∨ t = .char ∨ t = .short) (hd : decode bc pc = .ok (.ireturn, 1)) (hc : cells ≤ R.cells) (hl : slots ≤ R.slots) (k : Q (some (.int (nar t z))) h) : G (T.setTop (mkF m pc ls (.int z :: st))) := by
  have hr : meth.sig.returnType = some t := w.2.2.2.2.2.2.1.trans hrt
  refine w.2.2.2.2.2.2.2.2 T h cells slots (some (.int (nar t z))) X hc hl (fun q => by rw [hr] at q; cases q) k _ (fun fs hfs => ?_)
  obtain ⟨locs, Y, -, -⟩ := X
  exact Jvm.RoadKit.retN Y w.2.1 hr ht (hb w.2.2.1 hd) hfs
theorem retJ (w : Wk p l e R s m args below meth c n0 Z own nm bc ml rt Q G) (X : Sd p l e R s m args below meth c n0 T h cells slots) {z : Int64} (hrt : rt = some .long) (hd : decode bc pc = .ok (.lreturn, 1)) (hc : cells ≤ R.cells) (hl : slots ≤ R.slots) (k : Q (some (.long z)) h) : G (T.setTop (mkF m pc ls (.long z :: st))) := by
  have hr : meth.sig.returnType = some .long := w.2.2.2.2.2.2.1.trans hrt
  refine w.2.2.2.2.2.2.2.2 T h cells slots (some (.long z)) X hc hl (fun q => by rw [hr] at q; cases q) k _ (fun fs hfs => ?_)
  obtain ⟨locs, Y, -, -⟩ := X
  exact retOut Y w.2.1 hr rfl (Or.inr (Or.inl ⟨rfl, rfl, z, rfl⟩)) (hb w.2.2.1 hd) hfs
theorem retA (w : Wk p l e R s m args below meth c n0 Z own nm bc ml rt Q G) (X : Sd p l e R s m args below meth c n0 T h cells slots) {z : Value} {t : FieldType} (hrt : rt = some t) (ht : t.isReference = true) (hz : z.isRef = true) (hd : decode bc pc = .ok (.areturn, 1)) (hc : cells ≤ R.cells) (hl : slots ≤ R.slots) (k : Q (some z) h) : G (T.setTop (mkF m pc ls (z :: st))) := by
  have hr : meth.sig.returnType = some t := w.2.2.2.2.2.2.1.trans hrt
  refine w.2.2.2.2.2.2.2.2 T h cells slots (some z) X hc hl (fun q => by rw [hr] at q; cases q) k _ (fun fs hfs => ?_)
  obtain ⟨locs, Y, -, -⟩ := X
  refine retOut Y w.2.1 hr ?_ (Or.inr (Or.inr (Or.inr (Or.inr ⟨rfl, ht, hz⟩)))) (hb w.2.2.1 hd) hfs
  rcases ref_cases hz with rfl | ⟨a, rfl⟩ <;> cases t <;> first | rfl | (cases ht; done)
theorem retV (w : Wk p l e R s m args below meth c n0 Z own nm bc ml rt Q G) (X : Sd p l e R s m args below meth c n0 T h cells slots) (hrt : rt = none) (hd : decode bc pc = .ok (.return_, 1)) (hc : cells ≤ R.cells) (hl : slots ≤ R.slots) (k : Q none h) : G (T.setTop (mkF m pc ls [])) := by
  have hr : meth.sig.returnType = none := w.2.2.2.2.2.2.1.trans hrt
  refine w.2.2.2.2.2.2.2.2 T h cells slots none X hc hl (fun _ => rfl) k _ (fun fs hfs => ?_)
  obtain ⟨locs, Y, -, -⟩ := X
  exact Y.returnOut w.2.1 hr (hb w.2.2.1 hd) hfs
theorem getfield (w : Wk p l e R s m args below meth c n0 Z own nm bc ml rt Q G) (X : Sd p l e R s m args below meth c n0 T h cells slots) {R0 O n d : String} {i : Nat} {a : Addr} {v : Value} (wl : (Cond.fieldLink own i R0 n d).before a0 Z = true) (via : Via Z R0 O n d) (F : Fld Z h a O n d v) (hd : decode bc pc = .ok (.getfield i, 3)) (pc' : Nat) (hp : pc + 3 = pc') (k : ∀ T' : State, Sd p l e R s m args below meth c n0 T' h cells slots → G (T'.setTop (mkF m pc' ls (v :: st)))) : G (T.setTop (mkF m pc ls (.ref a :: st))) := by
  obtain ⟨locs, Y, N, eT⟩ := X
  subst hp
  obtain ⟨T', Y', e', q⟩ := getF Y w.2.1 w.2.2.2.2.1 (host := "") w.2.2.2.2.2.1 (Or.inl wl) via eT F (g := mkF m pc ls (.ref a :: st)) rfl rfl (hb w.2.2.1 hd)
  exact w.1 _ _ q (k T' ⟨locs, Y', N, e'⟩)
theorem getfieldNest (w : Wk p l e R s m args below meth c n0 Z own nm bc ml rt Q G) (X : Sd p l e R s m args below meth c n0 T h cells slots) {R0 O n d host : String} {i : Nat} {a : Addr} {v : Value} (wl : (Cond.fieldLinkNest own i R0 n d host).before a0 Z = true) (via : Via Z R0 O n d) (F : Fld Z h a O n d v) (hd : decode bc pc = .ok (.getfield i, 3)) (pc' : Nat) (hp : pc + 3 = pc') (k : ∀ T' : State, Sd p l e R s m args below meth c n0 T' h cells slots → G (T'.setTop (mkF m pc' ls (v :: st)))) : G (T.setTop (mkF m pc ls (.ref a :: st))) := by
  obtain ⟨locs, Y, N, eT⟩ := X
  subst hp
  obtain ⟨T', Y', e', q⟩ := getF Y w.2.1 w.2.2.2.2.1 w.2.2.2.2.2.1 (Or.inr wl) via eT F (g := mkF m pc ls (.ref a :: st)) rfl rfl (hb w.2.2.1 hd)
  exact w.1 _ _ q (k T' ⟨locs, Y', N, e'⟩)
theorem getstatic (w : Wk p l e R s m args below meth c n0 Z own nm bc ml rt Q G) (X : Sd p l e R s m args below meth c n0 T h cells slots) {R0 O n d : String} {i : Nat} {v : Value} (wl : (Cond.fieldLink own i R0 n d).before a0 Z = true) (via : Via Z R0 O n d) (F : Sta Z h O n d v) (hd : decode bc pc = .ok (.getstatic i, 3)) (pc' : Nat) (hp : pc + 3 = pc') (k : ∀ T' : State, Sd p l e R s m args below meth c n0 T' h cells slots → G (T'.setTop (mkF m pc' ls (v :: st)))) : G (T.setTop (mkF m pc ls st)) := by
  obtain ⟨locs, Y, N, eT⟩ := X
  subst hp
  obtain ⟨T', Y', e', q⟩ := getS2 (host := "") Y w.2.1 w.2.2.2.2.1 w.2.2.2.2.2.1 (Or.inl wl) via eT F (g := mkF m pc ls st) rfl (hb w.2.2.1 hd)
  exact w.1 _ _ q (k T' ⟨locs, Y', N, e'⟩)
theorem getstaticNest (w : Wk p l e R s m args below meth c n0 Z own nm bc ml rt Q G) (X : Sd p l e R s m args below meth c n0 T h cells slots) {R0 O n d host : String} {i : Nat} {v : Value} (wl : (Cond.fieldLinkNest own i R0 n d host).before a0 Z = true) (via : Via Z R0 O n d) (F : Sta Z h O n d v) (hd : decode bc pc = .ok (.getstatic i, 3)) (pc' : Nat) (hp : pc + 3 = pc') (k : ∀ T' : State, Sd p l e R s m args below meth c n0 T' h cells slots → G (T'.setTop (mkF m pc' ls (v :: st)))) : G (T.setTop (mkF m pc ls st)) := by
  obtain ⟨locs, Y, N, eT⟩ := X
  subst hp
  obtain ⟨T', Y', e', q⟩ := getS2 Y w.2.1 w.2.2.2.2.1 w.2.2.2.2.2.1 (Or.inr wl) via eT F (g := mkF m pc ls st) rfl (hb w.2.2.1 hd)
  exact w.1 _ _ q (k T' ⟨locs, Y', N, e'⟩)
theorem checkcast (w : Wk p l e R s m args below meth c n0 Z own nm bc ml rt Q G) (X : Sd p l e R s m args below meth c n0 T h cells slots) {K : String} {i : Nat} {a : Addr} (wl : (Cond.classLink own i K).before a0 Z = true) (F : Ins Z h a K true) (hd : decode bc pc = .ok (.checkcast i, 3)) (pc' : Nat) (hp : pc + 3 = pc') (k : ∀ T' : State, Sd p l e R s m args below meth c n0 T' h cells slots → G (T'.setTop (mkF m pc' ls (.ref a :: st)))) : G (T.setTop (mkF m pc ls (.ref a :: st))) := by
  obtain ⟨locs, Y, N, eT⟩ := X
  subst hp
  obtain ⟨T', Y', e', q⟩ := castY Y w.2.1 w.2.2.2.2.1 w.2.2.2.2.2.1 wl eT F (g := mkF m pc ls (.ref a :: st)) rfl rfl (hb w.2.2.1 hd)
  exact w.1 _ _ q (k T' ⟨locs, Y', N, e'⟩)
theorem putfield (w : Wk p l e R s m args below meth c n0 Z own nm bc ml rt Q G) (X : Sd p l e R s m args below meth c n0 T h cells slots) {R0 O n d C : String} {i kk : Nat} {ty : FieldType} {a : Addr} {v old : Value} (wl : (Cond.fieldLink own i R0 n d).before a0 Z = true) (via : Via Z R0 O n d) (F : Fld Z h a O n d old) (E : Exa Z h a C) (L : (Cond.lays C O n d).before a0 Z = true ∨ ((Cond.laysFinal C O n d).before a0 Z = true ∧ own = O ∧ nm = "<init>")) (wi : (Cond.instantiable C kk).before a0 Z = true) (hty : parseFieldDescriptor d = some ty) (hn : narrow ty v = v) (hf : fits ty v = true) (ha : n0 ≤ a) (hd : decode bc pc = .ok (.putfield i, 3)) (pc' : Nat) (hp : pc + 3 = pc')
    (k : ∀ (T' : State) (h' : Heap), Sd p l e R s m args below meth c n0 T' h' cells slots → Wr h h' a (Jvm.RoadKit.slotOf Z O n d) v → G (T'.setTop (mkF m pc' ls st))) : G (T.setTop (mkF m pc ls (v :: .ref a :: st))) := by
  obtain ⟨locs, Y, N, eT⟩ := X
  subst hp
  obtain ⟨T', h', Y', e', W', q⟩ := putF Y w.2.1 w.2.2.2.2.1 (host := "") w.2.2.2.2.2.1 (Or.inl wl) via eT F E (L.imp id fun z => ⟨z.1, z.2.1, w.2.2.2.2.2.2.2.1.trans z.2.2⟩) wi hty hn hf (g := mkF m pc ls (v :: .ref a :: st)) rfl rfl (hb w.2.2.1 hd)
  exact w.1 _ _ q (k T' h' ⟨_, Y', Fr.snoc Y' N ha, e'⟩ W')
theorem putfieldN (w : Wk p l e R s m args below meth c n0 Z own nm bc ml rt Q G) (X : Sd p l e R s m args below meth c n0 T h cells slots) {R0 O n d C : String} {i kk : Nat} {ty : FieldType} {a : Addr} {v v' old : Value} (wl : (Cond.fieldLink own i R0 n d).before a0 Z = true) (via : Via Z R0 O n d) (F : Fld Z h a O n d old) (E : Exa Z h a C) (L : (Cond.lays C O n d).before a0 Z = true ∨ ((Cond.laysFinal C O n d).before a0 Z = true ∧ own = O ∧ nm = "<init>")) (wi : (Cond.instantiable C kk).before a0 Z = true) (hty : parseFieldDescriptor d = some ty) (hn : narrow ty v = v') (hf : fits ty v' = true) (ha : n0 ≤ a) (hd : decode bc pc = .ok (.putfield i, 3)) (pc' : Nat) (hp : pc + 3 = pc')
    (k : ∀ (T' : State) (h' : Heap), Sd p l e R s m args below meth c n0 T' h' cells slots → Wr h h' a (Jvm.RoadKit.slotOf Z O n d) v' → G (T'.setTop (mkF m pc' ls st))) : G (T.setTop (mkF m pc ls (v :: .ref a :: st))) := by
  obtain ⟨locs, Y, N, eT⟩ := X
  subst hp
  obtain ⟨T', h', Y', e', W', q⟩ := putFN Y w.2.1 w.2.2.2.2.1 w.2.2.2.2.2.1 wl via eT F E (L.imp id fun z => ⟨z.1, z.2.1, w.2.2.2.2.2.2.2.1.trans z.2.2⟩) wi hty hn hf (g := mkF m pc ls (v :: .ref a :: st)) rfl rfl (hb w.2.2.1 hd)
  exact w.1 _ _ q (k T' h' ⟨_, Y', Fr.snoc Y' N ha, e'⟩ W')
theorem new (w : Wk p l e R s m args below meth c n0 Z own nm bc ml rt Q G) (X : Sd p l e R s m args below meth c n0 T h cells slots) {C : String} {i n : Nat} (wl : (Cond.classLink own i C).before a0 Z = true) (wi : (Cond.instantiable C n).before a0 Z = true) (wz : (Cond.initialized C).before a0 Z = true) (hd : decode bc pc = .ok (.new i, 3)) (pc' : Nat) (hp : pc + 3 = pc') (hc : cells + 1 ≤ R.cells) (hl : slots + n ≤ R.slots)
    (k : ∀ (T' : State) (h' : Heap) (a : Addr), Sd p l e R s m args below meth c n0 T' h' (cells + 1) (slots + n) → a = h.size → Ext h h' → Exa Z h' a C → (∀ {O nm d : String} {ty : FieldType}, Laid Z a0 C O nm d → parseFieldDescriptor d = some ty → Fld Z h' a O nm d (defaultValue ty)) → G (T'.setTop (mkF m pc' ls (.ref a :: st)))) : G (T.setTop (mkF m pc ls st)) := by
  obtain ⟨locs, Y, N, eT⟩ := X
  subst hp
  obtain ⟨T', h', Y', e', E', A', D', -, q⟩ := newO Y w.2.1 w.2.2.2.2.1 w.2.2.2.2.2.1 wl wi wz eT (g := mkF m pc ls st) rfl (hb w.2.2.1 hd) hc hl
  exact w.1 _ _ q (k T' h' _ ⟨locs, Y', N, e'⟩ rfl E' A' D')
theorem newarr (w : Wk p l e R s m args below meth c n0 Z own nm bc ml rt Q G) (X : Sd p l e R s m args below meth c n0 T h cells slots) {aty : ArrayType} {n : Int32} (wa : (Cond.arrayClass (newarray.typeOf aty)).before a0 Z = true) (hd : decode bc pc = .ok (.newarray aty, 2)) (pc' : Nat) (hp : pc + 2 = pc') (hn : ¬ n < 0) (cap : Nat) (hcap : n.toNatClampNeg ≤ cap) (hb' : cap * 8 ≤ 536870912) (hc : cells + 1 ≤ R.cells) (hl : slots + cap ≤ R.slots)
    (k : ∀ (T' : State) (h' : Heap) (a : Addr) (cA : ClassId), Sd p l e R s m args below meth c n0 T' h' (cells + 1) (slots + cap) → a = h.size → Ext h h' → Arr Z h' a (newA cA (newarray.typeOf aty) n) (newarray.typeOf aty) → G (T'.setTop (mkF m pc' ls (.ref a :: st)))) : G (T.setTop (mkF m pc ls (.int n :: st))) := by
  obtain ⟨locs, Y, N, eT⟩ := X
  subst hp
  obtain ⟨T', h', cA, Y', e', E', A', q⟩ := newP Y w.2.1 w.2.2.2.2.1 wa eT (g := mkF m pc ls (.int n :: st)) rfl (hb w.2.2.1 hd) rfl hn hcap hb' hc hl
  exact w.1 _ _ q (k T' h' _ cA ⟨locs, Y', N, e'⟩ rfl E' A')
theorem initObj (w : Wk p l e R s m args below meth c n0 Z own nm bc ml rt Q G) (X : Sd p l e R s m args below meth c n0 T h cells slots) {i : Nat} {a : Addr} (w1 : (Cond.methodLink own i Lib.objectInit).before a0 Z = true) (w2 : (Cond.instanceMethod Lib.objectInit).before a0 Z = true) (w3 : (Cond.code Lib.objectInit ⟨#[0xb1]⟩ 1 none).before a0 Z = true) (hd : decode bc pc = .ok (.invokespecial i, 3)) (pc' : Nat) (hp : pc + 3 = pc') (hsz : ls.size = ml) (hf : 1 ≤ R.frames) (Wd : Nat) (hW : (st.map fun v => v.category).sum ≤ Wd) (hl : Wd + 12 ≤ R.locals)
    (k : ∀ T' : State, Sd p l e R s m args below meth c n0 T' h cells slots → G (T'.setTop (mkF m pc' ls st))) : G (T.setTop (mkF m pc ls (.ref a :: st))) := by
  obtain ⟨locs, Y, N, eT⟩ := X
  subst hp
  obtain ⟨T', Y', e', q⟩ := initO Y w.2.1 w.2.2.2.2.1 w.2.2.2.2.2.1 w1 w2 w3 eT (g := mkF m pc ls (.ref a :: st)) rfl (hsz.trans w.2.2.2.1.symm) rfl (hb w.2.2.1 hd) hf (W := Wd) (by show 2 * 0 + _ ≤ _; omega) hl
  exact w.1 _ _ q (k T' ⟨locs, Y', N, e'⟩)
theorem callS (w : Wk p l e R s m args below meth c n0 Z own nm bc ml rt Q G) (X : Sd p l e R s m args below meth c n0 T h cells slots) {y : MethodName} {ybc : ByteArray} {yml : Nat} {yrt : Option FieldType} {rm : Room} {i : Nat} {sk : List Value} {Qy : Option Value → Heap → Prop} (av : List Value) (w1 : (Cond.methodLink own i y).before a0 Z = true) (w2 : (Cond.static y).before a0 Z = true) (w3 : (Cond.initialized y.cls).before a0 Z = true) (w4 : (Cond.code y ybc yml yrt).before a0 Z = true) (hy : y.cls ≠ "java/lang/invoke/MethodHandle" ∧ y.cls ≠ "java/lang/invoke/VarHandle") (hM : Met l Z y ybc yml yrt [] rm av.toArray h n0 Qy) (hd : decode bc pc = .ok (.invokestatic i, 3)) (pc' : Nat) (hp : pc + 3 = pc') (Wd : Nat) (hfr : rm.frames + 1 ≤ R.frames) (hlo : Wd + (yml + 11) + rm.locals ≤ R.locals) (hlen : ∀ sig, parseMethodDescriptor y.desc = some sig → av.length = sig.parameters.length) (hst : sk = av.reverse ++ st) (hW : (st.map fun v => v.category).sum ≤ Wd) (hsz : ls.size = ml) (hc : cells + rm.cells ≤ R.cells) (hs : slots + rm.slots ≤ R.slots) (k : ∀ (v : Option Value) (T' : State) (h' : Heap), Sd p l e R s m args below meth c n0 T' h' (cells + rm.cells) (slots + rm.slots) → Qy v h' → G (T'.setTop (mkF m pc' ls (v.toList ++ st)))) : G (T.setTop (mkF m pc ls sk)) := by
  obtain ⟨locs, Y, N, eT⟩ := X
  subst hp hst
  have hZ := w.2.2.2.2.1
  obtain ⟨v, _, ⟨T', L', k', n'⟩, -, Y', ⟨Lc, ⟨hQ, NL⟩, l1, y1, z1⟩, q⟩ := Jvm.LawKit.callS Y w.2.1 (y := y) w.2.2.2.2.2.1 (mvT hZ w1) (mvT hZ w2) (mvT hZ w3) (mvT hZ w4) hy (backOf (W := Wd) (Q := fun v h' L => Qy v h' ∧ Fr n0 L) hM hZ w4 w3 hfr hlo) (g := mkF m pc ls (av.reverse ++ st)) rfl (hsz.trans w.2.2.2.1.symm) (argsL := av) (rest := st) hlen rfl (by show 2 * 0 + _ ≤ _; omega) (hb w.2.2.1 hd) (fun _ _ => ⟨rfl, eT, hc, hs⟩)
  dsimp only [Pt.U, Pt.locs, Pt.cells, Pt.slots] at Y' l1 y1 z1 q hQ
  subst l1 y1 z1
  exact w.1 _ _ q (k v T' _ ⟨_, Y', Fr.app N NL, rfl⟩ hQ)
theorem callN (w : Wk p l e R s m args below meth c n0 Z own nm bc ml rt Q G) (X : Sd p l e R s m args below meth c n0 T h cells slots) {y : MethodName} {ybc : ByteArray} {yml : Nat} {rm : Room} {i : Nat} {sk : List Value} {Qy : Option Value → Heap → Prop} {a : Addr} (av : List Value) (w1 : (Cond.methodLink own i y).before a0 Z = true) (w2 : (Cond.instanceMethod y).before a0 Z = true) (w3 : (Cond.initialized y.cls).before a0 Z = true) (w4 : (Cond.code y ybc yml none).before a0 Z = true) (hi : y.name = "<init>") (hy : y.cls ≠ "java/lang/invoke/MethodHandle" ∧ y.cls ≠ "java/lang/invoke/VarHandle") (hM : Met l Z y ybc yml none [] rm (.ref a :: av).toArray h n0 Qy) (hd : decode bc pc = .ok (.invokespecial i, 3)) (pc' : Nat) (hp : pc + 3 = pc') (Wd : Nat) (hfr : rm.frames + 1 ≤ R.frames) (hlo : Wd + (yml + 11) + rm.locals ≤ R.locals) (hlen : ∀ sig, parseMethodDescriptor y.desc = some sig → av.length = sig.parameters.length) (hst : sk = av.reverse ++ .ref a :: st) (hW : (st.map fun v => v.category).sum ≤ Wd) (hsz : ls.size = ml) (hc : cells + rm.cells ≤ R.cells) (hs : slots + rm.slots ≤ R.slots) (k : ∀ (v : Option Value) (T' : State) (h' : Heap), Sd p l e R s m args below meth c n0 T' h' (cells + rm.cells) (slots + rm.slots) → Qy v h' → G (T'.setTop (mkF m pc' ls (v.toList ++ st)))) : G (T.setTop (mkF m pc ls sk)) := by
  obtain ⟨locs, Y, N, eT⟩ := X
  subst hp hst
  have hZ := w.2.2.2.2.1
  obtain ⟨v, _, ⟨T', L', k', n'⟩, -, Y', ⟨Lc, ⟨hQ, NL⟩, l1, y1, z1⟩, q⟩ := Y.specialBack w.2.1 (y := y) hi w.2.2.2.2.2.1 (mvT hZ w1) (mvT hZ w2) (mvT hZ w4) hy (backOf (W := Wd) (Q := fun v h' L => Qy v h' ∧ Fr n0 L) hM hZ w4 w3 hfr hlo) (g := mkF m pc ls (av.reverse ++ .ref a :: st)) rfl (hsz.trans w.2.2.2.1.symm) (Steps.refl _) (a := a) (argsL := av) (rest := st) hlen rfl (by show 2 * 0 + _ ≤ _; omega) (hb w.2.2.1 hd) (fun _ _ => ⟨rfl, eT, hc, hs⟩)
  dsimp only [Pt.U, Pt.locs, Pt.cells, Pt.slots] at Y' l1 y1 z1 q hQ
  subst l1 y1 z1
  exact w.1 _ _ (fun t z => q.trans z) (k v T' _ ⟨_, Y', Fr.app N NL, rfl⟩ hQ)
theorem callV (w : Wk p l e R s m args below meth c n0 Z own nm bc ml rt Q G) (X : Sd p l e R s m args below meth c n0 T h cells slots) {y z : MethodName} {ybc : ByteArray} {yml : Nat} {yrt : Option FieldType} {rm : Room} {i : Nat} {sk : List Value} {Qy : Option Value → Heap → Prop} {C : String} {a : Addr} (av : List Value) (w1 : (Cond.methodLink own i y).before a0 Z = true) (w2 : (Cond.declares y).before a0 Z = true) (hnf : NotFace s y) (w5 : (Cond.selects C y z).before a0 Z = true) (w6 : (Cond.instanceMethod z).before a0 Z = true) (w3 : (Cond.initialized z.cls).before a0 Z = true) (w4 : (Cond.code z ybc yml yrt).before a0 Z = true) (hy : y.cls ≠ "java/lang/invoke/MethodHandle" ∧ y.cls ≠ "java/lang/invoke/VarHandle") (E : Exa Z h a C) (hM : Met l Z z ybc yml yrt [] rm (.ref a :: av).toArray h n0 Qy) (hd : decode bc pc = .ok (.invokevirtual i, 3)) (pc' : Nat) (hp : pc + 3 = pc') (Wd : Nat) (hfr : rm.frames + 1 ≤ R.frames) (hlo : Wd + (yml + 11) + rm.locals ≤ R.locals) (hlen : ∀ sig, parseMethodDescriptor y.desc = some sig → av.length = sig.parameters.length) (hst : sk = av.reverse ++ .ref a :: st) (hW : (st.map fun v => v.category).sum ≤ Wd) (hsz : ls.size = ml) (hc : cells + rm.cells ≤ R.cells) (hs : slots + rm.slots ≤ R.slots) (k : ∀ (v : Option Value) (T' : State) (h' : Heap), Sd p l e R s m args below meth c n0 T' h' (cells + rm.cells) (slots + rm.slots) → Qy v h' → G (T'.setTop (mkF m pc' ls (v.toList ++ st)))) : G (T.setTop (mkF m pc ls sk)) := by
  obtain ⟨locs, Y, N, eT⟩ := X
  subst hp hst
  have hZ := w.2.2.2.2.1
  obtain ⟨cq, kq, qa, qb, qc⟩ := isOf hZ eT E
  obtain ⟨v, _, ⟨T', L', k', n'⟩, -, Y', ⟨Lc, ⟨hQ, NL⟩, l1, y1, z1⟩, q⟩ := Y.virtualBack w.2.1 (y := y) (z := z) w.2.2.2.2.2.1 (mvT hZ w1) (mvT hZ w2) hnf (mvT hZ w5) (mvT hZ w6) hy (backOf (W := Wd) (Q := fun v h' L => Qy v h' ∧ Fr n0 L) hM hZ w4 w3 hfr hlo) qa qc (g := mkF m pc ls (av.reverse ++ .ref a :: st)) rfl (hsz.trans w.2.2.2.1.symm) (Steps.refl _) (argsL := av) (rest := st) hlen rfl (by show 2 * 0 + _ ≤ _; omega) (hb w.2.2.1 hd) (fun _ _ => ⟨rfl, eT, hc, hs⟩)
  dsimp only [Pt.U, Pt.locs, Pt.cells, Pt.slots] at Y' l1 y1 z1 q hQ
  subst l1 y1 z1
  exact w.1 _ _ (fun t z => q.trans z) (k v T' _ ⟨_, Y', Fr.app N NL, rfl⟩ hQ)
theorem callP (w : Wk p l e R s m args below meth c n0 Z own nm bc ml rt Q G) (X : Sd p l e R s m args below meth c n0 T h cells slots) {y : MethodName} {ybc : ByteArray} {yml : Nat} {yrt : Option FieldType} {rm : Room} {i : Nat} {sk : List Value} {Qy : Option Value → Heap → Prop} {a : Addr} (av : List Value) (w1 : (Cond.methodLink own i y).before a0 Z = true) (w6 : (Cond.instanceMethod y).before a0 Z = true) (hnf : NotFace s y) (w7 : (Cond.privateMethod y).before a0 Z = true) (w3 : (Cond.initialized y.cls).before a0 Z = true) (w4 : (Cond.code y ybc yml yrt).before a0 Z = true) (hy : y.cls ≠ "java/lang/invoke/MethodHandle" ∧ y.cls ≠ "java/lang/invoke/VarHandle") {C : String} (E : Exa Z h a C) (hM : Met l Z y ybc yml yrt [] rm (.ref a :: av).toArray h n0 Qy) (hd : decode bc pc = .ok (.invokevirtual i, 3)) (pc' : Nat) (hp : pc + 3 = pc') (Wd : Nat) (hfr : rm.frames + 1 ≤ R.frames) (hlo : Wd + (yml + 11) + rm.locals ≤ R.locals) (hlen : ∀ sig, parseMethodDescriptor y.desc = some sig → av.length = sig.parameters.length) (hst : sk = av.reverse ++ .ref a :: st) (hW : (st.map fun v => v.category).sum ≤ Wd) (hsz : ls.size = ml) (hc : cells + rm.cells ≤ R.cells) (hs : slots + rm.slots ≤ R.slots) (k : ∀ (v : Option Value) (T' : State) (h' : Heap), Sd p l e R s m args below meth c n0 T' h' (cells + rm.cells) (slots + rm.slots) → Qy v h' → G (T'.setTop (mkF m pc' ls (v.toList ++ st)))) : G (T.setTop (mkF m pc ls sk)) := by
  obtain ⟨locs, Y, N, eT⟩ := X
  subst hp hst
  have hZ := w.2.2.2.2.1
  obtain ⟨cq, qa, qc⟩ := E.cell
  obtain ⟨v, _, ⟨T', L', k', n'⟩, -, Y', ⟨Lc, ⟨hQ, NL⟩, l1, y1, z1⟩, q⟩ := privB Y w.2.1 (y := y) w.2.2.2.2.2.1 (mvT hZ w1) (mvT hZ w6) hnf (Cond.privateMethod_at (mvP hZ w7 (args := #[]))) (mvT hZ w4) hy (backOf (W := Wd) (Q := fun v h' L => Qy v h' ∧ Fr n0 L) hM hZ w4 w3 hfr hlo) (g := mkF m pc ls (av.reverse ++ .ref a :: st)) rfl (hsz.trans w.2.2.2.1.symm) (Steps.refl _) (a := a) (by rw [eT]; exact qa) qc (argsL := av) (rest := st) hlen rfl (by show 2 * 0 + _ ≤ _; omega) (hb w.2.2.1 hd) (fun _ _ => ⟨rfl, eT, hc, hs⟩)
  dsimp only [Pt.U, Pt.locs, Pt.cells, Pt.slots] at Y' l1 y1 z1 q hQ
  subst l1 y1 z1
  exact w.1 _ _ (fun t z => q.trans z) (k v T' _ ⟨_, Y', Fr.app N NL, rfl⟩ hQ)
theorem callSI (w : Wk p l e R s m args below meth c n0 Z own nm bc ml rt Q G) (X : Sd p l e R s m args below meth c n0 T h cells slots) {y : MethodName} {ybc : ByteArray} {yml : Nat} {yrt : Option FieldType} {rm : Room} {i : Nat} {sk : List Value} {P : Int32 → Heap → Prop}  (av : List Value) (w1 : (Cond.methodLink own i y).before a0 Z = true) (w2 : (Cond.static y).before a0 Z = true) (w3 : (Cond.initialized y.cls).before a0 Z = true) (w4 : (Cond.code y ybc yml yrt).before a0 Z = true) (hy : y.cls ≠ "java/lang/invoke/MethodHandle" ∧ y.cls ≠ "java/lang/invoke/VarHandle") (hM : Met l Z y ybc yml yrt [] rm av.toArray h n0 (RI P)) (hd : decode bc pc = .ok (.invokestatic i, 3)) (pc' : Nat) (hp : pc + 3 = pc') (Wd : Nat) (hfr : rm.frames + 1 ≤ R.frames) (hlo : Wd + (yml + 11) + rm.locals ≤ R.locals) (hlen : ∀ sig, parseMethodDescriptor y.desc = some sig → av.length = sig.parameters.length) (hst : sk = av.reverse ++ st) (hW : (st.map fun v => v.category).sum ≤ Wd) (hsz : ls.size = ml) (hc : cells + rm.cells ≤ R.cells) (hs : slots + rm.slots ≤ R.slots) (k : ∀ (r : Int32) (T' : State) (h' : Heap), Sd p l e R s m args below meth c n0 T' h' (cells + rm.cells) (slots + rm.slots) → P r h' → G (T'.setTop (mkF m pc' ls (.int r :: st)))) : G (T.setTop (mkF m pc ls sk)) := by
  refine callS w X av w1 w2 w3 w4 hy hM hd pc' hp Wd hfr hlo hlen hst hW hsz hc hs (fun v T' h' Y hq => ?_)
  obtain ⟨r, rfl, hr⟩ := hq
  exact k r T' h' Y hr
theorem callSPI (w : Wk p l e R s m args below meth c n0 Z own nm bc ml rt Q G) (X : Sd p l e R s m args below meth c n0 T h cells slots) {y : MethodName} {ybc : ByteArray} {yml : Nat} {yrt : Option FieldType} {rm : Room} {i : Nat} {sk : List Value} {P : Int32 → Prop}  (av : List Value) (w1 : (Cond.methodLink own i y).before a0 Z = true) (w2 : (Cond.static y).before a0 Z = true) (w3 : (Cond.initialized y.cls).before a0 Z = true) (w4 : (Cond.code y ybc yml yrt).before a0 Z = true) (hy : y.cls ≠ "java/lang/invoke/MethodHandle" ∧ y.cls ≠ "java/lang/invoke/VarHandle") (hM : Met l Z y ybc yml yrt [] rm av.toArray h n0 (RI fun r h' => h' = h ∧ P r)) (hd : decode bc pc = .ok (.invokestatic i, 3)) (pc' : Nat) (hp : pc + 3 = pc') (Wd : Nat) (hfr : rm.frames + 1 ≤ R.frames) (hlo : Wd + (yml + 11) + rm.locals ≤ R.locals) (hlen : ∀ sig, parseMethodDescriptor y.desc = some sig → av.length = sig.parameters.length) (hst : sk = av.reverse ++ st) (hW : (st.map fun v => v.category).sum ≤ Wd) (hsz : ls.size = ml) (hc : cells + rm.cells ≤ R.cells) (hs : slots + rm.slots ≤ R.slots) (k : ∀ (r : Int32) (T' : State), Sd p l e R s m args below meth c n0 T' h (cells + rm.cells) (slots + rm.slots) → P r → G (T'.setTop (mkF m pc' ls (.int r :: st)))) : G (T.setTop (mkF m pc ls sk)) := by
  refine callSI w X av w1 w2 w3 w4 hy hM hd pc' hp Wd hfr hlo hlen hst hW hsz hc hs (fun r T' h' Y hq => ?_)
  obtain ⟨q, hr⟩ := hq
  subst q
  exact k r T' Y hr
theorem callSJ (w : Wk p l e R s m args below meth c n0 Z own nm bc ml rt Q G) (X : Sd p l e R s m args below meth c n0 T h cells slots) {y : MethodName} {ybc : ByteArray} {yml : Nat} {yrt : Option FieldType} {rm : Room} {i : Nat} {sk : List Value} {P : Int64 → Heap → Prop}  (av : List Value) (w1 : (Cond.methodLink own i y).before a0 Z = true) (w2 : (Cond.static y).before a0 Z = true) (w3 : (Cond.initialized y.cls).before a0 Z = true) (w4 : (Cond.code y ybc yml yrt).before a0 Z = true) (hy : y.cls ≠ "java/lang/invoke/MethodHandle" ∧ y.cls ≠ "java/lang/invoke/VarHandle") (hM : Met l Z y ybc yml yrt [] rm av.toArray h n0 (RJ P)) (hd : decode bc pc = .ok (.invokestatic i, 3)) (pc' : Nat) (hp : pc + 3 = pc') (Wd : Nat) (hfr : rm.frames + 1 ≤ R.frames) (hlo : Wd + (yml + 11) + rm.locals ≤ R.locals) (hlen : ∀ sig, parseMethodDescriptor y.desc = some sig → av.length = sig.parameters.length) (hst : sk = av.reverse ++ st) (hW : (st.map fun v => v.category).sum ≤ Wd) (hsz : ls.size = ml) (hc : cells + rm.cells ≤ R.cells) (hs : slots + rm.slots ≤ R.slots) (k : ∀ (r : Int64) (T' : State) (h' : Heap), Sd p l e R s m args below meth c n0 T' h' (cells + rm.cells) (slots + rm.slots) → P r h' → G (T'.setTop (mkF m pc' ls (.long r :: st)))) : G (T.setTop (mkF m pc ls sk)) := by
  refine callS w X av w1 w2 w3 w4 hy hM hd pc' hp Wd hfr hlo hlen hst hW hsz hc hs (fun v T' h' Y hq => ?_)
  obtain ⟨r, rfl, hr⟩ := hq
  exact k r T' h' Y hr
theorem callSPJ (w : Wk p l e R s m args below meth c n0 Z own nm bc ml rt Q G) (X : Sd p l e R s m args below meth c n0 T h cells slots) {y : MethodName} {ybc : ByteArray} {yml : Nat} {yrt : Option FieldType} {rm : Room} {i : Nat} {sk : List Value} {P : Int64 → Prop}  (av : List Value) (w1 : (Cond.methodLink own i y).before a0 Z = true) (w2 : (Cond.static y).before a0 Z = true) (w3 : (Cond.initialized y.cls).before a0 Z = true) (w4 : (Cond.code y ybc yml yrt).before a0 Z = true) (hy : y.cls ≠ "java/lang/invoke/MethodHandle" ∧ y.cls ≠ "java/lang/invoke/VarHandle") (hM : Met l Z y ybc yml yrt [] rm av.toArray h n0 (RJ fun r h' => h' = h ∧ P r)) (hd : decode bc pc = .ok (.invokestatic i, 3)) (pc' : Nat) (hp : pc + 3 = pc') (Wd : Nat) (hfr : rm.frames + 1 ≤ R.frames) (hlo : Wd + (yml + 11) + rm.locals ≤ R.locals) (hlen : ∀ sig, parseMethodDescriptor y.desc = some sig → av.length = sig.parameters.length) (hst : sk = av.reverse ++ st) (hW : (st.map fun v => v.category).sum ≤ Wd) (hsz : ls.size = ml) (hc : cells + rm.cells ≤ R.cells) (hs : slots + rm.slots ≤ R.slots) (k : ∀ (r : Int64) (T' : State), Sd p l e R s m args below meth c n0 T' h (cells + rm.cells) (slots + rm.slots) → P r → G (T'.setTop (mkF m pc' ls (.long r :: st)))) : G (T.setTop (mkF m pc ls sk)) := by
  refine callSJ w X av w1 w2 w3 w4 hy hM hd pc' hp Wd hfr hlo hlen hst hW hsz hc hs (fun r T' h' Y hq => ?_)
  obtain ⟨q, hr⟩ := hq
  subst q
  exact k r T' Y hr
theorem callSR (w : Wk p l e R s m args below meth c n0 Z own nm bc ml rt Q G) (X : Sd p l e R s m args below meth c n0 T h cells slots) {y : MethodName} {ybc : ByteArray} {yml : Nat} {yrt : Option FieldType} {rm : Room} {i : Nat} {sk : List Value} {P : Value → Heap → Prop}  (av : List Value) (w1 : (Cond.methodLink own i y).before a0 Z = true) (w2 : (Cond.static y).before a0 Z = true) (w3 : (Cond.initialized y.cls).before a0 Z = true) (w4 : (Cond.code y ybc yml yrt).before a0 Z = true) (hy : y.cls ≠ "java/lang/invoke/MethodHandle" ∧ y.cls ≠ "java/lang/invoke/VarHandle") (hM : Met l Z y ybc yml yrt [] rm av.toArray h n0 (RR P)) (hd : decode bc pc = .ok (.invokestatic i, 3)) (pc' : Nat) (hp : pc + 3 = pc') (Wd : Nat) (hfr : rm.frames + 1 ≤ R.frames) (hlo : Wd + (yml + 11) + rm.locals ≤ R.locals) (hlen : ∀ sig, parseMethodDescriptor y.desc = some sig → av.length = sig.parameters.length) (hst : sk = av.reverse ++ st) (hW : (st.map fun v => v.category).sum ≤ Wd) (hsz : ls.size = ml) (hc : cells + rm.cells ≤ R.cells) (hs : slots + rm.slots ≤ R.slots) (k : ∀ (r : Value) (T' : State) (h' : Heap), Sd p l e R s m args below meth c n0 T' h' (cells + rm.cells) (slots + rm.slots) → P r h' → G (T'.setTop (mkF m pc' ls (r :: st)))) : G (T.setTop (mkF m pc ls sk)) := by
  refine callS w X av w1 w2 w3 w4 hy hM hd pc' hp Wd hfr hlo hlen hst hW hsz hc hs (fun v T' h' Y hq => ?_)
  obtain ⟨r, rfl, hr⟩ := hq
  exact k r T' h' Y hr
theorem callSPR (w : Wk p l e R s m args below meth c n0 Z own nm bc ml rt Q G) (X : Sd p l e R s m args below meth c n0 T h cells slots) {y : MethodName} {ybc : ByteArray} {yml : Nat} {yrt : Option FieldType} {rm : Room} {i : Nat} {sk : List Value} {P : Value → Prop}  (av : List Value) (w1 : (Cond.methodLink own i y).before a0 Z = true) (w2 : (Cond.static y).before a0 Z = true) (w3 : (Cond.initialized y.cls).before a0 Z = true) (w4 : (Cond.code y ybc yml yrt).before a0 Z = true) (hy : y.cls ≠ "java/lang/invoke/MethodHandle" ∧ y.cls ≠ "java/lang/invoke/VarHandle") (hM : Met l Z y ybc yml yrt [] rm av.toArray h n0 (RR fun r h' => h' = h ∧ P r)) (hd : decode bc pc = .ok (.invokestatic i, 3)) (pc' : Nat) (hp : pc + 3 = pc') (Wd : Nat) (hfr : rm.frames + 1 ≤ R.frames) (hlo : Wd + (yml + 11) + rm.locals ≤ R.locals) (hlen : ∀ sig, parseMethodDescriptor y.desc = some sig → av.length = sig.parameters.length) (hst : sk = av.reverse ++ st) (hW : (st.map fun v => v.category).sum ≤ Wd) (hsz : ls.size = ml) (hc : cells + rm.cells ≤ R.cells) (hs : slots + rm.slots ≤ R.slots) (k : ∀ (r : Value) (T' : State), Sd p l e R s m args below meth c n0 T' h (cells + rm.cells) (slots + rm.slots) → P r → G (T'.setTop (mkF m pc' ls (r :: st)))) : G (T.setTop (mkF m pc ls sk)) := by
  refine callSR w X av w1 w2 w3 w4 hy hM hd pc' hp Wd hfr hlo hlen hst hW hsz hc hs (fun r T' h' Y hq => ?_)
  obtain ⟨q, hr⟩ := hq
  subst q
  exact k r T' Y hr
theorem callSV (w : Wk p l e R s m args below meth c n0 Z own nm bc ml rt Q G) (X : Sd p l e R s m args below meth c n0 T h cells slots) {y : MethodName} {ybc : ByteArray} {yml : Nat} {yrt : Option FieldType} {rm : Room} {i : Nat} {sk : List Value} {P : Heap → Prop}  (av : List Value) (w1 : (Cond.methodLink own i y).before a0 Z = true) (w2 : (Cond.static y).before a0 Z = true) (w3 : (Cond.initialized y.cls).before a0 Z = true) (w4 : (Cond.code y ybc yml yrt).before a0 Z = true) (hy : y.cls ≠ "java/lang/invoke/MethodHandle" ∧ y.cls ≠ "java/lang/invoke/VarHandle") (hM : Met l Z y ybc yml yrt [] rm av.toArray h n0 (RV P)) (hd : decode bc pc = .ok (.invokestatic i, 3)) (pc' : Nat) (hp : pc + 3 = pc') (Wd : Nat) (hfr : rm.frames + 1 ≤ R.frames) (hlo : Wd + (yml + 11) + rm.locals ≤ R.locals) (hlen : ∀ sig, parseMethodDescriptor y.desc = some sig → av.length = sig.parameters.length) (hst : sk = av.reverse ++ st) (hW : (st.map fun v => v.category).sum ≤ Wd) (hsz : ls.size = ml) (hc : cells + rm.cells ≤ R.cells) (hs : slots + rm.slots ≤ R.slots) (k : ∀  (T' : State) (h' : Heap), Sd p l e R s m args below meth c n0 T' h' (cells + rm.cells) (slots + rm.slots) → P h' → G (T'.setTop (mkF m pc' ls (st)))) : G (T.setTop (mkF m pc ls sk)) := by
  refine callS w X av w1 w2 w3 w4 hy hM hd pc' hp Wd hfr hlo hlen hst hW hsz hc hs (fun v T' h' Y hq => ?_)
  obtain ⟨rfl, hr⟩ := hq
  exact k T' h' Y hr
theorem callSPV (w : Wk p l e R s m args below meth c n0 Z own nm bc ml rt Q G) (X : Sd p l e R s m args below meth c n0 T h cells slots) {y : MethodName} {ybc : ByteArray} {yml : Nat} {yrt : Option FieldType} {rm : Room} {i : Nat} {sk : List Value}  (av : List Value) (w1 : (Cond.methodLink own i y).before a0 Z = true) (w2 : (Cond.static y).before a0 Z = true) (w3 : (Cond.initialized y.cls).before a0 Z = true) (w4 : (Cond.code y ybc yml yrt).before a0 Z = true) (hy : y.cls ≠ "java/lang/invoke/MethodHandle" ∧ y.cls ≠ "java/lang/invoke/VarHandle") (hM : Met l Z y ybc yml yrt [] rm av.toArray h n0 (RV fun h' => h' = h)) (hd : decode bc pc = .ok (.invokestatic i, 3)) (pc' : Nat) (hp : pc + 3 = pc') (Wd : Nat) (hfr : rm.frames + 1 ≤ R.frames) (hlo : Wd + (yml + 11) + rm.locals ≤ R.locals) (hlen : ∀ sig, parseMethodDescriptor y.desc = some sig → av.length = sig.parameters.length) (hst : sk = av.reverse ++ st) (hW : (st.map fun v => v.category).sum ≤ Wd) (hsz : ls.size = ml) (hc : cells + rm.cells ≤ R.cells) (hs : slots + rm.slots ≤ R.slots) (k : ∀ (T' : State), Sd p l e R s m args below meth c n0 T' h (cells + rm.cells) (slots + rm.slots) → G (T'.setTop (mkF m pc' ls st))) : G (T.setTop (mkF m pc ls sk)) := by
  refine callSV w X av w1 w2 w3 w4 hy hM hd pc' hp Wd hfr hlo hlen hst hW hsz hc hs (fun T' h' Y hq => ?_)
  subst hq
  exact k T' Y
theorem callNV (w : Wk p l e R s m args below meth c n0 Z own nm bc ml rt Q G) (X : Sd p l e R s m args below meth c n0 T h cells slots) {y : MethodName} {ybc : ByteArray} {yml : Nat} {rm : Room} {i : Nat} {sk : List Value} {P : Heap → Prop} {a : Addr} (av : List Value) (w1 : (Cond.methodLink own i y).before a0 Z = true) (w2 : (Cond.instanceMethod y).before a0 Z = true) (w3 : (Cond.initialized y.cls).before a0 Z = true) (w4 : (Cond.code y ybc yml none).before a0 Z = true) (hi : y.name = "<init>") (hy : y.cls ≠ "java/lang/invoke/MethodHandle" ∧ y.cls ≠ "java/lang/invoke/VarHandle") (hM : Met l Z y ybc yml none [] rm (.ref a :: av).toArray h n0 (RV P)) (hd : decode bc pc = .ok (.invokespecial i, 3)) (pc' : Nat) (hp : pc + 3 = pc') (Wd : Nat) (hfr : rm.frames + 1 ≤ R.frames) (hlo : Wd + (yml + 11) + rm.locals ≤ R.locals) (hlen : ∀ sig, parseMethodDescriptor y.desc = some sig → av.length = sig.parameters.length) (hst : sk = av.reverse ++ .ref a :: st) (hW : (st.map fun v => v.category).sum ≤ Wd) (hsz : ls.size = ml) (hc : cells + rm.cells ≤ R.cells) (hs : slots + rm.slots ≤ R.slots) (k : ∀  (T' : State) (h' : Heap), Sd p l e R s m args below meth c n0 T' h' (cells + rm.cells) (slots + rm.slots) → P h' → G (T'.setTop (mkF m pc' ls (st)))) : G (T.setTop (mkF m pc ls sk)) := by
  refine callN w X av w1 w2 w3 w4 hi hy hM hd pc' hp Wd hfr hlo hlen hst hW hsz hc hs (fun v T' h' Y hq => ?_)
  obtain ⟨rfl, hr⟩ := hq
  exact k T' h' Y hr
theorem callNPV (w : Wk p l e R s m args below meth c n0 Z own nm bc ml rt Q G) (X : Sd p l e R s m args below meth c n0 T h cells slots) {y : MethodName} {ybc : ByteArray} {yml : Nat} {rm : Room} {i : Nat} {sk : List Value} {a : Addr} (av : List Value) (w1 : (Cond.methodLink own i y).before a0 Z = true) (w2 : (Cond.instanceMethod y).before a0 Z = true) (w3 : (Cond.initialized y.cls).before a0 Z = true) (w4 : (Cond.code y ybc yml none).before a0 Z = true) (hi : y.name = "<init>") (hy : y.cls ≠ "java/lang/invoke/MethodHandle" ∧ y.cls ≠ "java/lang/invoke/VarHandle") (hM : Met l Z y ybc yml none [] rm (.ref a :: av).toArray h n0 (RV fun h' => h' = h)) (hd : decode bc pc = .ok (.invokespecial i, 3)) (pc' : Nat) (hp : pc + 3 = pc') (Wd : Nat) (hfr : rm.frames + 1 ≤ R.frames) (hlo : Wd + (yml + 11) + rm.locals ≤ R.locals) (hlen : ∀ sig, parseMethodDescriptor y.desc = some sig → av.length = sig.parameters.length) (hst : sk = av.reverse ++ .ref a :: st) (hW : (st.map fun v => v.category).sum ≤ Wd) (hsz : ls.size = ml) (hc : cells + rm.cells ≤ R.cells) (hs : slots + rm.slots ≤ R.slots) (k : ∀ (T' : State), Sd p l e R s m args below meth c n0 T' h (cells + rm.cells) (slots + rm.slots) → G (T'.setTop (mkF m pc' ls st))) : G (T.setTop (mkF m pc ls sk)) := by
  refine callNV w X av w1 w2 w3 w4 hi hy hM hd pc' hp Wd hfr hlo hlen hst hW hsz hc hs (fun T' h' Y hq => ?_)
  subst hq
  exact k T' Y
theorem callVI (w : Wk p l e R s m args below meth c n0 Z own nm bc ml rt Q G) (X : Sd p l e R s m args below meth c n0 T h cells slots) {y z : MethodName} {ybc : ByteArray} {yml : Nat} {yrt : Option FieldType} {rm : Room} {i : Nat} {sk : List Value} {P : Int32 → Heap → Prop} {a : Addr} {C : String} (av : List Value) (w1 : (Cond.methodLink own i y).before a0 Z = true) (w2 : (Cond.declares y).before a0 Z = true) (hnf : NotFace s y) (w5 : (Cond.selects C y z).before a0 Z = true) (w6 : (Cond.instanceMethod z).before a0 Z = true) (w3 : (Cond.initialized z.cls).before a0 Z = true) (w4 : (Cond.code z ybc yml yrt).before a0 Z = true) (hy : y.cls ≠ "java/lang/invoke/MethodHandle" ∧ y.cls ≠ "java/lang/invoke/VarHandle") (E : Exa Z h a C) (hM : Met l Z z ybc yml yrt [] rm (.ref a :: av).toArray h n0 (RI P)) (hd : decode bc pc = .ok (.invokevirtual i, 3)) (pc' : Nat) (hp : pc + 3 = pc') (Wd : Nat) (hfr : rm.frames + 1 ≤ R.frames) (hlo : Wd + (yml + 11) + rm.locals ≤ R.locals) (hlen : ∀ sig, parseMethodDescriptor y.desc = some sig → av.length = sig.parameters.length) (hst : sk = av.reverse ++ .ref a :: st) (hW : (st.map fun v => v.category).sum ≤ Wd) (hsz : ls.size = ml) (hc : cells + rm.cells ≤ R.cells) (hs : slots + rm.slots ≤ R.slots) (k : ∀ (r : Int32) (T' : State) (h' : Heap), Sd p l e R s m args below meth c n0 T' h' (cells + rm.cells) (slots + rm.slots) → P r h' → G (T'.setTop (mkF m pc' ls (.int r :: st)))) : G (T.setTop (mkF m pc ls sk)) := by
  refine callV w X av w1 w2 hnf w5 w6 w3 w4 hy E hM hd pc' hp Wd hfr hlo hlen hst hW hsz hc hs (fun v T' h' Y hq => ?_)
  obtain ⟨r, rfl, hr⟩ := hq
  exact k r T' h' Y hr
theorem callVPI (w : Wk p l e R s m args below meth c n0 Z own nm bc ml rt Q G) (X : Sd p l e R s m args below meth c n0 T h cells slots) {y z : MethodName} {ybc : ByteArray} {yml : Nat} {yrt : Option FieldType} {rm : Room} {i : Nat} {sk : List Value} {P : Int32 → Prop} {a : Addr} {C : String} (av : List Value) (w1 : (Cond.methodLink own i y).before a0 Z = true) (w2 : (Cond.declares y).before a0 Z = true) (hnf : NotFace s y) (w5 : (Cond.selects C y z).before a0 Z = true) (w6 : (Cond.instanceMethod z).before a0 Z = true) (w3 : (Cond.initialized z.cls).before a0 Z = true) (w4 : (Cond.code z ybc yml yrt).before a0 Z = true) (hy : y.cls ≠ "java/lang/invoke/MethodHandle" ∧ y.cls ≠ "java/lang/invoke/VarHandle") (E : Exa Z h a C) (hM : Met l Z z ybc yml yrt [] rm (.ref a :: av).toArray h n0 (RI fun r h' => h' = h ∧ P r)) (hd : decode bc pc = .ok (.invokevirtual i, 3)) (pc' : Nat) (hp : pc + 3 = pc') (Wd : Nat) (hfr : rm.frames + 1 ≤ R.frames) (hlo : Wd + (yml + 11) + rm.locals ≤ R.locals) (hlen : ∀ sig, parseMethodDescriptor y.desc = some sig → av.length = sig.parameters.length) (hst : sk = av.reverse ++ .ref a :: st) (hW : (st.map fun v => v.category).sum ≤ Wd) (hsz : ls.size = ml) (hc : cells + rm.cells ≤ R.cells) (hs : slots + rm.slots ≤ R.slots) (k : ∀ (r : Int32) (T' : State), Sd p l e R s m args below meth c n0 T' h (cells + rm.cells) (slots + rm.slots) → P r → G (T'.setTop (mkF m pc' ls (.int r :: st)))) : G (T.setTop (mkF m pc ls sk)) := by
  refine callVI w X av w1 w2 hnf w5 w6 w3 w4 hy E hM hd pc' hp Wd hfr hlo hlen hst hW hsz hc hs (fun r T' h' Y hq => ?_)
  obtain ⟨q, hr⟩ := hq
  subst q
  exact k r T' Y hr
theorem callVJ (w : Wk p l e R s m args below meth c n0 Z own nm bc ml rt Q G) (X : Sd p l e R s m args below meth c n0 T h cells slots) {y z : MethodName} {ybc : ByteArray} {yml : Nat} {yrt : Option FieldType} {rm : Room} {i : Nat} {sk : List Value} {P : Int64 → Heap → Prop} {a : Addr} {C : String} (av : List Value) (w1 : (Cond.methodLink own i y).before a0 Z = true) (w2 : (Cond.declares y).before a0 Z = true) (hnf : NotFace s y) (w5 : (Cond.selects C y z).before a0 Z = true) (w6 : (Cond.instanceMethod z).before a0 Z = true) (w3 : (Cond.initialized z.cls).before a0 Z = true) (w4 : (Cond.code z ybc yml yrt).before a0 Z = true) (hy : y.cls ≠ "java/lang/invoke/MethodHandle" ∧ y.cls ≠ "java/lang/invoke/VarHandle") (E : Exa Z h a C) (hM : Met l Z z ybc yml yrt [] rm (.ref a :: av).toArray h n0 (RJ P)) (hd : decode bc pc = .ok (.invokevirtual i, 3)) (pc' : Nat) (hp : pc + 3 = pc') (Wd : Nat) (hfr : rm.frames + 1 ≤ R.frames) (hlo : Wd + (yml + 11) + rm.locals ≤ R.locals) (hlen : ∀ sig, parseMethodDescriptor y.desc = some sig → av.length = sig.parameters.length) (hst : sk = av.reverse ++ .ref a :: st) (hW : (st.map fun v => v.category).sum ≤ Wd) (hsz : ls.size = ml) (hc : cells + rm.cells ≤ R.cells) (hs : slots + rm.slots ≤ R.slots) (k : ∀ (r : Int64) (T' : State) (h' : Heap), Sd p l e R s m args below meth c n0 T' h' (cells + rm.cells) (slots + rm.slots) → P r h' → G (T'.setTop (mkF m pc' ls (.long r :: st)))) : G (T.setTop (mkF m pc ls sk)) := by
  refine callV w X av w1 w2 hnf w5 w6 w3 w4 hy E hM hd pc' hp Wd hfr hlo hlen hst hW hsz hc hs (fun v T' h' Y hq => ?_)
  obtain ⟨r, rfl, hr⟩ := hq
  exact k r T' h' Y hr
theorem callVPJ (w : Wk p l e R s m args below meth c n0 Z own nm bc ml rt Q G) (X : Sd p l e R s m args below meth c n0 T h cells slots) {y z : MethodName} {ybc : ByteArray} {yml : Nat} {yrt : Option FieldType} {rm : Room} {i : Nat} {sk : List Value} {P : Int64 → Prop} {a : Addr} {C : String} (av : List Value) (w1 : (Cond.methodLink own i y).before a0 Z = true) (w2 : (Cond.declares y).before a0 Z = true) (hnf : NotFace s y) (w5 : (Cond.selects C y z).before a0 Z = true) (w6 : (Cond.instanceMethod z).before a0 Z = true) (w3 : (Cond.initialized z.cls).before a0 Z = true) (w4 : (Cond.code z ybc yml yrt).before a0 Z = true) (hy : y.cls ≠ "java/lang/invoke/MethodHandle" ∧ y.cls ≠ "java/lang/invoke/VarHandle") (E : Exa Z h a C) (hM : Met l Z z ybc yml yrt [] rm (.ref a :: av).toArray h n0 (RJ fun r h' => h' = h ∧ P r)) (hd : decode bc pc = .ok (.invokevirtual i, 3)) (pc' : Nat) (hp : pc + 3 = pc') (Wd : Nat) (hfr : rm.frames + 1 ≤ R.frames) (hlo : Wd + (yml + 11) + rm.locals ≤ R.locals) (hlen : ∀ sig, parseMethodDescriptor y.desc = some sig → av.length = sig.parameters.length) (hst : sk = av.reverse ++ .ref a :: st) (hW : (st.map fun v => v.category).sum ≤ Wd) (hsz : ls.size = ml) (hc : cells + rm.cells ≤ R.cells) (hs : slots + rm.slots ≤ R.slots) (k : ∀ (r : Int64) (T' : State), Sd p l e R s m args below meth c n0 T' h (cells + rm.cells) (slots + rm.slots) → P r → G (T'.setTop (mkF m pc' ls (.long r :: st)))) : G (T.setTop (mkF m pc ls sk)) := by
  refine callVJ w X av w1 w2 hnf w5 w6 w3 w4 hy E hM hd pc' hp Wd hfr hlo hlen hst hW hsz hc hs (fun r T' h' Y hq => ?_)
  obtain ⟨q, hr⟩ := hq
  subst q
  exact k r T' Y hr
theorem callVR (w : Wk p l e R s m args below meth c n0 Z own nm bc ml rt Q G) (X : Sd p l e R s m args below meth c n0 T h cells slots) {y z : MethodName} {ybc : ByteArray} {yml : Nat} {yrt : Option FieldType} {rm : Room} {i : Nat} {sk : List Value} {P : Value → Heap → Prop} {a : Addr} {C : String} (av : List Value) (w1 : (Cond.methodLink own i y).before a0 Z = true) (w2 : (Cond.declares y).before a0 Z = true) (hnf : NotFace s y) (w5 : (Cond.selects C y z).before a0 Z = true) (w6 : (Cond.instanceMethod z).before a0 Z = true) (w3 : (Cond.initialized z.cls).before a0 Z = true) (w4 : (Cond.code z ybc yml yrt).before a0 Z = true) (hy : y.cls ≠ "java/lang/invoke/MethodHandle" ∧ y.cls ≠ "java/lang/invoke/VarHandle") (E : Exa Z h a C) (hM : Met l Z z ybc yml yrt [] rm (.ref a :: av).toArray h n0 (RR P)) (hd : decode bc pc = .ok (.invokevirtual i, 3)) (pc' : Nat) (hp : pc + 3 = pc') (Wd : Nat) (hfr : rm.frames + 1 ≤ R.frames) (hlo : Wd + (yml + 11) + rm.locals ≤ R.locals) (hlen : ∀ sig, parseMethodDescriptor y.desc = some sig → av.length = sig.parameters.length) (hst : sk = av.reverse ++ .ref a :: st) (hW : (st.map fun v => v.category).sum ≤ Wd) (hsz : ls.size = ml) (hc : cells + rm.cells ≤ R.cells) (hs : slots + rm.slots ≤ R.slots) (k : ∀ (r : Value) (T' : State) (h' : Heap), Sd p l e R s m args below meth c n0 T' h' (cells + rm.cells) (slots + rm.slots) → P r h' → G (T'.setTop (mkF m pc' ls (r :: st)))) : G (T.setTop (mkF m pc ls sk)) := by
  refine callV w X av w1 w2 hnf w5 w6 w3 w4 hy E hM hd pc' hp Wd hfr hlo hlen hst hW hsz hc hs (fun v T' h' Y hq => ?_)
  obtain ⟨r, rfl, hr⟩ := hq
  exact k r T' h' Y hr
theorem callVPR (w : Wk p l e R s m args below meth c n0 Z own nm bc ml rt Q G) (X : Sd p l e R s m args below meth c n0 T h cells slots) {y z : MethodName} {ybc : ByteArray} {yml : Nat} {yrt : Option FieldType} {rm : Room} {i : Nat} {sk : List Value} {P : Value → Prop} {a : Addr} {C : String} (av : List Value) (w1 : (Cond.methodLink own i y).before a0 Z = true) (w2 : (Cond.declares y).before a0 Z = true) (hnf : NotFace s y) (w5 : (Cond.selects C y z).before a0 Z = true) (w6 : (Cond.instanceMethod z).before a0 Z = true) (w3 : (Cond.initialized z.cls).before a0 Z = true) (w4 : (Cond.code z ybc yml yrt).before a0 Z = true) (hy : y.cls ≠ "java/lang/invoke/MethodHandle" ∧ y.cls ≠ "java/lang/invoke/VarHandle") (E : Exa Z h a C) (hM : Met l Z z ybc yml yrt [] rm (.ref a :: av).toArray h n0 (RR fun r h' => h' = h ∧ P r)) (hd : decode bc pc = .ok (.invokevirtual i, 3)) (pc' : Nat) (hp : pc + 3 = pc') (Wd : Nat) (hfr : rm.frames + 1 ≤ R.frames) (hlo : Wd + (yml + 11) + rm.locals ≤ R.locals) (hlen : ∀ sig, parseMethodDescriptor y.desc = some sig → av.length = sig.parameters.length) (hst : sk = av.reverse ++ .ref a :: st) (hW : (st.map fun v => v.category).sum ≤ Wd) (hsz : ls.size = ml) (hc : cells + rm.cells ≤ R.cells) (hs : slots + rm.slots ≤ R.slots) (k : ∀ (r : Value) (T' : State), Sd p l e R s m args below meth c n0 T' h (cells + rm.cells) (slots + rm.slots) → P r → G (T'.setTop (mkF m pc' ls (r :: st)))) : G (T.setTop (mkF m pc ls sk)) := by
  refine callVR w X av w1 w2 hnf w5 w6 w3 w4 hy E hM hd pc' hp Wd hfr hlo hlen hst hW hsz hc hs (fun r T' h' Y hq => ?_)
  obtain ⟨q, hr⟩ := hq
  subst q
  exact k r T' Y hr
theorem callVV (w : Wk p l e R s m args below meth c n0 Z own nm bc ml rt Q G) (X : Sd p l e R s m args below meth c n0 T h cells slots) {y z : MethodName} {ybc : ByteArray} {yml : Nat} {yrt : Option FieldType} {rm : Room} {i : Nat} {sk : List Value} {P : Heap → Prop} {a : Addr} {C : String} (av : List Value) (w1 : (Cond.methodLink own i y).before a0 Z = true) (w2 : (Cond.declares y).before a0 Z = true) (hnf : NotFace s y) (w5 : (Cond.selects C y z).before a0 Z = true) (w6 : (Cond.instanceMethod z).before a0 Z = true) (w3 : (Cond.initialized z.cls).before a0 Z = true) (w4 : (Cond.code z ybc yml yrt).before a0 Z = true) (hy : y.cls ≠ "java/lang/invoke/MethodHandle" ∧ y.cls ≠ "java/lang/invoke/VarHandle") (E : Exa Z h a C) (hM : Met l Z z ybc yml yrt [] rm (.ref a :: av).toArray h n0 (RV P)) (hd : decode bc pc = .ok (.invokevirtual i, 3)) (pc' : Nat) (hp : pc + 3 = pc') (Wd : Nat) (hfr : rm.frames + 1 ≤ R.frames) (hlo : Wd + (yml + 11) + rm.locals ≤ R.locals) (hlen : ∀ sig, parseMethodDescriptor y.desc = some sig → av.length = sig.parameters.length) (hst : sk = av.reverse ++ .ref a :: st) (hW : (st.map fun v => v.category).sum ≤ Wd) (hsz : ls.size = ml) (hc : cells + rm.cells ≤ R.cells) (hs : slots + rm.slots ≤ R.slots) (k : ∀  (T' : State) (h' : Heap), Sd p l e R s m args below meth c n0 T' h' (cells + rm.cells) (slots + rm.slots) → P h' → G (T'.setTop (mkF m pc' ls (st)))) : G (T.setTop (mkF m pc ls sk)) := by
  refine callV w X av w1 w2 hnf w5 w6 w3 w4 hy E hM hd pc' hp Wd hfr hlo hlen hst hW hsz hc hs (fun v T' h' Y hq => ?_)
  obtain ⟨rfl, hr⟩ := hq
  exact k T' h' Y hr
theorem callVPV (w : Wk p l e R s m args below meth c n0 Z own nm bc ml rt Q G) (X : Sd p l e R s m args below meth c n0 T h cells slots) {y z : MethodName} {ybc : ByteArray} {yml : Nat} {yrt : Option FieldType} {rm : Room} {i : Nat} {sk : List Value} {a : Addr} {C : String} (av : List Value) (w1 : (Cond.methodLink own i y).before a0 Z = true) (w2 : (Cond.declares y).before a0 Z = true) (hnf : NotFace s y) (w5 : (Cond.selects C y z).before a0 Z = true) (w6 : (Cond.instanceMethod z).before a0 Z = true) (w3 : (Cond.initialized z.cls).before a0 Z = true) (w4 : (Cond.code z ybc yml yrt).before a0 Z = true) (hy : y.cls ≠ "java/lang/invoke/MethodHandle" ∧ y.cls ≠ "java/lang/invoke/VarHandle") (E : Exa Z h a C) (hM : Met l Z z ybc yml yrt [] rm (.ref a :: av).toArray h n0 (RV fun h' => h' = h)) (hd : decode bc pc = .ok (.invokevirtual i, 3)) (pc' : Nat) (hp : pc + 3 = pc') (Wd : Nat) (hfr : rm.frames + 1 ≤ R.frames) (hlo : Wd + (yml + 11) + rm.locals ≤ R.locals) (hlen : ∀ sig, parseMethodDescriptor y.desc = some sig → av.length = sig.parameters.length) (hst : sk = av.reverse ++ .ref a :: st) (hW : (st.map fun v => v.category).sum ≤ Wd) (hsz : ls.size = ml) (hc : cells + rm.cells ≤ R.cells) (hs : slots + rm.slots ≤ R.slots) (k : ∀ (T' : State), Sd p l e R s m args below meth c n0 T' h (cells + rm.cells) (slots + rm.slots) → G (T'.setTop (mkF m pc' ls st))) : G (T.setTop (mkF m pc ls sk)) := by
  refine callVV w X av w1 w2 hnf w5 w6 w3 w4 hy E hM hd pc' hp Wd hfr hlo hlen hst hW hsz hc hs (fun T' h' Y hq => ?_)
  subst hq
  exact k T' Y
theorem callPI (w : Wk p l e R s m args below meth c n0 Z own nm bc ml rt Q G) (X : Sd p l e R s m args below meth c n0 T h cells slots) {y : MethodName} {ybc : ByteArray} {yml : Nat} {yrt : Option FieldType} {rm : Room} {i : Nat} {sk : List Value} {P : Int32 → Heap → Prop} {a : Addr} {C : String} (av : List Value) (w1 : (Cond.methodLink own i y).before a0 Z = true) (w6 : (Cond.instanceMethod y).before a0 Z = true) (hnf : NotFace s y) (w7 : (Cond.privateMethod y).before a0 Z = true) (w3 : (Cond.initialized y.cls).before a0 Z = true) (w4 : (Cond.code y ybc yml yrt).before a0 Z = true) (hy : y.cls ≠ "java/lang/invoke/MethodHandle" ∧ y.cls ≠ "java/lang/invoke/VarHandle") (E : Exa Z h a C) (hM : Met l Z y ybc yml yrt [] rm (.ref a :: av).toArray h n0 (RI P)) (hd : decode bc pc = .ok (.invokevirtual i, 3)) (pc' : Nat) (hp : pc + 3 = pc') (Wd : Nat) (hfr : rm.frames + 1 ≤ R.frames) (hlo : Wd + (yml + 11) + rm.locals ≤ R.locals) (hlen : ∀ sig, parseMethodDescriptor y.desc = some sig → av.length = sig.parameters.length) (hst : sk = av.reverse ++ .ref a :: st) (hW : (st.map fun v => v.category).sum ≤ Wd) (hsz : ls.size = ml) (hc : cells + rm.cells ≤ R.cells) (hs : slots + rm.slots ≤ R.slots) (k : ∀ (r : Int32) (T' : State) (h' : Heap), Sd p l e R s m args below meth c n0 T' h' (cells + rm.cells) (slots + rm.slots) → P r h' → G (T'.setTop (mkF m pc' ls (.int r :: st)))) : G (T.setTop (mkF m pc ls sk)) := by
  refine callP w X av w1 w6 hnf w7 w3 w4 hy E hM hd pc' hp Wd hfr hlo hlen hst hW hsz hc hs (fun v T' h' Y hq => ?_)
  obtain ⟨r, rfl, hr⟩ := hq
  exact k r T' h' Y hr
theorem callPPI (w : Wk p l e R s m args below meth c n0 Z own nm bc ml rt Q G) (X : Sd p l e R s m args below meth c n0 T h cells slots) {y : MethodName} {ybc : ByteArray} {yml : Nat} {yrt : Option FieldType} {rm : Room} {i : Nat} {sk : List Value} {P : Int32 → Prop} {a : Addr} {C : String} (av : List Value) (w1 : (Cond.methodLink own i y).before a0 Z = true) (w6 : (Cond.instanceMethod y).before a0 Z = true) (hnf : NotFace s y) (w7 : (Cond.privateMethod y).before a0 Z = true) (w3 : (Cond.initialized y.cls).before a0 Z = true) (w4 : (Cond.code y ybc yml yrt).before a0 Z = true) (hy : y.cls ≠ "java/lang/invoke/MethodHandle" ∧ y.cls ≠ "java/lang/invoke/VarHandle") (E : Exa Z h a C) (hM : Met l Z y ybc yml yrt [] rm (.ref a :: av).toArray h n0 (RI fun r h' => h' = h ∧ P r)) (hd : decode bc pc = .ok (.invokevirtual i, 3)) (pc' : Nat) (hp : pc + 3 = pc') (Wd : Nat) (hfr : rm.frames + 1 ≤ R.frames) (hlo : Wd + (yml + 11) + rm.locals ≤ R.locals) (hlen : ∀ sig, parseMethodDescriptor y.desc = some sig → av.length = sig.parameters.length) (hst : sk = av.reverse ++ .ref a :: st) (hW : (st.map fun v => v.category).sum ≤ Wd) (hsz : ls.size = ml) (hc : cells + rm.cells ≤ R.cells) (hs : slots + rm.slots ≤ R.slots) (k : ∀ (r : Int32) (T' : State), Sd p l e R s m args below meth c n0 T' h (cells + rm.cells) (slots + rm.slots) → P r → G (T'.setTop (mkF m pc' ls (.int r :: st)))) : G (T.setTop (mkF m pc ls sk)) := by
  refine callPI w X av w1 w6 hnf w7 w3 w4 hy E hM hd pc' hp Wd hfr hlo hlen hst hW hsz hc hs (fun r T' h' Y hq => ?_)
  obtain ⟨q, hr⟩ := hq
  subst q
  exact k r T' Y hr
theorem callPJ (w : Wk p l e R s m args below meth c n0 Z own nm bc ml rt Q G) (X : Sd p l e R s m args below meth c n0 T h cells slots) {y : MethodName} {ybc : ByteArray} {yml : Nat} {yrt : Option FieldType} {rm : Room} {i : Nat} {sk : List Value} {P : Int64 → Heap → Prop} {a : Addr} {C : String} (av : List Value) (w1 : (Cond.methodLink own i y).before a0 Z = true) (w6 : (Cond.instanceMethod y).before a0 Z = true) (hnf : NotFace s y) (w7 : (Cond.privateMethod y).before a0 Z = true) (w3 : (Cond.initialized y.cls).before a0 Z = true) (w4 : (Cond.code y ybc yml yrt).before a0 Z = true) (hy : y.cls ≠ "java/lang/invoke/MethodHandle" ∧ y.cls ≠ "java/lang/invoke/VarHandle") (E : Exa Z h a C) (hM : Met l Z y ybc yml yrt [] rm (.ref a :: av).toArray h n0 (RJ P)) (hd : decode bc pc = .ok (.invokevirtual i, 3)) (pc' : Nat) (hp : pc + 3 = pc') (Wd : Nat) (hfr : rm.frames + 1 ≤ R.frames) (hlo : Wd + (yml + 11) + rm.locals ≤ R.locals) (hlen : ∀ sig, parseMethodDescriptor y.desc = some sig → av.length = sig.parameters.length) (hst : sk = av.reverse ++ .ref a :: st) (hW : (st.map fun v => v.category).sum ≤ Wd) (hsz : ls.size = ml) (hc : cells + rm.cells ≤ R.cells) (hs : slots + rm.slots ≤ R.slots) (k : ∀ (r : Int64) (T' : State) (h' : Heap), Sd p l e R s m args below meth c n0 T' h' (cells + rm.cells) (slots + rm.slots) → P r h' → G (T'.setTop (mkF m pc' ls (.long r :: st)))) : G (T.setTop (mkF m pc ls sk)) := by
  refine callP w X av w1 w6 hnf w7 w3 w4 hy E hM hd pc' hp Wd hfr hlo hlen hst hW hsz hc hs (fun v T' h' Y hq => ?_)
  obtain ⟨r, rfl, hr⟩ := hq
  exact k r T' h' Y hr
theorem callPPJ (w : Wk p l e R s m args below meth c n0 Z own nm bc ml rt Q G) (X : Sd p l e R s m args below meth c n0 T h cells slots) {y : MethodName} {ybc : ByteArray} {yml : Nat} {yrt : Option FieldType} {rm : Room} {i : Nat} {sk : List Value} {P : Int64 → Prop} {a : Addr} {C : String} (av : List Value) (w1 : (Cond.methodLink own i y).before a0 Z = true) (w6 : (Cond.instanceMethod y).before a0 Z = true) (hnf : NotFace s y) (w7 : (Cond.privateMethod y).before a0 Z = true) (w3 : (Cond.initialized y.cls).before a0 Z = true) (w4 : (Cond.code y ybc yml yrt).before a0 Z = true) (hy : y.cls ≠ "java/lang/invoke/MethodHandle" ∧ y.cls ≠ "java/lang/invoke/VarHandle") (E : Exa Z h a C) (hM : Met l Z y ybc yml yrt [] rm (.ref a :: av).toArray h n0 (RJ fun r h' => h' = h ∧ P r)) (hd : decode bc pc = .ok (.invokevirtual i, 3)) (pc' : Nat) (hp : pc + 3 = pc') (Wd : Nat) (hfr : rm.frames + 1 ≤ R.frames) (hlo : Wd + (yml + 11) + rm.locals ≤ R.locals) (hlen : ∀ sig, parseMethodDescriptor y.desc = some sig → av.length = sig.parameters.length) (hst : sk = av.reverse ++ .ref a :: st) (hW : (st.map fun v => v.category).sum ≤ Wd) (hsz : ls.size = ml) (hc : cells + rm.cells ≤ R.cells) (hs : slots + rm.slots ≤ R.slots) (k : ∀ (r : Int64) (T' : State), Sd p l e R s m args below meth c n0 T' h (cells + rm.cells) (slots + rm.slots) → P r → G (T'.setTop (mkF m pc' ls (.long r :: st)))) : G (T.setTop (mkF m pc ls sk)) := by
  refine callPJ w X av w1 w6 hnf w7 w3 w4 hy E hM hd pc' hp Wd hfr hlo hlen hst hW hsz hc hs (fun r T' h' Y hq => ?_)
  obtain ⟨q, hr⟩ := hq
  subst q
  exact k r T' Y hr
theorem callPR (w : Wk p l e R s m args below meth c n0 Z own nm bc ml rt Q G) (X : Sd p l e R s m args below meth c n0 T h cells slots) {y : MethodName} {ybc : ByteArray} {yml : Nat} {yrt : Option FieldType} {rm : Room} {i : Nat} {sk : List Value} {P : Value → Heap → Prop} {a : Addr} {C : String} (av : List Value) (w1 : (Cond.methodLink own i y).before a0 Z = true) (w6 : (Cond.instanceMethod y).before a0 Z = true) (hnf : NotFace s y) (w7 : (Cond.privateMethod y).before a0 Z = true) (w3 : (Cond.initialized y.cls).before a0 Z = true) (w4 : (Cond.code y ybc yml yrt).before a0 Z = true) (hy : y.cls ≠ "java/lang/invoke/MethodHandle" ∧ y.cls ≠ "java/lang/invoke/VarHandle") (E : Exa Z h a C) (hM : Met l Z y ybc yml yrt [] rm (.ref a :: av).toArray h n0 (RR P)) (hd : decode bc pc = .ok (.invokevirtual i, 3)) (pc' : Nat) (hp : pc + 3 = pc') (Wd : Nat) (hfr : rm.frames + 1 ≤ R.frames) (hlo : Wd + (yml + 11) + rm.locals ≤ R.locals) (hlen : ∀ sig, parseMethodDescriptor y.desc = some sig → av.length = sig.parameters.length) (hst : sk = av.reverse ++ .ref a :: st) (hW : (st.map fun v => v.category).sum ≤ Wd) (hsz : ls.size = ml) (hc : cells + rm.cells ≤ R.cells) (hs : slots + rm.slots ≤ R.slots) (k : ∀ (r : Value) (T' : State) (h' : Heap), Sd p l e R s m args below meth c n0 T' h' (cells + rm.cells) (slots + rm.slots) → P r h' → G (T'.setTop (mkF m pc' ls (r :: st)))) : G (T.setTop (mkF m pc ls sk)) := by
  refine callP w X av w1 w6 hnf w7 w3 w4 hy E hM hd pc' hp Wd hfr hlo hlen hst hW hsz hc hs (fun v T' h' Y hq => ?_)
  obtain ⟨r, rfl, hr⟩ := hq
  exact k r T' h' Y hr
theorem callPPR (w : Wk p l e R s m args below meth c n0 Z own nm bc ml rt Q G) (X : Sd p l e R s m args below meth c n0 T h cells slots) {y : MethodName} {ybc : ByteArray} {yml : Nat} {yrt : Option FieldType} {rm : Room} {i : Nat} {sk : List Value} {P : Value → Prop} {a : Addr} {C : String} (av : List Value) (w1 : (Cond.methodLink own i y).before a0 Z = true) (w6 : (Cond.instanceMethod y).before a0 Z = true) (hnf : NotFace s y) (w7 : (Cond.privateMethod y).before a0 Z = true) (w3 : (Cond.initialized y.cls).before a0 Z = true) (w4 : (Cond.code y ybc yml yrt).before a0 Z = true) (hy : y.cls ≠ "java/lang/invoke/MethodHandle" ∧ y.cls ≠ "java/lang/invoke/VarHandle") (E : Exa Z h a C) (hM : Met l Z y ybc yml yrt [] rm (.ref a :: av).toArray h n0 (RR fun r h' => h' = h ∧ P r)) (hd : decode bc pc = .ok (.invokevirtual i, 3)) (pc' : Nat) (hp : pc + 3 = pc') (Wd : Nat) (hfr : rm.frames + 1 ≤ R.frames) (hlo : Wd + (yml + 11) + rm.locals ≤ R.locals) (hlen : ∀ sig, parseMethodDescriptor y.desc = some sig → av.length = sig.parameters.length) (hst : sk = av.reverse ++ .ref a :: st) (hW : (st.map fun v => v.category).sum ≤ Wd) (hsz : ls.size = ml) (hc : cells + rm.cells ≤ R.cells) (hs : slots + rm.slots ≤ R.slots) (k : ∀ (r : Value) (T' : State), Sd p l e R s m args below meth c n0 T' h (cells + rm.cells) (slots + rm.slots) → P r → G (T'.setTop (mkF m pc' ls (r :: st)))) : G (T.setTop (mkF m pc ls sk)) := by
  refine callPR w X av w1 w6 hnf w7 w3 w4 hy E hM hd pc' hp Wd hfr hlo hlen hst hW hsz hc hs (fun r T' h' Y hq => ?_)
  obtain ⟨q, hr⟩ := hq
  subst q
  exact k r T' Y hr
theorem callPV (w : Wk p l e R s m args below meth c n0 Z own nm bc ml rt Q G) (X : Sd p l e R s m args below meth c n0 T h cells slots) {y : MethodName} {ybc : ByteArray} {yml : Nat} {yrt : Option FieldType} {rm : Room} {i : Nat} {sk : List Value} {P : Heap → Prop} {a : Addr} {C : String} (av : List Value) (w1 : (Cond.methodLink own i y).before a0 Z = true) (w6 : (Cond.instanceMethod y).before a0 Z = true) (hnf : NotFace s y) (w7 : (Cond.privateMethod y).before a0 Z = true) (w3 : (Cond.initialized y.cls).before a0 Z = true) (w4 : (Cond.code y ybc yml yrt).before a0 Z = true) (hy : y.cls ≠ "java/lang/invoke/MethodHandle" ∧ y.cls ≠ "java/lang/invoke/VarHandle") (E : Exa Z h a C) (hM : Met l Z y ybc yml yrt [] rm (.ref a :: av).toArray h n0 (RV P)) (hd : decode bc pc = .ok (.invokevirtual i, 3)) (pc' : Nat) (hp : pc + 3 = pc') (Wd : Nat) (hfr : rm.frames + 1 ≤ R.frames) (hlo : Wd + (yml + 11) + rm.locals ≤ R.locals) (hlen : ∀ sig, parseMethodDescriptor y.desc = some sig → av.length = sig.parameters.length) (hst : sk = av.reverse ++ .ref a :: st) (hW : (st.map fun v => v.category).sum ≤ Wd) (hsz : ls.size = ml) (hc : cells + rm.cells ≤ R.cells) (hs : slots + rm.slots ≤ R.slots) (k : ∀  (T' : State) (h' : Heap), Sd p l e R s m args below meth c n0 T' h' (cells + rm.cells) (slots + rm.slots) → P h' → G (T'.setTop (mkF m pc' ls (st)))) : G (T.setTop (mkF m pc ls sk)) := by
  refine callP w X av w1 w6 hnf w7 w3 w4 hy E hM hd pc' hp Wd hfr hlo hlen hst hW hsz hc hs (fun v T' h' Y hq => ?_)
  obtain ⟨rfl, hr⟩ := hq
  exact k T' h' Y hr
theorem callPPV (w : Wk p l e R s m args below meth c n0 Z own nm bc ml rt Q G) (X : Sd p l e R s m args below meth c n0 T h cells slots) {y : MethodName} {ybc : ByteArray} {yml : Nat} {yrt : Option FieldType} {rm : Room} {i : Nat} {sk : List Value} {a : Addr} {C : String} (av : List Value) (w1 : (Cond.methodLink own i y).before a0 Z = true) (w6 : (Cond.instanceMethod y).before a0 Z = true) (hnf : NotFace s y) (w7 : (Cond.privateMethod y).before a0 Z = true) (w3 : (Cond.initialized y.cls).before a0 Z = true) (w4 : (Cond.code y ybc yml yrt).before a0 Z = true) (hy : y.cls ≠ "java/lang/invoke/MethodHandle" ∧ y.cls ≠ "java/lang/invoke/VarHandle") (E : Exa Z h a C) (hM : Met l Z y ybc yml yrt [] rm (.ref a :: av).toArray h n0 (RV fun h' => h' = h)) (hd : decode bc pc = .ok (.invokevirtual i, 3)) (pc' : Nat) (hp : pc + 3 = pc') (Wd : Nat) (hfr : rm.frames + 1 ≤ R.frames) (hlo : Wd + (yml + 11) + rm.locals ≤ R.locals) (hlen : ∀ sig, parseMethodDescriptor y.desc = some sig → av.length = sig.parameters.length) (hst : sk = av.reverse ++ .ref a :: st) (hW : (st.map fun v => v.category).sum ≤ Wd) (hsz : ls.size = ml) (hc : cells + rm.cells ≤ R.cells) (hs : slots + rm.slots ≤ R.slots) (k : ∀ (T' : State), Sd p l e R s m args below meth c n0 T' h (cells + rm.cells) (slots + rm.slots) → G (T'.setTop (mkF m pc' ls st))) : G (T.setTop (mkF m pc ls sk)) := by
  refine callPV w X av w1 w6 hnf w7 w3 w4 hy E hM hd pc' hp Wd hfr hlo hlen hst hW hsz hc hs (fun T' h' Y hq => ?_)
  subst hq
  exact k T' Y
end Law
/-! numbers, for omega -/
theorem b32 (x : Int32) : -2147483648 ≤ x.toInt ∧ x.toInt < 2147483648 := ⟨Int32.le_toInt x, Int32.toInt_lt x⟩
theorem b64 (x : Int64) : -9223372036854775808 ≤ x.toInt ∧ x.toInt < 9223372036854775808 := ⟨Int64.le_toInt x, Int64.toInt_lt x⟩
theorem k_mulR (x y : Int32) (d : Int) (hy : y.toInt = d) : ((x * y).toInt - (x.toInt * d)) % 4294967296 = 0 := by have := c_imul x y; rwa [hy] at this
theorem k_mulL (x y : Int32) (d : Int) (hx : x.toInt = d) : ((x * y).toInt - (d * y.toInt)) % 4294967296 = 0 := by have := c_imul x y; rwa [hx] at this
theorem k_mask (x m : Int32) (k : Nat) (P : Int) (hk : k ≤ 31) (hm : m.toBitVec.toNat = 2 ^ k - 1) (hP : ((2 ^ k : Nat) : Int) = P) : (x &&& m).toInt = x.toInt % P := by rw [c_mask x m k hk hm, hP]
theorem k_maskL (m x : Int32) (k : Nat) (P : Int) (hk : k ≤ 31) (hm : m.toBitVec.toNat = 2 ^ k - 1) (hP : ((2 ^ k : Nat) : Int) = P) : (m &&& x).toInt = x.toInt % P := by rw [Int32.and_comm, c_mask x m k hk hm, hP]
theorem k_mask64 (x m : Int64) (k : Nat) (P : Int) (hk : k ≤ 63) (hm : m.toBitVec.toNat = 2 ^ k - 1) (hP : ((2 ^ k : Nat) : Int) = P) : (x &&& m).toInt = x.toInt % P := by rw [c_maskL x m k hk hm, hP]
theorem k_or_and (x p q r : Int32) (h : p ||| q = r) : (x &&& p) ||| (x &&& q) = x &&& r := by
  subst h
  apply Int32.toBitVec_inj.mp
  simp only [Int32.toBitVec_or, Int32.toBitVec_and]
  apply BitVec.eq_of_getLsbD_eq
  intro i hi
  simp only [BitVec.getLsbD_or, BitVec.getLsbD_and]
  cases x.toBitVec.getLsbD i <;> simp
theorem k_field (x p q r : Int32) (k j : Nat) (P J : Int) (hpq : p ||| q = r) (h0 : p &&& q = 0) (hk : k ≤ 31) (hq : q.toBitVec.toNat = 2 ^ k - 1) (hP : ((2 ^ k : Nat) : Int) = P) (hj : j ≤ 31) (hr : r.toBitVec.toNat = 2 ^ j - 1) (hJ : ((2 ^ j : Nat) : Int) = J) (hp0 : 0 ≤ p.toInt) (hJ2 : J ≤ 1073741824) (hP1 : 1 ≤ P) (hPJ : P ≤ J) : (x &&& p).toInt = x.toInt % J - x.toInt % P := by
  have e1 : (x &&& p) &&& q = 0 := by rw [Int32.and_assoc, h0, Int32.and_zero]
  have e2 := k_mask (x &&& p) q k P hk hq hP
  rw [e1] at e2
  have e3 := k_or_and x p q r hpq
  have e4 := k_mask x q k P hk hq hP
  have e5 := k_mask x r j J hj hr hJ
  have e6 := c_or (x &&& p) (x &&& q) k hk P hP.symm
  rw [e3, e4, e5] at e6
  have e7 := c_and x p hp0
  have e8 : (0 : Int32).toInt = 0 := rfl
  rw [e8] at e2
  have m1 := Int.emod_nonneg x.toInt (show P ≠ 0 by omega)
  have m2 := Int.emod_lt_of_pos x.toInt (show (0 : Int) < P by omega)
  have m3 := Int.emod_nonneg x.toInt (show J ≠ 0 by omega)
  have m4 := Int.emod_lt_of_pos x.toInt (show (0 : Int) < J by omega)
  have e9 := e6 e2.symm m1 m2
  have b := b32 (x &&& p)
  omega
theorem k_shr (x q : Int32) (k : Nat) (P : Int) (hk : q.toBitVec.toNat % 32 = k) (hP : ((2 ^ k : Nat) : Int) = P) : (x >>> (q &&& 31)).toInt = x.toInt / P := by rw [c_ishr x q k hk, hP]
theorem k_shl (x q : Int32) (k : Nat) (P : Int) (hk : q.toBitVec.toNat % 32 = k) (hP : ((2 ^ k : Nat) : Int) = P) : ((x <<< (q &&& 31)).toInt - x.toInt * P) % 4294967296 = 0 := by have := c_ishl x q k hk; rwa [hP] at this
theorem k_ushr (x q : Int32) (k : Nat) (P : Int) (hk : q.toBitVec.toNat % 32 = k) (h0 : 0 < k) (hP : ((2 ^ k : Nat) : Int) = P) : ((x.toUInt32 >>> (q &&& 31).toUInt32).toInt32).toInt = (x.toInt % 4294967296) / P := by rw [c_iushr x q k hk h0, hP]

theorem nar_b (x : Int32) : nar .byte x.toInt8.toInt32 = x.toInt8.toInt32 := by simp [nar]
theorem lsw_eq {x v : Int32} {k : Int} (hv : v.toInt = k) (q : k = x.toInt) : x = v := Int32.toInt_inj.mp (by omega)
/-- an array of ints, bytes or chars with these elements -/
def PA (Z : State) (h : Heap) (a : Addr) (ty : FieldType) (bs : List Int32) : Prop :=
  ∃ c : Cell, Arr Z h a c ty ∧ c.slots.size = bs.length ∧ bs.length < 2147483648 ∧ (∀ i, i < bs.length → c.slots[i]? = some (.int (bs.getD i 0))) ∧ ∀ x ∈ bs, fits ty (.int x) = true
section Arrays
variable {p : Program} {l : Launch} {e : Env} {R : Room} {s : State} {m : MethodId} {args : Array Value} {below : List Frame} {meth : Method} {c : Code} {n0 : Nat} {T : State} {h h' : Heap} {cells slots : Nat} {Z : State} {a0 : Array Value} {own nm : String} {bc : ByteArray} {ml : Nat} {rt : Option FieldType} {Q : Option Value → Heap → Prop} {G : State → Prop}
variable {pc : Nat} {ls : Array Slot} {st : List Value} {a b : Addr} {ty : FieldType} {bs : List Int32} {j : Int32} {v : Value} {sl : Nat} {ws : List Addr}
theorem PA.lt (F : PA Z h a ty bs) : a < h.size := by obtain ⟨c, A, -⟩ := F; exact A.lt
theorem PA.ext (F : PA Z h a ty bs) (E : Ext h h') : PA Z h' a ty bs := by obtain ⟨c, A, r⟩ := F; exact ⟨c, A.ext E, r⟩
theorem PA.other (F : PA Z h b ty bs) (W : Wr h h' a sl v) (q : b ≠ a) : PA Z h' b ty bs := by obtain ⟨c, A, r⟩ := F; exact ⟨c, A.other W q, r⟩
theorem PA.keep (F : PA Z h a ty bs) (K : Keep h h' ws) (q : a ∉ ws) : PA Z h' a ty bs := by obtain ⟨c, A, r⟩ := F; exact ⟨c, ⟨K.2.1 a c A.1 q, A.2⟩, r⟩
theorem PA.fit (F : PA Z h a ty bs) : ∀ x ∈ bs, fits ty (.int x) = true := by obtain ⟨c, A, r⟩ := F; exact r.2.2.2
theorem PA.len (F : PA Z h a ty bs) : bs.length < 2147483648 := by obtain ⟨c, A, r⟩ := F; exact r.2.1
theorem clampI {j : Int32} (h : ¬ j < 0) : (j.toNatClampNeg : Int) = j.toInt := by
  rw [Int32.lt_iff_toInt_lt] at h
  have e0 : (0 : Int32).toInt = 0 := rfl
  simp only [Int32.toNatClampNeg]; omega
theorem PA.new {cA : ClassId} {n : Int32} (ty : FieldType) (hty : defaultValue ty = .int 0) (hf : fits ty (.int 0) = true) (k : Nat) (A : Arr Z h a (newA cA ty n) ty) (hn : n.toNatClampNeg = k) : PA Z h a ty (List.replicate k 0) := by
  refine ⟨_, A, by rw [sz_new, hn, List.length_replicate], ?_, fun i hi => ?_, fun x hx => ?_⟩
  · rw [List.length_replicate, ← hn]; have := Int32.toInt_lt n; simp only [Int32.toNatClampNeg]; omega
  · rw [List.length_replicate] at hi
    simp [newA, hn, hi, hty, List.getD_eq_getElem?_getD]
  · rw [List.eq_of_mem_replicate hx]; exact hf
theorem PA.ofL {cl : Cell} {n : Int32} (A : Arr Z h a cl ty) (hs : cl.slots.size < 2 ^ 31) (hn : cl.slots.size.toInt32 = n) (hz : n.toNatClampNeg = bs.length) (hz0 : ¬ n < 0) (H : HasL cl 0 (bs.map Value.int)) (hf : ∀ x ∈ bs, fits ty (.int x) = true) : PA Z h a ty bs := by
  have S : cl.slots.size = n.toNatClampNeg := by rw [← hn]; simp only [Int32.toNatClampNeg, len_toInt hs]; rfl
  refine ⟨cl, A, S.trans hz, by omega, fun i hi => ?_, hf⟩
  have := HasL.at (dv := .int 0) (bs.map Value.int) 0 H i (by rw [List.length_map]; exact hi)
  rw [Nat.zero_add] at this
  rw [this]
  simp [List.getD_eq_getElem?_getD, List.getElem?_map, List.getElem?_eq_getElem hi]
theorem PA.inb {c : Cell} (hlen : c.slots.size = bs.length) (h1 : ¬ j < 0) (h2 : j.toNatClampNeg < bs.length) : ¬ (j < 0 ∨ c.slots.size ≤ j.toNatClampNeg) := fun q => q.elim h1 fun z => absurd h2 (Nat.not_lt.mpr (hlen ▸ z))

theorem iaload (w : Wk p l e R s m args below meth c n0 Z own nm bc ml rt Q G) (X : Sd p l e R s m args below meth c n0 T h cells slots) (F : PA Z h a .int bs) (h1 : ¬ j < 0) (i : Nat) (hi : j.toNatClampNeg = i) (h2 : i < bs.length) (hd : decode bc pc = .ok (.iaload, 1)) (pc' : Nat) (hp : pc + 1 = pc') (z : Int32) (hz : z = bs.getD i 0) (k : G (T.setTop (mkF m pc' ls (.int z :: st)))) : G (T.setTop (mkF m pc ls (.int j :: .ref a :: st))) := by
  obtain ⟨locs, Y, N, eT⟩ := X
  subst hp hz hi
  obtain ⟨cl, A, hl, -, hg, -⟩ := F
  exact w.1 _ _ (fun t q => Y.iaload w.2.1 (j := j) (v := .int (bs.getD j.toNatClampNeg 0)) (by rw [eT]; exact A.1) (State.isArrayOf_alike w.2.2.2.2.1.alike A.2.1) A.2.2 (PA.inb hl h1 h2) (hg _ h2) (g := mkF m pc ls (.int j :: .ref a :: st)) rfl rfl (hb w.2.2.1 hd) t q) k
theorem baload (w : Wk p l e R s m args below meth c n0 Z own nm bc ml rt Q G) (X : Sd p l e R s m args below meth c n0 T h cells slots) (F : PA Z h a .byte bs) (h1 : ¬ j < 0) (i : Nat) (hi : j.toNatClampNeg = i) (h2 : i < bs.length) (hd : decode bc pc = .ok (.baload, 1)) (pc' : Nat) (hp : pc + 1 = pc') (z : Int32) (hz : z = bs.getD i 0) (k : G (T.setTop (mkF m pc' ls (.int z :: st)))) : G (T.setTop (mkF m pc ls (.int j :: .ref a :: st))) := by
  obtain ⟨locs, Y, N, eT⟩ := X
  subst hp hz hi
  obtain ⟨cl, A, hl, -, hg, -⟩ := F
  exact w.1 _ _ (fun t q => Y.baloadBytes w.2.1 (j := j) (v := .int (bs.getD j.toNatClampNeg 0)) (by rw [eT]; exact A.1) (State.isArrayOf_alike w.2.2.2.2.1.alike A.2.1) A.2.2 (PA.inb hl h1 h2) (hg _ h2) (g := mkF m pc ls (.int j :: .ref a :: st)) rfl rfl (hb w.2.2.1 hd) t q) k
theorem caload (w : Wk p l e R s m args below meth c n0 Z own nm bc ml rt Q G) (X : Sd p l e R s m args below meth c n0 T h cells slots) (F : PA Z h a .char bs) (h1 : ¬ j < 0) (i : Nat) (hi : j.toNatClampNeg = i) (h2 : i < bs.length) (hd : decode bc pc = .ok (.caload, 1)) (pc' : Nat) (hp : pc + 1 = pc') (z : Int32) (hz : z = bs.getD i 0) (k : G (T.setTop (mkF m pc' ls (.int z :: st)))) : G (T.setTop (mkF m pc ls (.int j :: .ref a :: st))) := by
  obtain ⟨locs, Y, N, eT⟩ := X
  subst hp hz hi
  obtain ⟨cl, A, hl, -, hg, -⟩ := F
  exact w.1 _ _ (fun t q => Y.caload w.2.1 (j := j) (v := .int (bs.getD j.toNatClampNeg 0)) (by rw [eT]; exact A.1) (State.isArrayOf_alike w.2.2.2.2.1.alike A.2.1) A.2.2 (PA.inb hl h1 h2) (hg _ h2) (g := mkF m pc ls (.int j :: .ref a :: st)) rfl rfl (hb w.2.2.1 hd) t q) k
theorem zaload (w : Wk p l e R s m args below meth c n0 Z own nm bc ml rt Q G) (X : Sd p l e R s m args below meth c n0 T h cells slots) (F : PA Z h a .boolean bs) (h1 : ¬ j < 0) (i : Nat) (hi : j.toNatClampNeg = i) (h2 : i < bs.length) (hd : decode bc pc = .ok (.baload, 1)) (pc' : Nat) (hp : pc + 1 = pc') (z : Int32) (hz : z = bs.getD i 0) (k : G (T.setTop (mkF m pc' ls (.int z :: st)))) : G (T.setTop (mkF m pc ls (.int j :: .ref a :: st))) := by
  obtain ⟨locs, Y, N, eT⟩ := X
  subst hp hz hi
  obtain ⟨cl, A, hl, -, hg, -⟩ := F
  exact w.1 _ _ (fun t q => Y.baloadBooleans w.2.1 (j := j) (v := .int (bs.getD j.toNatClampNeg 0)) (by rw [eT]; exact A.1) (State.isArrayOf_alike w.2.2.2.2.1.alike A.2.1) A.2.2 (PA.inb hl h1 h2) (hg _ h2) (g := mkF m pc ls (.int j :: .ref a :: st)) rfl rfl (hb w.2.2.1 hd) t q) k
theorem iastore (w : Wk p l e R s m args below meth c n0 Z own nm bc ml rt Q G) (X : Sd p l e R s m args below meth c n0 T h cells slots) {x : Int32} (F : PA Z h a .int bs) (h1 : ¬ j < 0) (i : Nat) (hi : j.toNatClampNeg = i) (h2 : i < bs.length) (ha : n0 ≤ a) (hd : decode bc pc = .ok (.iastore, 1)) (pc' : Nat) (hp : pc + 1 = pc') (z : Int32) (hz : z = x)
    (k : ∀ (T' : State) (h' : Heap), Sd p l e R s m args below meth c n0 T' h' cells slots → Wr h h' a i (.int z) → PA Z h' a .int (bs.set i z) → G (T'.setTop (mkF m pc' ls st))) : G (T.setTop (mkF m pc ls (.int x :: .int j :: .ref a :: st))) := by
  obtain ⟨locs, Y, N, eT⟩ := X
  subst hp hz hi
  obtain ⟨cl, A, hl, hl2, hg, hf⟩ := F
  obtain ⟨T', h', Y', e', W', q⟩ := stI Y w.2.1 w.2.2.2.2.1 eT A (j := j) (PA.inb hl h1 h2) (g := mkF m pc ls (.int z :: .int j :: .ref a :: st)) rfl rfl (hb w.2.2.1 hd)
  refine w.1 _ _ q (k T' h' ⟨_, Y', Fr.snoc Y' N ha, e'⟩ W' ⟨_, A.same W', by rw [sz_set, List.length_set]; exact hl, by rw [List.length_set]; exact hl2, fun i hi => ?_, fun y hy => ?_⟩)
  · rw [List.length_set] at hi
    by_cases u : j.toNatClampNeg = i
    · subst u; simp [Cell.setSlot, hl, hi, List.getD_eq_getElem?_getD]
    · have := hg i hi
      simp only [Cell.setSlot, List.getD_eq_getElem?_getD] at this ⊢
      rw [Array.getElem?_setIfInBounds_ne u, List.getElem?_set_ne u]; exact this
  · rcases List.mem_or_eq_of_mem_set hy with y1 | rfl
    · exact hf y y1
    · exact rfl
theorem bastore (w : Wk p l e R s m args below meth c n0 Z own nm bc ml rt Q G) (X : Sd p l e R s m args below meth c n0 T h cells slots) {x : Int32} (F : PA Z h a .byte bs) (h1 : ¬ j < 0) (i : Nat) (hi : j.toNatClampNeg = i) (h2 : i < bs.length) (ha : n0 ≤ a) (hd : decode bc pc = .ok (.bastore, 1)) (pc' : Nat) (hp : pc + 1 = pc') (z : Int32) (hz : z = (nar .byte x))
    (k : ∀ (T' : State) (h' : Heap), Sd p l e R s m args below meth c n0 T' h' cells slots → Wr h h' a i (.int z) → PA Z h' a .byte (bs.set i z) → G (T'.setTop (mkF m pc' ls st))) : G (T.setTop (mkF m pc ls (.int x :: .int j :: .ref a :: st))) := by
  obtain ⟨locs, Y, N, eT⟩ := X
  subst hp hz hi
  obtain ⟨cl, A, hl, hl2, hg, hf⟩ := F
  obtain ⟨T', h', Y', e', W', q⟩ := stB Y w.2.1 w.2.2.2.2.1 eT A (j := j) (PA.inb hl h1 h2) (g := mkF m pc ls (.int x :: .int j :: .ref a :: st)) rfl rfl (hb w.2.2.1 hd)
  refine w.1 _ _ q (k T' h' ⟨_, Y', Fr.snoc Y' N ha, e'⟩ W' ⟨_, A.same W', by rw [sz_set, List.length_set]; exact hl, by rw [List.length_set]; exact hl2, fun i hi => ?_, fun y hy => ?_⟩)
  · rw [List.length_set] at hi
    by_cases u : j.toNatClampNeg = i
    · subst u; simp [Cell.setSlot, hl, hi, List.getD_eq_getElem?_getD]
    · have := hg i hi
      simp only [Cell.setSlot, List.getD_eq_getElem?_getD] at this ⊢
      rw [Array.getElem?_setIfInBounds_ne u, List.getElem?_set_ne u]; exact this
  · rcases List.mem_or_eq_of_mem_set hy with y1 | rfl
    · exact hf y y1
    · exact (fits_nar_byte x)
theorem castore (w : Wk p l e R s m args below meth c n0 Z own nm bc ml rt Q G) (X : Sd p l e R s m args below meth c n0 T h cells slots) {x : Int32} (F : PA Z h a .char bs) (h1 : ¬ j < 0) (i : Nat) (hi : j.toNatClampNeg = i) (h2 : i < bs.length) (ha : n0 ≤ a) (hd : decode bc pc = .ok (.castore, 1)) (pc' : Nat) (hp : pc + 1 = pc') (z : Int32) (hz : z = (nar .char x))
    (k : ∀ (T' : State) (h' : Heap), Sd p l e R s m args below meth c n0 T' h' cells slots → Wr h h' a i (.int z) → PA Z h' a .char (bs.set i z) → G (T'.setTop (mkF m pc' ls st))) : G (T.setTop (mkF m pc ls (.int x :: .int j :: .ref a :: st))) := by
  obtain ⟨locs, Y, N, eT⟩ := X
  subst hp hz hi
  obtain ⟨cl, A, hl, hl2, hg, hf⟩ := F
  obtain ⟨T', h', Y', e', W', q⟩ := stC Y w.2.1 w.2.2.2.2.1 eT A (j := j) (PA.inb hl h1 h2) (g := mkF m pc ls (.int x :: .int j :: .ref a :: st)) rfl rfl (hb w.2.2.1 hd)
  refine w.1 _ _ q (k T' h' ⟨_, Y', Fr.snoc Y' N ha, e'⟩ W' ⟨_, A.same W', by rw [sz_set, List.length_set]; exact hl, by rw [List.length_set]; exact hl2, fun i hi => ?_, fun y hy => ?_⟩)
  · rw [List.length_set] at hi
    by_cases u : j.toNatClampNeg = i
    · subst u; simp [Cell.setSlot, hl, hi, List.getD_eq_getElem?_getD]
    · have := hg i hi
      simp only [Cell.setSlot, List.getD_eq_getElem?_getD] at this ⊢
      rw [Array.getElem?_setIfInBounds_ne u, List.getElem?_set_ne u]; exact this
  · rcases List.mem_or_eq_of_mem_set hy with y1 | rfl
    · exact hf y y1
    · exact (fits_nar_char x)
theorem zastore (w : Wk p l e R s m args below meth c n0 Z own nm bc ml rt Q G) (X : Sd p l e R s m args below meth c n0 T h cells slots) {x : Int32} (F : PA Z h a .boolean bs) (h1 : ¬ j < 0) (i : Nat) (hi : j.toNatClampNeg = i) (h2 : i < bs.length) (ha : n0 ≤ a) (hd : decode bc pc = .ok (.bastore, 1)) (pc' : Nat) (hp : pc + 1 = pc') (z : Int32) (hz : z = (nar .boolean x))
    (k : ∀ (T' : State) (h' : Heap), Sd p l e R s m args below meth c n0 T' h' cells slots → Wr h h' a i (.int z) → PA Z h' a .boolean (bs.set i z) → G (T'.setTop (mkF m pc' ls st))) : G (T.setTop (mkF m pc ls (.int x :: .int j :: .ref a :: st))) := by
  obtain ⟨locs, Y, N, eT⟩ := X
  subst hp hz hi
  obtain ⟨cl, A, hl, hl2, hg, hf⟩ := F
  obtain ⟨T', h', Y', e', W', q⟩ := stZ Y w.2.1 w.2.2.2.2.1 eT A (j := j) (PA.inb hl h1 h2) (g := mkF m pc ls (.int x :: .int j :: .ref a :: st)) rfl rfl (hb w.2.2.1 hd)
  refine w.1 _ _ q (k T' h' ⟨_, Y', Fr.snoc Y' N ha, e'⟩ W' ⟨_, A.same W', by rw [sz_set, List.length_set]; exact hl, by rw [List.length_set]; exact hl2, fun i hi => ?_, fun y hy => ?_⟩)
  · rw [List.length_set] at hi
    by_cases u : j.toNatClampNeg = i
    · subst u; simp [Cell.setSlot, hl, hi, List.getD_eq_getElem?_getD]
    · have := hg i hi
      simp only [Cell.setSlot, List.getD_eq_getElem?_getD] at this ⊢
      rw [Array.getElem?_setIfInBounds_ne u, List.getElem?_set_ne u]; exact this
  · rcases List.mem_or_eq_of_mem_set hy with y1 | rfl
    · exact hf y y1
    · exact (fits_nar_bool x)
theorem arraylength (w : Wk p l e R s m args below meth c n0 Z own nm bc ml rt Q G) (X : Sd p l e R s m args below meth c n0 T h cells slots) (F : PA Z h a ty bs) (hd : decode bc pc = .ok (.arraylength, 1)) (pc' : Nat) (hp : pc + 1 = pc') (z : Int32) (hz : z = Int32.ofNat bs.length) (k : G (T.setTop (mkF m pc' ls (.int z :: st)))) : G (T.setTop (mkF m pc ls (.ref a :: st))) := by
  obtain ⟨locs, Y, N, eT⟩ := X
  subst hp hz
  obtain ⟨cl, A, hl, -, -⟩ := F
  refine w.1 _ _ (fun t q => Y.arraylength w.2.1 (by rw [eT]; exact A.1) (State.isArrayOf_alike w.2.2.2.2.1.alike A.2.1) (g := mkF m pc ls (.ref a :: st)) rfl rfl (hb w.2.2.1 hd) t ?_) k
  rw [hl]; exact q
end Arrays
end Jvm.Own
namespace Jvm.Pilot.@@N@@
open Jvm Jvm.ClassFile Sem Op Lib Jvm.Free Jvm.Stand Jvm.LawKit Jvm.RoadKit Jvm.Own Bundle Jvm.Pilot.@@N@@.Jvm.D
open Jvm.Free.JP
def own_cnt (x : Int32) : Int32 := if x &&& 16 = 0 then 2 + (x &&& 3) else 2 + (x.toUInt32 >>> (5 &&& 31 : Int32).toUInt32).toInt32
def own_max (a b : Int32) : Int32 := if a < b then b else a
def own_min (a b : Int32) : Int32 := if b < a then b else a
def own_k (x : Int32) : Int32 := own_min (own_max x 0) 2
def own_bit (p x : Int32) : Int32 := ((p.toUInt32 >>> ((1 + own_k x) &&& 31).toUInt32).toInt32 &&& 1)
def own_k2 (s x : Int32) : Int32 := own_cnt ((s.toUInt32 >>> ((8 * own_k x) &&& 31).toUInt32).toInt32)
def own_cho (m rr t c k r c' : Int32) : Prop := (m < rr ∧ r = t ∧ c' = c) ∨ (¬ m < rr ∧ r = 0 ∧ c' = k)
def own_run (p f s rr t0 t1 c0 c1 n x1 x2 k1 k2 u0 u1 d0 d1 : Int32) : Prop :=
  (p &&& 1 = 0 ∧ n = 0 ∧ x1 = 0 ∧ x2 = 0 ∧ k1 = 0 ∧ k2 = 0 ∧ u0 = t0 ∧ u1 = t1 ∧ d0 = c0 ∧ d1 = c1) ∨
  (¬ p &&& 1 = 0 ∧ k1 = own_cnt f ∧ own_cho 0 rr t0 c0 k1 x1 d0 ∧ own_bit p x1 = 0 ∧ n = 1 ∧ x2 = 0 ∧ k2 = 0 ∧ u0 = x1 ∧ u1 = t1 ∧ d1 = c1) ∨
  (¬ p &&& 1 = 0 ∧ k1 = own_cnt f ∧ own_cho 0 rr t0 c0 k1 x1 d0 ∧ ¬ own_bit p x1 = 0 ∧ k2 = own_k2 s x1 ∧ own_cho 1 rr t1 c1 k2 x2 d1 ∧ n = 2 ∧ u0 = x1 ∧ u1 = x2)
def own_next (t0 t1 c0 c1 n rr u0 u1 r : Int32) : Prop :=
  (n = 0 ∧ rr = 0 ∧ u0 = t0 ∧ u1 = t1 ∧ r = 0) ∨
  (t0 = c0 - 1 ∧ n = 1 ∧ rr = 0 ∧ u0 = t0 ∧ u1 = t1 ∧ r = 0) ∨
  (¬ t0 = c0 - 1 ∧ u0 = t0 + 1 ∧ n = 1 ∧ rr = 1 ∧ u1 = t1 ∧ r = 1) ∨
  (t1 = c1 - 1 ∧ t0 = c0 - 1 ∧ n = 2 ∧ rr = 0 ∧ u0 = t0 ∧ u1 = t1 ∧ r = 0) ∨
  (t1 = c1 - 1 ∧ ¬ t0 = c0 - 1 ∧ u0 = t0 + 1 ∧ n = 2 ∧ rr = 1 ∧ u1 = t1 ∧ r = 1) ∨
  (¬ t1 = c1 - 1 ∧ u1 = t1 + 1 ∧ n = 2 ∧ rr = 2 ∧ u0 = t0 ∧ r = 1)
theorem own_cnt_b (x : Int32) : 2 ≤ (own_cnt x).toInt := by
  unfold own_cnt
  have h1 := k_mask x 3 2 4 (by decide) (by decide) (by decide)
  have h2 := k_ushr x 5 5 32 (by decide) (by decide) (by decide)
  have h3 := c_iadd 2 (x &&& 3)
  have h4 := b32 (2 + (x &&& 3))
  have h5 := c_iadd 2 (x.toUInt32 >>> (5 &&& 31 : Int32).toUInt32).toInt32
  have h6 := b32 (2 + (x.toUInt32 >>> (5 &&& 31 : Int32).toUInt32).toInt32)
  have h7 : (2 : Int32).toInt = 2 := rfl
  have h8 := b32 x
  split <;> omega
/-- ahead of a run -/
def own_inv (p f s rr t0 t1 c0 c1 : Int32) : Prop := (rr = 0) ∨ (rr = 1 ∧ ¬ p &&& 1 = 0 ∧ c0 = own_cnt f ∧ 0 ≤ t0.toInt ∧ t0 < c0) ∨ (rr = 2 ∧ ¬ p &&& 1 = 0 ∧ c0 = own_cnt f ∧ 0 ≤ t0.toInt ∧ t0 < c0 ∧ ¬ own_bit p t0 = 0 ∧ c1 = own_k2 s t0 ∧ 0 ≤ t1.toInt ∧ t1 < c1)
/-- behind a run -/
def own_mid (p f s n x1 x2 k1 k2 t0 t1 c0 c1 : Int32) : Prop := (n = 0 ∧ p &&& 1 = 0) ∨ (n = 1 ∧ ¬ p &&& 1 = 0 ∧ t0 = x1 ∧ c0 = k1 ∧ k1 = own_cnt f ∧ 0 ≤ x1.toInt ∧ x1 < k1) ∨ (n = 2 ∧ ¬ p &&& 1 = 0 ∧ t0 = x1 ∧ c0 = k1 ∧ k1 = own_cnt f ∧ 0 ≤ x1.toInt ∧ x1 < k1 ∧ ¬ own_bit p x1 = 0 ∧ t1 = x2 ∧ c1 = k2 ∧ k2 = own_k2 s x1 ∧ 0 ≤ x2.toInt ∧ x2 < k2)
theorem own_pos (x : Int32) : (0 : Int32) < own_cnt x := by
  have := own_cnt_b x
  rw [Int32.lt_iff_toInt_lt]
  have h : (0 : Int32).toInt = 0 := rfl
  omega
theorem own_run_mid {p f s rr t0 t1 c0 c1 n x1 x2 k1 k2 u0 u1 d0 d1 : Int32} (hi : own_inv p f s rr t0 t1 c0 c1) (R : own_run p f s rr t0 t1 c0 c1 n x1 x2 k1 k2 u0 u1 d0 d1) : own_mid p f s n x1 x2 k1 k2 u0 u1 d0 d1 := by
  have z0 : 0 ≤ (0 : Int32).toInt := by decide
  have l01 : ¬ (0 : Int32) < 0 := by decide
  have l02 : (0 : Int32) < 1 := by decide
  have l03 : (0 : Int32) < 2 := by decide
  have l11 : ¬ (1 : Int32) < 1 := by decide
  have l10 : ¬ (1 : Int32) < 0 := by decide
  have l12 : (1 : Int32) < 2 := by decide
  have pk := own_pos f
  have pk2 : ∀ x, (0 : Int32) < own_k2 s x := fun x => own_pos _
  rcases R with ⟨h, rfl, rfl, rfl, rfl, rfl, rfl, rfl, rfl, rfl⟩ | ⟨h, hk, ho, hb, rfl, rfl, rfl, rfl, rfl, rfl⟩ | ⟨h, hk, ho, hb, hk2, ho2, rfl, rfl, rfl⟩
  · exact Or.inl ⟨rfl, h⟩
  ·
    refine Or.inr (Or.inl ⟨rfl, h, rfl, ?_⟩)
    rcases ho with ⟨q, rfl, rfl⟩ | ⟨q, rfl, rfl⟩
    · rcases hi with rfl | ⟨rfl, _, h3, h4, h5⟩ | ⟨rfl, _, h3, h4, h5, _⟩
      · exact absurd q l01
      · exact ⟨h3.trans hk.symm, hk, h4, by rw [hk, ← h3]; exact h5⟩
      · exact ⟨h3.trans hk.symm, hk, h4, by rw [hk, ← h3]; exact h5⟩
    · exact ⟨rfl, hk, z0, by rw [hk]; exact pk⟩
  ·
    refine Or.inr (Or.inr ⟨rfl, h, rfl, ?_⟩)
    rcases ho with ⟨q, rfl, rfl⟩ | ⟨q, rfl, rfl⟩
    · rcases hi with rfl | ⟨rfl, _, h3, h4, h5⟩ | ⟨rfl, _, h3, h4, h5, h6, h7, h8, h9⟩
      · exact absurd q l01
      · refine ⟨h3.trans hk.symm, hk, h4, by rw [hk, ← h3]; exact h5, hb, rfl, ?_⟩
        rcases ho2 with ⟨q2, rfl, rfl⟩ | ⟨q2, rfl, rfl⟩
        · exact absurd q2 l11
        · exact ⟨rfl, hk2, z0, by rw [hk2]; exact pk2 _⟩
      · refine ⟨h3.trans hk.symm, hk, h4, by rw [hk, ← h3]; exact h5, hb, rfl, ?_⟩
        rcases ho2 with ⟨q2, rfl, rfl⟩ | ⟨q2, rfl, rfl⟩
        · exact ⟨h7.trans hk2.symm, hk2, h8, by rw [hk2, ← h7]; exact h9⟩
        · exact absurd l12 q2
    · refine ⟨rfl, hk, z0, by rw [hk]; exact pk, hb, rfl, ?_⟩
      rcases ho2 with ⟨q2, rfl, rfl⟩ | ⟨q2, rfl, rfl⟩
      · rcases hi with rfl | ⟨rfl, _⟩ | ⟨rfl, _⟩
        · exact absurd q2 l10
        · exact absurd l02 q
        · exact absurd l03 q
      · exact ⟨rfl, hk2, z0, by rw [hk2]; exact pk2 _⟩
theorem own_n3 {p f s n x1 x2 k1 k2 t0 t1 c0 c1 : Int32} (h : own_mid p f s n x1 x2 k1 k2 t0 t1 c0 c1) : n = 0 ∨ n = 1 ∨ n = 2 := by
  rcases h with ⟨h, _⟩ | ⟨h, _⟩ | ⟨h, _⟩
  · exact Or.inl h
  · exact Or.inr (Or.inl h)
  · exact Or.inr (Or.inr h)
theorem own_up {x k : Int32} (h0 : 0 ≤ x.toInt) (h1 : x < k) (h : ¬ x = k - 1) : 0 ≤ (x + 1).toInt ∧ x + 1 < k := by
  have a1 := c_iadd x 1
  have a2 := b32 (x + 1)
  have a3 := c_isub k 1
  have a4 := b32 (k - 1)
  have a5 := b32 x
  have a6 := b32 k
  have e : (1 : Int32).toInt = 1 := rfl
  rw [← Int32.toInt_inj] at h
  rw [Int32.lt_iff_toInt_lt] at h1 ⊢
  omega
theorem own_le {x k : Int32} (h0 : 0 ≤ x.toInt) (h1 : x < k) (h : ¬ x = k - 1) : x < k - 1 := by
  have a3 := c_isub k 1
  have a4 := b32 (k - 1)
  have a5 := b32 x
  have a6 := b32 k
  have e : (1 : Int32).toInt = 1 := rfl
  rw [← Int32.toInt_inj] at h
  rw [Int32.lt_iff_toInt_lt] at h1 ⊢
  omega
theorem own_eqn {x k : Int32} (h : x = k - 1) : ¬ x < k - 1 := by rw [h]; exact Int32.lt_irrefl
/-- what the answer asks of two records -/
def own_fol (n x1 x2 k1 k2 n' y1 y2 r : Int32) : Prop :=
  ((n < 1 ∨ ¬ x1 < (k1 - 1)) ∧ (n < 2 ∨ ¬ x2 < (k2 - 1)) ∧ r = 0 ∧ (n' < 1 ∨ y1 = 0) ∧ (n' < 2 ∨ y2 = 0)) ∨
  (¬ n < 1 ∧ x1 < (k1 - 1) ∧ (n < 2 ∨ ¬ x2 < (k2 - 1)) ∧ r = 1 ∧ (n' < 1 ∨ y1 = (x1 + 1)) ∧ (n' < 2 ∨ y2 = 0)) ∨
  (¬ n < 2 ∧ x2 < (k2 - 1) ∧ r = 1 ∧ (n' < 1 ∨ y1 = x1) ∧ (n' < 2 ∨ y2 = (x2 + 1)))
theorem own_next_inv {p f s n x1 x2 k1 k2 t0 t1 c0 c1 rr u0 u1 r : Int32} (hm : own_mid p f s n x1 x2 k1 k2 t0 t1 c0 c1) (N : own_next t0 t1 c0 c1 n rr u0 u1 r) : own_inv p f s rr u0 u1 c0 c1 := by
  have n01 : ¬ (0 : Int32) = 1 := by decide
  have n02 : ¬ (0 : Int32) = 2 := by decide
  have n12 : ¬ (1 : Int32) = 2 := by decide
  have n10 : ¬ (1 : Int32) = 0 := by decide
  have n20 : ¬ (2 : Int32) = 0 := by decide
  have n21 : ¬ (2 : Int32) = 1 := by decide
  rcases N with ⟨rfl, rfl, rfl, rfl, rfl⟩ | ⟨h, rfl, rfl, rfl, rfl, rfl⟩ | ⟨h, he, rfl, rfl, rfl, rfl⟩ | ⟨g, h, rfl, rfl, rfl, rfl, rfl⟩ | ⟨g, h, he, rfl, rfl, rfl, rfl⟩ | ⟨h, he, rfl, rfl, rfl, rfl⟩
  · exact Or.inl rfl
  · exact Or.inl rfl
  ·
    rcases hm with ⟨q, _⟩ | ⟨_, h1, rfl, rfl, h4, h5, h6⟩ | ⟨q, _⟩
    · exact absurd q n10
    · subst he; exact Or.inr (Or.inl ⟨rfl, h1, h4, own_up h5 h6 h⟩)
    · exact absurd q n12
  · exact Or.inl rfl
  ·
    rcases hm with ⟨q, _⟩ | ⟨q, _⟩ | ⟨_, h1, rfl, rfl, h4, h5, h6, _⟩
    · exact absurd q n20
    · exact absurd q n21
    · subst he; exact Or.inr (Or.inl ⟨rfl, h1, h4, own_up h5 h6 h⟩)
  ·
    rcases hm with ⟨q, _⟩ | ⟨q, _⟩ | ⟨_, h1, rfl, rfl, h4, h5, h6, h7, rfl, rfl, h8, h9, h10⟩
    · exact absurd q n20
    · exact absurd q n21
    · subst he; exact Or.inr (Or.inr ⟨rfl, h1, h4, h5, h6, h7, h8, own_up h9 h10 h⟩)
theorem own_c0 {rr t c k r d : Int32} (h : own_cho 0 rr t c k r d) : (rr = 0 → r = 0) ∧ ((rr = 1 ∨ rr = 2) → r = t) := by
  rcases h with ⟨q, rfl, rfl⟩ | ⟨q, rfl, rfl⟩
  · exact ⟨fun e => absurd (e ▸ q) (by decide), fun _ => rfl⟩
  · exact ⟨fun _ => rfl, fun e => by rcases e with rfl | rfl <;> exact absurd (by decide) q⟩
theorem own_c1 {rr t c k r d : Int32} (h : own_cho 1 rr t c k r d) : ((rr = 0 ∨ rr = 1) → r = 0) ∧ (rr = 2 → r = t) := by
  rcases h with ⟨q, rfl, rfl⟩ | ⟨q, rfl, rfl⟩
  · exact ⟨fun e => by rcases e with rfl | rfl <;> exact absurd q (by decide), fun _ => rfl⟩
  · exact ⟨fun _ => rfl, fun e => by subst e; exact absurd (by decide) q⟩
theorem own_run_rec {p f s rr t0 t1 c0 c1 n x1 x2 k1 k2 u0 u1 d0 d1 : Int32} (R : own_run p f s rr t0 t1 c0 c1 n x1 x2 k1 k2 u0 u1 d0 d1) : (n < 1 ∨ ((rr = 0 → x1 = 0) ∧ ((rr = 1 ∨ rr = 2) → x1 = t0))) ∧ (n < 2 ∨ (((rr = 0 ∨ rr = 1) → x2 = 0) ∧ (rr = 2 → x2 = t1))) := by
  rcases R with ⟨h, rfl, rfl, rfl, rfl, rfl, rfl, rfl, rfl, rfl⟩ | ⟨h, hk, ho, hb, rfl, rfl, rfl, rfl, rfl, rfl⟩ | ⟨h, hk, ho, hb, hk2, ho2, rfl, rfl, rfl⟩
  · exact ⟨Or.inl (by decide), Or.inl (by decide)⟩
  · exact ⟨Or.inr (own_c0 ho), Or.inl (by decide)⟩
  · exact ⟨Or.inr (own_c0 ho), Or.inr (own_c1 ho2)⟩
theorem own_all {p f s n x1 x2 k1 k2 t0 t1 c0 c1 rr u0 u1 r n' y1 y2 j1 j2 v0 v1 d0 d1 : Int32} (hm : own_mid p f s n x1 x2 k1 k2 t0 t1 c0 c1) (N : own_next t0 t1 c0 c1 n rr u0 u1 r) (R : own_run p f s rr u0 u1 c0 c1 n' y1 y2 j1 j2 v0 v1 d0 d1) : own_fol n x1 x2 k1 k2 n' y1 y2 r := by
  have n10 : ¬ (1 : Int32) = 0 := by decide
  have n12 : ¬ (1 : Int32) = 2 := by decide
  have n20 : ¬ (2 : Int32) = 0 := by decide
  have n21 : ¬ (2 : Int32) = 1 := by decide
  have l01 : (0 : Int32) < 1 := by decide
  have l02 : (0 : Int32) < 2 := by decide
  have l11 : ¬ (1 : Int32) < 1 := by decide
  have l12 : (1 : Int32) < 2 := by decide
  have l21 : ¬ (2 : Int32) < 1 := by decide
  have l22 : ¬ (2 : Int32) < 2 := by decide
  obtain ⟨R1, R2⟩ := own_run_rec R
  rcases N with ⟨rfl, rfl, rfl, rfl, rfl⟩ | ⟨h, rfl, rfl, rfl, rfl, rfl⟩ | ⟨h, he, rfl, rfl, rfl, rfl⟩ | ⟨g, h, rfl, rfl, rfl, rfl, rfl⟩ | ⟨g, h, he, rfl, rfl, rfl, rfl⟩ | ⟨h, he, rfl, rfl, rfl, rfl⟩
  · exact Or.inl ⟨Or.inl l01, Or.inl l02, rfl, R1.imp id fun h => h.1 rfl, R2.imp id fun h => h.1 (Or.inl rfl)⟩
  ·
    rcases hm with ⟨q, _⟩ | ⟨_, h1, rfl, rfl, h4, h5, h6⟩ | ⟨q, _⟩
    · exact absurd q n10
    · exact Or.inl ⟨Or.inr (own_eqn h), Or.inl l12, rfl, R1.imp id fun h => h.1 rfl, R2.imp id fun h => h.1 (Or.inl rfl)⟩
    · exact absurd q n12
  ·
    rcases hm with ⟨q, _⟩ | ⟨_, h1, rfl, rfl, h4, h5, h6⟩ | ⟨q, _⟩
    · exact absurd q n10
    · subst he; exact Or.inr (Or.inl ⟨l11, own_le h5 h6 h, Or.inl l12, rfl, R1.imp id fun h => h.2 (Or.inl rfl), R2.imp id fun h => h.1 (Or.inr rfl)⟩)
    · exact absurd q n12
  ·
    rcases hm with ⟨q, _⟩ | ⟨q, _⟩ | ⟨_, h1, rfl, rfl, h4, h5, h6, h7, rfl, rfl, h8, h9, h10⟩
    · exact absurd q n20
    · exact absurd q n21
    · exact Or.inl ⟨Or.inr (own_eqn h), Or.inr (own_eqn g), rfl, R1.imp id fun h => h.1 rfl, R2.imp id fun h => h.1 (Or.inl rfl)⟩
  ·
    rcases hm with ⟨q, _⟩ | ⟨q, _⟩ | ⟨_, h1, rfl, rfl, h4, h5, h6, h7, rfl, rfl, h8, h9, h10⟩
    · exact absurd q n20
    · exact absurd q n21
    · subst he; exact Or.inr (Or.inl ⟨l21, own_le h5 h6 h, Or.inr (own_eqn g), rfl, R1.imp id fun h => h.2 (Or.inl rfl), R2.imp id fun h => h.1 (Or.inr rfl)⟩)
  ·
    rcases hm with ⟨q, _⟩ | ⟨q, _⟩ | ⟨_, h1, rfl, rfl, h4, h5, h6, h7, rfl, rfl, h8, h9, h10⟩
    · exact absurd q n20
    · exact absurd q n21
    · subst he; exact Or.inr (Or.inr ⟨l22, own_le h9 h10 h, rfl, R1.imp id fun h => h.2 (Or.inr rfl), R2.imp id fun h => h.2 rfl⟩)
theorem own_r0 {p f s t0 t1 c0 c1 n x1 x2 k1 k2 u0 u1 d0 d1 : Int32} (R : own_run p f s 0 t0 t1 c0 c1 n x1 x2 k1 k2 u0 u1 d0 d1) : (n < 1 ∨ x1 = 0) ∧ (n < 2 ∨ x2 = 0) := ⟨(own_run_rec R).1.imp id fun h => h.1 rfl, (own_run_rec R).2.imp id fun h => h.1 (Or.inl rfl)⟩
theorem wd0 {a0 : Array Value} {Z : State} (hw : ∀ d ∈ tables_1, d.before a0 Z = true) : ((Jvm.Cond.arrayClass Jvm.ClassFile.FieldType.int)).before a0 Z = true := hw _ (List.mem_of_getElem? (i := 0) rfl)
theorem wd1 {a0 : Array Value} {Z : State} (hw : ∀ d ∈ tables_1, d.before a0 Z = true) : ((Jvm.Cond.classLink "com/example/vigilant_mailbox/vigilantmailbox/engine/ChoicesNextPinLaw" (14 : Nat) "com/example/vigilant_mailbox/vigilantmailbox/engine/Choices")).before a0 Z = true := hw _ (List.mem_of_getElem? (i := 1) rfl)
theorem wd2 {a0 : Array Value} {Z : State} (hw : ∀ d ∈ tables_1, d.before a0 Z = true) : ((Jvm.Cond.instantiable "com/example/vigilant_mailbox/vigilantmailbox/engine/Choices" (4 : Nat))).before a0 Z = true := hw _ (List.mem_of_getElem? (i := 2) rfl)
theorem wd3 {a0 : Array Value} {Z : State} (hw : ∀ d ∈ tables_1, d.before a0 Z = true) : ((Jvm.Cond.initialized "com/example/vigilant_mailbox/vigilantmailbox/engine/Choices")).before a0 Z = true := hw _ (List.mem_of_getElem? (i := 3) rfl)
theorem wd4 {a0 : Array Value} {Z : State} (hw : ∀ d ∈ tables_1, d.before a0 Z = true) : ((Jvm.Cond.methodLink "com/example/vigilant_mailbox/vigilantmailbox/engine/ChoicesNextPinLaw" (27 : Nat) ({ cls := "com/example/vigilant_mailbox/vigilantmailbox/engine/Choices", name := "<init>", desc := "()V" } : Jvm.MethodName))).before a0 Z = true := hw _ (List.mem_of_getElem? (i := 4) rfl)
theorem wd5 {a0 : Array Value} {Z : State} (hw : ∀ d ∈ tables_1, d.before a0 Z = true) : ((Jvm.Cond.instanceMethod ({ cls := "com/example/vigilant_mailbox/vigilantmailbox/engine/Choices", name := "<init>", desc := "()V" } : Jvm.MethodName))).before a0 Z = true := hw _ (List.mem_of_getElem? (i := 5) rfl)
theorem wd6 {a0 : Array Value} {Z : State} (hw : ∀ d ∈ tables_1, d.before a0 Z = true) : ((Jvm.Cond.code ({ cls := "com/example/vigilant_mailbox/vigilantmailbox/engine/Choices", name := "<init>", desc := "()V" } : Jvm.MethodName) prog_17_method_1_code (1 : Nat) (Option.none : Option Jvm.ClassFile.FieldType))).before a0 Z = true := hw _ (List.mem_of_getElem? (i := 6) rfl)
theorem wd7 {a0 : Array Value} {Z : State} (hw : ∀ d ∈ tables_1, d.before a0 Z = true) : ((Jvm.Cond.methodLink "com/example/vigilant_mailbox/vigilantmailbox/engine/Choices" (1 : Nat) ({ cls := "java/lang/Object", name := "<init>", desc := "()V" } : Jvm.MethodName))).before a0 Z = true := hw _ (List.mem_of_getElem? (i := 7) rfl)
theorem wd8 {a0 : Array Value} {Z : State} (hw : ∀ d ∈ tables_1, d.before a0 Z = true) : ((Jvm.Cond.instanceMethod ({ cls := "java/lang/Object", name := "<init>", desc := "()V" } : Jvm.MethodName))).before a0 Z = true := hw _ (List.mem_of_getElem? (i := 8) rfl)
theorem wd9 {a0 : Array Value} {Z : State} (hw : ∀ d ∈ tables_1, d.before a0 Z = true) : ((Jvm.Cond.code ({ cls := "java/lang/Object", name := "<init>", desc := "()V" } : Jvm.MethodName) object_method_1_code (1 : Nat) (Option.none : Option Jvm.ClassFile.FieldType))).before a0 Z = true := hw _ (List.mem_of_getElem? (i := 9) rfl)
theorem wd10 {a0 : Array Value} {Z : State} (hw : ∀ d ∈ tables_1, d.before a0 Z = true) : ((Jvm.Cond.fieldLink "com/example/vigilant_mailbox/vigilantmailbox/engine/Choices" (7 : Nat) "com/example/vigilant_mailbox/vigilantmailbox/engine/Choices" "taken" "[I")).before a0 Z = true := hw _ (List.mem_of_getElem? (i := 10) rfl)
theorem wd11 {a0 : Array Value} {Z : State} (hw : ∀ d ∈ tables_1, d.before a0 Z = true) : ((Jvm.Cond.lays "com/example/vigilant_mailbox/vigilantmailbox/engine/Choices" "com/example/vigilant_mailbox/vigilantmailbox/engine/Choices" "taken" "[I")).before a0 Z = true := hw _ (List.mem_of_getElem? (i := 11) rfl)
theorem wd12 {a0 : Array Value} {Z : State} (hw : ∀ d ∈ tables_1, d.before a0 Z = true) : ((Jvm.Cond.fieldLink "com/example/vigilant_mailbox/vigilantmailbox/engine/Choices" (13 : Nat) "com/example/vigilant_mailbox/vigilantmailbox/engine/Choices" "counts" "[I")).before a0 Z = true := hw _ (List.mem_of_getElem? (i := 12) rfl)
theorem wd13 {a0 : Array Value} {Z : State} (hw : ∀ d ∈ tables_1, d.before a0 Z = true) : ((Jvm.Cond.lays "com/example/vigilant_mailbox/vigilantmailbox/engine/Choices" "com/example/vigilant_mailbox/vigilantmailbox/engine/Choices" "counts" "[I")).before a0 Z = true := hw _ (List.mem_of_getElem? (i := 13) rfl)
theorem wd14 {a0 : Array Value} {Z : State} (hw : ∀ d ∈ tables_1, d.before a0 Z = true) : ((Jvm.Cond.methodLink "com/example/vigilant_mailbox/vigilantmailbox/engine/ChoicesNextPinLaw" (28 : Nat) ({ cls := "com/example/vigilant_mailbox/vigilantmailbox/engine/ChoicesNextPinLaw", name := "run", desc := "(Lcom/example/vigilant_mailbox/vigilantmailbox/engine/Choices;[IIII)V" } : Jvm.MethodName))).before a0 Z = true := hw _ (List.mem_of_getElem? (i := 14) rfl)
theorem wd15 {a0 : Array Value} {Z : State} (hw : ∀ d ∈ tables_1, d.before a0 Z = true) : ((Jvm.Cond.static ({ cls := "com/example/vigilant_mailbox/vigilantmailbox/engine/ChoicesNextPinLaw", name := "run", desc := "(Lcom/example/vigilant_mailbox/vigilantmailbox/engine/Choices;[IIII)V" } : Jvm.MethodName))).before a0 Z = true := hw _ (List.mem_of_getElem? (i := 15) rfl)
theorem wd16 {a0 : Array Value} {Z : State} (hw : ∀ d ∈ tables_1, d.before a0 Z = true) : ((Jvm.Cond.initialized "com/example/vigilant_mailbox/vigilantmailbox/engine/ChoicesNextPinLaw")).before a0 Z = true := hw _ (List.mem_of_getElem? (i := 16) rfl)
theorem wd17 {a0 : Array Value} {Z : State} (hw : ∀ d ∈ tables_1, d.before a0 Z = true) : ((Jvm.Cond.code ({ cls := "com/example/vigilant_mailbox/vigilantmailbox/engine/ChoicesNextPinLaw", name := "run", desc := "(Lcom/example/vigilant_mailbox/vigilantmailbox/engine/Choices;[IIII)V" } : Jvm.MethodName) method_3_code (10 : Nat) (Option.none : Option Jvm.ClassFile.FieldType))).before a0 Z = true := hw _ (List.mem_of_getElem? (i := 17) rfl)
theorem wd18 {a0 : Array Value} {Z : State} (hw : ∀ d ∈ tables_1, d.before a0 Z = true) : ((Jvm.Cond.methodLink "com/example/vigilant_mailbox/vigilantmailbox/engine/ChoicesNextPinLaw" (32 : Nat) ({ cls := "com/example/vigilant_mailbox/vigilantmailbox/engine/Choices", name := "next", desc := "()Z" } : Jvm.MethodName))).before a0 Z = true := hw _ (List.mem_of_getElem? (i := 18) rfl)
theorem wd19 {a0 : Array Value} {Z : State} (hw : ∀ d ∈ tables_1, d.before a0 Z = true) : ((Jvm.Cond.declares ({ cls := "com/example/vigilant_mailbox/vigilantmailbox/engine/Choices", name := "next", desc := "()Z" } : Jvm.MethodName))).before a0 Z = true := hw _ (List.mem_of_getElem? (i := 19) rfl)
theorem wd20 {a0 : Array Value} {Z : State} (hw : ∀ d ∈ tables_1, d.before a0 Z = true) : ((Jvm.Cond.instanceMethod ({ cls := "com/example/vigilant_mailbox/vigilantmailbox/engine/Choices", name := "next", desc := "()Z" } : Jvm.MethodName))).before a0 Z = true := hw _ (List.mem_of_getElem? (i := 20) rfl)
theorem wd21 {a0 : Array Value} {Z : State} (hw : ∀ d ∈ tables_1, d.before a0 Z = true) : ((Jvm.Cond.selects "com/example/vigilant_mailbox/vigilantmailbox/engine/Choices" ({ cls := "com/example/vigilant_mailbox/vigilantmailbox/engine/Choices", name := "next", desc := "()Z" } : Jvm.MethodName) ({ cls := "com/example/vigilant_mailbox/vigilantmailbox/engine/Choices", name := "next", desc := "()Z" } : Jvm.MethodName))).before a0 Z = true := hw _ (List.mem_of_getElem? (i := 21) rfl)
theorem wd22 {a0 : Array Value} {Z : State} (hw : ∀ d ∈ tables_1, d.before a0 Z = true) : ((Jvm.Cond.code ({ cls := "com/example/vigilant_mailbox/vigilantmailbox/engine/Choices", name := "next", desc := "()Z" } : Jvm.MethodName) prog_17_method_3_code (2 : Nat) (Option.some Jvm.ClassFile.FieldType.boolean))).before a0 Z = true := hw _ (List.mem_of_getElem? (i := 22) rfl)
theorem wd23 {a0 : Array Value} {Z : State} (hw : ∀ d ∈ tables_1, d.before a0 Z = true) : ((Jvm.Cond.fieldLink "com/example/vigilant_mailbox/vigilantmailbox/engine/Choices" (16 : Nat) "com/example/vigilant_mailbox/vigilantmailbox/engine/Choices" "made" "I")).before a0 Z = true := hw _ (List.mem_of_getElem? (i := 23) rfl)
theorem wd24 {a0 : Array Value} {Z : State} (hw : ∀ d ∈ tables_1, d.before a0 Z = true) : ((Jvm.Cond.lays "com/example/vigilant_mailbox/vigilantmailbox/engine/Choices" "com/example/vigilant_mailbox/vigilantmailbox/engine/Choices" "made" "I")).before a0 Z = true := hw _ (List.mem_of_getElem? (i := 24) rfl)
theorem wd25 {a0 : Array Value} {Z : State} (hw : ∀ d ∈ tables_1, d.before a0 Z = true) : ((Jvm.Cond.fieldLink "com/example/vigilant_mailbox/vigilantmailbox/engine/Choices" (26 : Nat) "com/example/vigilant_mailbox/vigilantmailbox/engine/Choices" "repeated" "I")).before a0 Z = true := hw _ (List.mem_of_getElem? (i := 25) rfl)
theorem wd26 {a0 : Array Value} {Z : State} (hw : ∀ d ∈ tables_1, d.before a0 Z = true) : ((Jvm.Cond.lays "com/example/vigilant_mailbox/vigilantmailbox/engine/Choices" "com/example/vigilant_mailbox/vigilantmailbox/engine/Choices" "repeated" "I")).before a0 Z = true := hw _ (List.mem_of_getElem? (i := 26) rfl)
theorem wd27 {a0 : Array Value} {Z : State} (hw : ∀ d ∈ tables_1, d.before a0 Z = true) : ((Jvm.Cond.methodLink "com/example/vigilant_mailbox/vigilantmailbox/engine/ChoicesNextPinLaw" (36 : Nat) ({ cls := "com/example/vigilant_mailbox/vigilantmailbox/engine/ChoicesNextPinLaw", name := "firstWay", desc := "([I)Z" } : Jvm.MethodName))).before a0 Z = true := hw _ (List.mem_of_getElem? (i := 27) rfl)
theorem wd28 {a0 : Array Value} {Z : State} (hw : ∀ d ∈ tables_1, d.before a0 Z = true) : ((Jvm.Cond.static ({ cls := "com/example/vigilant_mailbox/vigilantmailbox/engine/ChoicesNextPinLaw", name := "firstWay", desc := "([I)Z" } : Jvm.MethodName))).before a0 Z = true := hw _ (List.mem_of_getElem? (i := 28) rfl)
theorem wd29 {a0 : Array Value} {Z : State} (hw : ∀ d ∈ tables_1, d.before a0 Z = true) : ((Jvm.Cond.code ({ cls := "com/example/vigilant_mailbox/vigilantmailbox/engine/ChoicesNextPinLaw", name := "firstWay", desc := "([I)Z" } : Jvm.MethodName) method_4_code (2 : Nat) (Option.some Jvm.ClassFile.FieldType.boolean))).before a0 Z = true := hw _ (List.mem_of_getElem? (i := 29) rfl)
theorem wd30 {a0 : Array Value} {Z : State} (hw : ∀ d ∈ tables_1, d.before a0 Z = true) : ((Jvm.Cond.methodLink "com/example/vigilant_mailbox/vigilantmailbox/engine/ChoicesNextPinLaw" (40 : Nat) ({ cls := "com/example/vigilant_mailbox/vigilantmailbox/engine/ChoicesNextPinLaw", name := "follows", desc := "([I[IZ)Z" } : Jvm.MethodName))).before a0 Z = true := hw _ (List.mem_of_getElem? (i := 30) rfl)
theorem wd31 {a0 : Array Value} {Z : State} (hw : ∀ d ∈ tables_1, d.before a0 Z = true) : ((Jvm.Cond.static ({ cls := "com/example/vigilant_mailbox/vigilantmailbox/engine/ChoicesNextPinLaw", name := "follows", desc := "([I[IZ)Z" } : Jvm.MethodName))).before a0 Z = true := hw _ (List.mem_of_getElem? (i := 31) rfl)
theorem wd32 {a0 : Array Value} {Z : State} (hw : ∀ d ∈ tables_1, d.before a0 Z = true) : ((Jvm.Cond.code ({ cls := "com/example/vigilant_mailbox/vigilantmailbox/engine/ChoicesNextPinLaw", name := "follows", desc := "([I[IZ)Z" } : Jvm.MethodName) method_5_code (6 : Nat) (Option.some Jvm.ClassFile.FieldType.boolean))).before a0 Z = true := hw _ (List.mem_of_getElem? (i := 32) rfl)
theorem wd33 {a0 : Array Value} {Z : State} (hw : ∀ d ∈ tables_1, d.before a0 Z = true) : ((Jvm.Cond.methodLink "com/example/vigilant_mailbox/vigilantmailbox/engine/ChoicesNextPinLaw" (7 : Nat) ({ cls := "com/example/vigilant_mailbox/vigilantmailbox/engine/ChoicesNextPinLaw", name := "cnt", desc := "(I)I" } : Jvm.MethodName))).before a0 Z = true := hw _ (List.mem_of_getElem? (i := 33) rfl)
theorem wd34 {a0 : Array Value} {Z : State} (hw : ∀ d ∈ tables_1, d.before a0 Z = true) : ((Jvm.Cond.static ({ cls := "com/example/vigilant_mailbox/vigilantmailbox/engine/ChoicesNextPinLaw", name := "cnt", desc := "(I)I" } : Jvm.MethodName))).before a0 Z = true := hw _ (List.mem_of_getElem? (i := 34) rfl)
theorem wd35 {a0 : Array Value} {Z : State} (hw : ∀ d ∈ tables_1, d.before a0 Z = true) : ((Jvm.Cond.code ({ cls := "com/example/vigilant_mailbox/vigilantmailbox/engine/ChoicesNextPinLaw", name := "cnt", desc := "(I)I" } : Jvm.MethodName) method_2_code (1 : Nat) (Option.some Jvm.ClassFile.FieldType.int))).before a0 Z = true := hw _ (List.mem_of_getElem? (i := 35) rfl)
theorem wd36 {a0 : Array Value} {Z : State} (hw : ∀ d ∈ tables_1, d.before a0 Z = true) : ((Jvm.Cond.methodLink "com/example/vigilant_mailbox/vigilantmailbox/engine/ChoicesNextPinLaw" (13 : Nat) ({ cls := "com/example/vigilant_mailbox/vigilantmailbox/engine/Choices", name := "choose", desc := "(I)I" } : Jvm.MethodName))).before a0 Z = true := hw _ (List.mem_of_getElem? (i := 36) rfl)
theorem wd37 {a0 : Array Value} {Z : State} (hw : ∀ d ∈ tables_1, d.before a0 Z = true) : ((Jvm.Cond.declares ({ cls := "com/example/vigilant_mailbox/vigilantmailbox/engine/Choices", name := "choose", desc := "(I)I" } : Jvm.MethodName))).before a0 Z = true := hw _ (List.mem_of_getElem? (i := 37) rfl)
theorem wd38 {a0 : Array Value} {Z : State} (hw : ∀ d ∈ tables_1, d.before a0 Z = true) : ((Jvm.Cond.instanceMethod ({ cls := "com/example/vigilant_mailbox/vigilantmailbox/engine/Choices", name := "choose", desc := "(I)I" } : Jvm.MethodName))).before a0 Z = true := hw _ (List.mem_of_getElem? (i := 38) rfl)
theorem wd39 {a0 : Array Value} {Z : State} (hw : ∀ d ∈ tables_1, d.before a0 Z = true) : ((Jvm.Cond.selects "com/example/vigilant_mailbox/vigilantmailbox/engine/Choices" ({ cls := "com/example/vigilant_mailbox/vigilantmailbox/engine/Choices", name := "choose", desc := "(I)I" } : Jvm.MethodName) ({ cls := "com/example/vigilant_mailbox/vigilantmailbox/engine/Choices", name := "choose", desc := "(I)I" } : Jvm.MethodName))).before a0 Z = true := hw _ (List.mem_of_getElem? (i := 39) rfl)
theorem wd40 {a0 : Array Value} {Z : State} (hw : ∀ d ∈ tables_1, d.before a0 Z = true) : ((Jvm.Cond.code ({ cls := "com/example/vigilant_mailbox/vigilantmailbox/engine/Choices", name := "choose", desc := "(I)I" } : Jvm.MethodName) prog_17_method_2_code (2 : Nat) (Option.some Jvm.ClassFile.FieldType.int))).before a0 Z = true := hw _ (List.mem_of_getElem? (i := 40) rfl)
theorem wd41 {a0 : Array Value} {Z : State} (hw : ∀ d ∈ tables_1, d.before a0 Z = true) : ((Jvm.Cond.methodLink "com/example/vigilant_mailbox/vigilantmailbox/engine/ChoicesNextPinLaw" (18 : Nat) ({ cls := "java/lang/Math", name := "max", desc := "(II)I" } : Jvm.MethodName))).before a0 Z = true := hw _ (List.mem_of_getElem? (i := 41) rfl)
theorem wd42 {a0 : Array Value} {Z : State} (hw : ∀ d ∈ tables_1, d.before a0 Z = true) : ((Jvm.Cond.static ({ cls := "java/lang/Math", name := "max", desc := "(II)I" } : Jvm.MethodName))).before a0 Z = true := hw _ (List.mem_of_getElem? (i := 42) rfl)
theorem wd43 {a0 : Array Value} {Z : State} (hw : ∀ d ∈ tables_1, d.before a0 Z = true) : ((Jvm.Cond.initialized "java/lang/Math")).before a0 Z = true := hw _ (List.mem_of_getElem? (i := 43) rfl)
theorem wd44 {a0 : Array Value} {Z : State} (hw : ∀ d ∈ tables_1, d.before a0 Z = true) : ((Jvm.Cond.code ({ cls := "java/lang/Math", name := "max", desc := "(II)I" } : Jvm.MethodName) jdk_29_method_65_code (2 : Nat) (Option.some Jvm.ClassFile.FieldType.int))).before a0 Z = true := hw _ (List.mem_of_getElem? (i := 44) rfl)
theorem wd45 {a0 : Array Value} {Z : State} (hw : ∀ d ∈ tables_1, d.before a0 Z = true) : ((Jvm.Cond.methodLink "com/example/vigilant_mailbox/vigilantmailbox/engine/ChoicesNextPinLaw" (24 : Nat) ({ cls := "java/lang/Math", name := "min", desc := "(II)I" } : Jvm.MethodName))).before a0 Z = true := hw _ (List.mem_of_getElem? (i := 45) rfl)
theorem wd46 {a0 : Array Value} {Z : State} (hw : ∀ d ∈ tables_1, d.before a0 Z = true) : ((Jvm.Cond.static ({ cls := "java/lang/Math", name := "min", desc := "(II)I" } : Jvm.MethodName))).before a0 Z = true := hw _ (List.mem_of_getElem? (i := 46) rfl)
theorem wd47 {a0 : Array Value} {Z : State} (hw : ∀ d ∈ tables_1, d.before a0 Z = true) : ((Jvm.Cond.code ({ cls := "java/lang/Math", name := "min", desc := "(II)I" } : Jvm.MethodName) jdk_29_method_69_code (2 : Nat) (Option.some Jvm.ClassFile.FieldType.int))).before a0 Z = true := hw _ (List.mem_of_getElem? (i := 47) rfl)
theorem pd0 : parseMethodDescriptor "(I)I" = some ⟨[.int], some .int⟩ := by decide +kernel
theorem pd1 : parseMethodDescriptor "(II)I" = some ⟨[.int, .int], some .int⟩ := by decide +kernel
theorem pd2 : parseMethodDescriptor "()V" = some ⟨[], none⟩ := by decide +kernel
theorem pd3 : parseMethodDescriptor "(Lcom/example/vigilant_mailbox/vigilantmailbox/engine/Choices;[IIII)V" = some ⟨[(.object "com/example/vigilant_mailbox/vigilantmailbox/engine/Choices"), (.array .int), .int, .int, .int], none⟩ := by decide +kernel
theorem pd4 : parseMethodDescriptor "()Z" = some ⟨[], some .boolean⟩ := by decide +kernel
theorem pd5 : parseMethodDescriptor "([I)Z" = some ⟨[(.array .int)], some .boolean⟩ := by decide +kernel
theorem pd6 : parseMethodDescriptor "([I[IZ)Z" = some ⟨[(.array .int), (.array .int), .boolean], some .boolean⟩ := by decide +kernel
set_option maxRecDepth 65536 in
set_option maxHeartbeats 40000000 in
theorem lf9_1 (a : Int32) (b : Int32) (hc2_1 : a < b) : b = own_max a b := by
  unfold own_max
  first | (rw [if_pos ‹_›]; done) | (rw [if_neg ‹_›]; done)
set_option maxRecDepth 65536 in
set_option maxHeartbeats 40000000 in
theorem lf9_2 (a : Int32) (b : Int32) (hc2_1 : ¬ (a < b)) : a = own_max a b := by
  unfold own_max
  first | (rw [if_pos ‹_›]; done) | (rw [if_neg ‹_›]; done)
theorem d9_0 : decode jdk_29_method_65_code 0 = .ok (.iload_n 0, 1) := by decide +kernel
theorem d9_1 : decode jdk_29_method_65_code 1 = .ok (.iload_n 1, 1) := by decide +kernel
theorem d9_2 : decode jdk_29_method_65_code 2 = .ok (.if_icmp .lt 7, 3) := by decide +kernel
theorem d9_5 : decode jdk_29_method_65_code 5 = .ok (.iload_n 0, 1) := by decide +kernel
theorem d9_6 : decode jdk_29_method_65_code 6 = .ok (.goto 4, 3) := by decide +kernel
theorem d9_9 : decode jdk_29_method_65_code 9 = .ok (.iload_n 1, 1) := by decide +kernel
theorem d9_10 : decode jdk_29_method_65_code 10 = .ok (.ireturn, 1) := by decide +kernel
set_option maxRecDepth 65536 in
set_option maxHeartbeats 40000000 in
theorem rm_max {l : Launch} {Z : State} {a0 : Array Value} (hw : ∀ d ∈ tables_1, d.before a0 Z = true) (a b : Int32) (h : Heap) (n0 : Nat) (zn : n0 ≤ h.size) :
    Met l Z (⟨"java/lang/Math", "max", "(II)I"⟩ : MethodName) jdk_29_method_65_code 2 (some .int) [] ({ frames := 0, cells := 0, slots := 0, locals := 0 } : Room) #[(.int a), (.int b)] h n0 (RI fun r h' => h' = h ∧ r = own_max a b) := by
  refine start (ls := #[.val (.int a), .val (.int b)]) (mathPlain rfl (by decide +kernel)) (fun m => by first | (simp [entryFrame, mkF, argsToLocals, Value.category]; done) | rfl) ?_
  intro p e s m below meth c T G w X
  refine iloadN w X d9_0 1 rfl rfl ?_
  refine iloadN w X d9_1 2 rfl rfl ?_
  refine icmp_lt w X d9_2 9 5 (by decide) (by decide) rfl (fun hc2_1 => ?_) (fun hc2_1 => ?_)
  ·
    refine iloadN w X d9_9 10 rfl rfl ?_
    refine retI w X rfl d9_10 (by decide) (by decide) ?_
    exact ⟨_, rfl, rfl, lf9_1 a b hc2_1⟩
  ·
    refine iloadN w X d9_5 6 rfl rfl ?_
    refine goto w X d9_6 10 (by decide) (by decide) ?_
    refine retI w X rfl d9_10 (by decide) (by decide) ?_
    exact ⟨_, rfl, rfl, lf9_2 a b hc2_1⟩
set_option maxRecDepth 65536 in
set_option maxHeartbeats 40000000 in
theorem lf10_1 (a : Int32) (b : Int32) (hc2_1 : b < a) : b = own_min a b := by
  unfold own_min
  first | (rw [if_pos ‹_›]; done) | (rw [if_neg ‹_›]; done)
set_option maxRecDepth 65536 in
set_option maxHeartbeats 40000000 in
theorem lf10_2 (a : Int32) (b : Int32) (hc2_1 : ¬ (b < a)) : a = own_min a b := by
  unfold own_min
  first | (rw [if_pos ‹_›]; done) | (rw [if_neg ‹_›]; done)
theorem d10_0 : decode jdk_29_method_69_code 0 = .ok (.iload_n 0, 1) := by decide +kernel
theorem d10_1 : decode jdk_29_method_69_code 1 = .ok (.iload_n 1, 1) := by decide +kernel
theorem d10_2 : decode jdk_29_method_69_code 2 = .ok (.if_icmp .gt 7, 3) := by decide +kernel
theorem d10_5 : decode jdk_29_method_69_code 5 = .ok (.iload_n 0, 1) := by decide +kernel
theorem d10_6 : decode jdk_29_method_69_code 6 = .ok (.goto 4, 3) := by decide +kernel
theorem d10_9 : decode jdk_29_method_69_code 9 = .ok (.iload_n 1, 1) := by decide +kernel
theorem d10_10 : decode jdk_29_method_69_code 10 = .ok (.ireturn, 1) := by decide +kernel
set_option maxRecDepth 65536 in
set_option maxHeartbeats 40000000 in
theorem rm_min {l : Launch} {Z : State} {a0 : Array Value} (hw : ∀ d ∈ tables_1, d.before a0 Z = true) (a b : Int32) (h : Heap) (n0 : Nat) (zn : n0 ≤ h.size) :
    Met l Z (⟨"java/lang/Math", "min", "(II)I"⟩ : MethodName) jdk_29_method_69_code 2 (some .int) [] ({ frames := 0, cells := 0, slots := 0, locals := 0 } : Room) #[(.int a), (.int b)] h n0 (RI fun r h' => h' = h ∧ r = own_min a b) := by
  refine start (ls := #[.val (.int a), .val (.int b)]) (mathPlain rfl (by decide +kernel)) (fun m => by first | (simp [entryFrame, mkF, argsToLocals, Value.category]; done) | rfl) ?_
  intro p e s m below meth c T G w X
  refine iloadN w X d10_0 1 rfl rfl ?_
  refine iloadN w X d10_1 2 rfl rfl ?_
  refine icmp_gt w X d10_2 9 5 (by decide) (by decide) rfl (fun hc2_1 => ?_) (fun hc2_1 => ?_)
  ·
    refine iloadN w X d10_9 10 rfl rfl ?_
    refine retI w X rfl d10_10 (by decide) (by decide) ?_
    exact ⟨_, rfl, rfl, lf10_1 a b hc2_1⟩
  ·
    refine iloadN w X d10_5 6 rfl rfl ?_
    refine goto w X d10_6 10 (by decide) (by decide) ?_
    refine retI w X rfl d10_10 (by decide) (by decide) ?_
    exact ⟨_, rfl, rfl, lf10_2 a b hc2_1⟩
set_option maxRecDepth 65536 in
set_option maxHeartbeats 40000000 in
theorem lf7_1 (v : Int32) (hc4_1 : ¬ ((v &&& (16 : Int32)) = 0)) : ((2 : Int32) + ((v.toUInt32 >>> ((5 : Int32) &&& 31).toUInt32).toInt32)) = own_cnt v := by
  unfold own_cnt
  first | (rw [if_pos ‹_›]; done) | (rw [if_neg ‹_›]; done)
set_option maxRecDepth 65536 in
set_option maxHeartbeats 40000000 in
theorem lf7_2 (v : Int32) (hc4_1 : (v &&& (16 : Int32)) = 0) : ((2 : Int32) + (v &&& (3 : Int32))) = own_cnt v := by
  unfold own_cnt
  first | (rw [if_pos ‹_›]; done) | (rw [if_neg ‹_›]; done)
theorem d7_0 : decode method_2_code 0 = .ok (.iload_n 0, 1) := by decide +kernel
theorem d7_1 : decode method_2_code 1 = .ok (.bipush 16, 2) := by decide +kernel
theorem d7_3 : decode method_2_code 3 = .ok (.iand, 1) := by decide +kernel
theorem d7_4 : decode method_2_code 4 = .ok (.ifCond .ne 11, 3) := by decide +kernel
theorem d7_7 : decode method_2_code 7 = .ok (.iconst 2, 1) := by decide +kernel
theorem d7_8 : decode method_2_code 8 = .ok (.iload_n 0, 1) := by decide +kernel
theorem d7_9 : decode method_2_code 9 = .ok (.iconst 3, 1) := by decide +kernel
theorem d7_10 : decode method_2_code 10 = .ok (.iand, 1) := by decide +kernel
theorem d7_11 : decode method_2_code 11 = .ok (.iadd, 1) := by decide +kernel
theorem d7_12 : decode method_2_code 12 = .ok (.goto 8, 3) := by decide +kernel
theorem d7_15 : decode method_2_code 15 = .ok (.iconst 2, 1) := by decide +kernel
theorem d7_16 : decode method_2_code 16 = .ok (.iload_n 0, 1) := by decide +kernel
theorem d7_17 : decode method_2_code 17 = .ok (.iconst 5, 1) := by decide +kernel
theorem d7_18 : decode method_2_code 18 = .ok (.iushr, 1) := by decide +kernel
theorem d7_19 : decode method_2_code 19 = .ok (.iadd, 1) := by decide +kernel
theorem d7_20 : decode method_2_code 20 = .ok (.ireturn, 1) := by decide +kernel
theorem pn7 : plainName "com/example/vigilant_mailbox/vigilantmailbox/engine/ChoicesNextPinLaw" = true := by first | (simp [plainName, overriddenIn]; done) | decide +kernel
set_option maxRecDepth 65536 in
set_option maxHeartbeats 40000000 in
theorem rm_cnt {l : Launch} {Z : State} {a0 : Array Value} (hw : ∀ d ∈ tables_1, d.before a0 Z = true) (v : Int32) (h : Heap) (n0 : Nat) (zn : n0 ≤ h.size) :
    Met l Z (⟨"com/example/vigilant_mailbox/vigilantmailbox/engine/ChoicesNextPinLaw", "cnt", "(I)I"⟩ : MethodName) method_2_code 1 (some .int) [] ({ frames := 0, cells := 0, slots := 0, locals := 0 } : Room) #[(.int v)] h n0 (RI fun r h' => h' = h ∧ r = own_cnt v) := by
  refine start (ls := #[.val (.int v)]) (plainFor_of_name pn7) (fun m => by first | (simp [entryFrame, mkF, argsToLocals, Value.category]; done) | rfl) ?_
  intro p e s m below meth c T G w X
  refine iloadN w X d7_0 1 rfl rfl ?_
  refine bipush w X (16 : Int32) d7_1 3 rfl rfl ?_
  refine iand w X (v &&& (16 : Int32)) d7_3 4 rfl rfl ?_
  refine if_ne w X d7_4 15 7 (by decide) (by decide) rfl (fun hc4_1 => ?_) (fun hc4_1 => ?_)
  ·
    refine iconst w X (2 : Int32) d7_15 16 rfl rfl ?_
    refine iloadN w X d7_16 17 rfl rfl ?_
    refine iconst w X (5 : Int32) d7_17 18 rfl rfl ?_
    refine iushr w X ((v.toUInt32 >>> ((5 : Int32) &&& 31).toUInt32).toInt32) d7_18 19 rfl rfl ?_
    refine iadd w X ((2 : Int32) + ((v.toUInt32 >>> ((5 : Int32) &&& 31).toUInt32).toInt32)) d7_19 20 rfl rfl ?_
    refine retI w X rfl d7_20 (by decide) (by decide) ?_
    exact ⟨_, rfl, rfl, lf7_1 v hc4_1⟩
  ·
    refine iconst w X (2 : Int32) d7_7 8 rfl rfl ?_
    refine iloadN w X d7_8 9 rfl rfl ?_
    refine iconst w X (3 : Int32) d7_9 10 rfl rfl ?_
    refine iand w X (v &&& (3 : Int32)) d7_10 11 rfl rfl ?_
    refine iadd w X ((2 : Int32) + (v &&& (3 : Int32))) d7_11 12 rfl rfl ?_
    refine goto w X d7_12 20 (by decide) (by decide) ?_
    refine retI w X rfl d7_20 (by decide) (by decide) ?_
    exact ⟨_, rfl, rfl, lf7_2 v hc4_1⟩
theorem d1_0 : decode prog_17_method_1_code 0 = .ok (.aload_n 0, 1) := by decide +kernel
theorem d1_1 : decode prog_17_method_1_code 1 = .ok (.invokespecial 1, 3) := by decide +kernel
theorem d1_4 : decode prog_17_method_1_code 4 = .ok (.aload_n 0, 1) := by decide +kernel
theorem d1_5 : decode prog_17_method_1_code 5 = .ok (.iconst 2, 1) := by decide +kernel
theorem d1_6 : decode prog_17_method_1_code 6 = .ok (.newarray .int, 2) := by decide +kernel
theorem d1_8 : decode prog_17_method_1_code 8 = .ok (.putfield 7, 3) := by decide +kernel
theorem d1_11 : decode prog_17_method_1_code 11 = .ok (.aload_n 0, 1) := by decide +kernel
theorem d1_12 : decode prog_17_method_1_code 12 = .ok (.iconst 2, 1) := by decide +kernel
theorem d1_13 : decode prog_17_method_1_code 13 = .ok (.newarray .int, 2) := by decide +kernel
theorem d1_15 : decode prog_17_method_1_code 15 = .ok (.putfield 13, 3) := by decide +kernel
theorem d1_18 : decode prog_17_method_1_code 18 = .ok (.return_, 1) := by decide +kernel
theorem pn1 : plainName "com/example/vigilant_mailbox/vigilantmailbox/engine/Choices" = true := by first | (simp [plainName, overriddenIn]; done) | decide +kernel
set_option maxRecDepth 65536 in
set_option maxHeartbeats 40000000 in
theorem rm_in {l : Launch} {Z : State} {a0 : Array Value} (hw : ∀ d ∈ tables_1, d.before a0 Z = true) (o : Addr) (h : Heap) (n0 : Nat) (zn : n0 ≤ h.size) (g_o : n0 ≤ o) (E_o : Exa Z h o "com/example/vigilant_mailbox/vigilantmailbox/engine/Choices") (F_taken_o : Fld Z h o "com/example/vigilant_mailbox/vigilantmailbox/engine/Choices" "taken" "[I" .null) (F_counts_o : Fld Z h o "com/example/vigilant_mailbox/vigilantmailbox/engine/Choices" "counts" "[I" .null) (F_made_o : Fld Z h o "com/example/vigilant_mailbox/vigilantmailbox/engine/Choices" "made" "I" (.int (0 : Int32))) (F_repeated_o : Fld Z h o "com/example/vigilant_mailbox/vigilantmailbox/engine/Choices" "repeated" "I" (.int (0 : Int32))) :
    Met l Z (⟨"com/example/vigilant_mailbox/vigilantmailbox/engine/Choices", "<init>", "()V"⟩ : MethodName) prog_17_method_1_code 1 none [] ({ frames := 1, cells := 2, slots := 4, locals := 12 } : Room) #[(.ref o)] h n0 (RV fun h' => ∃ TA NA : Addr, Keep h h' [o] ∧ Exa Z h' o "com/example/vigilant_mailbox/vigilantmailbox/engine/Choices" ∧ Fld Z h' o "com/example/vigilant_mailbox/vigilantmailbox/engine/Choices" "taken" "[I" (.ref TA) ∧ Fld Z h' o "com/example/vigilant_mailbox/vigilantmailbox/engine/Choices" "counts" "[I" (.ref NA) ∧ Fld Z h' o "com/example/vigilant_mailbox/vigilantmailbox/engine/Choices" "made" "I" (.int (0 : Int32)) ∧ Fld Z h' o "com/example/vigilant_mailbox/vigilantmailbox/engine/Choices" "repeated" "I" (.int (0 : Int32)) ∧ PA Z h' TA .int [(0 : Int32), (0 : Int32)] ∧ PA Z h' NA .int [(0 : Int32), (0 : Int32)] ∧ n0 ≤ TA ∧ n0 ≤ NA ∧ o ≠ TA ∧ o ≠ NA ∧ TA ≠ NA ∧ h.size ≤ TA ∧ h.size ≤ NA) := by
  refine start (ls := #[.val (.ref o)]) (plainFor_of_name pn1) (fun m => by first | (simp [entryFrame, mkF, argsToLocals, Value.category]; done) | rfl) ?_
  intro p e s m below meth c T G w X
  have K := Keep.refl h [o]
  refine aloadN w X d1_0 1 rfl rfl rfl ?_
  refine initObj w X (wd7 hw) (wd8 hw) (wd9 hw) d1_1 4 rfl rfl (by decide) 0 (Nat.le_of_eq rfl) (by decide) (fun T X => ?_)
  refine aloadN w X d1_4 5 rfl rfl rfl ?_
  refine iconst w X (2 : Int32) d1_5 6 rfl rfl ?_
  refine newarr (aty := .int) w X (wd0 hw) d1_6 8 rfl (by decide) 2 (by decide) (by decide) (by decide) (by decide) (fun T h1 b2 cA X hnb2 E A => ?_)
  have ne_o_b2 : o ≠ b2 := fun q => absurd (q ▸ E_o.lt) (by rw [hnb2]; exact Nat.lt_irrefl _)
  have g_b2 : n0 ≤ b2 := by rw [hnb2]; exact zn
  have sz_b2 : h.size ≤ b2 := by rw [hnb2]; exact K.1
  have zn : n0 ≤ h1.size := Nat.le_trans zn E.1
  have K := K.ext E
  have E_o := E_o.ext E
  have F_taken_o := F_taken_o.ext E
  have F_counts_o := F_counts_o.ext E
  have F_made_o := F_made_o.ext E
  have F_repeated_o := F_repeated_o.ext E
  have V_b2 : PA Z h1 b2 .int [(0 : Int32), (0 : Int32)] := PA.new .int rfl rfl 2 A (by decide)
  refine putfield w X (wd10 hw) Via.refl F_taken_o E_o (Or.inl (wd11 hw)) (wd2 hw) (ty := (.array .int)) (by decide) rfl rfl g_o d1_8 11 rfl (fun T h3 X W => ?_)
  have zn : n0 ≤ h3.size := W.size ▸ zn
  have K := K.wr W (Or.inl (List.mem_of_getElem? (i := 0) rfl))
  have E_o := E_o.wr W
  have F_taken_o := F_taken_o.same W
  have F_counts_o := F_counts_o.other W (Or.inr (slot_ne (Or.inl (wd13 hw)) (Or.inl (wd11 hw)) (by decide) (t := (.array .int)) (t' := (.array .int)) (by decide) (by decide)))
  have F_made_o := F_made_o.other W (Or.inr (slot_ne (Or.inl (wd24 hw)) (Or.inl (wd11 hw)) (by decide) (t := .int) (t' := (.array .int)) (by decide) (by decide)))
  have F_repeated_o := F_repeated_o.other W (Or.inr (slot_ne (Or.inl (wd26 hw)) (Or.inl (wd11 hw)) (by decide) (t := .int) (t' := (.array .int)) (by decide) (by decide)))
  have V_b2 := V_b2.other W (Ne.symm ne_o_b2)
  refine aloadN w X d1_11 12 rfl rfl rfl ?_
  refine iconst w X (2 : Int32) d1_12 13 rfl rfl ?_
  refine newarr (aty := .int) w X (wd0 hw) d1_13 15 rfl (by decide) 2 (by decide) (by decide) (by decide) (by decide) (fun T h4 b5 cA X hnb5 E A => ?_)
  have ne_o_b5 : o ≠ b5 := fun q => absurd (q ▸ E_o.lt) (by rw [hnb5]; exact Nat.lt_irrefl _)
  have ne_b2_b5 : b2 ≠ b5 := fun q => absurd (q ▸ V_b2.lt) (by rw [hnb5]; exact Nat.lt_irrefl _)
  have g_b5 : n0 ≤ b5 := by rw [hnb5]; exact zn
  have sz_b5 : h.size ≤ b5 := by rw [hnb5]; exact K.1
  have zn : n0 ≤ h4.size := Nat.le_trans zn E.1
  have K := K.ext E
  have E_o := E_o.ext E
  have F_taken_o := F_taken_o.ext E
  have F_counts_o := F_counts_o.ext E
  have F_made_o := F_made_o.ext E
  have F_repeated_o := F_repeated_o.ext E
  have V_b2 := V_b2.ext E
  have V_b5 : PA Z h4 b5 .int [(0 : Int32), (0 : Int32)] := PA.new .int rfl rfl 2 A (by decide)
  refine putfield w X (wd12 hw) Via.refl F_counts_o E_o (Or.inl (wd13 hw)) (wd2 hw) (ty := (.array .int)) (by decide) rfl rfl g_o d1_15 18 rfl (fun T h6 X W => ?_)
  have zn : n0 ≤ h6.size := W.size ▸ zn
  have K := K.wr W (Or.inl (List.mem_of_getElem? (i := 0) rfl))
  have E_o := E_o.wr W
  have F_taken_o := F_taken_o.other W (Or.inr (slot_ne (Or.inl (wd11 hw)) (Or.inl (wd13 hw)) (by decide) (t := (.array .int)) (t' := (.array .int)) (by decide) (by decide)))
  have F_counts_o := F_counts_o.same W
  have F_made_o := F_made_o.other W (Or.inr (slot_ne (Or.inl (wd24 hw)) (Or.inl (wd13 hw)) (by decide) (t := .int) (t' := (.array .int)) (by decide) (by decide)))
  have F_repeated_o := F_repeated_o.other W (Or.inr (slot_ne (Or.inl (wd26 hw)) (Or.inl (wd13 hw)) (by decide) (t := .int) (t' := (.array .int)) (by decide) (by decide)))
  have V_b2 := V_b2.other W (Ne.symm ne_o_b2)
  have V_b5 := V_b5.other W (Ne.symm ne_o_b5)
  refine retV w X rfl d1_18 (by decide) (by decide) ?_
  exact ⟨rfl, b2, b5, K, E_o, F_taken_o, F_counts_o, F_made_o, F_repeated_o, V_b2, V_b5, g_b2, g_b5, ne_o_b2, ne_o_b5, ne_b2_b5, sz_b2, sz_b5⟩
set_option maxRecDepth 65536 in
set_option maxHeartbeats 40000000 in
theorem lf_ch0_34 (rr : Int32) (t0 : Int32) (c0 : Int32) (k : Int32) (hc9_1 : ¬ ((0 : Int32) = (2 : Int32))) (hc54_2 : (0 : Int32) < rr) : own_cho (0 : Int32) rr t0 c0 k t0 c0 := by
  first | exact Or.inl ⟨‹_›, rfl, rfl⟩ | exact Or.inr ⟨‹_›, rfl, rfl⟩
set_option maxRecDepth 65536 in
set_option maxHeartbeats 40000000 in
theorem lf_ch0_86 (rr : Int32) (t0 : Int32) (c0 : Int32) (k : Int32) (hc9_1 : ¬ ((0 : Int32) = (2 : Int32))) (hc54_2 : ¬ ((0 : Int32) < rr)) : own_cho (0 : Int32) rr t0 c0 k (0 : Int32) k := by
  first | exact Or.inl ⟨‹_›, rfl, rfl⟩ | exact Or.inr ⟨‹_›, rfl, rfl⟩
theorem d8_0 : decode prog_17_method_2_code 0 = .ok (.aload_n 0, 1) := by decide +kernel
theorem d8_1 : decode prog_17_method_2_code 1 = .ok (.getfield 16, 3) := by decide +kernel
theorem d8_4 : decode prog_17_method_2_code 4 = .ok (.aload_n 0, 1) := by decide +kernel
theorem d8_5 : decode prog_17_method_2_code 5 = .ok (.getfield 7, 3) := by decide +kernel
theorem d8_8 : decode prog_17_method_2_code 8 = .ok (.arraylength, 1) := by decide +kernel
theorem d8_9 : decode prog_17_method_2_code 9 = .ok (.if_icmp .ne 37, 3) := by decide +kernel
theorem d8_46 : decode prog_17_method_2_code 46 = .ok (.aload_n 0, 1) := by decide +kernel
theorem d8_47 : decode prog_17_method_2_code 47 = .ok (.getfield 16, 3) := by decide +kernel
theorem d8_50 : decode prog_17_method_2_code 50 = .ok (.aload_n 0, 1) := by decide +kernel
theorem d8_51 : decode prog_17_method_2_code 51 = .ok (.getfield 26, 3) := by decide +kernel
theorem d8_54 : decode prog_17_method_2_code 54 = .ok (.if_icmp .lt 23, 3) := by decide +kernel
theorem d8_57 : decode prog_17_method_2_code 57 = .ok (.aload_n 0, 1) := by decide +kernel
theorem d8_58 : decode prog_17_method_2_code 58 = .ok (.getfield 7, 3) := by decide +kernel
theorem d8_61 : decode prog_17_method_2_code 61 = .ok (.aload_n 0, 1) := by decide +kernel
theorem d8_62 : decode prog_17_method_2_code 62 = .ok (.getfield 16, 3) := by decide +kernel
theorem d8_65 : decode prog_17_method_2_code 65 = .ok (.iconst 0, 1) := by decide +kernel
theorem d8_66 : decode prog_17_method_2_code 66 = .ok (.iastore, 1) := by decide +kernel
theorem d8_67 : decode prog_17_method_2_code 67 = .ok (.aload_n 0, 1) := by decide +kernel
theorem d8_68 : decode prog_17_method_2_code 68 = .ok (.getfield 13, 3) := by decide +kernel
theorem d8_71 : decode prog_17_method_2_code 71 = .ok (.aload_n 0, 1) := by decide +kernel
theorem d8_72 : decode prog_17_method_2_code 72 = .ok (.getfield 16, 3) := by decide +kernel
theorem d8_75 : decode prog_17_method_2_code 75 = .ok (.iload_n 1, 1) := by decide +kernel
theorem d8_76 : decode prog_17_method_2_code 76 = .ok (.iastore, 1) := by decide +kernel
theorem d8_77 : decode prog_17_method_2_code 77 = .ok (.aload_n 0, 1) := by decide +kernel
theorem d8_78 : decode prog_17_method_2_code 78 = .ok (.getfield 7, 3) := by decide +kernel
theorem d8_81 : decode prog_17_method_2_code 81 = .ok (.aload_n 0, 1) := by decide +kernel
theorem d8_82 : decode prog_17_method_2_code 82 = .ok (.dup, 1) := by decide +kernel
theorem d8_83 : decode prog_17_method_2_code 83 = .ok (.getfield 16, 3) := by decide +kernel
theorem d8_86 : decode prog_17_method_2_code 86 = .ok (.dup_x1, 1) := by decide +kernel
theorem d8_87 : decode prog_17_method_2_code 87 = .ok (.iconst 1, 1) := by decide +kernel
theorem d8_88 : decode prog_17_method_2_code 88 = .ok (.iadd, 1) := by decide +kernel
theorem d8_89 : decode prog_17_method_2_code 89 = .ok (.putfield 16, 3) := by decide +kernel
theorem d8_92 : decode prog_17_method_2_code 92 = .ok (.iaload, 1) := by decide +kernel
theorem d8_93 : decode prog_17_method_2_code 93 = .ok (.ireturn, 1) := by decide +kernel
set_option maxRecDepth 65536 in
set_option maxHeartbeats 40000000 in
theorem rm_ch0 {l : Launch} {Z : State} {a0 : Array Value} (hw : ∀ d ∈ tables_1, d.before a0 Z = true) (o TA NA : Addr) (rr t0 t1 c0 c1 k : Int32) (h : Heap) (n0 : Nat) (zn : n0 ≤ h.size) (E_o : Exa Z h o "com/example/vigilant_mailbox/vigilantmailbox/engine/Choices") (F_taken_o : Fld Z h o "com/example/vigilant_mailbox/vigilantmailbox/engine/Choices" "taken" "[I" (.ref TA)) (F_counts_o : Fld Z h o "com/example/vigilant_mailbox/vigilantmailbox/engine/Choices" "counts" "[I" (.ref NA)) (F_made_o : Fld Z h o "com/example/vigilant_mailbox/vigilantmailbox/engine/Choices" "made" "I" (.int (0 : Int32))) (F_repeated_o : Fld Z h o "com/example/vigilant_mailbox/vigilantmailbox/engine/Choices" "repeated" "I" (.int rr)) (V_TA : PA Z h TA .int [t0, t1]) (V_NA : PA Z h NA .int [c0, c1]) (g_o : n0 ≤ o) (g_TA : n0 ≤ TA) (g_NA : n0 ≤ NA) (ne_o_TA : o ≠ TA) (ne_o_NA : o ≠ NA) (ne_TA_NA : TA ≠ NA) :
    Met l Z (⟨"com/example/vigilant_mailbox/vigilantmailbox/engine/Choices", "choose", "(I)I"⟩ : MethodName) prog_17_method_2_code 2 (some .int) [] ({ frames := 0, cells := 0, slots := 0, locals := 0 } : Room) #[(.ref o), (.int k)] h n0 (RI fun r h' => ∃ c' : Int32, own_cho (0 : Int32) rr t0 c0 k r c' ∧ Keep h h' [o, TA, NA] ∧ Exa Z h' o "com/example/vigilant_mailbox/vigilantmailbox/engine/Choices" ∧ Fld Z h' o "com/example/vigilant_mailbox/vigilantmailbox/engine/Choices" "taken" "[I" (.ref TA) ∧ Fld Z h' o "com/example/vigilant_mailbox/vigilantmailbox/engine/Choices" "counts" "[I" (.ref NA) ∧ Fld Z h' o "com/example/vigilant_mailbox/vigilantmailbox/engine/Choices" "made" "I" (.int (1 : Int32)) ∧ Fld Z h' o "com/example/vigilant_mailbox/vigilantmailbox/engine/Choices" "repeated" "I" (.int rr) ∧ PA Z h' TA .int [r, t1] ∧ PA Z h' NA .int [c', c1]) := by
  refine start (ls := #[.val (.ref o), .val (.int k)]) (plainFor_of_name pn1) (fun m => by first | (simp [entryFrame, mkF, argsToLocals, Value.category]; done) | rfl) ?_
  intro p e s m below meth c T G w X
  have K := Keep.refl h [o, TA, NA]
  refine aloadN w X d8_0 1 rfl rfl rfl ?_
  refine getfield w X (wd23 hw) Via.refl F_made_o d8_1 4 rfl (fun T X => ?_)
  refine aloadN w X d8_4 5 rfl rfl rfl ?_
  refine getfield w X (wd10 hw) Via.refl F_taken_o d8_5 8 rfl (fun T X => ?_)
  refine arraylength w X V_TA d8_8 9 rfl (2 : Int32) rfl ?_
  refine icmp_ne w X d8_9 46 12 (by decide) (by decide) rfl (fun hc9_1 => ?_) (fun q => absurd q (by decide))
  refine aloadN w X d8_46 47 rfl rfl rfl ?_
  refine getfield w X (wd23 hw) Via.refl F_made_o d8_47 50 rfl (fun T X => ?_)
  refine aloadN w X d8_50 51 rfl rfl rfl ?_
  refine getfield w X (wd25 hw) Via.refl F_repeated_o d8_51 54 rfl (fun T X => ?_)
  refine icmp_lt w X d8_54 77 57 (by decide) (by decide) rfl (fun hc54_2 => ?_) (fun hc54_2 => ?_)
  ·
    refine aloadN w X d8_77 78 rfl rfl rfl ?_
    refine getfield w X (wd10 hw) Via.refl F_taken_o d8_78 81 rfl (fun T X => ?_)
    refine aloadN w X d8_81 82 rfl rfl rfl ?_
    refine dup w X d8_82 83 rfl rfl ?_
    refine getfield w X (wd23 hw) Via.refl F_made_o d8_83 86 rfl (fun T X => ?_)
    refine dupX1 w X d8_86 87 rfl rfl rfl ?_
    refine iconst w X (1 : Int32) d8_87 88 rfl rfl ?_
    refine iadd w X (1 : Int32) d8_88 89 rfl (by decide) ?_
    refine putfield w X (wd23 hw) Via.refl F_made_o E_o (Or.inl (wd24 hw)) (wd2 hw) (ty := .int) (by decide) rfl rfl g_o d8_89 92 rfl (fun T h3 X W => ?_)
    have zn : n0 ≤ h3.size := W.size ▸ zn
    have K := K.wr W (Or.inl (List.mem_of_getElem? (i := 0) rfl))
    have E_o := E_o.wr W
    have F_taken_o := F_taken_o.other W (Or.inr (slot_ne (Or.inl (wd11 hw)) (Or.inl (wd24 hw)) (by decide) (t := (.array .int)) (t' := .int) (by decide) (by decide)))
    have F_counts_o := F_counts_o.other W (Or.inr (slot_ne (Or.inl (wd13 hw)) (Or.inl (wd24 hw)) (by decide) (t := (.array .int)) (t' := .int) (by decide) (by decide)))
    have F_made_o := F_made_o.same W
    have F_repeated_o := F_repeated_o.other W (Or.inr (slot_ne (Or.inl (wd26 hw)) (Or.inl (wd24 hw)) (by decide) (t := .int) (t' := .int) (by decide) (by decide)))
    have V_TA := V_TA.other W (Ne.symm ne_o_TA)
    have V_NA := V_NA.other W (Ne.symm ne_o_NA)
    refine iaload w X V_TA (by decide) 0 rfl (Nat.le_of_ble_eq_true rfl) d8_92 93 rfl t0 rfl ?_
    refine retI w X rfl d8_93 (by decide) (by decide) ?_
    exact ⟨_, rfl, c0, lf_ch0_34 rr t0 c0 k hc9_1 hc54_2, K, E_o, F_taken_o, F_counts_o, F_made_o, F_repeated_o, V_TA, V_NA⟩
  ·
    refine aloadN w X d8_57 58 rfl rfl rfl ?_
    refine getfield w X (wd10 hw) Via.refl F_taken_o d8_58 61 rfl (fun T X => ?_)
    refine aloadN w X d8_61 62 rfl rfl rfl ?_
    refine getfield w X (wd23 hw) Via.refl F_made_o d8_62 65 rfl (fun T X => ?_)
    refine iconst w X (0 : Int32) d8_65 66 rfl rfl ?_
    refine iastore w X V_TA (by decide) 0 rfl (Nat.le_of_ble_eq_true rfl) g_TA d8_66 67 rfl (0 : Int32) rfl (fun T h4 X W V_TA => ?_)
    have V_TA : PA Z h4 TA .int [(0 : Int32), t1] := V_TA
    have zn : n0 ≤ h4.size := W.size ▸ zn
    have K := K.wr W (Or.inl (List.mem_of_getElem? (i := 1) rfl))
    have E_o := E_o.wr W
    have F_taken_o := F_taken_o.other W (Or.inl ne_o_TA)
    have F_counts_o := F_counts_o.other W (Or.inl ne_o_TA)
    have F_made_o := F_made_o.other W (Or.inl ne_o_TA)
    have F_repeated_o := F_repeated_o.other W (Or.inl ne_o_TA)
    have V_NA := V_NA.other W (Ne.symm ne_TA_NA)
    refine aloadN w X d8_67 68 rfl rfl rfl ?_
    refine getfield w X (wd12 hw) Via.refl F_counts_o d8_68 71 rfl (fun T X => ?_)
    refine aloadN w X d8_71 72 rfl rfl rfl ?_
    refine getfield w X (wd23 hw) Via.refl F_made_o d8_72 75 rfl (fun T X => ?_)
    refine iloadN w X d8_75 76 rfl rfl ?_
    refine iastore w X V_NA (by decide) 0 rfl (Nat.le_of_ble_eq_true rfl) g_NA d8_76 77 rfl k rfl (fun T h5 X W V_NA => ?_)
    have V_NA : PA Z h5 NA .int [k, c1] := V_NA
    have zn : n0 ≤ h5.size := W.size ▸ zn
    have K := K.wr W (Or.inl (List.mem_of_getElem? (i := 2) rfl))
    have E_o := E_o.wr W
    have F_taken_o := F_taken_o.other W (Or.inl ne_o_NA)
    have F_counts_o := F_counts_o.other W (Or.inl ne_o_NA)
    have F_made_o := F_made_o.other W (Or.inl ne_o_NA)
    have F_repeated_o := F_repeated_o.other W (Or.inl ne_o_NA)
    have V_TA := V_TA.other W ne_TA_NA
    refine aloadN w X d8_77 78 rfl rfl rfl ?_
    refine getfield w X (wd10 hw) Via.refl F_taken_o d8_78 81 rfl (fun T X => ?_)
    refine aloadN w X d8_81 82 rfl rfl rfl ?_
    refine dup w X d8_82 83 rfl rfl ?_
    refine getfield w X (wd23 hw) Via.refl F_made_o d8_83 86 rfl (fun T X => ?_)
    refine dupX1 w X d8_86 87 rfl rfl rfl ?_
    refine iconst w X (1 : Int32) d8_87 88 rfl rfl ?_
    refine iadd w X (1 : Int32) d8_88 89 rfl (by decide) ?_
    refine putfield w X (wd23 hw) Via.refl F_made_o E_o (Or.inl (wd24 hw)) (wd2 hw) (ty := .int) (by decide) rfl rfl g_o d8_89 92 rfl (fun T h6 X W => ?_)
    have zn : n0 ≤ h6.size := W.size ▸ zn
    have K := K.wr W (Or.inl (List.mem_of_getElem? (i := 0) rfl))
    have E_o := E_o.wr W
    have F_taken_o := F_taken_o.other W (Or.inr (slot_ne (Or.inl (wd11 hw)) (Or.inl (wd24 hw)) (by decide) (t := (.array .int)) (t' := .int) (by decide) (by decide)))
    have F_counts_o := F_counts_o.other W (Or.inr (slot_ne (Or.inl (wd13 hw)) (Or.inl (wd24 hw)) (by decide) (t := (.array .int)) (t' := .int) (by decide) (by decide)))
    have F_made_o := F_made_o.same W
    have F_repeated_o := F_repeated_o.other W (Or.inr (slot_ne (Or.inl (wd26 hw)) (Or.inl (wd24 hw)) (by decide) (t := .int) (t' := .int) (by decide) (by decide)))
    have V_TA := V_TA.other W (Ne.symm ne_o_TA)
    have V_NA := V_NA.other W (Ne.symm ne_o_NA)
    refine iaload w X V_TA (by decide) 0 rfl (Nat.le_of_ble_eq_true rfl) d8_92 93 rfl (0 : Int32) rfl ?_
    refine retI w X rfl d8_93 (by decide) (by decide) ?_
    exact ⟨_, rfl, k, lf_ch0_86 rr t0 c0 k hc9_1 hc54_2, K, E_o, F_taken_o, F_counts_o, F_made_o, F_repeated_o, V_TA, V_NA⟩
set_option maxRecDepth 65536 in
set_option maxHeartbeats 40000000 in
theorem lf_ch1_34 (rr : Int32) (t1 : Int32) (c1 : Int32) (k : Int32) (hc9_1 : ¬ ((1 : Int32) = (2 : Int32))) (hc54_2 : (1 : Int32) < rr) : own_cho (1 : Int32) rr t1 c1 k t1 c1 := by
  first | exact Or.inl ⟨‹_›, rfl, rfl⟩ | exact Or.inr ⟨‹_›, rfl, rfl⟩
set_option maxRecDepth 65536 in
set_option maxHeartbeats 40000000 in
theorem lf_ch1_86 (rr : Int32) (t1 : Int32) (c1 : Int32) (k : Int32) (hc9_1 : ¬ ((1 : Int32) = (2 : Int32))) (hc54_2 : ¬ ((1 : Int32) < rr)) : own_cho (1 : Int32) rr t1 c1 k (0 : Int32) k := by
  first | exact Or.inl ⟨‹_›, rfl, rfl⟩ | exact Or.inr ⟨‹_›, rfl, rfl⟩
set_option maxRecDepth 65536 in
set_option maxHeartbeats 40000000 in
theorem rm_ch1 {l : Launch} {Z : State} {a0 : Array Value} (hw : ∀ d ∈ tables_1, d.before a0 Z = true) (o TA NA : Addr) (rr t0 t1 c0 c1 k : Int32) (h : Heap) (n0 : Nat) (zn : n0 ≤ h.size) (E_o : Exa Z h o "com/example/vigilant_mailbox/vigilantmailbox/engine/Choices") (F_taken_o : Fld Z h o "com/example/vigilant_mailbox/vigilantmailbox/engine/Choices" "taken" "[I" (.ref TA)) (F_counts_o : Fld Z h o "com/example/vigilant_mailbox/vigilantmailbox/engine/Choices" "counts" "[I" (.ref NA)) (F_made_o : Fld Z h o "com/example/vigilant_mailbox/vigilantmailbox/engine/Choices" "made" "I" (.int (1 : Int32))) (F_repeated_o : Fld Z h o "com/example/vigilant_mailbox/vigilantmailbox/engine/Choices" "repeated" "I" (.int rr)) (V_TA : PA Z h TA .int [t0, t1]) (V_NA : PA Z h NA .int [c0, c1]) (g_o : n0 ≤ o) (g_TA : n0 ≤ TA) (g_NA : n0 ≤ NA) (ne_o_TA : o ≠ TA) (ne_o_NA : o ≠ NA) (ne_TA_NA : TA ≠ NA) :
    Met l Z (⟨"com/example/vigilant_mailbox/vigilantmailbox/engine/Choices", "choose", "(I)I"⟩ : MethodName) prog_17_method_2_code 2 (some .int) [] ({ frames := 0, cells := 0, slots := 0, locals := 0 } : Room) #[(.ref o), (.int k)] h n0 (RI fun r h' => ∃ c' : Int32, own_cho (1 : Int32) rr t1 c1 k r c' ∧ Keep h h' [o, TA, NA] ∧ Exa Z h' o "com/example/vigilant_mailbox/vigilantmailbox/engine/Choices" ∧ Fld Z h' o "com/example/vigilant_mailbox/vigilantmailbox/engine/Choices" "taken" "[I" (.ref TA) ∧ Fld Z h' o "com/example/vigilant_mailbox/vigilantmailbox/engine/Choices" "counts" "[I" (.ref NA) ∧ Fld Z h' o "com/example/vigilant_mailbox/vigilantmailbox/engine/Choices" "made" "I" (.int (2 : Int32)) ∧ Fld Z h' o "com/example/vigilant_mailbox/vigilantmailbox/engine/Choices" "repeated" "I" (.int rr) ∧ PA Z h' TA .int [t0, r] ∧ PA Z h' NA .int [c0, c']) := by
  refine start (ls := #[.val (.ref o), .val (.int k)]) (plainFor_of_name pn1) (fun m => by first | (simp [entryFrame, mkF, argsToLocals, Value.category]; done) | rfl) ?_
  intro p e s m below meth c T G w X
  have K := Keep.refl h [o, TA, NA]
  refine aloadN w X d8_0 1 rfl rfl rfl ?_
  refine getfield w X (wd23 hw) Via.refl F_made_o d8_1 4 rfl (fun T X => ?_)
  refine aloadN w X d8_4 5 rfl rfl rfl ?_
  refine getfield w X (wd10 hw) Via.refl F_taken_o d8_5 8 rfl (fun T X => ?_)
  refine arraylength w X V_TA d8_8 9 rfl (2 : Int32) rfl ?_
  refine icmp_ne w X d8_9 46 12 (by decide) (by decide) rfl (fun hc9_1 => ?_) (fun q => absurd q (by decide))
  refine aloadN w X d8_46 47 rfl rfl rfl ?_
  refine getfield w X (wd23 hw) Via.refl F_made_o d8_47 50 rfl (fun T X => ?_)
  refine aloadN w X d8_50 51 rfl rfl rfl ?_
  refine getfield w X (wd25 hw) Via.refl F_repeated_o d8_51 54 rfl (fun T X => ?_)
  refine icmp_lt w X d8_54 77 57 (by decide) (by decide) rfl (fun hc54_2 => ?_) (fun hc54_2 => ?_)
  ·
    refine aloadN w X d8_77 78 rfl rfl rfl ?_
    refine getfield w X (wd10 hw) Via.refl F_taken_o d8_78 81 rfl (fun T X => ?_)
    refine aloadN w X d8_81 82 rfl rfl rfl ?_
    refine dup w X d8_82 83 rfl rfl ?_
    refine getfield w X (wd23 hw) Via.refl F_made_o d8_83 86 rfl (fun T X => ?_)
    refine dupX1 w X d8_86 87 rfl rfl rfl ?_
    refine iconst w X (1 : Int32) d8_87 88 rfl rfl ?_
    refine iadd w X (2 : Int32) d8_88 89 rfl (by decide) ?_
    refine putfield w X (wd23 hw) Via.refl F_made_o E_o (Or.inl (wd24 hw)) (wd2 hw) (ty := .int) (by decide) rfl rfl g_o d8_89 92 rfl (fun T h3 X W => ?_)
    have zn : n0 ≤ h3.size := W.size ▸ zn
    have K := K.wr W (Or.inl (List.mem_of_getElem? (i := 0) rfl))
    have E_o := E_o.wr W
    have F_taken_o := F_taken_o.other W (Or.inr (slot_ne (Or.inl (wd11 hw)) (Or.inl (wd24 hw)) (by decide) (t := (.array .int)) (t' := .int) (by decide) (by decide)))
    have F_counts_o := F_counts_o.other W (Or.inr (slot_ne (Or.inl (wd13 hw)) (Or.inl (wd24 hw)) (by decide) (t := (.array .int)) (t' := .int) (by decide) (by decide)))
    have F_made_o := F_made_o.same W
    have F_repeated_o := F_repeated_o.other W (Or.inr (slot_ne (Or.inl (wd26 hw)) (Or.inl (wd24 hw)) (by decide) (t := .int) (t' := .int) (by decide) (by decide)))
    have V_TA := V_TA.other W (Ne.symm ne_o_TA)
    have V_NA := V_NA.other W (Ne.symm ne_o_NA)
    refine iaload w X V_TA (by decide) 1 rfl (Nat.le_of_ble_eq_true rfl) d8_92 93 rfl t1 rfl ?_
    refine retI w X rfl d8_93 (by decide) (by decide) ?_
    exact ⟨_, rfl, c1, lf_ch1_34 rr t1 c1 k hc9_1 hc54_2, K, E_o, F_taken_o, F_counts_o, F_made_o, F_repeated_o, V_TA, V_NA⟩
  ·
    refine aloadN w X d8_57 58 rfl rfl rfl ?_
    refine getfield w X (wd10 hw) Via.refl F_taken_o d8_58 61 rfl (fun T X => ?_)
    refine aloadN w X d8_61 62 rfl rfl rfl ?_
    refine getfield w X (wd23 hw) Via.refl F_made_o d8_62 65 rfl (fun T X => ?_)
    refine iconst w X (0 : Int32) d8_65 66 rfl rfl ?_
    refine iastore w X V_TA (by decide) 1 rfl (Nat.le_of_ble_eq_true rfl) g_TA d8_66 67 rfl (0 : Int32) rfl (fun T h4 X W V_TA => ?_)
    have V_TA : PA Z h4 TA .int [t0, (0 : Int32)] := V_TA
    have zn : n0 ≤ h4.size := W.size ▸ zn
    have K := K.wr W (Or.inl (List.mem_of_getElem? (i := 1) rfl))
    have E_o := E_o.wr W
    have F_taken_o := F_taken_o.other W (Or.inl ne_o_TA)
    have F_counts_o := F_counts_o.other W (Or.inl ne_o_TA)
    have F_made_o := F_made_o.other W (Or.inl ne_o_TA)
    have F_repeated_o := F_repeated_o.other W (Or.inl ne_o_TA)
    have V_NA := V_NA.other W (Ne.symm ne_TA_NA)
    refine aloadN w X d8_67 68 rfl rfl rfl ?_
    refine getfield w X (wd12 hw) Via.refl F_counts_o d8_68 71 rfl (fun T X => ?_)
    refine aloadN w X d8_71 72 rfl rfl rfl ?_
    refine getfield w X (wd23 hw) Via.refl F_made_o d8_72 75 rfl (fun T X => ?_)
    refine iloadN w X d8_75 76 rfl rfl ?_
    refine iastore w X V_NA (by decide) 1 rfl (Nat.le_of_ble_eq_true rfl) g_NA d8_76 77 rfl k rfl (fun T h5 X W V_NA => ?_)
    have V_NA : PA Z h5 NA .int [c0, k] := V_NA
    have zn : n0 ≤ h5.size := W.size ▸ zn
    have K := K.wr W (Or.inl (List.mem_of_getElem? (i := 2) rfl))
    have E_o := E_o.wr W
    have F_taken_o := F_taken_o.other W (Or.inl ne_o_NA)
    have F_counts_o := F_counts_o.other W (Or.inl ne_o_NA)
    have F_made_o := F_made_o.other W (Or.inl ne_o_NA)
    have F_repeated_o := F_repeated_o.other W (Or.inl ne_o_NA)
    have V_TA := V_TA.other W ne_TA_NA
    refine aloadN w X d8_77 78 rfl rfl rfl ?_
    refine getfield w X (wd10 hw) Via.refl F_taken_o d8_78 81 rfl (fun T X => ?_)
    refine aloadN w X d8_81 82 rfl rfl rfl ?_
    refine dup w X d8_82 83 rfl rfl ?_
    refine getfield w X (wd23 hw) Via.refl F_made_o d8_83 86 rfl (fun T X => ?_)
    refine dupX1 w X d8_86 87 rfl rfl rfl ?_
    refine iconst w X (1 : Int32) d8_87 88 rfl rfl ?_
    refine iadd w X (2 : Int32) d8_88 89 rfl (by decide) ?_
    refine putfield w X (wd23 hw) Via.refl F_made_o E_o (Or.inl (wd24 hw)) (wd2 hw) (ty := .int) (by decide) rfl rfl g_o d8_89 92 rfl (fun T h6 X W => ?_)
    have zn : n0 ≤ h6.size := W.size ▸ zn
    have K := K.wr W (Or.inl (List.mem_of_getElem? (i := 0) rfl))
    have E_o := E_o.wr W
    have F_taken_o := F_taken_o.other W (Or.inr (slot_ne (Or.inl (wd11 hw)) (Or.inl (wd24 hw)) (by decide) (t := (.array .int)) (t' := .int) (by decide) (by decide)))
    have F_counts_o := F_counts_o.other W (Or.inr (slot_ne (Or.inl (wd13 hw)) (Or.inl (wd24 hw)) (by decide) (t := (.array .int)) (t' := .int) (by decide) (by decide)))
    have F_made_o := F_made_o.same W
    have F_repeated_o := F_repeated_o.other W (Or.inr (slot_ne (Or.inl (wd26 hw)) (Or.inl (wd24 hw)) (by decide) (t := .int) (t' := .int) (by decide) (by decide)))
    have V_TA := V_TA.other W (Ne.symm ne_o_TA)
    have V_NA := V_NA.other W (Ne.symm ne_o_NA)
    refine iaload w X V_TA (by decide) 1 rfl (Nat.le_of_ble_eq_true rfl) d8_92 93 rfl (0 : Int32) rfl ?_
    refine retI w X rfl d8_93 (by decide) (by decide) ?_
    exact ⟨_, rfl, k, lf_ch1_86 rr t1 c1 k hc9_1 hc54_2, K, E_o, F_taken_o, F_counts_o, F_made_o, F_repeated_o, V_TA, V_NA⟩
set_option maxRecDepth 65536 in
set_option maxHeartbeats 40000000 in
theorem lf3_1 (pl : Int32) (f : Int32) (s1 : Int32) (rr : Int32) (t0 : Int32) (t1 : Int32) (c0 : Int32) (c1 : Int32) (r2 : Int32) (r3 : Int32) (c5 : Int32) (r10 : Int32) (r11 : Int32) (r13 : Int32) (r14 : Int32) (c16 : Int32) (hc3_1 : ¬ ((pl &&& (1 : Int32)) = 0)) (hr2 : r2 = own_cnt f) (ho6 : own_cho (0 : Int32) rr t0 c0 r2 r3 c5) (hr10 : r10 = own_max r3 (0 : Int32)) (hr11 : r11 = own_min r10 (2 : Int32)) (hc55_12 : ¬ ((((pl.toUInt32 >>> (((1 : Int32) + r11) &&& 31).toUInt32).toInt32) &&& (1 : Int32)) = 0)) (hr13 : r13 = own_cnt ((s1.toUInt32 >>> (((8 : Int32) * r11) &&& 31).toUInt32).toInt32)) (ho17 : own_cho (1 : Int32) rr t1 c1 r13 r14 c16) : own_run pl f s1 rr t0 t1 c0 c1 (2 : Int32) r3 r14 r2 r13 r3 r14 c5 c16 := by
  subst_vars
  first | exact Or.inl ⟨‹_›, rfl, rfl, rfl, rfl, rfl, rfl, rfl, rfl, rfl⟩ | exact Or.inr (Or.inl ⟨‹_›, rfl, ‹_›, ‹_›, rfl, rfl, rfl, rfl, rfl, rfl⟩) | exact Or.inr (Or.inr ⟨‹_›, rfl, ‹_›, ‹_›, rfl, ‹_›, rfl, rfl, rfl⟩)
set_option maxRecDepth 65536 in
set_option maxHeartbeats 40000000 in
theorem lf3_2 (pl : Int32) (f : Int32) (s1 : Int32) (rr : Int32) (t0 : Int32) (t1 : Int32) (c0 : Int32) (c1 : Int32) (r2 : Int32) (r3 : Int32) (c5 : Int32) (r10 : Int32) (r11 : Int32) (hc3_1 : ¬ ((pl &&& (1 : Int32)) = 0)) (hr2 : r2 = own_cnt f) (ho6 : own_cho (0 : Int32) rr t0 c0 r2 r3 c5) (hr10 : r10 = own_max r3 (0 : Int32)) (hr11 : r11 = own_min r10 (2 : Int32)) (hc55_12 : (((pl.toUInt32 >>> (((1 : Int32) + r11) &&& 31).toUInt32).toInt32) &&& (1 : Int32)) = 0) : own_run pl f s1 rr t0 t1 c0 c1 (1 : Int32) r3 (0 : Int32) r2 (0 : Int32) r3 t1 c5 c1 := by
  subst_vars
  first | exact Or.inl ⟨‹_›, rfl, rfl, rfl, rfl, rfl, rfl, rfl, rfl, rfl⟩ | exact Or.inr (Or.inl ⟨‹_›, rfl, ‹_›, ‹_›, rfl, rfl, rfl, rfl, rfl, rfl⟩) | exact Or.inr (Or.inr ⟨‹_›, rfl, ‹_›, ‹_›, rfl, ‹_›, rfl, rfl, rfl⟩)
set_option maxRecDepth 65536 in
set_option maxHeartbeats 40000000 in
theorem lf3_3 (pl : Int32) (f : Int32) (s1 : Int32) (rr : Int32) (t0 : Int32) (t1 : Int32) (c0 : Int32) (c1 : Int32) (hc3_1 : (pl &&& (1 : Int32)) = 0) : own_run pl f s1 rr t0 t1 c0 c1 (0 : Int32) (0 : Int32) (0 : Int32) (0 : Int32) (0 : Int32) t0 t1 c0 c1 := by
  subst_vars
  first | exact Or.inl ⟨‹_›, rfl, rfl, rfl, rfl, rfl, rfl, rfl, rfl, rfl⟩ | exact Or.inr (Or.inl ⟨‹_›, rfl, ‹_›, ‹_›, rfl, rfl, rfl, rfl, rfl, rfl⟩) | exact Or.inr (Or.inr ⟨‹_›, rfl, ‹_›, ‹_›, rfl, ‹_›, rfl, rfl, rfl⟩)
theorem d3_0 : decode method_3_code 0 = .ok (.iload_n 2, 1) := by decide +kernel
theorem d3_1 : decode method_3_code 1 = .ok (.iconst 1, 1) := by decide +kernel
theorem d3_2 : decode method_3_code 2 = .ok (.iand, 1) := by decide +kernel
theorem d3_3 : decode method_3_code 3 = .ok (.ifCond .ne 4, 3) := by decide +kernel
theorem d3_6 : decode method_3_code 6 = .ok (.return_, 1) := by decide +kernel
theorem d3_7 : decode method_3_code 7 = .ok (.iload_n 3, 1) := by decide +kernel
theorem d3_8 : decode method_3_code 8 = .ok (.invokestatic 7, 3) := by decide +kernel
theorem d3_11 : decode method_3_code 11 = .ok (.istore 5, 2) := by decide +kernel
theorem d3_13 : decode method_3_code 13 = .ok (.aload_n 0, 1) := by decide +kernel
theorem d3_14 : decode method_3_code 14 = .ok (.iload 5, 2) := by decide +kernel
theorem d3_16 : decode method_3_code 16 = .ok (.invokevirtual 13, 3) := by decide +kernel
theorem d3_19 : decode method_3_code 19 = .ok (.istore 6, 2) := by decide +kernel
theorem d3_21 : decode method_3_code 21 = .ok (.aload_n 1, 1) := by decide +kernel
theorem d3_22 : decode method_3_code 22 = .ok (.iconst 0, 1) := by decide +kernel
theorem d3_23 : decode method_3_code 23 = .ok (.iconst 1, 1) := by decide +kernel
theorem d3_24 : decode method_3_code 24 = .ok (.iastore, 1) := by decide +kernel
theorem d3_25 : decode method_3_code 25 = .ok (.aload_n 1, 1) := by decide +kernel
theorem d3_26 : decode method_3_code 26 = .ok (.iconst 1, 1) := by decide +kernel
theorem d3_27 : decode method_3_code 27 = .ok (.iload 6, 2) := by decide +kernel
theorem d3_29 : decode method_3_code 29 = .ok (.iastore, 1) := by decide +kernel
theorem d3_30 : decode method_3_code 30 = .ok (.aload_n 1, 1) := by decide +kernel
theorem d3_31 : decode method_3_code 31 = .ok (.iconst 3, 1) := by decide +kernel
theorem d3_32 : decode method_3_code 32 = .ok (.iload 5, 2) := by decide +kernel
theorem d3_34 : decode method_3_code 34 = .ok (.iastore, 1) := by decide +kernel
theorem d3_35 : decode method_3_code 35 = .ok (.iload 6, 2) := by decide +kernel
theorem d3_37 : decode method_3_code 37 = .ok (.iconst 0, 1) := by decide +kernel
theorem d3_38 : decode method_3_code 38 = .ok (.invokestatic 18, 3) := by decide +kernel
theorem d3_41 : decode method_3_code 41 = .ok (.iconst 2, 1) := by decide +kernel
theorem d3_42 : decode method_3_code 42 = .ok (.invokestatic 24, 3) := by decide +kernel
theorem d3_45 : decode method_3_code 45 = .ok (.istore 7, 2) := by decide +kernel
theorem d3_47 : decode method_3_code 47 = .ok (.iload_n 2, 1) := by decide +kernel
theorem d3_48 : decode method_3_code 48 = .ok (.iconst 1, 1) := by decide +kernel
theorem d3_49 : decode method_3_code 49 = .ok (.iload 7, 2) := by decide +kernel
theorem d3_51 : decode method_3_code 51 = .ok (.iadd, 1) := by decide +kernel
theorem d3_52 : decode method_3_code 52 = .ok (.iushr, 1) := by decide +kernel
theorem d3_53 : decode method_3_code 53 = .ok (.iconst 1, 1) := by decide +kernel
theorem d3_54 : decode method_3_code 54 = .ok (.iand, 1) := by decide +kernel
theorem d3_55 : decode method_3_code 55 = .ok (.ifCond .ne 4, 3) := by decide +kernel
theorem d3_58 : decode method_3_code 58 = .ok (.return_, 1) := by decide +kernel
theorem d3_59 : decode method_3_code 59 = .ok (.iload 4, 2) := by decide +kernel
theorem d3_61 : decode method_3_code 61 = .ok (.bipush 8, 2) := by decide +kernel
theorem d3_63 : decode method_3_code 63 = .ok (.iload 7, 2) := by decide +kernel
theorem d3_65 : decode method_3_code 65 = .ok (.imul, 1) := by decide +kernel
theorem d3_66 : decode method_3_code 66 = .ok (.iushr, 1) := by decide +kernel
theorem d3_67 : decode method_3_code 67 = .ok (.invokestatic 7, 3) := by decide +kernel
theorem d3_70 : decode method_3_code 70 = .ok (.istore 8, 2) := by decide +kernel
theorem d3_72 : decode method_3_code 72 = .ok (.aload_n 0, 1) := by decide +kernel
theorem d3_73 : decode method_3_code 73 = .ok (.iload 8, 2) := by decide +kernel
theorem d3_75 : decode method_3_code 75 = .ok (.invokevirtual 13, 3) := by decide +kernel
theorem d3_78 : decode method_3_code 78 = .ok (.istore 9, 2) := by decide +kernel
theorem d3_80 : decode method_3_code 80 = .ok (.aload_n 1, 1) := by decide +kernel
theorem d3_81 : decode method_3_code 81 = .ok (.iconst 0, 1) := by decide +kernel
theorem d3_82 : decode method_3_code 82 = .ok (.iconst 2, 1) := by decide +kernel
theorem d3_83 : decode method_3_code 83 = .ok (.iastore, 1) := by decide +kernel
theorem d3_84 : decode method_3_code 84 = .ok (.aload_n 1, 1) := by decide +kernel
theorem d3_85 : decode method_3_code 85 = .ok (.iconst 2, 1) := by decide +kernel
theorem d3_86 : decode method_3_code 86 = .ok (.iload 9, 2) := by decide +kernel
theorem d3_88 : decode method_3_code 88 = .ok (.iastore, 1) := by decide +kernel
theorem d3_89 : decode method_3_code 89 = .ok (.aload_n 1, 1) := by decide +kernel
theorem d3_90 : decode method_3_code 90 = .ok (.iconst 4, 1) := by decide +kernel
theorem d3_91 : decode method_3_code 91 = .ok (.iload 8, 2) := by decide +kernel
theorem d3_93 : decode method_3_code 93 = .ok (.iastore, 1) := by decide +kernel
theorem d3_94 : decode method_3_code 94 = .ok (.return_, 1) := by decide +kernel
set_option maxRecDepth 65536 in
set_option maxHeartbeats 40000000 in
theorem rm_run {l : Launch} {Z : State} {a0 : Array Value} (hw : ∀ d ∈ tables_1, d.before a0 Z = true) (o TA NA WA : Addr) (pl f s1 rr t0 t1 c0 c1 : Int32) (h : Heap) (n0 : Nat) (zn : n0 ≤ h.size) (E_o : Exa Z h o "com/example/vigilant_mailbox/vigilantmailbox/engine/Choices") (F_taken_o : Fld Z h o "com/example/vigilant_mailbox/vigilantmailbox/engine/Choices" "taken" "[I" (.ref TA)) (F_counts_o : Fld Z h o "com/example/vigilant_mailbox/vigilantmailbox/engine/Choices" "counts" "[I" (.ref NA)) (F_made_o : Fld Z h o "com/example/vigilant_mailbox/vigilantmailbox/engine/Choices" "made" "I" (.int (0 : Int32))) (F_repeated_o : Fld Z h o "com/example/vigilant_mailbox/vigilantmailbox/engine/Choices" "repeated" "I" (.int rr)) (V_TA : PA Z h TA .int [t0, t1]) (V_NA : PA Z h NA .int [c0, c1]) (g_o : n0 ≤ o) (g_TA : n0 ≤ TA) (g_NA : n0 ≤ NA) (ne_o_TA : o ≠ TA) (ne_o_NA : o ≠ NA) (ne_TA_NA : TA ≠ NA) (V_WA : PA Z h WA .int [(0 : Int32), (0 : Int32), (0 : Int32), (0 : Int32), (0 : Int32)]) (g_WA : n0 ≤ WA) (ne_o_WA : o ≠ WA) (ne_TA_WA : TA ≠ WA) (ne_NA_WA : NA ≠ WA) :
    Met l Z (⟨"com/example/vigilant_mailbox/vigilantmailbox/engine/ChoicesNextPinLaw", "run", "(Lcom/example/vigilant_mailbox/vigilantmailbox/engine/Choices;[IIII)V"⟩ : MethodName) method_3_code 10 none [] ({ frames := 1, cells := 0, slots := 0, locals := 13 } : Room) #[(.ref o), (.ref WA), (.int pl), (.int f), (.int s1)] h n0 (RV fun h' => ∃ n x1 x2 k1 k2 u0 u1 d0 d1 : Int32, own_run pl f s1 rr t0 t1 c0 c1 n x1 x2 k1 k2 u0 u1 d0 d1 ∧ Keep h h' [o, TA, NA, WA] ∧ Exa Z h' o "com/example/vigilant_mailbox/vigilantmailbox/engine/Choices" ∧ Fld Z h' o "com/example/vigilant_mailbox/vigilantmailbox/engine/Choices" "taken" "[I" (.ref TA) ∧ Fld Z h' o "com/example/vigilant_mailbox/vigilantmailbox/engine/Choices" "counts" "[I" (.ref NA) ∧ Fld Z h' o "com/example/vigilant_mailbox/vigilantmailbox/engine/Choices" "made" "I" (.int n) ∧ Fld Z h' o "com/example/vigilant_mailbox/vigilantmailbox/engine/Choices" "repeated" "I" (.int rr) ∧ PA Z h' TA .int [u0, u1] ∧ PA Z h' NA .int [d0, d1] ∧ PA Z h' WA .int [n, x1, x2, k1, k2]) := by
  refine start (ls := #[.val (.ref o), .val (.ref WA), .val (.int pl), .val (.int f), .val (.int s1), .unset, .unset, .unset, .unset, .unset]) (plainFor_of_name pn7) (fun m => by first | (simp [entryFrame, mkF, argsToLocals, Value.category]; done) | rfl) ?_
  intro p e s m below meth c T G w X
  have K := Keep.refl h [o, TA, NA, WA]
  refine iloadN w X d3_0 1 rfl rfl ?_
  refine iconst w X (1 : Int32) d3_1 2 rfl rfl ?_
  refine iand w X (pl &&& (1 : Int32)) d3_2 3 rfl rfl ?_
  refine if_ne w X d3_3 7 6 (by decide) (by decide) rfl (fun hc3_1 => ?_) (fun hc3_1 => ?_)
  ·
    refine iloadN w X d3_7 8 rfl rfl ?_
    refine callSPI w X [(.int f)] (wd33 hw) (wd34 hw) (wd16 hw) (wd35 hw) (by decide) (rm_cnt hw f h n0 zn) d3_8 11 rfl 0 (by decide) (by decide) (lenOf pd0 rfl) rfl (Nat.le_of_eq rfl) rfl (by decide) (by decide) (fun r2 T X hq => ?_)
    have hr2 := hq
    refine istore w X r2 d3_11 13 rfl rfl #[.val (.ref o), .val (.ref WA), .val (.int pl), .val (.int f), .val (.int s1), .val (.int r2), .unset, .unset, .unset, .unset] rfl ?_
    refine aloadN w X d3_13 14 rfl rfl rfl ?_
    refine iload w X d3_14 16 rfl rfl ?_
    refine callVI w X [(.int r2)] (wd36 hw) (wd37 hw) (notFace_of_selects (args := #[]) (mvT w.2.2.2.2.1 (wd39 hw))) (wd39 hw) (wd38 hw) (wd3 hw) (wd40 hw) (by decide) E_o (rm_ch0 hw o TA NA rr t0 t1 c0 c1 r2 h n0 zn E_o F_taken_o F_counts_o F_made_o F_repeated_o V_TA V_NA g_o g_TA g_NA ne_o_TA ne_o_NA ne_TA_NA) d3_16 19 rfl 0 (by decide) (by decide) (lenOf pd0 rfl) rfl (Nat.le_of_eq rfl) rfl (by decide) (by decide) (fun r3 T h4 X hq => ?_)
    obtain ⟨c5, ho6, Kq, E_o, F_taken_o, F_counts_o, F_made_o, F_repeated_o, V_TA, V_NA⟩ := hq
    have zn : n0 ≤ h4.size := Nat.le_trans zn Kq.1
    have K := K.trans Kq (allS (Or.inl (List.mem_of_getElem? (i := 0) rfl)) (allS (Or.inl (List.mem_of_getElem? (i := 1) rfl)) (allS (Or.inl (List.mem_of_getElem? (i := 2) rfl)) all0)))
    have V_WA := V_WA.keep Kq (ninS (Ne.symm ne_o_WA) (ninS (Ne.symm ne_TA_WA) (ninS (Ne.symm ne_NA_WA) nin0)))
    refine istore w X r3 d3_19 21 rfl rfl #[.val (.ref o), .val (.ref WA), .val (.int pl), .val (.int f), .val (.int s1), .val (.int r2), .val (.int r3), .unset, .unset, .unset] rfl ?_
    refine aloadN w X d3_21 22 rfl rfl rfl ?_
    refine iconst w X (0 : Int32) d3_22 23 rfl rfl ?_
    refine iconst w X (1 : Int32) d3_23 24 rfl rfl ?_
    refine iastore w X V_WA (by decide) 0 rfl (Nat.le_of_ble_eq_true rfl) g_WA d3_24 25 rfl (1 : Int32) rfl (fun T h7 X W V_WA => ?_)
    have V_WA : PA Z h7 WA .int [(1 : Int32), (0 : Int32), (0 : Int32), (0 : Int32), (0 : Int32)] := V_WA
    have zn : n0 ≤ h7.size := W.size ▸ zn
    have K := K.wr W (Or.inl (List.mem_of_getElem? (i := 3) rfl))
    have E_o := E_o.wr W
    have F_taken_o := F_taken_o.other W (Or.inl ne_o_WA)
    have F_counts_o := F_counts_o.other W (Or.inl ne_o_WA)
    have F_made_o := F_made_o.other W (Or.inl ne_o_WA)
    have F_repeated_o := F_repeated_o.other W (Or.inl ne_o_WA)
    have V_TA := V_TA.other W ne_TA_WA
    have V_NA := V_NA.other W ne_NA_WA
    refine aloadN w X d3_25 26 rfl rfl rfl ?_
    refine iconst w X (1 : Int32) d3_26 27 rfl rfl ?_
    refine iload w X d3_27 29 rfl rfl ?_
    refine iastore w X V_WA (by decide) 1 rfl (Nat.le_of_ble_eq_true rfl) g_WA d3_29 30 rfl r3 rfl (fun T h8 X W V_WA => ?_)
    have V_WA : PA Z h8 WA .int [(1 : Int32), r3, (0 : Int32), (0 : Int32), (0 : Int32)] := V_WA
    have zn : n0 ≤ h8.size := W.size ▸ zn
    have K := K.wr W (Or.inl (List.mem_of_getElem? (i := 3) rfl))
    have E_o := E_o.wr W
    have F_taken_o := F_taken_o.other W (Or.inl ne_o_WA)
    have F_counts_o := F_counts_o.other W (Or.inl ne_o_WA)
    have F_made_o := F_made_o.other W (Or.inl ne_o_WA)
    have F_repeated_o := F_repeated_o.other W (Or.inl ne_o_WA)
    have V_TA := V_TA.other W ne_TA_WA
    have V_NA := V_NA.other W ne_NA_WA
    refine aloadN w X d3_30 31 rfl rfl rfl ?_
    refine iconst w X (3 : Int32) d3_31 32 rfl rfl ?_
    refine iload w X d3_32 34 rfl rfl ?_
    refine iastore w X V_WA (by decide) 3 rfl (Nat.le_of_ble_eq_true rfl) g_WA d3_34 35 rfl r2 rfl (fun T h9 X W V_WA => ?_)
    have V_WA : PA Z h9 WA .int [(1 : Int32), r3, (0 : Int32), r2, (0 : Int32)] := V_WA
    have zn : n0 ≤ h9.size := W.size ▸ zn
    have K := K.wr W (Or.inl (List.mem_of_getElem? (i := 3) rfl))
    have E_o := E_o.wr W
    have F_taken_o := F_taken_o.other W (Or.inl ne_o_WA)
    have F_counts_o := F_counts_o.other W (Or.inl ne_o_WA)
    have F_made_o := F_made_o.other W (Or.inl ne_o_WA)
    have F_repeated_o := F_repeated_o.other W (Or.inl ne_o_WA)
    have V_TA := V_TA.other W ne_TA_WA
    have V_NA := V_NA.other W ne_NA_WA
    refine iload w X d3_35 37 rfl rfl ?_
    refine iconst w X (0 : Int32) d3_37 38 rfl rfl ?_
    refine callSPI w X [(.int r3), (.int (0 : Int32))] (wd41 hw) (wd42 hw) (wd43 hw) (wd44 hw) (by decide) (rm_max hw r3 (0 : Int32) h9 n0 zn) d3_38 41 rfl 0 (by decide) (by decide) (lenOf pd1 rfl) rfl (Nat.le_of_eq rfl) rfl (by decide) (by decide) (fun r10 T X hq => ?_)
    have hr10 := hq
    refine iconst w X (2 : Int32) d3_41 42 rfl rfl ?_
    refine callSPI w X [(.int r10), (.int (2 : Int32))] (wd45 hw) (wd46 hw) (wd43 hw) (wd47 hw) (by decide) (rm_min hw r10 (2 : Int32) h9 n0 zn) d3_42 45 rfl 0 (by decide) (by decide) (lenOf pd1 rfl) rfl (Nat.le_of_eq rfl) rfl (by decide) (by decide) (fun r11 T X hq => ?_)
    have hr11 := hq
    refine istore w X r11 d3_45 47 rfl rfl #[.val (.ref o), .val (.ref WA), .val (.int pl), .val (.int f), .val (.int s1), .val (.int r2), .val (.int r3), .val (.int r11), .unset, .unset] rfl ?_
    refine iloadN w X d3_47 48 rfl rfl ?_
    refine iconst w X (1 : Int32) d3_48 49 rfl rfl ?_
    refine iload w X d3_49 51 rfl rfl ?_
    refine iadd w X ((1 : Int32) + r11) d3_51 52 rfl rfl ?_
    refine iushr w X ((pl.toUInt32 >>> (((1 : Int32) + r11) &&& 31).toUInt32).toInt32) d3_52 53 rfl rfl ?_
    refine iconst w X (1 : Int32) d3_53 54 rfl rfl ?_
    refine iand w X (((pl.toUInt32 >>> (((1 : Int32) + r11) &&& 31).toUInt32).toInt32) &&& (1 : Int32)) d3_54 55 rfl rfl ?_
    refine if_ne w X d3_55 59 58 (by decide) (by decide) rfl (fun hc55_12 => ?_) (fun hc55_12 => ?_)
    ·
      refine iload w X d3_59 61 rfl rfl ?_
      refine bipush w X (8 : Int32) d3_61 63 rfl rfl ?_
      refine iload w X d3_63 65 rfl rfl ?_
      refine imul w X ((8 : Int32) * r11) d3_65 66 rfl rfl ?_
      refine iushr w X ((s1.toUInt32 >>> (((8 : Int32) * r11) &&& 31).toUInt32).toInt32) d3_66 67 rfl rfl ?_
      refine callSPI w X [(.int ((s1.toUInt32 >>> (((8 : Int32) * r11) &&& 31).toUInt32).toInt32))] (wd33 hw) (wd34 hw) (wd16 hw) (wd35 hw) (by decide) (rm_cnt hw ((s1.toUInt32 >>> (((8 : Int32) * r11) &&& 31).toUInt32).toInt32) h9 n0 zn) d3_67 70 rfl 0 (by decide) (by decide) (lenOf pd0 rfl) rfl (Nat.le_of_eq rfl) rfl (by decide) (by decide) (fun r13 T X hq => ?_)
      have hr13 := hq
      refine istore w X r13 d3_70 72 rfl rfl #[.val (.ref o), .val (.ref WA), .val (.int pl), .val (.int f), .val (.int s1), .val (.int r2), .val (.int r3), .val (.int r11), .val (.int r13), .unset] rfl ?_
      refine aloadN w X d3_72 73 rfl rfl rfl ?_
      refine iload w X d3_73 75 rfl rfl ?_
      refine callVI w X [(.int r13)] (wd36 hw) (wd37 hw) (notFace_of_selects (args := #[]) (mvT w.2.2.2.2.1 (wd39 hw))) (wd39 hw) (wd38 hw) (wd3 hw) (wd40 hw) (by decide) E_o (rm_ch1 hw o TA NA rr r3 t1 c5 c1 r13 h9 n0 zn E_o F_taken_o F_counts_o F_made_o F_repeated_o V_TA V_NA g_o g_TA g_NA ne_o_TA ne_o_NA ne_TA_NA) d3_75 78 rfl 0 (by decide) (by decide) (lenOf pd0 rfl) rfl (Nat.le_of_eq rfl) rfl (by decide) (by decide) (fun r14 T h15 X hq => ?_)
      obtain ⟨c16, ho17, Kq, E_o, F_taken_o, F_counts_o, F_made_o, F_repeated_o, V_TA, V_NA⟩ := hq
      have zn : n0 ≤ h15.size := Nat.le_trans zn Kq.1
      have K := K.trans Kq (allS (Or.inl (List.mem_of_getElem? (i := 0) rfl)) (allS (Or.inl (List.mem_of_getElem? (i := 1) rfl)) (allS (Or.inl (List.mem_of_getElem? (i := 2) rfl)) all0)))
      have V_WA := V_WA.keep Kq (ninS (Ne.symm ne_o_WA) (ninS (Ne.symm ne_TA_WA) (ninS (Ne.symm ne_NA_WA) nin0)))
      refine istore w X r14 d3_78 80 rfl rfl #[.val (.ref o), .val (.ref WA), .val (.int pl), .val (.int f), .val (.int s1), .val (.int r2), .val (.int r3), .val (.int r11), .val (.int r13), .val (.int r14)] rfl ?_
      refine aloadN w X d3_80 81 rfl rfl rfl ?_
      refine iconst w X (0 : Int32) d3_81 82 rfl rfl ?_
      refine iconst w X (2 : Int32) d3_82 83 rfl rfl ?_
      refine iastore w X V_WA (by decide) 0 rfl (Nat.le_of_ble_eq_true rfl) g_WA d3_83 84 rfl (2 : Int32) rfl (fun T h18 X W V_WA => ?_)
      have V_WA : PA Z h18 WA .int [(2 : Int32), r3, (0 : Int32), r2, (0 : Int32)] := V_WA
      have zn : n0 ≤ h18.size := W.size ▸ zn
      have K := K.wr W (Or.inl (List.mem_of_getElem? (i := 3) rfl))
      have E_o := E_o.wr W
      have F_taken_o := F_taken_o.other W (Or.inl ne_o_WA)
      have F_counts_o := F_counts_o.other W (Or.inl ne_o_WA)
      have F_made_o := F_made_o.other W (Or.inl ne_o_WA)
      have F_repeated_o := F_repeated_o.other W (Or.inl ne_o_WA)
      have V_TA := V_TA.other W ne_TA_WA
      have V_NA := V_NA.other W ne_NA_WA
      refine aloadN w X d3_84 85 rfl rfl rfl ?_
      refine iconst w X (2 : Int32) d3_85 86 rfl rfl ?_
      refine iload w X d3_86 88 rfl rfl ?_
      refine iastore w X V_WA (by decide) 2 rfl (Nat.le_of_ble_eq_true rfl) g_WA d3_88 89 rfl r14 rfl (fun T h19 X W V_WA => ?_)
      have V_WA : PA Z h19 WA .int [(2 : Int32), r3, r14, r2, (0 : Int32)] := V_WA
      have zn : n0 ≤ h19.size := W.size ▸ zn
      have K := K.wr W (Or.inl (List.mem_of_getElem? (i := 3) rfl))
      have E_o := E_o.wr W
      have F_taken_o := F_taken_o.other W (Or.inl ne_o_WA)
      have F_counts_o := F_counts_o.other W (Or.inl ne_o_WA)
      have F_made_o := F_made_o.other W (Or.inl ne_o_WA)
      have F_repeated_o := F_repeated_o.other W (Or.inl ne_o_WA)
      have V_TA := V_TA.other W ne_TA_WA
      have V_NA := V_NA.other W ne_NA_WA
      refine aloadN w X d3_89 90 rfl rfl rfl ?_
      refine iconst w X (4 : Int32) d3_90 91 rfl rfl ?_
      refine iload w X d3_91 93 rfl rfl ?_
      refine iastore w X V_WA (by decide) 4 rfl (Nat.le_of_ble_eq_true rfl) g_WA d3_93 94 rfl r13 rfl (fun T h20 X W V_WA => ?_)
      have V_WA : PA Z h20 WA .int [(2 : Int32), r3, r14, r2, r13] := V_WA
      have zn : n0 ≤ h20.size := W.size ▸ zn
      have K := K.wr W (Or.inl (List.mem_of_getElem? (i := 3) rfl))
      have E_o := E_o.wr W
      have F_taken_o := F_taken_o.other W (Or.inl ne_o_WA)
      have F_counts_o := F_counts_o.other W (Or.inl ne_o_WA)
      have F_made_o := F_made_o.other W (Or.inl ne_o_WA)
      have F_repeated_o := F_repeated_o.other W (Or.inl ne_o_WA)
      have V_TA := V_TA.other W ne_TA_WA
      have V_NA := V_NA.other W ne_NA_WA
      refine retV w X rfl d3_94 (by decide) (by decide) ?_
      exact ⟨rfl, (2 : Int32), r3, r14, r2, r13, r3, r14, c5, c16, lf3_1 pl f s1 rr t0 t1 c0 c1 r2 r3 c5 r10 r11 r13 r14 c16 hc3_1 hr2 ho6 hr10 hr11 hc55_12 hr13 ho17, K, E_o, F_taken_o, F_counts_o, F_made_o, F_repeated_o, V_TA, V_NA, V_WA⟩
    ·
      refine retV w X rfl d3_58 (by decide) (by decide) ?_
      exact ⟨rfl, (1 : Int32), r3, (0 : Int32), r2, (0 : Int32), r3, t1, c5, c1, lf3_2 pl f s1 rr t0 t1 c0 c1 r2 r3 c5 r10 r11 hc3_1 hr2 ho6 hr10 hr11 hc55_12, K, E_o, F_taken_o, F_counts_o, F_made_o, F_repeated_o, V_TA, V_NA, V_WA⟩
  ·
    refine retV w X rfl d3_6 (by decide) (by decide) ?_
    exact ⟨rfl, (0 : Int32), (0 : Int32), (0 : Int32), (0 : Int32), (0 : Int32), t0, t1, c0, c1, lf3_3 pl f s1 rr t0 t1 c0 c1 hc3_1, K, E_o, F_taken_o, F_counts_o, F_made_o, F_repeated_o, V_TA, V_NA, V_WA⟩
set_option maxRecDepth 65536 in
set_option maxHeartbeats 40000000 in
theorem lf4_1 (t0 : Int32) (t1 : Int32) (c0 : Int32) (c1 : Int32) (hc8_1 : (-1 : Int32) < 0) (hc35_2 : (-1 : Int32) < 0) (hc61_5 : (-1 : Int32) < 0) : own_next t0 t1 c0 c1 (0 : Int32) (0 : Int32) t0 t1 (0 : Int32) := by
  first | exact Or.inl ⟨rfl, rfl, rfl, rfl, rfl⟩ | exact Or.inr (Or.inl ⟨‹_›, rfl, rfl, rfl, rfl, rfl⟩) | exact Or.inr (Or.inr (Or.inl ⟨‹_›, ‹_›, rfl, rfl, rfl, rfl⟩)) | exact Or.inr (Or.inr (Or.inr (Or.inl ⟨‹t1 = _›, ‹t0 = _›, rfl, rfl, rfl, rfl, rfl⟩))) | exact Or.inr (Or.inr (Or.inr (Or.inr (Or.inl ⟨‹t1 = _›, ‹¬ t0 = _›, ‹_›, rfl, rfl, rfl, rfl⟩)))) | exact Or.inr (Or.inr (Or.inr (Or.inr (Or.inr ⟨‹¬ t1 = _›, ‹_›, rfl, rfl, rfl, rfl⟩))))
set_option maxRecDepth 65536 in
set_option maxHeartbeats 40000000 in
theorem lf4_2 (t0 : Int32) (t1 : Int32) (c0 : Int32) (c1 : Int32) (e10 : Int32) (hc8_6 : ¬ ((0 : Int32) < 0)) (hc25_7 : ¬ (t0 = (c0 - (1 : Int32)))) (hc35_8 : ¬ ((0 : Int32) < 0)) (he10 : e10 = (t0 + (1 : Int32))) (hc61_13 : ¬ ((0 : Int32) < 0)) : own_next t0 t1 c0 c1 (1 : Int32) (1 : Int32) e10 t1 (1 : Int32) := by
  first | exact Or.inl ⟨rfl, rfl, rfl, rfl, rfl⟩ | exact Or.inr (Or.inl ⟨‹_›, rfl, rfl, rfl, rfl, rfl⟩) | exact Or.inr (Or.inr (Or.inl ⟨‹_›, ‹_›, rfl, rfl, rfl, rfl⟩)) | exact Or.inr (Or.inr (Or.inr (Or.inl ⟨‹t1 = _›, ‹t0 = _›, rfl, rfl, rfl, rfl, rfl⟩))) | exact Or.inr (Or.inr (Or.inr (Or.inr (Or.inl ⟨‹t1 = _›, ‹¬ t0 = _›, ‹_›, rfl, rfl, rfl, rfl⟩)))) | exact Or.inr (Or.inr (Or.inr (Or.inr (Or.inr ⟨‹¬ t1 = _›, ‹_›, rfl, rfl, rfl, rfl⟩))))
set_option maxRecDepth 65536 in
set_option maxHeartbeats 40000000 in
theorem lf4_3 (t0 : Int32) (t1 : Int32) (c0 : Int32) (c1 : Int32) (hc8_6 : ¬ ((0 : Int32) < 0)) (hc25_7 : t0 = (c0 - (1 : Int32))) (hc8_14 : (-1 : Int32) < 0) (hc35_15 : (-1 : Int32) < 0) (hc61_18 : (-1 : Int32) < 0) : own_next t0 t1 c0 c1 (1 : Int32) (0 : Int32) t0 t1 (0 : Int32) := by
  first | exact Or.inl ⟨rfl, rfl, rfl, rfl, rfl⟩ | exact Or.inr (Or.inl ⟨‹_›, rfl, rfl, rfl, rfl, rfl⟩) | exact Or.inr (Or.inr (Or.inl ⟨‹_›, ‹_›, rfl, rfl, rfl, rfl⟩)) | exact Or.inr (Or.inr (Or.inr (Or.inl ⟨‹t1 = _›, ‹t0 = _›, rfl, rfl, rfl, rfl, rfl⟩))) | exact Or.inr (Or.inr (Or.inr (Or.inr (Or.inl ⟨‹t1 = _›, ‹¬ t0 = _›, ‹_›, rfl, rfl, rfl, rfl⟩)))) | exact Or.inr (Or.inr (Or.inr (Or.inr (Or.inr ⟨‹¬ t1 = _›, ‹_›, rfl, rfl, rfl, rfl⟩))))
set_option maxRecDepth 65536 in
set_option maxHeartbeats 40000000 in
theorem lf4_4 (t0 : Int32) (t1 : Int32) (c0 : Int32) (c1 : Int32) (e23 : Int32) (hc8_19 : ¬ ((1 : Int32) < 0)) (hc25_20 : ¬ (t1 = (c1 - (1 : Int32)))) (hc35_21 : ¬ ((1 : Int32) < 0)) (he23 : e23 = (t1 + (1 : Int32))) (hc61_26 : ¬ ((1 : Int32) < 0)) : own_next t0 t1 c0 c1 (2 : Int32) (2 : Int32) t0 e23 (1 : Int32) := by
  first | exact Or.inl ⟨rfl, rfl, rfl, rfl, rfl⟩ | exact Or.inr (Or.inl ⟨‹_›, rfl, rfl, rfl, rfl, rfl⟩) | exact Or.inr (Or.inr (Or.inl ⟨‹_›, ‹_›, rfl, rfl, rfl, rfl⟩)) | exact Or.inr (Or.inr (Or.inr (Or.inl ⟨‹t1 = _›, ‹t0 = _›, rfl, rfl, rfl, rfl, rfl⟩))) | exact Or.inr (Or.inr (Or.inr (Or.inr (Or.inl ⟨‹t1 = _›, ‹¬ t0 = _›, ‹_›, rfl, rfl, rfl, rfl⟩)))) | exact Or.inr (Or.inr (Or.inr (Or.inr (Or.inr ⟨‹¬ t1 = _›, ‹_›, rfl, rfl, rfl, rfl⟩))))
set_option maxRecDepth 65536 in
set_option maxHeartbeats 40000000 in
theorem lf4_5 (t0 : Int32) (t1 : Int32) (c0 : Int32) (c1 : Int32) (e31 : Int32) (hc8_19 : ¬ ((1 : Int32) < 0)) (hc25_20 : t1 = (c1 - (1 : Int32))) (hc8_27 : ¬ ((0 : Int32) < 0)) (hc25_28 : ¬ (t0 = (c0 - (1 : Int32)))) (hc35_29 : ¬ ((0 : Int32) < 0)) (he31 : e31 = (t0 + (1 : Int32))) (hc61_34 : ¬ ((0 : Int32) < 0)) : own_next t0 t1 c0 c1 (2 : Int32) (1 : Int32) e31 t1 (1 : Int32) := by
  first | exact Or.inl ⟨rfl, rfl, rfl, rfl, rfl⟩ | exact Or.inr (Or.inl ⟨‹_›, rfl, rfl, rfl, rfl, rfl⟩) | exact Or.inr (Or.inr (Or.inl ⟨‹_›, ‹_›, rfl, rfl, rfl, rfl⟩)) | exact Or.inr (Or.inr (Or.inr (Or.inl ⟨‹t1 = _›, ‹t0 = _›, rfl, rfl, rfl, rfl, rfl⟩))) | exact Or.inr (Or.inr (Or.inr (Or.inr (Or.inl ⟨‹t1 = _›, ‹¬ t0 = _›, ‹_›, rfl, rfl, rfl, rfl⟩)))) | exact Or.inr (Or.inr (Or.inr (Or.inr (Or.inr ⟨‹¬ t1 = _›, ‹_›, rfl, rfl, rfl, rfl⟩))))
set_option maxRecDepth 65536 in
set_option maxHeartbeats 40000000 in
theorem lf4_6 (t0 : Int32) (t1 : Int32) (c0 : Int32) (c1 : Int32) (hc8_19 : ¬ ((1 : Int32) < 0)) (hc25_20 : t1 = (c1 - (1 : Int32))) (hc8_27 : ¬ ((0 : Int32) < 0)) (hc25_28 : t0 = (c0 - (1 : Int32))) (hc8_35 : (-1 : Int32) < 0) (hc35_36 : (-1 : Int32) < 0) (hc61_39 : (-1 : Int32) < 0) : own_next t0 t1 c0 c1 (2 : Int32) (0 : Int32) t0 t1 (0 : Int32) := by
  first | exact Or.inl ⟨rfl, rfl, rfl, rfl, rfl⟩ | exact Or.inr (Or.inl ⟨‹_›, rfl, rfl, rfl, rfl, rfl⟩) | exact Or.inr (Or.inr (Or.inl ⟨‹_›, ‹_›, rfl, rfl, rfl, rfl⟩)) | exact Or.inr (Or.inr (Or.inr (Or.inl ⟨‹t1 = _›, ‹t0 = _›, rfl, rfl, rfl, rfl, rfl⟩))) | exact Or.inr (Or.inr (Or.inr (Or.inr (Or.inl ⟨‹t1 = _›, ‹¬ t0 = _›, ‹_›, rfl, rfl, rfl, rfl⟩)))) | exact Or.inr (Or.inr (Or.inr (Or.inr (Or.inr ⟨‹¬ t1 = _›, ‹_›, rfl, rfl, rfl, rfl⟩))))
theorem d4_0 : decode prog_17_method_3_code 0 = .ok (.aload_n 0, 1) := by decide +kernel
theorem d4_1 : decode prog_17_method_3_code 1 = .ok (.getfield 16, 3) := by decide +kernel
theorem d4_4 : decode prog_17_method_3_code 4 = .ok (.iconst 1, 1) := by decide +kernel
theorem d4_5 : decode prog_17_method_3_code 5 = .ok (.isub, 1) := by decide +kernel
theorem d4_6 : decode prog_17_method_3_code 6 = .ok (.istore_n 1, 1) := by decide +kernel
theorem d4_7 : decode prog_17_method_3_code 7 = .ok (.iload_n 1, 1) := by decide +kernel
theorem d4_8 : decode prog_17_method_3_code 8 = .ok (.ifCond .lt 26, 3) := by decide +kernel
theorem d4_11 : decode prog_17_method_3_code 11 = .ok (.aload_n 0, 1) := by decide +kernel
theorem d4_12 : decode prog_17_method_3_code 12 = .ok (.getfield 7, 3) := by decide +kernel
theorem d4_15 : decode prog_17_method_3_code 15 = .ok (.iload_n 1, 1) := by decide +kernel
theorem d4_16 : decode prog_17_method_3_code 16 = .ok (.iaload, 1) := by decide +kernel
theorem d4_17 : decode prog_17_method_3_code 17 = .ok (.aload_n 0, 1) := by decide +kernel
theorem d4_18 : decode prog_17_method_3_code 18 = .ok (.getfield 13, 3) := by decide +kernel
theorem d4_21 : decode prog_17_method_3_code 21 = .ok (.iload_n 1, 1) := by decide +kernel
theorem d4_22 : decode prog_17_method_3_code 22 = .ok (.iaload, 1) := by decide +kernel
theorem d4_23 : decode prog_17_method_3_code 23 = .ok (.iconst 1, 1) := by decide +kernel
theorem d4_24 : decode prog_17_method_3_code 24 = .ok (.isub, 1) := by decide +kernel
theorem d4_25 : decode prog_17_method_3_code 25 = .ok (.if_icmp .ne 9, 3) := by decide +kernel
theorem d4_28 : decode prog_17_method_3_code 28 = .ok (.iinc 1 (-1), 3) := by decide +kernel
theorem d4_31 : decode prog_17_method_3_code 31 = .ok (.goto (-24), 3) := by decide +kernel
theorem d4_34 : decode prog_17_method_3_code 34 = .ok (.iload_n 1, 1) := by decide +kernel
theorem d4_35 : decode prog_17_method_3_code 35 = .ok (.ifCond .lt 13, 3) := by decide +kernel
theorem d4_38 : decode prog_17_method_3_code 38 = .ok (.aload_n 0, 1) := by decide +kernel
theorem d4_39 : decode prog_17_method_3_code 39 = .ok (.getfield 7, 3) := by decide +kernel
theorem d4_42 : decode prog_17_method_3_code 42 = .ok (.iload_n 1, 1) := by decide +kernel
theorem d4_43 : decode prog_17_method_3_code 43 = .ok (.dup2, 1) := by decide +kernel
theorem d4_44 : decode prog_17_method_3_code 44 = .ok (.iaload, 1) := by decide +kernel
theorem d4_45 : decode prog_17_method_3_code 45 = .ok (.iconst 1, 1) := by decide +kernel
theorem d4_46 : decode prog_17_method_3_code 46 = .ok (.iadd, 1) := by decide +kernel
theorem d4_47 : decode prog_17_method_3_code 47 = .ok (.iastore, 1) := by decide +kernel
theorem d4_48 : decode prog_17_method_3_code 48 = .ok (.aload_n 0, 1) := by decide +kernel
theorem d4_49 : decode prog_17_method_3_code 49 = .ok (.iload_n 1, 1) := by decide +kernel
theorem d4_50 : decode prog_17_method_3_code 50 = .ok (.iconst 1, 1) := by decide +kernel
theorem d4_51 : decode prog_17_method_3_code 51 = .ok (.iadd, 1) := by decide +kernel
theorem d4_52 : decode prog_17_method_3_code 52 = .ok (.putfield 26, 3) := by decide +kernel
theorem d4_55 : decode prog_17_method_3_code 55 = .ok (.aload_n 0, 1) := by decide +kernel
theorem d4_56 : decode prog_17_method_3_code 56 = .ok (.iconst 0, 1) := by decide +kernel
theorem d4_57 : decode prog_17_method_3_code 57 = .ok (.putfield 16, 3) := by decide +kernel
theorem d4_60 : decode prog_17_method_3_code 60 = .ok (.iload_n 1, 1) := by decide +kernel
theorem d4_61 : decode prog_17_method_3_code 61 = .ok (.ifCond .lt 7, 3) := by decide +kernel
theorem d4_64 : decode prog_17_method_3_code 64 = .ok (.iconst 1, 1) := by decide +kernel
theorem d4_65 : decode prog_17_method_3_code 65 = .ok (.goto 4, 3) := by decide +kernel
theorem d4_68 : decode prog_17_method_3_code 68 = .ok (.iconst 0, 1) := by decide +kernel
theorem d4_69 : decode prog_17_method_3_code 69 = .ok (.ireturn, 1) := by decide +kernel
set_option maxRecDepth 65536 in
set_option maxHeartbeats 40000000 in
theorem rm_nx {l : Launch} {Z : State} {a0 : Array Value} (hw : ∀ d ∈ tables_1, d.before a0 Z = true) (o TA NA : Addr) (mm rr t0 t1 c0 c1 : Int32) (h : Heap) (n0 : Nat) (zn : n0 ≤ h.size) (E_o : Exa Z h o "com/example/vigilant_mailbox/vigilantmailbox/engine/Choices") (F_taken_o : Fld Z h o "com/example/vigilant_mailbox/vigilantmailbox/engine/Choices" "taken" "[I" (.ref TA)) (F_counts_o : Fld Z h o "com/example/vigilant_mailbox/vigilantmailbox/engine/Choices" "counts" "[I" (.ref NA)) (F_made_o : Fld Z h o "com/example/vigilant_mailbox/vigilantmailbox/engine/Choices" "made" "I" (.int mm)) (F_repeated_o : Fld Z h o "com/example/vigilant_mailbox/vigilantmailbox/engine/Choices" "repeated" "I" (.int rr)) (V_TA : PA Z h TA .int [t0, t1]) (V_NA : PA Z h NA .int [c0, c1]) (g_o : n0 ≤ o) (g_TA : n0 ≤ TA) (g_NA : n0 ≤ NA) (ne_o_TA : o ≠ TA) (ne_o_NA : o ≠ NA) (ne_TA_NA : TA ≠ NA) (hm : mm = 0 ∨ mm = 1 ∨ mm = 2) :
    Met l Z (⟨"com/example/vigilant_mailbox/vigilantmailbox/engine/Choices", "next", "()Z"⟩ : MethodName) prog_17_method_3_code 2 (some .boolean) [] ({ frames := 0, cells := 0, slots := 0, locals := 0 } : Room) #[(.ref o)] h n0 (RI fun r h' => ∃ rr' u0 u1 : Int32, own_next t0 t1 c0 c1 mm rr' u0 u1 r ∧ Keep h h' [o, TA, NA] ∧ Exa Z h' o "com/example/vigilant_mailbox/vigilantmailbox/engine/Choices" ∧ Fld Z h' o "com/example/vigilant_mailbox/vigilantmailbox/engine/Choices" "taken" "[I" (.ref TA) ∧ Fld Z h' o "com/example/vigilant_mailbox/vigilantmailbox/engine/Choices" "counts" "[I" (.ref NA) ∧ Fld Z h' o "com/example/vigilant_mailbox/vigilantmailbox/engine/Choices" "made" "I" (.int (0 : Int32)) ∧ Fld Z h' o "com/example/vigilant_mailbox/vigilantmailbox/engine/Choices" "repeated" "I" (.int rr') ∧ PA Z h' TA .int [u0, u1] ∧ PA Z h' NA .int [c0, c1]) := by
  refine start (ls := #[.val (.ref o), .unset]) (plainFor_of_name pn1) (fun m => by first | (simp [entryFrame, mkF, argsToLocals, Value.category]; done) | rfl) ?_
  intro p e s m below meth c T G w X
  have K := Keep.refl h [o, TA, NA]
  rcases hm with rfl | rfl | rfl
  ·
    refine aloadN w X d4_0 1 rfl rfl rfl ?_
    refine getfield w X (wd23 hw) Via.refl F_made_o d4_1 4 rfl (fun T X => ?_)
    refine iconst w X (1 : Int32) d4_4 5 rfl rfl ?_
    refine isub w X (-1 : Int32) d4_5 6 rfl (by decide) ?_
    refine istoreN w X (-1 : Int32) d4_6 7 rfl rfl #[.val (.ref o), .val (.int (-1 : Int32))] rfl ?_
    refine iloadN w X d4_7 8 rfl rfl ?_
    refine if_lt w X d4_8 34 11 (by decide) (by decide) rfl (fun hc8_1 => ?_) (fun q => absurd q (by decide))
    refine iloadN w X d4_34 35 rfl rfl ?_
    refine if_lt w X d4_35 48 38 (by decide) (by decide) rfl (fun hc35_2 => ?_) (fun q => absurd q (by decide))
    refine aloadN w X d4_48 49 rfl rfl rfl ?_
    refine iloadN w X d4_49 50 rfl rfl ?_
    refine iconst w X (1 : Int32) d4_50 51 rfl rfl ?_
    refine iadd w X (0 : Int32) d4_51 52 rfl (by decide) ?_
    refine putfield w X (wd25 hw) Via.refl F_repeated_o E_o (Or.inl (wd26 hw)) (wd2 hw) (ty := .int) (by decide) rfl rfl g_o d4_52 55 rfl (fun T h3 X W => ?_)
    have zn : n0 ≤ h3.size := W.size ▸ zn
    have K := K.wr W (Or.inl (List.mem_of_getElem? (i := 0) rfl))
    have E_o := E_o.wr W
    have F_taken_o := F_taken_o.other W (Or.inr (slot_ne (Or.inl (wd11 hw)) (Or.inl (wd26 hw)) (by decide) (t := (.array .int)) (t' := .int) (by decide) (by decide)))
    have F_counts_o := F_counts_o.other W (Or.inr (slot_ne (Or.inl (wd13 hw)) (Or.inl (wd26 hw)) (by decide) (t := (.array .int)) (t' := .int) (by decide) (by decide)))
    have F_made_o := F_made_o.other W (Or.inr (slot_ne (Or.inl (wd24 hw)) (Or.inl (wd26 hw)) (by decide) (t := .int) (t' := .int) (by decide) (by decide)))
    have F_repeated_o := F_repeated_o.same W
    have V_TA := V_TA.other W (Ne.symm ne_o_TA)
    have V_NA := V_NA.other W (Ne.symm ne_o_NA)
    refine aloadN w X d4_55 56 rfl rfl rfl ?_
    refine iconst w X (0 : Int32) d4_56 57 rfl rfl ?_
    refine putfield w X (wd23 hw) Via.refl F_made_o E_o (Or.inl (wd24 hw)) (wd2 hw) (ty := .int) (by decide) rfl rfl g_o d4_57 60 rfl (fun T h4 X W => ?_)
    have zn : n0 ≤ h4.size := W.size ▸ zn
    have K := K.wr W (Or.inl (List.mem_of_getElem? (i := 0) rfl))
    have E_o := E_o.wr W
    have F_taken_o := F_taken_o.other W (Or.inr (slot_ne (Or.inl (wd11 hw)) (Or.inl (wd24 hw)) (by decide) (t := (.array .int)) (t' := .int) (by decide) (by decide)))
    have F_counts_o := F_counts_o.other W (Or.inr (slot_ne (Or.inl (wd13 hw)) (Or.inl (wd24 hw)) (by decide) (t := (.array .int)) (t' := .int) (by decide) (by decide)))
    have F_made_o := F_made_o.same W
    have F_repeated_o := F_repeated_o.other W (Or.inr (slot_ne (Or.inl (wd26 hw)) (Or.inl (wd24 hw)) (by decide) (t := .int) (t' := .int) (by decide) (by decide)))
    have V_TA := V_TA.other W (Ne.symm ne_o_TA)
    have V_NA := V_NA.other W (Ne.symm ne_o_NA)
    refine iloadN w X d4_60 61 rfl rfl ?_
    refine if_lt w X d4_61 68 64 (by decide) (by decide) rfl (fun hc61_5 => ?_) (fun q => absurd q (by decide))
    refine iconst w X (0 : Int32) d4_68 69 rfl rfl ?_
    refine retN w X (t := .boolean) rfl (by simp) d4_69 (by decide) (by decide) ?_
    exact ⟨_, rfl, (0 : Int32), t0, t1, lf4_1 t0 t1 c0 c1 hc8_1 hc35_2 hc61_5, K, E_o, F_taken_o, F_counts_o, F_made_o, F_repeated_o, V_TA, V_NA⟩
  ·
    refine aloadN w X d4_0 1 rfl rfl rfl ?_
    refine getfield w X (wd23 hw) Via.refl F_made_o d4_1 4 rfl (fun T X => ?_)
    refine iconst w X (1 : Int32) d4_4 5 rfl rfl ?_
    refine isub w X (0 : Int32) d4_5 6 rfl (by decide) ?_
    refine istoreN w X (0 : Int32) d4_6 7 rfl rfl #[.val (.ref o), .val (.int (0 : Int32))] rfl ?_
    refine iloadN w X d4_7 8 rfl rfl ?_
    refine if_lt w X d4_8 34 11 (by decide) (by decide) rfl (fun q => absurd q (by decide)) (fun hc8_6 => ?_)
    refine aloadN w X d4_11 12 rfl rfl rfl ?_
    refine getfield w X (wd10 hw) Via.refl F_taken_o d4_12 15 rfl (fun T X => ?_)
    refine iloadN w X d4_15 16 rfl rfl ?_
    refine iaload w X V_TA (by decide) 0 rfl (Nat.le_of_ble_eq_true rfl) d4_16 17 rfl t0 rfl ?_
    refine aloadN w X d4_17 18 rfl rfl rfl ?_
    refine getfield w X (wd12 hw) Via.refl F_counts_o d4_18 21 rfl (fun T X => ?_)
    refine iloadN w X d4_21 22 rfl rfl ?_
    refine iaload w X V_NA (by decide) 0 rfl (Nat.le_of_ble_eq_true rfl) d4_22 23 rfl c0 rfl ?_
    refine iconst w X (1 : Int32) d4_23 24 rfl rfl ?_
    refine isub w X (c0 - (1 : Int32)) d4_24 25 rfl rfl ?_
    refine icmp_ne w X d4_25 34 28 (by decide) (by decide) rfl (fun hc25_7 => ?_) (fun hc25_7 => ?_)
    ·
      refine iloadN w X d4_34 35 rfl rfl ?_
      refine if_lt w X d4_35 48 38 (by decide) (by decide) rfl (fun q => absurd q (by decide)) (fun hc35_8 => ?_)
      refine aloadN w X d4_38 39 rfl rfl rfl ?_
      refine getfield w X (wd10 hw) Via.refl F_taken_o d4_39 42 rfl (fun T X => ?_)
      refine iloadN w X d4_42 43 rfl rfl ?_
      refine dup2 w X d4_43 44 rfl rfl rfl ?_
      refine iaload w X V_TA (by decide) 0 rfl (Nat.le_of_ble_eq_true rfl) d4_44 45 rfl t0 rfl ?_
      refine iconst w X (1 : Int32) d4_45 46 rfl rfl ?_
      refine iadd w X (t0 + (1 : Int32)) d4_46 47 rfl rfl ?_
      obtain ⟨e10, he10⟩ : ∃ z : Int32, z = (t0 + (1 : Int32)) := ⟨_, rfl⟩
      refine iastore w X V_TA (by decide) 0 rfl (Nat.le_of_ble_eq_true rfl) g_TA d4_47 48 rfl e10 he10 (fun T h9 X W V_TA => ?_)
      have V_TA : PA Z h9 TA .int [e10, t1] := V_TA
      have zn : n0 ≤ h9.size := W.size ▸ zn
      have K := K.wr W (Or.inl (List.mem_of_getElem? (i := 1) rfl))
      have E_o := E_o.wr W
      have F_taken_o := F_taken_o.other W (Or.inl ne_o_TA)
      have F_counts_o := F_counts_o.other W (Or.inl ne_o_TA)
      have F_made_o := F_made_o.other W (Or.inl ne_o_TA)
      have F_repeated_o := F_repeated_o.other W (Or.inl ne_o_TA)
      have V_NA := V_NA.other W (Ne.symm ne_TA_NA)
      refine aloadN w X d4_48 49 rfl rfl rfl ?_
      refine iloadN w X d4_49 50 rfl rfl ?_
      refine iconst w X (1 : Int32) d4_50 51 rfl rfl ?_
      refine iadd w X (1 : Int32) d4_51 52 rfl (by decide) ?_
      refine putfield w X (wd25 hw) Via.refl F_repeated_o E_o (Or.inl (wd26 hw)) (wd2 hw) (ty := .int) (by decide) rfl rfl g_o d4_52 55 rfl (fun T h11 X W => ?_)
      have zn : n0 ≤ h11.size := W.size ▸ zn
      have K := K.wr W (Or.inl (List.mem_of_getElem? (i := 0) rfl))
      have E_o := E_o.wr W
      have F_taken_o := F_taken_o.other W (Or.inr (slot_ne (Or.inl (wd11 hw)) (Or.inl (wd26 hw)) (by decide) (t := (.array .int)) (t' := .int) (by decide) (by decide)))
      have F_counts_o := F_counts_o.other W (Or.inr (slot_ne (Or.inl (wd13 hw)) (Or.inl (wd26 hw)) (by decide) (t := (.array .int)) (t' := .int) (by decide) (by decide)))
      have F_made_o := F_made_o.other W (Or.inr (slot_ne (Or.inl (wd24 hw)) (Or.inl (wd26 hw)) (by decide) (t := .int) (t' := .int) (by decide) (by decide)))
      have F_repeated_o := F_repeated_o.same W
      have V_TA := V_TA.other W (Ne.symm ne_o_TA)
      have V_NA := V_NA.other W (Ne.symm ne_o_NA)
      refine aloadN w X d4_55 56 rfl rfl rfl ?_
      refine iconst w X (0 : Int32) d4_56 57 rfl rfl ?_
      refine putfield w X (wd23 hw) Via.refl F_made_o E_o (Or.inl (wd24 hw)) (wd2 hw) (ty := .int) (by decide) rfl rfl g_o d4_57 60 rfl (fun T h12 X W => ?_)
      have zn : n0 ≤ h12.size := W.size ▸ zn
      have K := K.wr W (Or.inl (List.mem_of_getElem? (i := 0) rfl))
      have E_o := E_o.wr W
      have F_taken_o := F_taken_o.other W (Or.inr (slot_ne (Or.inl (wd11 hw)) (Or.inl (wd24 hw)) (by decide) (t := (.array .int)) (t' := .int) (by decide) (by decide)))
      have F_counts_o := F_counts_o.other W (Or.inr (slot_ne (Or.inl (wd13 hw)) (Or.inl (wd24 hw)) (by decide) (t := (.array .int)) (t' := .int) (by decide) (by decide)))
      have F_made_o := F_made_o.same W
      have F_repeated_o := F_repeated_o.other W (Or.inr (slot_ne (Or.inl (wd26 hw)) (Or.inl (wd24 hw)) (by decide) (t := .int) (t' := .int) (by decide) (by decide)))
      have V_TA := V_TA.other W (Ne.symm ne_o_TA)
      have V_NA := V_NA.other W (Ne.symm ne_o_NA)
      refine iloadN w X d4_60 61 rfl rfl ?_
      refine if_lt w X d4_61 68 64 (by decide) (by decide) rfl (fun q => absurd q (by decide)) (fun hc61_13 => ?_)
      refine iconst w X (1 : Int32) d4_64 65 rfl rfl ?_
      refine goto w X d4_65 69 (by decide) (by decide) ?_
      refine retN w X (t := .boolean) rfl (by simp) d4_69 (by decide) (by decide) ?_
      exact ⟨_, rfl, (1 : Int32), e10, t1, lf4_2 t0 t1 c0 c1 e10 hc8_6 hc25_7 hc35_8 he10 hc61_13, K, E_o, F_taken_o, F_counts_o, F_made_o, F_repeated_o, V_TA, V_NA⟩
    ·
      refine iinc w X (-1 : Int32) d4_28 31 rfl rfl (by decide) #[.val (.ref o), .val (.int (-1 : Int32))] rfl ?_
      refine goto w X d4_31 7 (by decide) (by decide) ?_
      refine iloadN w X d4_7 8 rfl rfl ?_
      refine if_lt w X d4_8 34 11 (by decide) (by decide) rfl (fun hc8_14 => ?_) (fun q => absurd q (by decide))
      refine iloadN w X d4_34 35 rfl rfl ?_
      refine if_lt w X d4_35 48 38 (by decide) (by decide) rfl (fun hc35_15 => ?_) (fun q => absurd q (by decide))
      refine aloadN w X d4_48 49 rfl rfl rfl ?_
      refine iloadN w X d4_49 50 rfl rfl ?_
      refine iconst w X (1 : Int32) d4_50 51 rfl rfl ?_
      refine iadd w X (0 : Int32) d4_51 52 rfl (by decide) ?_
      refine putfield w X (wd25 hw) Via.refl F_repeated_o E_o (Or.inl (wd26 hw)) (wd2 hw) (ty := .int) (by decide) rfl rfl g_o d4_52 55 rfl (fun T h16 X W => ?_)
      have zn : n0 ≤ h16.size := W.size ▸ zn
      have K := K.wr W (Or.inl (List.mem_of_getElem? (i := 0) rfl))
      have E_o := E_o.wr W
      have F_taken_o := F_taken_o.other W (Or.inr (slot_ne (Or.inl (wd11 hw)) (Or.inl (wd26 hw)) (by decide) (t := (.array .int)) (t' := .int) (by decide) (by decide)))
      have F_counts_o := F_counts_o.other W (Or.inr (slot_ne (Or.inl (wd13 hw)) (Or.inl (wd26 hw)) (by decide) (t := (.array .int)) (t' := .int) (by decide) (by decide)))
      have F_made_o := F_made_o.other W (Or.inr (slot_ne (Or.inl (wd24 hw)) (Or.inl (wd26 hw)) (by decide) (t := .int) (t' := .int) (by decide) (by decide)))
      have F_repeated_o := F_repeated_o.same W
      have V_TA := V_TA.other W (Ne.symm ne_o_TA)
      have V_NA := V_NA.other W (Ne.symm ne_o_NA)
      refine aloadN w X d4_55 56 rfl rfl rfl ?_
      refine iconst w X (0 : Int32) d4_56 57 rfl rfl ?_
      refine putfield w X (wd23 hw) Via.refl F_made_o E_o (Or.inl (wd24 hw)) (wd2 hw) (ty := .int) (by decide) rfl rfl g_o d4_57 60 rfl (fun T h17 X W => ?_)
      have zn : n0 ≤ h17.size := W.size ▸ zn
      have K := K.wr W (Or.inl (List.mem_of_getElem? (i := 0) rfl))
      have E_o := E_o.wr W
      have F_taken_o := F_taken_o.other W (Or.inr (slot_ne (Or.inl (wd11 hw)) (Or.inl (wd24 hw)) (by decide) (t := (.array .int)) (t' := .int) (by decide) (by decide)))
      have F_counts_o := F_counts_o.other W (Or.inr (slot_ne (Or.inl (wd13 hw)) (Or.inl (wd24 hw)) (by decide) (t := (.array .int)) (t' := .int) (by decide) (by decide)))
      have F_made_o := F_made_o.same W
      have F_repeated_o := F_repeated_o.other W (Or.inr (slot_ne (Or.inl (wd26 hw)) (Or.inl (wd24 hw)) (by decide) (t := .int) (t' := .int) (by decide) (by decide)))
      have V_TA := V_TA.other W (Ne.symm ne_o_TA)
      have V_NA := V_NA.other W (Ne.symm ne_o_NA)
      refine iloadN w X d4_60 61 rfl rfl ?_
      refine if_lt w X d4_61 68 64 (by decide) (by decide) rfl (fun hc61_18 => ?_) (fun q => absurd q (by decide))
      refine iconst w X (0 : Int32) d4_68 69 rfl rfl ?_
      refine retN w X (t := .boolean) rfl (by simp) d4_69 (by decide) (by decide) ?_
      exact ⟨_, rfl, (0 : Int32), t0, t1, lf4_3 t0 t1 c0 c1 hc8_6 hc25_7 hc8_14 hc35_15 hc61_18, K, E_o, F_taken_o, F_counts_o, F_made_o, F_repeated_o, V_TA, V_NA⟩
  ·
    refine aloadN w X d4_0 1 rfl rfl rfl ?_
    refine getfield w X (wd23 hw) Via.refl F_made_o d4_1 4 rfl (fun T X => ?_)
    refine iconst w X (1 : Int32) d4_4 5 rfl rfl ?_
    refine isub w X (1 : Int32) d4_5 6 rfl (by decide) ?_
    refine istoreN w X (1 : Int32) d4_6 7 rfl rfl #[.val (.ref o), .val (.int (1 : Int32))] rfl ?_
    refine iloadN w X d4_7 8 rfl rfl ?_
    refine if_lt w X d4_8 34 11 (by decide) (by decide) rfl (fun q => absurd q (by decide)) (fun hc8_19 => ?_)
    refine aloadN w X d4_11 12 rfl rfl rfl ?_
    refine getfield w X (wd10 hw) Via.refl F_taken_o d4_12 15 rfl (fun T X => ?_)
    refine iloadN w X d4_15 16 rfl rfl ?_
    refine iaload w X V_TA (by decide) 1 rfl (Nat.le_of_ble_eq_true rfl) d4_16 17 rfl t1 rfl ?_
    refine aloadN w X d4_17 18 rfl rfl rfl ?_
    refine getfield w X (wd12 hw) Via.refl F_counts_o d4_18 21 rfl (fun T X => ?_)
    refine iloadN w X d4_21 22 rfl rfl ?_
    refine iaload w X V_NA (by decide) 1 rfl (Nat.le_of_ble_eq_true rfl) d4_22 23 rfl c1 rfl ?_
    refine iconst w X (1 : Int32) d4_23 24 rfl rfl ?_
    refine isub w X (c1 - (1 : Int32)) d4_24 25 rfl rfl ?_
    refine icmp_ne w X d4_25 34 28 (by decide) (by decide) rfl (fun hc25_20 => ?_) (fun hc25_20 => ?_)
    ·
      refine iloadN w X d4_34 35 rfl rfl ?_
      refine if_lt w X d4_35 48 38 (by decide) (by decide) rfl (fun q => absurd q (by decide)) (fun hc35_21 => ?_)
      refine aloadN w X d4_38 39 rfl rfl rfl ?_
      refine getfield w X (wd10 hw) Via.refl F_taken_o d4_39 42 rfl (fun T X => ?_)
      refine iloadN w X d4_42 43 rfl rfl ?_
      refine dup2 w X d4_43 44 rfl rfl rfl ?_
      refine iaload w X V_TA (by decide) 1 rfl (Nat.le_of_ble_eq_true rfl) d4_44 45 rfl t1 rfl ?_
      refine iconst w X (1 : Int32) d4_45 46 rfl rfl ?_
      refine iadd w X (t1 + (1 : Int32)) d4_46 47 rfl rfl ?_
      obtain ⟨e23, he23⟩ : ∃ z : Int32, z = (t1 + (1 : Int32)) := ⟨_, rfl⟩
      refine iastore w X V_TA (by decide) 1 rfl (Nat.le_of_ble_eq_true rfl) g_TA d4_47 48 rfl e23 he23 (fun T h22 X W V_TA => ?_)
      have V_TA : PA Z h22 TA .int [t0, e23] := V_TA
      have zn : n0 ≤ h22.size := W.size ▸ zn
      have K := K.wr W (Or.inl (List.mem_of_getElem? (i := 1) rfl))
      have E_o := E_o.wr W
      have F_taken_o := F_taken_o.other W (Or.inl ne_o_TA)
      have F_counts_o := F_counts_o.other W (Or.inl ne_o_TA)
      have F_made_o := F_made_o.other W (Or.inl ne_o_TA)
      have F_repeated_o := F_repeated_o.other W (Or.inl ne_o_TA)
      have V_NA := V_NA.other W (Ne.symm ne_TA_NA)
      refine aloadN w X d4_48 49 rfl rfl rfl ?_
      refine iloadN w X d4_49 50 rfl rfl ?_
      refine iconst w X (1 : Int32) d4_50 51 rfl rfl ?_
      refine iadd w X (2 : Int32) d4_51 52 rfl (by decide) ?_
      refine putfield w X (wd25 hw) Via.refl F_repeated_o E_o (Or.inl (wd26 hw)) (wd2 hw) (ty := .int) (by decide) rfl rfl g_o d4_52 55 rfl (fun T h24 X W => ?_)
      have zn : n0 ≤ h24.size := W.size ▸ zn
      have K := K.wr W (Or.inl (List.mem_of_getElem? (i := 0) rfl))
      have E_o := E_o.wr W
      have F_taken_o := F_taken_o.other W (Or.inr (slot_ne (Or.inl (wd11 hw)) (Or.inl (wd26 hw)) (by decide) (t := (.array .int)) (t' := .int) (by decide) (by decide)))
      have F_counts_o := F_counts_o.other W (Or.inr (slot_ne (Or.inl (wd13 hw)) (Or.inl (wd26 hw)) (by decide) (t := (.array .int)) (t' := .int) (by decide) (by decide)))
      have F_made_o := F_made_o.other W (Or.inr (slot_ne (Or.inl (wd24 hw)) (Or.inl (wd26 hw)) (by decide) (t := .int) (t' := .int) (by decide) (by decide)))
      have F_repeated_o := F_repeated_o.same W
      have V_TA := V_TA.other W (Ne.symm ne_o_TA)
      have V_NA := V_NA.other W (Ne.symm ne_o_NA)
      refine aloadN w X d4_55 56 rfl rfl rfl ?_
      refine iconst w X (0 : Int32) d4_56 57 rfl rfl ?_
      refine putfield w X (wd23 hw) Via.refl F_made_o E_o (Or.inl (wd24 hw)) (wd2 hw) (ty := .int) (by decide) rfl rfl g_o d4_57 60 rfl (fun T h25 X W => ?_)
      have zn : n0 ≤ h25.size := W.size ▸ zn
      have K := K.wr W (Or.inl (List.mem_of_getElem? (i := 0) rfl))
      have E_o := E_o.wr W
      have F_taken_o := F_taken_o.other W (Or.inr (slot_ne (Or.inl (wd11 hw)) (Or.inl (wd24 hw)) (by decide) (t := (.array .int)) (t' := .int) (by decide) (by decide)))
      have F_counts_o := F_counts_o.other W (Or.inr (slot_ne (Or.inl (wd13 hw)) (Or.inl (wd24 hw)) (by decide) (t := (.array .int)) (t' := .int) (by decide) (by decide)))
      have F_made_o := F_made_o.same W
      have F_repeated_o := F_repeated_o.other W (Or.inr (slot_ne (Or.inl (wd26 hw)) (Or.inl (wd24 hw)) (by decide) (t := .int) (t' := .int) (by decide) (by decide)))
      have V_TA := V_TA.other W (Ne.symm ne_o_TA)
      have V_NA := V_NA.other W (Ne.symm ne_o_NA)
      refine iloadN w X d4_60 61 rfl rfl ?_
      refine if_lt w X d4_61 68 64 (by decide) (by decide) rfl (fun q => absurd q (by decide)) (fun hc61_26 => ?_)
      refine iconst w X (1 : Int32) d4_64 65 rfl rfl ?_
      refine goto w X d4_65 69 (by decide) (by decide) ?_
      refine retN w X (t := .boolean) rfl (by simp) d4_69 (by decide) (by decide) ?_
      exact ⟨_, rfl, (2 : Int32), t0, e23, lf4_4 t0 t1 c0 c1 e23 hc8_19 hc25_20 hc35_21 he23 hc61_26, K, E_o, F_taken_o, F_counts_o, F_made_o, F_repeated_o, V_TA, V_NA⟩
    ·
      refine iinc w X (0 : Int32) d4_28 31 rfl rfl (by decide) #[.val (.ref o), .val (.int (0 : Int32))] rfl ?_
      refine goto w X d4_31 7 (by decide) (by decide) ?_
      refine iloadN w X d4_7 8 rfl rfl ?_
      refine if_lt w X d4_8 34 11 (by decide) (by decide) rfl (fun q => absurd q (by decide)) (fun hc8_27 => ?_)
      refine aloadN w X d4_11 12 rfl rfl rfl ?_
      refine getfield w X (wd10 hw) Via.refl F_taken_o d4_12 15 rfl (fun T X => ?_)
      refine iloadN w X d4_15 16 rfl rfl ?_
      refine iaload w X V_TA (by decide) 0 rfl (Nat.le_of_ble_eq_true rfl) d4_16 17 rfl t0 rfl ?_
      refine aloadN w X d4_17 18 rfl rfl rfl ?_
      refine getfield w X (wd12 hw) Via.refl F_counts_o d4_18 21 rfl (fun T X => ?_)
      refine iloadN w X d4_21 22 rfl rfl ?_
      refine iaload w X V_NA (by decide) 0 rfl (Nat.le_of_ble_eq_true rfl) d4_22 23 rfl c0 rfl ?_
      refine iconst w X (1 : Int32) d4_23 24 rfl rfl ?_
      refine isub w X (c0 - (1 : Int32)) d4_24 25 rfl rfl ?_
      refine icmp_ne w X d4_25 34 28 (by decide) (by decide) rfl (fun hc25_28 => ?_) (fun hc25_28 => ?_)
      ·
        refine iloadN w X d4_34 35 rfl rfl ?_
        refine if_lt w X d4_35 48 38 (by decide) (by decide) rfl (fun q => absurd q (by decide)) (fun hc35_29 => ?_)
        refine aloadN w X d4_38 39 rfl rfl rfl ?_
        refine getfield w X (wd10 hw) Via.refl F_taken_o d4_39 42 rfl (fun T X => ?_)
        refine iloadN w X d4_42 43 rfl rfl ?_
        refine dup2 w X d4_43 44 rfl rfl rfl ?_
        refine iaload w X V_TA (by decide) 0 rfl (Nat.le_of_ble_eq_true rfl) d4_44 45 rfl t0 rfl ?_
        refine iconst w X (1 : Int32) d4_45 46 rfl rfl ?_
        refine iadd w X (t0 + (1 : Int32)) d4_46 47 rfl rfl ?_
        obtain ⟨e31, he31⟩ : ∃ z : Int32, z = (t0 + (1 : Int32)) := ⟨_, rfl⟩
        refine iastore w X V_TA (by decide) 0 rfl (Nat.le_of_ble_eq_true rfl) g_TA d4_47 48 rfl e31 he31 (fun T h30 X W V_TA => ?_)
        have V_TA : PA Z h30 TA .int [e31, t1] := V_TA
        have zn : n0 ≤ h30.size := W.size ▸ zn
        have K := K.wr W (Or.inl (List.mem_of_getElem? (i := 1) rfl))
        have E_o := E_o.wr W
        have F_taken_o := F_taken_o.other W (Or.inl ne_o_TA)
        have F_counts_o := F_counts_o.other W (Or.inl ne_o_TA)
        have F_made_o := F_made_o.other W (Or.inl ne_o_TA)
        have F_repeated_o := F_repeated_o.other W (Or.inl ne_o_TA)
        have V_NA := V_NA.other W (Ne.symm ne_TA_NA)
        refine aloadN w X d4_48 49 rfl rfl rfl ?_
        refine iloadN w X d4_49 50 rfl rfl ?_
        refine iconst w X (1 : Int32) d4_50 51 rfl rfl ?_
        refine iadd w X (1 : Int32) d4_51 52 rfl (by decide) ?_
        refine putfield w X (wd25 hw) Via.refl F_repeated_o E_o (Or.inl (wd26 hw)) (wd2 hw) (ty := .int) (by decide) rfl rfl g_o d4_52 55 rfl (fun T h32 X W => ?_)
        have zn : n0 ≤ h32.size := W.size ▸ zn
        have K := K.wr W (Or.inl (List.mem_of_getElem? (i := 0) rfl))
        have E_o := E_o.wr W
        have F_taken_o := F_taken_o.other W (Or.inr (slot_ne (Or.inl (wd11 hw)) (Or.inl (wd26 hw)) (by decide) (t := (.array .int)) (t' := .int) (by decide) (by decide)))
        have F_counts_o := F_counts_o.other W (Or.inr (slot_ne (Or.inl (wd13 hw)) (Or.inl (wd26 hw)) (by decide) (t := (.array .int)) (t' := .int) (by decide) (by decide)))
        have F_made_o := F_made_o.other W (Or.inr (slot_ne (Or.inl (wd24 hw)) (Or.inl (wd26 hw)) (by decide) (t := .int) (t' := .int) (by decide) (by decide)))
        have F_repeated_o := F_repeated_o.same W
        have V_TA := V_TA.other W (Ne.symm ne_o_TA)
        have V_NA := V_NA.other W (Ne.symm ne_o_NA)
        refine aloadN w X d4_55 56 rfl rfl rfl ?_
        refine iconst w X (0 : Int32) d4_56 57 rfl rfl ?_
        refine putfield w X (wd23 hw) Via.refl F_made_o E_o (Or.inl (wd24 hw)) (wd2 hw) (ty := .int) (by decide) rfl rfl g_o d4_57 60 rfl (fun T h33 X W => ?_)
        have zn : n0 ≤ h33.size := W.size ▸ zn
        have K := K.wr W (Or.inl (List.mem_of_getElem? (i := 0) rfl))
        have E_o := E_o.wr W
        have F_taken_o := F_taken_o.other W (Or.inr (slot_ne (Or.inl (wd11 hw)) (Or.inl (wd24 hw)) (by decide) (t := (.array .int)) (t' := .int) (by decide) (by decide)))
        have F_counts_o := F_counts_o.other W (Or.inr (slot_ne (Or.inl (wd13 hw)) (Or.inl (wd24 hw)) (by decide) (t := (.array .int)) (t' := .int) (by decide) (by decide)))
        have F_made_o := F_made_o.same W
        have F_repeated_o := F_repeated_o.other W (Or.inr (slot_ne (Or.inl (wd26 hw)) (Or.inl (wd24 hw)) (by decide) (t := .int) (t' := .int) (by decide) (by decide)))
        have V_TA := V_TA.other W (Ne.symm ne_o_TA)
        have V_NA := V_NA.other W (Ne.symm ne_o_NA)
        refine iloadN w X d4_60 61 rfl rfl ?_
        refine if_lt w X d4_61 68 64 (by decide) (by decide) rfl (fun q => absurd q (by decide)) (fun hc61_34 => ?_)
        refine iconst w X (1 : Int32) d4_64 65 rfl rfl ?_
        refine goto w X d4_65 69 (by decide) (by decide) ?_
        refine retN w X (t := .boolean) rfl (by simp) d4_69 (by decide) (by decide) ?_
        exact ⟨_, rfl, (1 : Int32), e31, t1, lf4_5 t0 t1 c0 c1 e31 hc8_19 hc25_20 hc8_27 hc25_28 hc35_29 he31 hc61_34, K, E_o, F_taken_o, F_counts_o, F_made_o, F_repeated_o, V_TA, V_NA⟩
      ·
        refine iinc w X (-1 : Int32) d4_28 31 rfl rfl (by decide) #[.val (.ref o), .val (.int (-1 : Int32))] rfl ?_
        refine goto w X d4_31 7 (by decide) (by decide) ?_
        refine iloadN w X d4_7 8 rfl rfl ?_
        refine if_lt w X d4_8 34 11 (by decide) (by decide) rfl (fun hc8_35 => ?_) (fun q => absurd q (by decide))
        refine iloadN w X d4_34 35 rfl rfl ?_
        refine if_lt w X d4_35 48 38 (by decide) (by decide) rfl (fun hc35_36 => ?_) (fun q => absurd q (by decide))
        refine aloadN w X d4_48 49 rfl rfl rfl ?_
        refine iloadN w X d4_49 50 rfl rfl ?_
        refine iconst w X (1 : Int32) d4_50 51 rfl rfl ?_
        refine iadd w X (0 : Int32) d4_51 52 rfl (by decide) ?_
        refine putfield w X (wd25 hw) Via.refl F_repeated_o E_o (Or.inl (wd26 hw)) (wd2 hw) (ty := .int) (by decide) rfl rfl g_o d4_52 55 rfl (fun T h37 X W => ?_)
        have zn : n0 ≤ h37.size := W.size ▸ zn
        have K := K.wr W (Or.inl (List.mem_of_getElem? (i := 0) rfl))
        have E_o := E_o.wr W
        have F_taken_o := F_taken_o.other W (Or.inr (slot_ne (Or.inl (wd11 hw)) (Or.inl (wd26 hw)) (by decide) (t := (.array .int)) (t' := .int) (by decide) (by decide)))
        have F_counts_o := F_counts_o.other W (Or.inr (slot_ne (Or.inl (wd13 hw)) (Or.inl (wd26 hw)) (by decide) (t := (.array .int)) (t' := .int) (by decide) (by decide)))
        have F_made_o := F_made_o.other W (Or.inr (slot_ne (Or.inl (wd24 hw)) (Or.inl (wd26 hw)) (by decide) (t := .int) (t' := .int) (by decide) (by decide)))
        have F_repeated_o := F_repeated_o.same W
        have V_TA := V_TA.other W (Ne.symm ne_o_TA)
        have V_NA := V_NA.other W (Ne.symm ne_o_NA)
        refine aloadN w X d4_55 56 rfl rfl rfl ?_
        refine iconst w X (0 : Int32) d4_56 57 rfl rfl ?_
        refine putfield w X (wd23 hw) Via.refl F_made_o E_o (Or.inl (wd24 hw)) (wd2 hw) (ty := .int) (by decide) rfl rfl g_o d4_57 60 rfl (fun T h38 X W => ?_)
        have zn : n0 ≤ h38.size := W.size ▸ zn
        have K := K.wr W (Or.inl (List.mem_of_getElem? (i := 0) rfl))
        have E_o := E_o.wr W
        have F_taken_o := F_taken_o.other W (Or.inr (slot_ne (Or.inl (wd11 hw)) (Or.inl (wd24 hw)) (by decide) (t := (.array .int)) (t' := .int) (by decide) (by decide)))
        have F_counts_o := F_counts_o.other W (Or.inr (slot_ne (Or.inl (wd13 hw)) (Or.inl (wd24 hw)) (by decide) (t := (.array .int)) (t' := .int) (by decide) (by decide)))
        have F_made_o := F_made_o.same W
        have F_repeated_o := F_repeated_o.other W (Or.inr (slot_ne (Or.inl (wd26 hw)) (Or.inl (wd24 hw)) (by decide) (t := .int) (t' := .int) (by decide) (by decide)))
        have V_TA := V_TA.other W (Ne.symm ne_o_TA)
        have V_NA := V_NA.other W (Ne.symm ne_o_NA)
        refine iloadN w X d4_60 61 rfl rfl ?_
        refine if_lt w X d4_61 68 64 (by decide) (by decide) rfl (fun hc61_39 => ?_) (fun q => absurd q (by decide))
        refine iconst w X (0 : Int32) d4_68 69 rfl rfl ?_
        refine retN w X (t := .boolean) rfl (by simp) d4_69 (by decide) (by decide) ?_
        exact ⟨_, rfl, (0 : Int32), t0, t1, lf4_6 t0 t1 c0 c1 hc8_19 hc25_20 hc8_27 hc25_28 hc8_35 hc35_36 hc61_39, K, E_o, F_taken_o, F_counts_o, F_made_o, F_repeated_o, V_TA, V_NA⟩
set_option maxRecDepth 65536 in
set_option maxHeartbeats 40000000 in
theorem lf5_1 (n : Int32) (x1 : Int32) (x2 : Int32) (hc6_1 : n < (1 : Int32)) (hc29_2 : ¬ (n < (2 : Int32))) (hc33_3 : ¬ ((1 : Int32) = 0)) (hc39_4 : ¬ (x2 = 0)) (H1 : n < 1 ∨ x1 = 0) (H2 : n < 2 ∨ x2 = 0) : False := by
  have := b32 n
  have := b32 x1
  have := b32 x2
  try simp only [Int32.lt_iff_toInt_lt, ← Int32.toInt_inj, Int32.reduceToInt, Int64.lt_iff_toInt_lt, ← Int64.toInt_inj, Int64.reduceToInt, true_and, and_true, true_or, or_true, false_or, or_false, false_and, and_false, not_true_eq_false, not_false_eq_true] at *
  omega
set_option maxRecDepth 65536 in
set_option maxHeartbeats 40000000 in
theorem lf5_2 (n : Int32) (x1 : Int32) (x2 : Int32) (hc6_1 : ¬ (n < (1 : Int32))) (hc10_5 : ¬ ((1 : Int32) = 0)) (hc16_6 : ¬ (x1 = 0)) (hc29_7 : n < (2 : Int32)) (H1 : n < 1 ∨ x1 = 0) (H2 : n < 2 ∨ x2 = 0) : False := by
  have := b32 n
  have := b32 x1
  have := b32 x2
  try simp only [Int32.lt_iff_toInt_lt, ← Int32.toInt_inj, Int32.reduceToInt, Int64.lt_iff_toInt_lt, ← Int64.toInt_inj, Int64.reduceToInt, true_and, and_true, true_or, or_true, false_or, or_false, false_and, and_false, not_true_eq_false, not_false_eq_true] at *
  omega
set_option maxRecDepth 65536 in
set_option maxHeartbeats 40000000 in
theorem lf5_3 (n : Int32) (x1 : Int32) (x2 : Int32) (hc6_1 : ¬ (n < (1 : Int32))) (hc10_5 : ¬ ((1 : Int32) = 0)) (hc16_6 : ¬ (x1 = 0)) (hc29_7 : ¬ (n < (2 : Int32))) (hc33_8 : (0 : Int32) = 0) (H1 : n < 1 ∨ x1 = 0) (H2 : n < 2 ∨ x2 = 0) : False := by
  have := b32 n
  have := b32 x1
  have := b32 x2
  try simp only [Int32.lt_iff_toInt_lt, ← Int32.toInt_inj, Int32.reduceToInt, Int64.lt_iff_toInt_lt, ← Int64.toInt_inj, Int64.reduceToInt, true_and, and_true, true_or, or_true, false_or, or_false, false_and, and_false, not_true_eq_false, not_false_eq_true] at *
  omega
set_option maxRecDepth 65536 in
set_option maxHeartbeats 40000000 in
theorem lf5_4 (n : Int32) (x1 : Int32) (x2 : Int32) (hc6_1 : ¬ (n < (1 : Int32))) (hc10_5 : ¬ ((1 : Int32) = 0)) (hc16_6 : x1 = 0) (hc29_9 : ¬ (n < (2 : Int32))) (hc33_10 : ¬ ((1 : Int32) = 0)) (hc39_11 : ¬ (x2 = 0)) (H1 : n < 1 ∨ x1 = 0) (H2 : n < 2 ∨ x2 = 0) : False := by
  have := b32 n
  have := b32 x1
  have := b32 x2
  try simp only [Int32.lt_iff_toInt_lt, ← Int32.toInt_inj, Int32.reduceToInt, Int64.lt_iff_toInt_lt, ← Int64.toInt_inj, Int64.reduceToInt, true_and, and_true, true_or, or_true, false_or, or_false, false_and, and_false, not_true_eq_false, not_false_eq_true] at *
  omega
theorem d5_0 : decode method_4_code 0 = .ok (.iconst 1, 1) := by decide +kernel
theorem d5_1 : decode method_4_code 1 = .ok (.istore_n 1, 1) := by decide +kernel
theorem d5_2 : decode method_4_code 2 = .ok (.aload_n 0, 1) := by decide +kernel
theorem d5_3 : decode method_4_code 3 = .ok (.iconst 0, 1) := by decide +kernel
theorem d5_4 : decode method_4_code 4 = .ok (.iaload, 1) := by decide +kernel
theorem d5_5 : decode method_4_code 5 = .ok (.iconst 1, 1) := by decide +kernel
theorem d5_6 : decode method_4_code 6 = .ok (.if_icmp .lt 19, 3) := by decide +kernel
theorem d5_9 : decode method_4_code 9 = .ok (.iload_n 1, 1) := by decide +kernel
theorem d5_10 : decode method_4_code 10 = .ok (.ifCond .eq 13, 3) := by decide +kernel
theorem d5_13 : decode method_4_code 13 = .ok (.aload_n 0, 1) := by decide +kernel
theorem d5_14 : decode method_4_code 14 = .ok (.iconst 1, 1) := by decide +kernel
theorem d5_15 : decode method_4_code 15 = .ok (.iaload, 1) := by decide +kernel
theorem d5_16 : decode method_4_code 16 = .ok (.ifCond .ne 7, 3) := by decide +kernel
theorem d5_19 : decode method_4_code 19 = .ok (.iconst 1, 1) := by decide +kernel
theorem d5_20 : decode method_4_code 20 = .ok (.goto 4, 3) := by decide +kernel
theorem d5_23 : decode method_4_code 23 = .ok (.iconst 0, 1) := by decide +kernel
theorem d5_24 : decode method_4_code 24 = .ok (.istore_n 1, 1) := by decide +kernel
theorem d5_25 : decode method_4_code 25 = .ok (.aload_n 0, 1) := by decide +kernel
theorem d5_26 : decode method_4_code 26 = .ok (.iconst 0, 1) := by decide +kernel
theorem d5_27 : decode method_4_code 27 = .ok (.iaload, 1) := by decide +kernel
theorem d5_28 : decode method_4_code 28 = .ok (.iconst 2, 1) := by decide +kernel
theorem d5_29 : decode method_4_code 29 = .ok (.if_icmp .lt 19, 3) := by decide +kernel
theorem d5_32 : decode method_4_code 32 = .ok (.iload_n 1, 1) := by decide +kernel
theorem d5_33 : decode method_4_code 33 = .ok (.ifCond .eq 13, 3) := by decide +kernel
theorem d5_36 : decode method_4_code 36 = .ok (.aload_n 0, 1) := by decide +kernel
theorem d5_37 : decode method_4_code 37 = .ok (.iconst 2, 1) := by decide +kernel
theorem d5_38 : decode method_4_code 38 = .ok (.iaload, 1) := by decide +kernel
theorem d5_39 : decode method_4_code 39 = .ok (.ifCond .ne 7, 3) := by decide +kernel
theorem d5_42 : decode method_4_code 42 = .ok (.iconst 1, 1) := by decide +kernel
theorem d5_43 : decode method_4_code 43 = .ok (.goto 4, 3) := by decide +kernel
theorem d5_46 : decode method_4_code 46 = .ok (.iconst 0, 1) := by decide +kernel
theorem d5_47 : decode method_4_code 47 = .ok (.istore_n 1, 1) := by decide +kernel
theorem d5_48 : decode method_4_code 48 = .ok (.iload_n 1, 1) := by decide +kernel
theorem d5_49 : decode method_4_code 49 = .ok (.ireturn, 1) := by decide +kernel
set_option maxRecDepth 65536 in
set_option maxHeartbeats 40000000 in
theorem rm_fw {l : Launch} {Z : State} {a0 : Array Value} (hw : ∀ d ∈ tables_1, d.before a0 Z = true) (A : Addr) (n x1 x2 k1 k2 : Int32) (h : Heap) (n0 : Nat) (zn : n0 ≤ h.size) (V_A : PA Z h A .int [n, x1, x2, k1, k2]) (H1 : n < 1 ∨ x1 = 0) (H2 : n < 2 ∨ x2 = 0) :
    Met l Z (⟨"com/example/vigilant_mailbox/vigilantmailbox/engine/ChoicesNextPinLaw", "firstWay", "([I)Z"⟩ : MethodName) method_4_code 2 (some .boolean) [] ({ frames := 0, cells := 0, slots := 0, locals := 0 } : Room) #[(.ref A)] h n0 (RI fun r h' => h' = h ∧ r = (1 : Int32)) := by
  refine start (ls := #[.val (.ref A), .unset]) (plainFor_of_name pn7) (fun m => by first | (simp [entryFrame, mkF, argsToLocals, Value.category]; done) | rfl) ?_
  intro p e s m below meth c T G w X
  refine iconst w X (1 : Int32) d5_0 1 rfl rfl ?_
  refine istoreN w X (1 : Int32) d5_1 2 rfl rfl #[.val (.ref A), .val (.int (1 : Int32))] rfl ?_
  refine aloadN w X d5_2 3 rfl rfl rfl ?_
  refine iconst w X (0 : Int32) d5_3 4 rfl rfl ?_
  refine iaload w X V_A (by decide) 0 rfl (Nat.le_of_ble_eq_true rfl) d5_4 5 rfl n rfl ?_
  refine iconst w X (1 : Int32) d5_5 6 rfl rfl ?_
  refine icmp_lt w X d5_6 25 9 (by decide) (by decide) rfl (fun hc6_1 => ?_) (fun hc6_1 => ?_)
  ·
    refine aloadN w X d5_25 26 rfl rfl rfl ?_
    refine iconst w X (0 : Int32) d5_26 27 rfl rfl ?_
    refine iaload w X V_A (by decide) 0 rfl (Nat.le_of_ble_eq_true rfl) d5_27 28 rfl n rfl ?_
    refine iconst w X (2 : Int32) d5_28 29 rfl rfl ?_
    refine icmp_lt w X d5_29 48 32 (by decide) (by decide) rfl (fun hc29_2 => ?_) (fun hc29_2 => ?_)
    ·
      refine iloadN w X d5_48 49 rfl rfl ?_
      refine retN w X (t := .boolean) rfl (by simp) d5_49 (by decide) (by decide) ?_
      exact ⟨(1 : Int32), rfl, rfl, rfl⟩
    ·
      refine iloadN w X d5_32 33 rfl rfl ?_
      refine if_eq w X d5_33 46 36 (by decide) (by decide) rfl (fun q => absurd q (by decide)) (fun hc33_3 => ?_)
      refine aloadN w X d5_36 37 rfl rfl rfl ?_
      refine iconst w X (2 : Int32) d5_37 38 rfl rfl ?_
      refine iaload w X V_A (by decide) 2 rfl (Nat.le_of_ble_eq_true rfl) d5_38 39 rfl x2 rfl ?_
      refine if_ne w X d5_39 46 42 (by decide) (by decide) rfl (fun hc39_4 => ?_) (fun hc39_4 => ?_)
      ·
        refine iconst w X (0 : Int32) d5_46 47 rfl rfl ?_
        refine istoreN w X (0 : Int32) d5_47 48 rfl rfl #[.val (.ref A), .val (.int (0 : Int32))] rfl ?_
        refine iloadN w X d5_48 49 rfl rfl ?_
        refine retN w X (t := .boolean) rfl (by simp) d5_49 (by decide) (by decide) ?_
        exact (lf5_1 n x1 x2 hc6_1 hc29_2 hc33_3 hc39_4 H1 H2).elim
      ·
        refine iconst w X (1 : Int32) d5_42 43 rfl rfl ?_
        refine goto w X d5_43 47 (by decide) (by decide) ?_
        refine istoreN w X (1 : Int32) d5_47 48 rfl rfl #[.val (.ref A), .val (.int (1 : Int32))] rfl ?_
        refine iloadN w X d5_48 49 rfl rfl ?_
        refine retN w X (t := .boolean) rfl (by simp) d5_49 (by decide) (by decide) ?_
        exact ⟨(1 : Int32), rfl, rfl, rfl⟩
  ·
    refine iloadN w X d5_9 10 rfl rfl ?_
    refine if_eq w X d5_10 23 13 (by decide) (by decide) rfl (fun q => absurd q (by decide)) (fun hc10_5 => ?_)
    refine aloadN w X d5_13 14 rfl rfl rfl ?_
    refine iconst w X (1 : Int32) d5_14 15 rfl rfl ?_
    refine iaload w X V_A (by decide) 1 rfl (Nat.le_of_ble_eq_true rfl) d5_15 16 rfl x1 rfl ?_
    refine if_ne w X d5_16 23 19 (by decide) (by decide) rfl (fun hc16_6 => ?_) (fun hc16_6 => ?_)
    ·
      refine iconst w X (0 : Int32) d5_23 24 rfl rfl ?_
      refine istoreN w X (0 : Int32) d5_24 25 rfl rfl #[.val (.ref A), .val (.int (0 : Int32))] rfl ?_
      refine aloadN w X d5_25 26 rfl rfl rfl ?_
      refine iconst w X (0 : Int32) d5_26 27 rfl rfl ?_
      refine iaload w X V_A (by decide) 0 rfl (Nat.le_of_ble_eq_true rfl) d5_27 28 rfl n rfl ?_
      refine iconst w X (2 : Int32) d5_28 29 rfl rfl ?_
      refine icmp_lt w X d5_29 48 32 (by decide) (by decide) rfl (fun hc29_7 => ?_) (fun hc29_7 => ?_)
      ·
        refine iloadN w X d5_48 49 rfl rfl ?_
        refine retN w X (t := .boolean) rfl (by simp) d5_49 (by decide) (by decide) ?_
        exact (lf5_2 n x1 x2 hc6_1 hc10_5 hc16_6 hc29_7 H1 H2).elim
      ·
        refine iloadN w X d5_32 33 rfl rfl ?_
        refine if_eq w X d5_33 46 36 (by decide) (by decide) rfl (fun hc33_8 => ?_) (fun q => absurd q (by decide))
        refine iconst w X (0 : Int32) d5_46 47 rfl rfl ?_
        refine istoreN w X (0 : Int32) d5_47 48 rfl rfl #[.val (.ref A), .val (.int (0 : Int32))] rfl ?_
        refine iloadN w X d5_48 49 rfl rfl ?_
        refine retN w X (t := .boolean) rfl (by simp) d5_49 (by decide) (by decide) ?_
        exact (lf5_3 n x1 x2 hc6_1 hc10_5 hc16_6 hc29_7 hc33_8 H1 H2).elim
    ·
      refine iconst w X (1 : Int32) d5_19 20 rfl rfl ?_
      refine goto w X d5_20 24 (by decide) (by decide) ?_
      refine istoreN w X (1 : Int32) d5_24 25 rfl rfl #[.val (.ref A), .val (.int (1 : Int32))] rfl ?_
      refine aloadN w X d5_25 26 rfl rfl rfl ?_
      refine iconst w X (0 : Int32) d5_26 27 rfl rfl ?_
      refine iaload w X V_A (by decide) 0 rfl (Nat.le_of_ble_eq_true rfl) d5_27 28 rfl n rfl ?_
      refine iconst w X (2 : Int32) d5_28 29 rfl rfl ?_
      refine icmp_lt w X d5_29 48 32 (by decide) (by decide) rfl (fun hc29_9 => ?_) (fun hc29_9 => ?_)
      ·
        refine iloadN w X d5_48 49 rfl rfl ?_
        refine retN w X (t := .boolean) rfl (by simp) d5_49 (by decide) (by decide) ?_
        exact ⟨(1 : Int32), rfl, rfl, rfl⟩
      ·
        refine iloadN w X d5_32 33 rfl rfl ?_
        refine if_eq w X d5_33 46 36 (by decide) (by decide) rfl (fun q => absurd q (by decide)) (fun hc33_10 => ?_)
        refine aloadN w X d5_36 37 rfl rfl rfl ?_
        refine iconst w X (2 : Int32) d5_37 38 rfl rfl ?_
        refine iaload w X V_A (by decide) 2 rfl (Nat.le_of_ble_eq_true rfl) d5_38 39 rfl x2 rfl ?_
        refine if_ne w X d5_39 46 42 (by decide) (by decide) rfl (fun hc39_11 => ?_) (fun hc39_11 => ?_)
        ·
          refine iconst w X (0 : Int32) d5_46 47 rfl rfl ?_
          refine istoreN w X (0 : Int32) d5_47 48 rfl rfl #[.val (.ref A), .val (.int (0 : Int32))] rfl ?_
          refine iloadN w X d5_48 49 rfl rfl ?_
          refine retN w X (t := .boolean) rfl (by simp) d5_49 (by decide) (by decide) ?_
          exact (lf5_4 n x1 x2 hc6_1 hc10_5 hc16_6 hc29_9 hc33_10 hc39_11 H1 H2).elim
        ·
          refine iconst w X (1 : Int32) d5_42 43 rfl rfl ?_
          refine goto w X d5_43 47 (by decide) (by decide) ?_
          refine istoreN w X (1 : Int32) d5_47 48 rfl rfl #[.val (.ref A), .val (.int (1 : Int32))] rfl ?_
          refine iloadN w X d5_48 49 rfl rfl ?_
          refine retN w X (t := .boolean) rfl (by simp) d5_49 (by decide) (by decide) ?_
          exact ⟨(1 : Int32), rfl, rfl, rfl⟩
set_option maxRecDepth 65536 in
set_option maxHeartbeats 40000000 in
theorem lf6_1 (n : Int32) (x1 : Int32) (x2 : Int32) (k1 : Int32) (k2 : Int32) (nn : Int32) (y1 : Int32) (y2 : Int32) (r : Int32) (hc6_1 : n < (1 : Int32)) (hc26_2 : n < (2 : Int32)) (hc44_3 : (-1 : Int32) < 0) (hc52_4 : ¬ (r = (0 : Int32))) (hc66_5 : nn < (1 : Int32)) (hc118_6 : nn < (2 : Int32)) (H :  ((n < 1 ∨ ¬ x1 < (k1 - 1)) ∧ (n < 2 ∨ ¬ x2 < (k2 - 1)) ∧ r = 0 ∧ (nn < 1 ∨ y1 = 0) ∧ (nn < 2 ∨ y2 = 0)) ∨ (¬ n < 1 ∧ x1 < (k1 - 1) ∧ (n < 2 ∨ ¬ x2 < (k2 - 1)) ∧ r = 1 ∧ (nn < 1 ∨ y1 = (x1 + 1)) ∧ (nn < 2 ∨ y2 = 0)) ∨ (¬ n < 2 ∧ x2 < (k2 - 1) ∧ r = 1 ∧ (nn < 1 ∨ y1 = x1) ∧ (nn < 2 ∨ y2 = (x2 + 1)))) : False := by
  have := b32 n
  have := b32 x1
  have := b32 x2
  have := b32 k1
  have := b32 k2
  have := b32 nn
  have := b32 y1
  have := b32 y2
  have := b32 r
  try simp only [Int32.lt_iff_toInt_lt, ← Int32.toInt_inj, Int32.reduceToInt, Int64.lt_iff_toInt_lt, ← Int64.toInt_inj, Int64.reduceToInt, true_and, and_true, true_or, or_true, false_or, or_false, false_and, and_false, not_true_eq_false, not_false_eq_true] at *
  omega
set_option maxRecDepth 65536 in
set_option maxHeartbeats 40000000 in
theorem lf6_2 (n : Int32) (x1 : Int32) (x2 : Int32) (k1 : Int32) (k2 : Int32) (nn : Int32) (y1 : Int32) (y2 : Int32) (r : Int32) (hc6_1 : n < (1 : Int32)) (hc26_2 : n < (2 : Int32)) (hc44_3 : (-1 : Int32) < 0) (hc52_4 : ¬ (r = (0 : Int32))) (hc66_5 : nn < (1 : Int32)) (hc118_6 : ¬ (nn < (2 : Int32))) (hc123_7 : ¬ ((-1 : Int32) = (1 : Int32))) (hc139_8 : (0 : Int32) = 0) (H :  ((n < 1 ∨ ¬ x1 < (k1 - 1)) ∧ (n < 2 ∨ ¬ x2 < (k2 - 1)) ∧ r = 0 ∧ (nn < 1 ∨ y1 = 0) ∧ (nn < 2 ∨ y2 = 0)) ∨ (¬ n < 1 ∧ x1 < (k1 - 1) ∧ (n < 2 ∨ ¬ x2 < (k2 - 1)) ∧ r = 1 ∧ (nn < 1 ∨ y1 = (x1 + 1)) ∧ (nn < 2 ∨ y2 = 0)) ∨ (¬ n < 2 ∧ x2 < (k2 - 1) ∧ r = 1 ∧ (nn < 1 ∨ y1 = x1) ∧ (nn < 2 ∨ y2 = (x2 + 1)))) : False := by
  have := b32 n
  have := b32 x1
  have := b32 x2
  have := b32 k1
  have := b32 k2
  have := b32 nn
  have := b32 y1
  have := b32 y2
  have := b32 r
  try simp only [Int32.lt_iff_toInt_lt, ← Int32.toInt_inj, Int32.reduceToInt, Int64.lt_iff_toInt_lt, ← Int64.toInt_inj, Int64.reduceToInt, true_and, and_true, true_or, or_true, false_or, or_false, false_and, and_false, not_true_eq_false, not_false_eq_true] at *
  omega
set_option maxRecDepth 65536 in
set_option maxHeartbeats 40000000 in
theorem lf6_3 (n : Int32) (x1 : Int32) (x2 : Int32) (k1 : Int32) (k2 : Int32) (nn : Int32) (y1 : Int32) (y2 : Int32) (r : Int32) (hc6_1 : n < (1 : Int32)) (hc26_2 : n < (2 : Int32)) (hc44_3 : (-1 : Int32) < 0) (hc52_4 : ¬ (r = (0 : Int32))) (hc66_5 : ¬ (nn < (1 : Int32))) (hc70_9 : ¬ ((0 : Int32) < (-1 : Int32))) (hc80_10 : ¬ ((-1 : Int32) = 0)) (hc96_11 : (0 : Int32) = 0) (hc118_12 : nn < (2 : Int32)) (H :  ((n < 1 ∨ ¬ x1 < (k1 - 1)) ∧ (n < 2 ∨ ¬ x2 < (k2 - 1)) ∧ r = 0 ∧ (nn < 1 ∨ y1 = 0) ∧ (nn < 2 ∨ y2 = 0)) ∨ (¬ n < 1 ∧ x1 < (k1 - 1) ∧ (n < 2 ∨ ¬ x2 < (k2 - 1)) ∧ r = 1 ∧ (nn < 1 ∨ y1 = (x1 + 1)) ∧ (nn < 2 ∨ y2 = 0)) ∨ (¬ n < 2 ∧ x2 < (k2 - 1) ∧ r = 1 ∧ (nn < 1 ∨ y1 = x1) ∧ (nn < 2 ∨ y2 = (x2 + 1)))) : False := by
  have := b32 n
  have := b32 x1
  have := b32 x2
  have := b32 k1
  have := b32 k2
  have := b32 nn
  have := b32 y1
  have := b32 y2
  have := b32 r
  try simp only [Int32.lt_iff_toInt_lt, ← Int32.toInt_inj, Int32.reduceToInt, Int64.lt_iff_toInt_lt, ← Int64.toInt_inj, Int64.reduceToInt, true_and, and_true, true_or, or_true, false_or, or_false, false_and, and_false, not_true_eq_false, not_false_eq_true] at *
  omega
set_option maxRecDepth 65536 in
set_option maxHeartbeats 40000000 in
theorem lf6_4 (n : Int32) (x1 : Int32) (x2 : Int32) (k1 : Int32) (k2 : Int32) (nn : Int32) (y1 : Int32) (y2 : Int32) (r : Int32) (hc6_1 : n < (1 : Int32)) (hc26_2 : n < (2 : Int32)) (hc44_3 : (-1 : Int32) < 0) (hc52_4 : ¬ (r = (0 : Int32))) (hc66_5 : ¬ (nn < (1 : Int32))) (hc70_9 : ¬ ((0 : Int32) < (-1 : Int32))) (hc80_10 : ¬ ((-1 : Int32) = 0)) (hc96_11 : (0 : Int32) = 0) (hc118_12 : ¬ (nn < (2 : Int32))) (hc123_13 : ¬ ((-1 : Int32) = (1 : Int32))) (hc139_14 : (0 : Int32) = 0) (H :  ((n < 1 ∨ ¬ x1 < (k1 - 1)) ∧ (n < 2 ∨ ¬ x2 < (k2 - 1)) ∧ r = 0 ∧ (nn < 1 ∨ y1 = 0) ∧ (nn < 2 ∨ y2 = 0)) ∨ (¬ n < 1 ∧ x1 < (k1 - 1) ∧ (n < 2 ∨ ¬ x2 < (k2 - 1)) ∧ r = 1 ∧ (nn < 1 ∨ y1 = (x1 + 1)) ∧ (nn < 2 ∨ y2 = 0)) ∨ (¬ n < 2 ∧ x2 < (k2 - 1) ∧ r = 1 ∧ (nn < 1 ∨ y1 = x1) ∧ (nn < 2 ∨ y2 = (x2 + 1)))) : False := by
  have := b32 n
  have := b32 x1
  have := b32 x2
  have := b32 k1
  have := b32 k2
  have := b32 nn
  have := b32 y1
  have := b32 y2
  have := b32 r
  try simp only [Int32.lt_iff_toInt_lt, ← Int32.toInt_inj, Int32.reduceToInt, Int64.lt_iff_toInt_lt, ← Int64.toInt_inj, Int64.reduceToInt, true_and, and_true, true_or, or_true, false_or, or_false, false_and, and_false, not_true_eq_false, not_false_eq_true] at *
  omega
set_option maxRecDepth 65536 in
set_option maxHeartbeats 40000000 in
theorem lf6_5 (n : Int32) (x1 : Int32) (x2 : Int32) (k1 : Int32) (k2 : Int32) (nn : Int32) (y1 : Int32) (y2 : Int32) (r : Int32) (hc6_1 : n < (1 : Int32)) (hc26_2 : n < (2 : Int32)) (hc44_3 : (-1 : Int32) < 0) (hc52_4 : r = (0 : Int32)) (hc66_15 : nn < (1 : Int32)) (hc118_16 : ¬ (nn < (2 : Int32))) (hc123_17 : ¬ ((-1 : Int32) = (1 : Int32))) (hc139_18 : ¬ ((1 : Int32) = 0)) (hc147_19 : ¬ (y2 = (0 : Int32))) (H :  ((n < 1 ∨ ¬ x1 < (k1 - 1)) ∧ (n < 2 ∨ ¬ x2 < (k2 - 1)) ∧ r = 0 ∧ (nn < 1 ∨ y1 = 0) ∧ (nn < 2 ∨ y2 = 0)) ∨ (¬ n < 1 ∧ x1 < (k1 - 1) ∧ (n < 2 ∨ ¬ x2 < (k2 - 1)) ∧ r = 1 ∧ (nn < 1 ∨ y1 = (x1 + 1)) ∧ (nn < 2 ∨ y2 = 0)) ∨ (¬ n < 2 ∧ x2 < (k2 - 1) ∧ r = 1 ∧ (nn < 1 ∨ y1 = x1) ∧ (nn < 2 ∨ y2 = (x2 + 1)))) : False := by
  have := b32 n
  have := b32 x1
  have := b32 x2
  have := b32 k1
  have := b32 k2
  have := b32 nn
  have := b32 y1
  have := b32 y2
  have := b32 r
  try simp only [Int32.lt_iff_toInt_lt, ← Int32.toInt_inj, Int32.reduceToInt, Int64.lt_iff_toInt_lt, ← Int64.toInt_inj, Int64.reduceToInt, true_and, and_true, true_or, or_true, false_or, or_false, false_and, and_false, not_true_eq_false, not_false_eq_true] at *
  omega
set_option maxRecDepth 65536 in
set_option maxHeartbeats 40000000 in
theorem lf6_6 (n : Int32) (x1 : Int32) (x2 : Int32) (k1 : Int32) (k2 : Int32) (nn : Int32) (y1 : Int32) (y2 : Int32) (r : Int32) (hc6_1 : n < (1 : Int32)) (hc26_2 : n < (2 : Int32)) (hc44_3 : (-1 : Int32) < 0) (hc52_4 : r = (0 : Int32)) (hc66_15 : ¬ (nn < (1 : Int32))) (hc70_20 : ¬ ((0 : Int32) < (-1 : Int32))) (hc80_21 : ¬ ((-1 : Int32) = 0)) (hc96_22 : ¬ ((1 : Int32) = 0)) (hc104_23 : ¬ (y1 = (0 : Int32))) (hc118_24 : nn < (2 : Int32)) (H :  ((n < 1 ∨ ¬ x1 < (k1 - 1)) ∧ (n < 2 ∨ ¬ x2 < (k2 - 1)) ∧ r = 0 ∧ (nn < 1 ∨ y1 = 0) ∧ (nn < 2 ∨ y2 = 0)) ∨ (¬ n < 1 ∧ x1 < (k1 - 1) ∧ (n < 2 ∨ ¬ x2 < (k2 - 1)) ∧ r = 1 ∧ (nn < 1 ∨ y1 = (x1 + 1)) ∧ (nn < 2 ∨ y2 = 0)) ∨ (¬ n < 2 ∧ x2 < (k2 - 1) ∧ r = 1 ∧ (nn < 1 ∨ y1 = x1) ∧ (nn < 2 ∨ y2 = (x2 + 1)))) : False := by
  have := b32 n
  have := b32 x1
  have := b32 x2
  have := b32 k1
  have := b32 k2
  have := b32 nn
  have := b32 y1
  have := b32 y2
  have := b32 r
  try simp only [Int32.lt_iff_toInt_lt, ← Int32.toInt_inj, Int32.reduceToInt, Int64.lt_iff_toInt_lt, ← Int64.toInt_inj, Int64.reduceToInt, true_and, and_true, true_or, or_true, false_or, or_false, false_and, and_false, not_true_eq_false, not_false_eq_true] at *
  omega
set_option maxRecDepth 65536 in
set_option maxHeartbeats 40000000 in
theorem lf6_7 (n : Int32) (x1 : Int32) (x2 : Int32) (k1 : Int32) (k2 : Int32) (nn : Int32) (y1 : Int32) (y2 : Int32) (r : Int32) (hc6_1 : n < (1 : Int32)) (hc26_2 : n < (2 : Int32)) (hc44_3 : (-1 : Int32) < 0) (hc52_4 : r = (0 : Int32)) (hc66_15 : ¬ (nn < (1 : Int32))) (hc70_20 : ¬ ((0 : Int32) < (-1 : Int32))) (hc80_21 : ¬ ((-1 : Int32) = 0)) (hc96_22 : ¬ ((1 : Int32) = 0)) (hc104_23 : ¬ (y1 = (0 : Int32))) (hc118_24 : ¬ (nn < (2 : Int32))) (hc123_25 : ¬ ((-1 : Int32) = (1 : Int32))) (hc139_26 : (0 : Int32) = 0) (H :  ((n < 1 ∨ ¬ x1 < (k1 - 1)) ∧ (n < 2 ∨ ¬ x2 < (k2 - 1)) ∧ r = 0 ∧ (nn < 1 ∨ y1 = 0) ∧ (nn < 2 ∨ y2 = 0)) ∨ (¬ n < 1 ∧ x1 < (k1 - 1) ∧ (n < 2 ∨ ¬ x2 < (k2 - 1)) ∧ r = 1 ∧ (nn < 1 ∨ y1 = (x1 + 1)) ∧ (nn < 2 ∨ y2 = 0)) ∨ (¬ n < 2 ∧ x2 < (k2 - 1) ∧ r = 1 ∧ (nn < 1 ∨ y1 = x1) ∧ (nn < 2 ∨ y2 = (x2 + 1)))) : False := by
  have := b32 n
  have := b32 x1
  have := b32 x2
  have := b32 k1
  have := b32 k2
  have := b32 nn
  have := b32 y1
  have := b32 y2
  have := b32 r
  try simp only [Int32.lt_iff_toInt_lt, ← Int32.toInt_inj, Int32.reduceToInt, Int64.lt_iff_toInt_lt, ← Int64.toInt_inj, Int64.reduceToInt, true_and, and_true, true_or, or_true, false_or, or_false, false_and, and_false, not_true_eq_false, not_false_eq_true] at *
  omega
set_option maxRecDepth 65536 in
set_option maxHeartbeats 40000000 in
theorem lf6_8 (n : Int32) (x1 : Int32) (x2 : Int32) (k1 : Int32) (k2 : Int32) (nn : Int32) (y1 : Int32) (y2 : Int32) (r : Int32) (hc6_1 : n < (1 : Int32)) (hc26_2 : n < (2 : Int32)) (hc44_3 : (-1 : Int32) < 0) (hc52_4 : r = (0 : Int32)) (hc66_15 : ¬ (nn < (1 : Int32))) (hc70_20 : ¬ ((0 : Int32) < (-1 : Int32))) (hc80_21 : ¬ ((-1 : Int32) = 0)) (hc96_22 : ¬ ((1 : Int32) = 0)) (hc104_23 : y1 = (0 : Int32)) (hc118_27 : ¬ (nn < (2 : Int32))) (hc123_28 : ¬ ((-1 : Int32) = (1 : Int32))) (hc139_29 : ¬ ((1 : Int32) = 0)) (hc147_30 : ¬ (y2 = (0 : Int32))) (H :  ((n < 1 ∨ ¬ x1 < (k1 - 1)) ∧ (n < 2 ∨ ¬ x2 < (k2 - 1)) ∧ r = 0 ∧ (nn < 1 ∨ y1 = 0) ∧ (nn < 2 ∨ y2 = 0)) ∨ (¬ n < 1 ∧ x1 < (k1 - 1) ∧ (n < 2 ∨ ¬ x2 < (k2 - 1)) ∧ r = 1 ∧ (nn < 1 ∨ y1 = (x1 + 1)) ∧ (nn < 2 ∨ y2 = 0)) ∨ (¬ n < 2 ∧ x2 < (k2 - 1) ∧ r = 1 ∧ (nn < 1 ∨ y1 = x1) ∧ (nn < 2 ∨ y2 = (x2 + 1)))) : False := by
  have := b32 n
  have := b32 x1
  have := b32 x2
  have := b32 k1
  have := b32 k2
  have := b32 nn
  have := b32 y1
  have := b32 y2
  have := b32 r
  try simp only [Int32.lt_iff_toInt_lt, ← Int32.toInt_inj, Int32.reduceToInt, Int64.lt_iff_toInt_lt, ← Int64.toInt_inj, Int64.reduceToInt, true_and, and_true, true_or, or_true, false_or, or_false, false_and, and_false, not_true_eq_false, not_false_eq_true] at *
  omega
set_option maxRecDepth 65536 in
set_option maxHeartbeats 40000000 in
theorem lf6_9 (n : Int32) (x1 : Int32) (x2 : Int32) (k1 : Int32) (k2 : Int32) (nn : Int32) (y1 : Int32) (y2 : Int32) (r : Int32) (hc6_1 : n < (1 : Int32)) (hc26_2 : ¬ (n < (2 : Int32))) (hc37_31 : ¬ (x2 < (k2 - (1 : Int32)))) (hc44_32 : (-1 : Int32) < 0) (hc52_33 : ¬ (r = (0 : Int32))) (hc66_34 : nn < (1 : Int32)) (hc118_35 : nn < (2 : Int32)) (H :  ((n < 1 ∨ ¬ x1 < (k1 - 1)) ∧ (n < 2 ∨ ¬ x2 < (k2 - 1)) ∧ r = 0 ∧ (nn < 1 ∨ y1 = 0) ∧ (nn < 2 ∨ y2 = 0)) ∨ (¬ n < 1 ∧ x1 < (k1 - 1) ∧ (n < 2 ∨ ¬ x2 < (k2 - 1)) ∧ r = 1 ∧ (nn < 1 ∨ y1 = (x1 + 1)) ∧ (nn < 2 ∨ y2 = 0)) ∨ (¬ n < 2 ∧ x2 < (k2 - 1) ∧ r = 1 ∧ (nn < 1 ∨ y1 = x1) ∧ (nn < 2 ∨ y2 = (x2 + 1)))) : False := by
  have := b32 n
  have := b32 x1
  have := b32 x2
  have := b32 k1
  have := b32 k2
  have := b32 nn
  have := b32 y1
  have := b32 y2
  have := b32 r
  have := c_isub k2 (1 : Int32)
  have := b32 (k2 - (1 : Int32))
  try simp only [Int32.lt_iff_toInt_lt, ← Int32.toInt_inj, Int32.reduceToInt, Int64.lt_iff_toInt_lt, ← Int64.toInt_inj, Int64.reduceToInt, true_and, and_true, true_or, or_true, false_or, or_false, false_and, and_false, not_true_eq_false, not_false_eq_true] at *
  omega
set_option maxRecDepth 65536 in
set_option maxHeartbeats 40000000 in
theorem lf6_10 (n : Int32) (x1 : Int32) (x2 : Int32) (k1 : Int32) (k2 : Int32) (nn : Int32) (y1 : Int32) (y2 : Int32) (r : Int32) (hc6_1 : n < (1 : Int32)) (hc26_2 : ¬ (n < (2 : Int32))) (hc37_31 : ¬ (x2 < (k2 - (1 : Int32)))) (hc44_32 : (-1 : Int32) < 0) (hc52_33 : ¬ (r = (0 : Int32))) (hc66_34 : nn < (1 : Int32)) (hc118_35 : ¬ (nn < (2 : Int32))) (hc123_36 : ¬ ((-1 : Int32) = (1 : Int32))) (hc139_37 : (0 : Int32) = 0) (H :  ((n < 1 ∨ ¬ x1 < (k1 - 1)) ∧ (n < 2 ∨ ¬ x2 < (k2 - 1)) ∧ r = 0 ∧ (nn < 1 ∨ y1 = 0) ∧ (nn < 2 ∨ y2 = 0)) ∨ (¬ n < 1 ∧ x1 < (k1 - 1) ∧ (n < 2 ∨ ¬ x2 < (k2 - 1)) ∧ r = 1 ∧ (nn < 1 ∨ y1 = (x1 + 1)) ∧ (nn < 2 ∨ y2 = 0)) ∨ (¬ n < 2 ∧ x2 < (k2 - 1) ∧ r = 1 ∧ (nn < 1 ∨ y1 = x1) ∧ (nn < 2 ∨ y2 = (x2 + 1)))) : False := by
  have := b32 n
  have := b32 x1
  have := b32 x2
  have := b32 k1
  have := b32 k2
  have := b32 nn
  have := b32 y1
  have := b32 y2
  have := b32 r
  have := c_isub k2 (1 : Int32)
  have := b32 (k2 - (1 : Int32))
  try simp only [Int32.lt_iff_toInt_lt, ← Int32.toInt_inj, Int32.reduceToInt, Int64.lt_iff_toInt_lt, ← Int64.toInt_inj, Int64.reduceToInt, true_and, and_true, true_or, or_true, false_or, or_false, false_and, and_false, not_true_eq_false, not_false_eq_true] at *
  omega
set_option maxRecDepth 65536 in
set_option maxHeartbeats 40000000 in
theorem lf6_11 (n : Int32) (x1 : Int32) (x2 : Int32) (k1 : Int32) (k2 : Int32) (nn : Int32) (y1 : Int32) (y2 : Int32) (r : Int32) (hc6_1 : n < (1 : Int32)) (hc26_2 : ¬ (n < (2 : Int32))) (hc37_31 : ¬ (x2 < (k2 - (1 : Int32)))) (hc44_32 : (-1 : Int32) < 0) (hc52_33 : ¬ (r = (0 : Int32))) (hc66_34 : ¬ (nn < (1 : Int32))) (hc70_38 : ¬ ((0 : Int32) < (-1 : Int32))) (hc80_39 : ¬ ((-1 : Int32) = 0)) (hc96_40 : (0 : Int32) = 0) (hc118_41 : nn < (2 : Int32)) (H :  ((n < 1 ∨ ¬ x1 < (k1 - 1)) ∧ (n < 2 ∨ ¬ x2 < (k2 - 1)) ∧ r = 0 ∧ (nn < 1 ∨ y1 = 0) ∧ (nn < 2 ∨ y2 = 0)) ∨ (¬ n < 1 ∧ x1 < (k1 - 1) ∧ (n < 2 ∨ ¬ x2 < (k2 - 1)) ∧ r = 1 ∧ (nn < 1 ∨ y1 = (x1 + 1)) ∧ (nn < 2 ∨ y2 = 0)) ∨ (¬ n < 2 ∧ x2 < (k2 - 1) ∧ r = 1 ∧ (nn < 1 ∨ y1 = x1) ∧ (nn < 2 ∨ y2 = (x2 + 1)))) : False := by
  have := b32 n
  have := b32 x1
  have := b32 x2
  have := b32 k1
  have := b32 k2
  have := b32 nn
  have := b32 y1
  have := b32 y2
  have := b32 r
  have := c_isub k2 (1 : Int32)
  have := b32 (k2 - (1 : Int32))
  try simp only [Int32.lt_iff_toInt_lt, ← Int32.toInt_inj, Int32.reduceToInt, Int64.lt_iff_toInt_lt, ← Int64.toInt_inj, Int64.reduceToInt, true_and, and_true, true_or, or_true, false_or, or_false, false_and, and_false, not_true_eq_false, not_false_eq_true] at *
  omega
set_option maxRecDepth 65536 in
set_option maxHeartbeats 40000000 in
theorem lf6_12 (n : Int32) (x1 : Int32) (x2 : Int32) (k1 : Int32) (k2 : Int32) (nn : Int32) (y1 : Int32) (y2 : Int32) (r : Int32) (hc6_1 : n < (1 : Int32)) (hc26_2 : ¬ (n < (2 : Int32))) (hc37_31 : ¬ (x2 < (k2 - (1 : Int32)))) (hc44_32 : (-1 : Int32) < 0) (hc52_33 : ¬ (r = (0 : Int32))) (hc66_34 : ¬ (nn < (1 : Int32))) (hc70_38 : ¬ ((0 : Int32) < (-1 : Int32))) (hc80_39 : ¬ ((-1 : Int32) = 0)) (hc96_40 : (0 : Int32) = 0) (hc118_41 : ¬ (nn < (2 : Int32))) (hc123_42 : ¬ ((-1 : Int32) = (1 : Int32))) (hc139_43 : (0 : Int32) = 0) (H :  ((n < 1 ∨ ¬ x1 < (k1 - 1)) ∧ (n < 2 ∨ ¬ x2 < (k2 - 1)) ∧ r = 0 ∧ (nn < 1 ∨ y1 = 0) ∧ (nn < 2 ∨ y2 = 0)) ∨ (¬ n < 1 ∧ x1 < (k1 - 1) ∧ (n < 2 ∨ ¬ x2 < (k2 - 1)) ∧ r = 1 ∧ (nn < 1 ∨ y1 = (x1 + 1)) ∧ (nn < 2 ∨ y2 = 0)) ∨ (¬ n < 2 ∧ x2 < (k2 - 1) ∧ r = 1 ∧ (nn < 1 ∨ y1 = x1) ∧ (nn < 2 ∨ y2 = (x2 + 1)))) : False := by
  have := b32 n
  have := b32 x1
  have := b32 x2
  have := b32 k1
  have := b32 k2
  have := b32 nn
  have := b32 y1
  have := b32 y2
  have := b32 r
  have := c_isub k2 (1 : Int32)
  have := b32 (k2 - (1 : Int32))
  try simp only [Int32.lt_iff_toInt_lt, ← Int32.toInt_inj, Int32.reduceToInt, Int64.lt_iff_toInt_lt, ← Int64.toInt_inj, Int64.reduceToInt, true_and, and_true, true_or, or_true, false_or, or_false, false_and, and_false, not_true_eq_false, not_false_eq_true] at *
  omega
set_option maxRecDepth 65536 in
set_option maxHeartbeats 40000000 in
theorem lf6_13 (n : Int32) (x1 : Int32) (x2 : Int32) (k1 : Int32) (k2 : Int32) (nn : Int32) (y1 : Int32) (y2 : Int32) (r : Int32) (hc6_1 : n < (1 : Int32)) (hc26_2 : ¬ (n < (2 : Int32))) (hc37_31 : ¬ (x2 < (k2 - (1 : Int32)))) (hc44_32 : (-1 : Int32) < 0) (hc52_33 : r = (0 : Int32)) (hc66_44 : nn < (1 : Int32)) (hc118_45 : ¬ (nn < (2 : Int32))) (hc123_46 : ¬ ((-1 : Int32) = (1 : Int32))) (hc139_47 : ¬ ((1 : Int32) = 0)) (hc147_48 : ¬ (y2 = (0 : Int32))) (H :  ((n < 1 ∨ ¬ x1 < (k1 - 1)) ∧ (n < 2 ∨ ¬ x2 < (k2 - 1)) ∧ r = 0 ∧ (nn < 1 ∨ y1 = 0) ∧ (nn < 2 ∨ y2 = 0)) ∨ (¬ n < 1 ∧ x1 < (k1 - 1) ∧ (n < 2 ∨ ¬ x2 < (k2 - 1)) ∧ r = 1 ∧ (nn < 1 ∨ y1 = (x1 + 1)) ∧ (nn < 2 ∨ y2 = 0)) ∨ (¬ n < 2 ∧ x2 < (k2 - 1) ∧ r = 1 ∧ (nn < 1 ∨ y1 = x1) ∧ (nn < 2 ∨ y2 = (x2 + 1)))) : False := by
  have := b32 n
  have := b32 x1
  have := b32 x2
  have := b32 k1
  have := b32 k2
  have := b32 nn
  have := b32 y1
  have := b32 y2
  have := b32 r
  have := c_isub k2 (1 : Int32)
  have := b32 (k2 - (1 : Int32))
  try simp only [Int32.lt_iff_toInt_lt, ← Int32.toInt_inj, Int32.reduceToInt, Int64.lt_iff_toInt_lt, ← Int64.toInt_inj, Int64.reduceToInt, true_and, and_true, true_or, or_true, false_or, or_false, false_and, and_false, not_true_eq_false, not_false_eq_true] at *
  omega
set_option maxRecDepth 65536 in
set_option maxHeartbeats 40000000 in
theorem lf6_14 (n : Int32) (x1 : Int32) (x2 : Int32) (k1 : Int32) (k2 : Int32) (nn : Int32) (y1 : Int32) (y2 : Int32) (r : Int32) (hc6_1 : n < (1 : Int32)) (hc26_2 : ¬ (n < (2 : Int32))) (hc37_31 : ¬ (x2 < (k2 - (1 : Int32)))) (hc44_32 : (-1 : Int32) < 0) (hc52_33 : r = (0 : Int32)) (hc66_44 : ¬ (nn < (1 : Int32))) (hc70_49 : ¬ ((0 : Int32) < (-1 : Int32))) (hc80_50 : ¬ ((-1 : Int32) = 0)) (hc96_51 : ¬ ((1 : Int32) = 0)) (hc104_52 : ¬ (y1 = (0 : Int32))) (hc118_53 : nn < (2 : Int32)) (H :  ((n < 1 ∨ ¬ x1 < (k1 - 1)) ∧ (n < 2 ∨ ¬ x2 < (k2 - 1)) ∧ r = 0 ∧ (nn < 1 ∨ y1 = 0) ∧ (nn < 2 ∨ y2 = 0)) ∨ (¬ n < 1 ∧ x1 < (k1 - 1) ∧ (n < 2 ∨ ¬ x2 < (k2 - 1)) ∧ r = 1 ∧ (nn < 1 ∨ y1 = (x1 + 1)) ∧ (nn < 2 ∨ y2 = 0)) ∨ (¬ n < 2 ∧ x2 < (k2 - 1) ∧ r = 1 ∧ (nn < 1 ∨ y1 = x1) ∧ (nn < 2 ∨ y2 = (x2 + 1)))) : False := by
  have := b32 n
  have := b32 x1
  have := b32 x2
  have := b32 k1
  have := b32 k2
  have := b32 nn
  have := b32 y1
  have := b32 y2
  have := b32 r
  have := c_isub k2 (1 : Int32)
  have := b32 (k2 - (1 : Int32))
  try simp only [Int32.lt_iff_toInt_lt, ← Int32.toInt_inj, Int32.reduceToInt, Int64.lt_iff_toInt_lt, ← Int64.toInt_inj, Int64.reduceToInt, true_and, and_true, true_or, or_true, false_or, or_false, false_and, and_false, not_true_eq_false, not_false_eq_true] at *
  omega
set_option maxRecDepth 65536 in
set_option maxHeartbeats 40000000 in
theorem lf6_15 (n : Int32) (x1 : Int32) (x2 : Int32) (k1 : Int32) (k2 : Int32) (nn : Int32) (y1 : Int32) (y2 : Int32) (r : Int32) (hc6_1 : n < (1 : Int32)) (hc26_2 : ¬ (n < (2 : Int32))) (hc37_31 : ¬ (x2 < (k2 - (1 : Int32)))) (hc44_32 : (-1 : Int32) < 0) (hc52_33 : r = (0 : Int32)) (hc66_44 : ¬ (nn < (1 : Int32))) (hc70_49 : ¬ ((0 : Int32) < (-1 : Int32))) (hc80_50 : ¬ ((-1 : Int32) = 0)) (hc96_51 : ¬ ((1 : Int32) = 0)) (hc104_52 : ¬ (y1 = (0 : Int32))) (hc118_53 : ¬ (nn < (2 : Int32))) (hc123_54 : ¬ ((-1 : Int32) = (1 : Int32))) (hc139_55 : (0 : Int32) = 0) (H :  ((n < 1 ∨ ¬ x1 < (k1 - 1)) ∧ (n < 2 ∨ ¬ x2 < (k2 - 1)) ∧ r = 0 ∧ (nn < 1 ∨ y1 = 0) ∧ (nn < 2 ∨ y2 = 0)) ∨ (¬ n < 1 ∧ x1 < (k1 - 1) ∧ (n < 2 ∨ ¬ x2 < (k2 - 1)) ∧ r = 1 ∧ (nn < 1 ∨ y1 = (x1 + 1)) ∧ (nn < 2 ∨ y2 = 0)) ∨ (¬ n < 2 ∧ x2 < (k2 - 1) ∧ r = 1 ∧ (nn < 1 ∨ y1 = x1) ∧ (nn < 2 ∨ y2 = (x2 + 1)))) : False := by
  have := b32 n
  have := b32 x1
  have := b32 x2
  have := b32 k1
  have := b32 k2
  have := b32 nn
  have := b32 y1
  have := b32 y2
  have := b32 r
  have := c_isub k2 (1 : Int32)
  have := b32 (k2 - (1 : Int32))
  try simp only [Int32.lt_iff_toInt_lt, ← Int32.toInt_inj, Int32.reduceToInt, Int64.lt_iff_toInt_lt, ← Int64.toInt_inj, Int64.reduceToInt, true_and, and_true, true_or, or_true, false_or, or_false, false_and, and_false, not_true_eq_false, not_false_eq_true] at *
  omega
set_option maxRecDepth 65536 in
set_option maxHeartbeats 40000000 in
theorem lf6_16 (n : Int32) (x1 : Int32) (x2 : Int32) (k1 : Int32) (k2 : Int32) (nn : Int32) (y1 : Int32) (y2 : Int32) (r : Int32) (hc6_1 : n < (1 : Int32)) (hc26_2 : ¬ (n < (2 : Int32))) (hc37_31 : ¬ (x2 < (k2 - (1 : Int32)))) (hc44_32 : (-1 : Int32) < 0) (hc52_33 : r = (0 : Int32)) (hc66_44 : ¬ (nn < (1 : Int32))) (hc70_49 : ¬ ((0 : Int32) < (-1 : Int32))) (hc80_50 : ¬ ((-1 : Int32) = 0)) (hc96_51 : ¬ ((1 : Int32) = 0)) (hc104_52 : y1 = (0 : Int32)) (hc118_56 : ¬ (nn < (2 : Int32))) (hc123_57 : ¬ ((-1 : Int32) = (1 : Int32))) (hc139_58 : ¬ ((1 : Int32) = 0)) (hc147_59 : ¬ (y2 = (0 : Int32))) (H :  ((n < 1 ∨ ¬ x1 < (k1 - 1)) ∧ (n < 2 ∨ ¬ x2 < (k2 - 1)) ∧ r = 0 ∧ (nn < 1 ∨ y1 = 0) ∧ (nn < 2 ∨ y2 = 0)) ∨ (¬ n < 1 ∧ x1 < (k1 - 1) ∧ (n < 2 ∨ ¬ x2 < (k2 - 1)) ∧ r = 1 ∧ (nn < 1 ∨ y1 = (x1 + 1)) ∧ (nn < 2 ∨ y2 = 0)) ∨ (¬ n < 2 ∧ x2 < (k2 - 1) ∧ r = 1 ∧ (nn < 1 ∨ y1 = x1) ∧ (nn < 2 ∨ y2 = (x2 + 1)))) : False := by
  have := b32 n
  have := b32 x1
  have := b32 x2
  have := b32 k1
  have := b32 k2
  have := b32 nn
  have := b32 y1
  have := b32 y2
  have := b32 r
  have := c_isub k2 (1 : Int32)
  have := b32 (k2 - (1 : Int32))
  try simp only [Int32.lt_iff_toInt_lt, ← Int32.toInt_inj, Int32.reduceToInt, Int64.lt_iff_toInt_lt, ← Int64.toInt_inj, Int64.reduceToInt, true_and, and_true, true_or, or_true, false_or, or_false, false_and, and_false, not_true_eq_false, not_false_eq_true] at *
  omega
set_option maxRecDepth 65536 in
set_option maxHeartbeats 40000000 in
theorem lf6_17 (n : Int32) (x1 : Int32) (x2 : Int32) (k1 : Int32) (k2 : Int32) (nn : Int32) (y1 : Int32) (y2 : Int32) (r : Int32) (hc6_1 : n < (1 : Int32)) (hc26_2 : ¬ (n < (2 : Int32))) (hc37_31 : x2 < (k2 - (1 : Int32))) (hc44_60 : ¬ ((1 : Int32) < 0)) (hc52_61 : ¬ (r = (1 : Int32))) (hc66_62 : nn < (1 : Int32)) (hc118_63 : nn < (2 : Int32)) (H :  ((n < 1 ∨ ¬ x1 < (k1 - 1)) ∧ (n < 2 ∨ ¬ x2 < (k2 - 1)) ∧ r = 0 ∧ (nn < 1 ∨ y1 = 0) ∧ (nn < 2 ∨ y2 = 0)) ∨ (¬ n < 1 ∧ x1 < (k1 - 1) ∧ (n < 2 ∨ ¬ x2 < (k2 - 1)) ∧ r = 1 ∧ (nn < 1 ∨ y1 = (x1 + 1)) ∧ (nn < 2 ∨ y2 = 0)) ∨ (¬ n < 2 ∧ x2 < (k2 - 1) ∧ r = 1 ∧ (nn < 1 ∨ y1 = x1) ∧ (nn < 2 ∨ y2 = (x2 + 1)))) : False := by
  have := b32 n
  have := b32 x1
  have := b32 x2
  have := b32 k1
  have := b32 k2
  have := b32 nn
  have := b32 y1
  have := b32 y2
  have := b32 r
  have := c_isub k2 (1 : Int32)
  have := b32 (k2 - (1 : Int32))
  try simp only [Int32.lt_iff_toInt_lt, ← Int32.toInt_inj, Int32.reduceToInt, Int64.lt_iff_toInt_lt, ← Int64.toInt_inj, Int64.reduceToInt, true_and, and_true, true_or, or_true, false_or, or_false, false_and, and_false, not_true_eq_false, not_false_eq_true] at *
  omega
set_option maxRecDepth 65536 in
set_option maxHeartbeats 40000000 in
theorem lf6_18 (n : Int32) (x1 : Int32) (x2 : Int32) (k1 : Int32) (k2 : Int32) (nn : Int32) (y1 : Int32) (y2 : Int32) (r : Int32) (i5_65 : Int32) (hc6_1 : n < (1 : Int32)) (hc26_2 : ¬ (n < (2 : Int32))) (hc37_31 : x2 < (k2 - (1 : Int32))) (hc44_60 : ¬ ((1 : Int32) < 0)) (hc52_61 : ¬ (r = (1 : Int32))) (hc66_62 : nn < (1 : Int32)) (hc118_63 : ¬ (nn < (2 : Int32))) (hc123_64 : (1 : Int32) = (1 : Int32)) (hi5_65 : i5_65 = (x2 + (1 : Int32))) (hc139_66 : (0 : Int32) = 0) (H :  ((n < 1 ∨ ¬ x1 < (k1 - 1)) ∧ (n < 2 ∨ ¬ x2 < (k2 - 1)) ∧ r = 0 ∧ (nn < 1 ∨ y1 = 0) ∧ (nn < 2 ∨ y2 = 0)) ∨ (¬ n < 1 ∧ x1 < (k1 - 1) ∧ (n < 2 ∨ ¬ x2 < (k2 - 1)) ∧ r = 1 ∧ (nn < 1 ∨ y1 = (x1 + 1)) ∧ (nn < 2 ∨ y2 = 0)) ∨ (¬ n < 2 ∧ x2 < (k2 - 1) ∧ r = 1 ∧ (nn < 1 ∨ y1 = x1) ∧ (nn < 2 ∨ y2 = (x2 + 1)))) : False := by
  have := b32 n
  have := b32 x1
  have := b32 x2
  have := b32 k1
  have := b32 k2
  have := b32 nn
  have := b32 y1
  have := b32 y2
  have := b32 r
  have := b32 i5_65
  have := c_isub k2 (1 : Int32)
  have := b32 (k2 - (1 : Int32))
  have := c_iadd x2 (1 : Int32)
  have := b32 (x2 + (1 : Int32))
  try simp only [Int32.lt_iff_toInt_lt, ← Int32.toInt_inj, Int32.reduceToInt, Int64.lt_iff_toInt_lt, ← Int64.toInt_inj, Int64.reduceToInt, true_and, and_true, true_or, or_true, false_or, or_false, false_and, and_false, not_true_eq_false, not_false_eq_true] at *
  omega
set_option maxRecDepth 65536 in
set_option maxHeartbeats 40000000 in
theorem lf6_19 (n : Int32) (x1 : Int32) (x2 : Int32) (k1 : Int32) (k2 : Int32) (nn : Int32) (y1 : Int32) (y2 : Int32) (r : Int32) (hc6_1 : n < (1 : Int32)) (hc26_2 : ¬ (n < (2 : Int32))) (hc37_31 : x2 < (k2 - (1 : Int32))) (hc44_60 : ¬ ((1 : Int32) < 0)) (hc52_61 : ¬ (r = (1 : Int32))) (hc66_62 : ¬ (nn < (1 : Int32))) (hc70_67 : (0 : Int32) < (1 : Int32)) (hc96_68 : (0 : Int32) = 0) (hc118_69 : nn < (2 : Int32)) (H :  ((n < 1 ∨ ¬ x1 < (k1 - 1)) ∧ (n < 2 ∨ ¬ x2 < (k2 - 1)) ∧ r = 0 ∧ (nn < 1 ∨ y1 = 0) ∧ (nn < 2 ∨ y2 = 0)) ∨ (¬ n < 1 ∧ x1 < (k1 - 1) ∧ (n < 2 ∨ ¬ x2 < (k2 - 1)) ∧ r = 1 ∧ (nn < 1 ∨ y1 = (x1 + 1)) ∧ (nn < 2 ∨ y2 = 0)) ∨ (¬ n < 2 ∧ x2 < (k2 - 1) ∧ r = 1 ∧ (nn < 1 ∨ y1 = x1) ∧ (nn < 2 ∨ y2 = (x2 + 1)))) : False := by
  have := b32 n
  have := b32 x1
  have := b32 x2
  have := b32 k1
  have := b32 k2
  have := b32 nn
  have := b32 y1
  have := b32 y2
  have := b32 r
  have := c_isub k2 (1 : Int32)
  have := b32 (k2 - (1 : Int32))
  try simp only [Int32.lt_iff_toInt_lt, ← Int32.toInt_inj, Int32.reduceToInt, Int64.lt_iff_toInt_lt, ← Int64.toInt_inj, Int64.reduceToInt, true_and, and_true, true_or, or_true, false_or, or_false, false_and, and_false, not_true_eq_false, not_false_eq_true] at *
  omega
set_option maxRecDepth 65536 in
set_option maxHeartbeats 40000000 in
theorem lf6_20 (n : Int32) (x1 : Int32) (x2 : Int32) (k1 : Int32) (k2 : Int32) (nn : Int32) (y1 : Int32) (y2 : Int32) (r : Int32) (i5_71 : Int32) (hc6_1 : n < (1 : Int32)) (hc26_2 : ¬ (n < (2 : Int32))) (hc37_31 : x2 < (k2 - (1 : Int32))) (hc44_60 : ¬ ((1 : Int32) < 0)) (hc52_61 : ¬ (r = (1 : Int32))) (hc66_62 : ¬ (nn < (1 : Int32))) (hc70_67 : (0 : Int32) < (1 : Int32)) (hc96_68 : (0 : Int32) = 0) (hc118_69 : ¬ (nn < (2 : Int32))) (hc123_70 : (1 : Int32) = (1 : Int32)) (hi5_71 : i5_71 = (x2 + (1 : Int32))) (hc139_72 : (0 : Int32) = 0) (H :  ((n < 1 ∨ ¬ x1 < (k1 - 1)) ∧ (n < 2 ∨ ¬ x2 < (k2 - 1)) ∧ r = 0 ∧ (nn < 1 ∨ y1 = 0) ∧ (nn < 2 ∨ y2 = 0)) ∨ (¬ n < 1 ∧ x1 < (k1 - 1) ∧ (n < 2 ∨ ¬ x2 < (k2 - 1)) ∧ r = 1 ∧ (nn < 1 ∨ y1 = (x1 + 1)) ∧ (nn < 2 ∨ y2 = 0)) ∨ (¬ n < 2 ∧ x2 < (k2 - 1) ∧ r = 1 ∧ (nn < 1 ∨ y1 = x1) ∧ (nn < 2 ∨ y2 = (x2 + 1)))) : False := by
  have := b32 n
  have := b32 x1
  have := b32 x2
  have := b32 k1
  have := b32 k2
  have := b32 nn
  have := b32 y1
  have := b32 y2
  have := b32 r
  have := b32 i5_71
  have := c_isub k2 (1 : Int32)
  have := b32 (k2 - (1 : Int32))
  have := c_iadd x2 (1 : Int32)
  have := b32 (x2 + (1 : Int32))
  try simp only [Int32.lt_iff_toInt_lt, ← Int32.toInt_inj, Int32.reduceToInt, Int64.lt_iff_toInt_lt, ← Int64.toInt_inj, Int64.reduceToInt, true_and, and_true, true_or, or_true, false_or, or_false, false_and, and_false, not_true_eq_false, not_false_eq_true] at *
  omega
set_option maxRecDepth 65536 in
set_option maxHeartbeats 40000000 in
theorem lf6_21 (n : Int32) (x1 : Int32) (x2 : Int32) (k1 : Int32) (k2 : Int32) (nn : Int32) (y1 : Int32) (y2 : Int32) (r : Int32) (i5_76 : Int32) (hc6_1 : n < (1 : Int32)) (hc26_2 : ¬ (n < (2 : Int32))) (hc37_31 : x2 < (k2 - (1 : Int32))) (hc44_60 : ¬ ((1 : Int32) < 0)) (hc52_61 : r = (1 : Int32)) (hc66_73 : nn < (1 : Int32)) (hc118_74 : ¬ (nn < (2 : Int32))) (hc123_75 : (1 : Int32) = (1 : Int32)) (hi5_76 : i5_76 = (x2 + (1 : Int32))) (hc139_77 : ¬ ((1 : Int32) = 0)) (hc147_78 : ¬ (y2 = i5_76)) (H :  ((n < 1 ∨ ¬ x1 < (k1 - 1)) ∧ (n < 2 ∨ ¬ x2 < (k2 - 1)) ∧ r = 0 ∧ (nn < 1 ∨ y1 = 0) ∧ (nn < 2 ∨ y2 = 0)) ∨ (¬ n < 1 ∧ x1 < (k1 - 1) ∧ (n < 2 ∨ ¬ x2 < (k2 - 1)) ∧ r = 1 ∧ (nn < 1 ∨ y1 = (x1 + 1)) ∧ (nn < 2 ∨ y2 = 0)) ∨ (¬ n < 2 ∧ x2 < (k2 - 1) ∧ r = 1 ∧ (nn < 1 ∨ y1 = x1) ∧ (nn < 2 ∨ y2 = (x2 + 1)))) : False := by
  have := b32 n
  have := b32 x1
  have := b32 x2
  have := b32 k1
  have := b32 k2
  have := b32 nn
  have := b32 y1
  have := b32 y2
  have := b32 r
  have := b32 i5_76
  have := c_isub k2 (1 : Int32)
  have := b32 (k2 - (1 : Int32))
  have := c_iadd x2 (1 : Int32)
  have := b32 (x2 + (1 : Int32))
  try simp only [Int32.lt_iff_toInt_lt, ← Int32.toInt_inj, Int32.reduceToInt, Int64.lt_iff_toInt_lt, ← Int64.toInt_inj, Int64.reduceToInt, true_and, and_true, true_or, or_true, false_or, or_false, false_and, and_false, not_true_eq_false, not_false_eq_true] at *
  omega
set_option maxRecDepth 65536 in
set_option maxHeartbeats 40000000 in
theorem lf6_22 (n : Int32) (x1 : Int32) (x2 : Int32) (k1 : Int32) (k2 : Int32) (nn : Int32) (y1 : Int32) (y2 : Int32) (r : Int32) (hc6_1 : n < (1 : Int32)) (hc26_2 : ¬ (n < (2 : Int32))) (hc37_31 : x2 < (k2 - (1 : Int32))) (hc44_60 : ¬ ((1 : Int32) < 0)) (hc52_61 : r = (1 : Int32)) (hc66_73 : ¬ (nn < (1 : Int32))) (hc70_79 : (0 : Int32) < (1 : Int32)) (hc96_80 : ¬ ((1 : Int32) = 0)) (hc104_81 : ¬ (y1 = x1)) (hc118_82 : nn < (2 : Int32)) (H :  ((n < 1 ∨ ¬ x1 < (k1 - 1)) ∧ (n < 2 ∨ ¬ x2 < (k2 - 1)) ∧ r = 0 ∧ (nn < 1 ∨ y1 = 0) ∧ (nn < 2 ∨ y2 = 0)) ∨ (¬ n < 1 ∧ x1 < (k1 - 1) ∧ (n < 2 ∨ ¬ x2 < (k2 - 1)) ∧ r = 1 ∧ (nn < 1 ∨ y1 = (x1 + 1)) ∧ (nn < 2 ∨ y2 = 0)) ∨ (¬ n < 2 ∧ x2 < (k2 - 1) ∧ r = 1 ∧ (nn < 1 ∨ y1 = x1) ∧ (nn < 2 ∨ y2 = (x2 + 1)))) : False := by
  have := b32 n
  have := b32 x1
  have := b32 x2
  have := b32 k1
  have := b32 k2
  have := b32 nn
  have := b32 y1
  have := b32 y2
  have := b32 r
  have := c_isub k2 (1 : Int32)
  have := b32 (k2 - (1 : Int32))
  try simp only [Int32.lt_iff_toInt_lt, ← Int32.toInt_inj, Int32.reduceToInt, Int64.lt_iff_toInt_lt, ← Int64.toInt_inj, Int64.reduceToInt, true_and, and_true, true_or, or_true, false_or, or_false, false_and, and_false, not_true_eq_false, not_false_eq_true] at *
  omega
set_option maxRecDepth 65536 in
set_option maxHeartbeats 40000000 in
theorem lf6_23 (n : Int32) (x1 : Int32) (x2 : Int32) (k1 : Int32) (k2 : Int32) (nn : Int32) (y1 : Int32) (y2 : Int32) (r : Int32) (i5_84 : Int32) (hc6_1 : n < (1 : Int32)) (hc26_2 : ¬ (n < (2 : Int32))) (hc37_31 : x2 < (k2 - (1 : Int32))) (hc44_60 : ¬ ((1 : Int32) < 0)) (hc52_61 : r = (1 : Int32)) (hc66_73 : ¬ (nn < (1 : Int32))) (hc70_79 : (0 : Int32) < (1 : Int32)) (hc96_80 : ¬ ((1 : Int32) = 0)) (hc104_81 : ¬ (y1 = x1)) (hc118_82 : ¬ (nn < (2 : Int32))) (hc123_83 : (1 : Int32) = (1 : Int32)) (hi5_84 : i5_84 = (x2 + (1 : Int32))) (hc139_85 : (0 : Int32) = 0) (H :  ((n < 1 ∨ ¬ x1 < (k1 - 1)) ∧ (n < 2 ∨ ¬ x2 < (k2 - 1)) ∧ r = 0 ∧ (nn < 1 ∨ y1 = 0) ∧ (nn < 2 ∨ y2 = 0)) ∨ (¬ n < 1 ∧ x1 < (k1 - 1) ∧ (n < 2 ∨ ¬ x2 < (k2 - 1)) ∧ r = 1 ∧ (nn < 1 ∨ y1 = (x1 + 1)) ∧ (nn < 2 ∨ y2 = 0)) ∨ (¬ n < 2 ∧ x2 < (k2 - 1) ∧ r = 1 ∧ (nn < 1 ∨ y1 = x1) ∧ (nn < 2 ∨ y2 = (x2 + 1)))) : False := by
  have := b32 n
  have := b32 x1
  have := b32 x2
  have := b32 k1
  have := b32 k2
  have := b32 nn
  have := b32 y1
  have := b32 y2
  have := b32 r
  have := b32 i5_84
  have := c_isub k2 (1 : Int32)
  have := b32 (k2 - (1 : Int32))
  have := c_iadd x2 (1 : Int32)
  have := b32 (x2 + (1 : Int32))
  try simp only [Int32.lt_iff_toInt_lt, ← Int32.toInt_inj, Int32.reduceToInt, Int64.lt_iff_toInt_lt, ← Int64.toInt_inj, Int64.reduceToInt, true_and, and_true, true_or, or_true, false_or, or_false, false_and, and_false, not_true_eq_false, not_false_eq_true] at *
  omega
set_option maxRecDepth 65536 in
set_option maxHeartbeats 40000000 in
theorem lf6_24 (n : Int32) (x1 : Int32) (x2 : Int32) (k1 : Int32) (k2 : Int32) (nn : Int32) (y1 : Int32) (y2 : Int32) (r : Int32) (i5_88 : Int32) (hc6_1 : n < (1 : Int32)) (hc26_2 : ¬ (n < (2 : Int32))) (hc37_31 : x2 < (k2 - (1 : Int32))) (hc44_60 : ¬ ((1 : Int32) < 0)) (hc52_61 : r = (1 : Int32)) (hc66_73 : ¬ (nn < (1 : Int32))) (hc70_79 : (0 : Int32) < (1 : Int32)) (hc96_80 : ¬ ((1 : Int32) = 0)) (hc104_81 : y1 = x1) (hc118_86 : ¬ (nn < (2 : Int32))) (hc123_87 : (1 : Int32) = (1 : Int32)) (hi5_88 : i5_88 = (x2 + (1 : Int32))) (hc139_89 : ¬ ((1 : Int32) = 0)) (hc147_90 : ¬ (y2 = i5_88)) (H :  ((n < 1 ∨ ¬ x1 < (k1 - 1)) ∧ (n < 2 ∨ ¬ x2 < (k2 - 1)) ∧ r = 0 ∧ (nn < 1 ∨ y1 = 0) ∧ (nn < 2 ∨ y2 = 0)) ∨ (¬ n < 1 ∧ x1 < (k1 - 1) ∧ (n < 2 ∨ ¬ x2 < (k2 - 1)) ∧ r = 1 ∧ (nn < 1 ∨ y1 = (x1 + 1)) ∧ (nn < 2 ∨ y2 = 0)) ∨ (¬ n < 2 ∧ x2 < (k2 - 1) ∧ r = 1 ∧ (nn < 1 ∨ y1 = x1) ∧ (nn < 2 ∨ y2 = (x2 + 1)))) : False := by
  have := b32 n
  have := b32 x1
  have := b32 x2
  have := b32 k1
  have := b32 k2
  have := b32 nn
  have := b32 y1
  have := b32 y2
  have := b32 r
  have := b32 i5_88
  have := c_isub k2 (1 : Int32)
  have := b32 (k2 - (1 : Int32))
  have := c_iadd x2 (1 : Int32)
  have := b32 (x2 + (1 : Int32))
  try simp only [Int32.lt_iff_toInt_lt, ← Int32.toInt_inj, Int32.reduceToInt, Int64.lt_iff_toInt_lt, ← Int64.toInt_inj, Int64.reduceToInt, true_and, and_true, true_or, or_true, false_or, or_false, false_and, and_false, not_true_eq_false, not_false_eq_true] at *
  omega
set_option maxRecDepth 65536 in
set_option maxHeartbeats 40000000 in
theorem lf6_25 (n : Int32) (x1 : Int32) (x2 : Int32) (k1 : Int32) (k2 : Int32) (nn : Int32) (y1 : Int32) (y2 : Int32) (r : Int32) (hc6_1 : ¬ (n < (1 : Int32))) (hc17_91 : ¬ (x1 < (k1 - (1 : Int32)))) (hc26_92 : n < (2 : Int32)) (hc44_93 : (-1 : Int32) < 0) (hc52_94 : ¬ (r = (0 : Int32))) (hc66_95 : nn < (1 : Int32)) (hc118_96 : nn < (2 : Int32)) (H :  ((n < 1 ∨ ¬ x1 < (k1 - 1)) ∧ (n < 2 ∨ ¬ x2 < (k2 - 1)) ∧ r = 0 ∧ (nn < 1 ∨ y1 = 0) ∧ (nn < 2 ∨ y2 = 0)) ∨ (¬ n < 1 ∧ x1 < (k1 - 1) ∧ (n < 2 ∨ ¬ x2 < (k2 - 1)) ∧ r = 1 ∧ (nn < 1 ∨ y1 = (x1 + 1)) ∧ (nn < 2 ∨ y2 = 0)) ∨ (¬ n < 2 ∧ x2 < (k2 - 1) ∧ r = 1 ∧ (nn < 1 ∨ y1 = x1) ∧ (nn < 2 ∨ y2 = (x2 + 1)))) : False := by
  have := b32 n
  have := b32 x1
  have := b32 x2
  have := b32 k1
  have := b32 k2
  have := b32 nn
  have := b32 y1
  have := b32 y2
  have := b32 r
  have := c_isub k1 (1 : Int32)
  have := b32 (k1 - (1 : Int32))
  try simp only [Int32.lt_iff_toInt_lt, ← Int32.toInt_inj, Int32.reduceToInt, Int64.lt_iff_toInt_lt, ← Int64.toInt_inj, Int64.reduceToInt, true_and, and_true, true_or, or_true, false_or, or_false, false_and, and_false, not_true_eq_false, not_false_eq_true] at *
  omega
set_option maxRecDepth 65536 in
set_option maxHeartbeats 40000000 in
theorem lf6_26 (n : Int32) (x1 : Int32) (x2 : Int32) (k1 : Int32) (k2 : Int32) (nn : Int32) (y1 : Int32) (y2 : Int32) (r : Int32) (hc6_1 : ¬ (n < (1 : Int32))) (hc17_91 : ¬ (x1 < (k1 - (1 : Int32)))) (hc26_92 : n < (2 : Int32)) (hc44_93 : (-1 : Int32) < 0) (hc52_94 : ¬ (r = (0 : Int32))) (hc66_95 : nn < (1 : Int32)) (hc118_96 : ¬ (nn < (2 : Int32))) (hc123_97 : ¬ ((-1 : Int32) = (1 : Int32))) (hc139_98 : (0 : Int32) = 0) (H :  ((n < 1 ∨ ¬ x1 < (k1 - 1)) ∧ (n < 2 ∨ ¬ x2 < (k2 - 1)) ∧ r = 0 ∧ (nn < 1 ∨ y1 = 0) ∧ (nn < 2 ∨ y2 = 0)) ∨ (¬ n < 1 ∧ x1 < (k1 - 1) ∧ (n < 2 ∨ ¬ x2 < (k2 - 1)) ∧ r = 1 ∧ (nn < 1 ∨ y1 = (x1 + 1)) ∧ (nn < 2 ∨ y2 = 0)) ∨ (¬ n < 2 ∧ x2 < (k2 - 1) ∧ r = 1 ∧ (nn < 1 ∨ y1 = x1) ∧ (nn < 2 ∨ y2 = (x2 + 1)))) : False := by
  have := b32 n
  have := b32 x1
  have := b32 x2
  have := b32 k1
  have := b32 k2
  have := b32 nn
  have := b32 y1
  have := b32 y2
  have := b32 r
  have := c_isub k1 (1 : Int32)
  have := b32 (k1 - (1 : Int32))
  try simp only [Int32.lt_iff_toInt_lt, ← Int32.toInt_inj, Int32.reduceToInt, Int64.lt_iff_toInt_lt, ← Int64.toInt_inj, Int64.reduceToInt, true_and, and_true, true_or, or_true, false_or, or_false, false_and, and_false, not_true_eq_false, not_false_eq_true] at *
  omega
set_option maxRecDepth 65536 in
set_option maxHeartbeats 40000000 in
theorem lf6_27 (n : Int32) (x1 : Int32) (x2 : Int32) (k1 : Int32) (k2 : Int32) (nn : Int32) (y1 : Int32) (y2 : Int32) (r : Int32) (hc6_1 : ¬ (n < (1 : Int32))) (hc17_91 : ¬ (x1 < (k1 - (1 : Int32)))) (hc26_92 : n < (2 : Int32)) (hc44_93 : (-1 : Int32) < 0) (hc52_94 : ¬ (r = (0 : Int32))) (hc66_95 : ¬ (nn < (1 : Int32))) (hc70_99 : ¬ ((0 : Int32) < (-1 : Int32))) (hc80_100 : ¬ ((-1 : Int32) = 0)) (hc96_101 : (0 : Int32) = 0) (hc118_102 : nn < (2 : Int32)) (H :  ((n < 1 ∨ ¬ x1 < (k1 - 1)) ∧ (n < 2 ∨ ¬ x2 < (k2 - 1)) ∧ r = 0 ∧ (nn < 1 ∨ y1 = 0) ∧ (nn < 2 ∨ y2 = 0)) ∨ (¬ n < 1 ∧ x1 < (k1 - 1) ∧ (n < 2 ∨ ¬ x2 < (k2 - 1)) ∧ r = 1 ∧ (nn < 1 ∨ y1 = (x1 + 1)) ∧ (nn < 2 ∨ y2 = 0)) ∨ (¬ n < 2 ∧ x2 < (k2 - 1) ∧ r = 1 ∧ (nn < 1 ∨ y1 = x1) ∧ (nn < 2 ∨ y2 = (x2 + 1)))) : False := by
  have := b32 n
  have := b32 x1
  have := b32 x2
  have := b32 k1
  have := b32 k2
  have := b32 nn
  have := b32 y1
  have := b32 y2
  have := b32 r
  have := c_isub k1 (1 : Int32)
  have := b32 (k1 - (1 : Int32))
  try simp only [Int32.lt_iff_toInt_lt, ← Int32.toInt_inj, Int32.reduceToInt, Int64.lt_iff_toInt_lt, ← Int64.toInt_inj, Int64.reduceToInt, true_and, and_true, true_or, or_true, false_or, or_false, false_and, and_false, not_true_eq_false, not_false_eq_true] at *
  omega
set_option maxRecDepth 65536 in
set_option maxHeartbeats 40000000 in
theorem lf6_28 (n : Int32) (x1 : Int32) (x2 : Int32) (k1 : Int32) (k2 : Int32) (nn : Int32) (y1 : Int32) (y2 : Int32) (r : Int32) (hc6_1 : ¬ (n < (1 : Int32))) (hc17_91 : ¬ (x1 < (k1 - (1 : Int32)))) (hc26_92 : n < (2 : Int32)) (hc44_93 : (-1 : Int32) < 0) (hc52_94 : ¬ (r = (0 : Int32))) (hc66_95 : ¬ (nn < (1 : Int32))) (hc70_99 : ¬ ((0 : Int32) < (-1 : Int32))) (hc80_100 : ¬ ((-1 : Int32) = 0)) (hc96_101 : (0 : Int32) = 0) (hc118_102 : ¬ (nn < (2 : Int32))) (hc123_103 : ¬ ((-1 : Int32) = (1 : Int32))) (hc139_104 : (0 : Int32) = 0) (H :  ((n < 1 ∨ ¬ x1 < (k1 - 1)) ∧ (n < 2 ∨ ¬ x2 < (k2 - 1)) ∧ r = 0 ∧ (nn < 1 ∨ y1 = 0) ∧ (nn < 2 ∨ y2 = 0)) ∨ (¬ n < 1 ∧ x1 < (k1 - 1) ∧ (n < 2 ∨ ¬ x2 < (k2 - 1)) ∧ r = 1 ∧ (nn < 1 ∨ y1 = (x1 + 1)) ∧ (nn < 2 ∨ y2 = 0)) ∨ (¬ n < 2 ∧ x2 < (k2 - 1) ∧ r = 1 ∧ (nn < 1 ∨ y1 = x1) ∧ (nn < 2 ∨ y2 = (x2 + 1)))) : False := by
  have := b32 n
  have := b32 x1
  have := b32 x2
  have := b32 k1
  have := b32 k2
  have := b32 nn
  have := b32 y1
  have := b32 y2
  have := b32 r
  have := c_isub k1 (1 : Int32)
  have := b32 (k1 - (1 : Int32))
  try simp only [Int32.lt_iff_toInt_lt, ← Int32.toInt_inj, Int32.reduceToInt, Int64.lt_iff_toInt_lt, ← Int64.toInt_inj, Int64.reduceToInt, true_and, and_true, true_or, or_true, false_or, or_false, false_and, and_false, not_true_eq_false, not_false_eq_true] at *
  omega
set_option maxRecDepth 65536 in
set_option maxHeartbeats 40000000 in
theorem lf6_29 (n : Int32) (x1 : Int32) (x2 : Int32) (k1 : Int32) (k2 : Int32) (nn : Int32) (y1 : Int32) (y2 : Int32) (r : Int32) (hc6_1 : ¬ (n < (1 : Int32))) (hc17_91 : ¬ (x1 < (k1 - (1 : Int32)))) (hc26_92 : n < (2 : Int32)) (hc44_93 : (-1 : Int32) < 0) (hc52_94 : r = (0 : Int32)) (hc66_105 : nn < (1 : Int32)) (hc118_106 : ¬ (nn < (2 : Int32))) (hc123_107 : ¬ ((-1 : Int32) = (1 : Int32))) (hc139_108 : ¬ ((1 : Int32) = 0)) (hc147_109 : ¬ (y2 = (0 : Int32))) (H :  ((n < 1 ∨ ¬ x1 < (k1 - 1)) ∧ (n < 2 ∨ ¬ x2 < (k2 - 1)) ∧ r = 0 ∧ (nn < 1 ∨ y1 = 0) ∧ (nn < 2 ∨ y2 = 0)) ∨ (¬ n < 1 ∧ x1 < (k1 - 1) ∧ (n < 2 ∨ ¬ x2 < (k2 - 1)) ∧ r = 1 ∧ (nn < 1 ∨ y1 = (x1 + 1)) ∧ (nn < 2 ∨ y2 = 0)) ∨ (¬ n < 2 ∧ x2 < (k2 - 1) ∧ r = 1 ∧ (nn < 1 ∨ y1 = x1) ∧ (nn < 2 ∨ y2 = (x2 + 1)))) : False := by
  have := b32 n
  have := b32 x1
  have := b32 x2
  have := b32 k1
  have := b32 k2
  have := b32 nn
  have := b32 y1
  have := b32 y2
  have := b32 r
  have := c_isub k1 (1 : Int32)
  have := b32 (k1 - (1 : Int32))
  try simp only [Int32.lt_iff_toInt_lt, ← Int32.toInt_inj, Int32.reduceToInt, Int64.lt_iff_toInt_lt, ← Int64.toInt_inj, Int64.reduceToInt, true_and, and_true, true_or, or_true, false_or, or_false, false_and, and_false, not_true_eq_false, not_false_eq_true] at *
  omega
set_option maxRecDepth 65536 in
set_option maxHeartbeats 40000000 in
theorem lf6_30 (n : Int32) (x1 : Int32) (x2 : Int32) (k1 : Int32) (k2 : Int32) (nn : Int32) (y1 : Int32) (y2 : Int32) (r : Int32) (hc6_1 : ¬ (n < (1 : Int32))) (hc17_91 : ¬ (x1 < (k1 - (1 : Int32)))) (hc26_92 : n < (2 : Int32)) (hc44_93 : (-1 : Int32) < 0) (hc52_94 : r = (0 : Int32)) (hc66_105 : ¬ (nn < (1 : Int32))) (hc70_110 : ¬ ((0 : Int32) < (-1 : Int32))) (hc80_111 : ¬ ((-1 : Int32) = 0)) (hc96_112 : ¬ ((1 : Int32) = 0)) (hc104_113 : ¬ (y1 = (0 : Int32))) (hc118_114 : nn < (2 : Int32)) (H :  ((n < 1 ∨ ¬ x1 < (k1 - 1)) ∧ (n < 2 ∨ ¬ x2 < (k2 - 1)) ∧ r = 0 ∧ (nn < 1 ∨ y1 = 0) ∧ (nn < 2 ∨ y2 = 0)) ∨ (¬ n < 1 ∧ x1 < (k1 - 1) ∧ (n < 2 ∨ ¬ x2 < (k2 - 1)) ∧ r = 1 ∧ (nn < 1 ∨ y1 = (x1 + 1)) ∧ (nn < 2 ∨ y2 = 0)) ∨ (¬ n < 2 ∧ x2 < (k2 - 1) ∧ r = 1 ∧ (nn < 1 ∨ y1 = x1) ∧ (nn < 2 ∨ y2 = (x2 + 1)))) : False := by
  have := b32 n
  have := b32 x1
  have := b32 x2
  have := b32 k1
  have := b32 k2
  have := b32 nn
  have := b32 y1
  have := b32 y2
  have := b32 r
  have := c_isub k1 (1 : Int32)
  have := b32 (k1 - (1 : Int32))
  try simp only [Int32.lt_iff_toInt_lt, ← Int32.toInt_inj, Int32.reduceToInt, Int64.lt_iff_toInt_lt, ← Int64.toInt_inj, Int64.reduceToInt, true_and, and_true, true_or, or_true, false_or, or_false, false_and, and_false, not_true_eq_false, not_false_eq_true] at *
  omega
set_option maxRecDepth 65536 in
set_option maxHeartbeats 40000000 in
theorem lf6_31 (n : Int32) (x1 : Int32) (x2 : Int32) (k1 : Int32) (k2 : Int32) (nn : Int32) (y1 : Int32) (y2 : Int32) (r : Int32) (hc6_1 : ¬ (n < (1 : Int32))) (hc17_91 : ¬ (x1 < (k1 - (1 : Int32)))) (hc26_92 : n < (2 : Int32)) (hc44_93 : (-1 : Int32) < 0) (hc52_94 : r = (0 : Int32)) (hc66_105 : ¬ (nn < (1 : Int32))) (hc70_110 : ¬ ((0 : Int32) < (-1 : Int32))) (hc80_111 : ¬ ((-1 : Int32) = 0)) (hc96_112 : ¬ ((1 : Int32) = 0)) (hc104_113 : ¬ (y1 = (0 : Int32))) (hc118_114 : ¬ (nn < (2 : Int32))) (hc123_115 : ¬ ((-1 : Int32) = (1 : Int32))) (hc139_116 : (0 : Int32) = 0) (H :  ((n < 1 ∨ ¬ x1 < (k1 - 1)) ∧ (n < 2 ∨ ¬ x2 < (k2 - 1)) ∧ r = 0 ∧ (nn < 1 ∨ y1 = 0) ∧ (nn < 2 ∨ y2 = 0)) ∨ (¬ n < 1 ∧ x1 < (k1 - 1) ∧ (n < 2 ∨ ¬ x2 < (k2 - 1)) ∧ r = 1 ∧ (nn < 1 ∨ y1 = (x1 + 1)) ∧ (nn < 2 ∨ y2 = 0)) ∨ (¬ n < 2 ∧ x2 < (k2 - 1) ∧ r = 1 ∧ (nn < 1 ∨ y1 = x1) ∧ (nn < 2 ∨ y2 = (x2 + 1)))) : False := by
  have := b32 n
  have := b32 x1
  have := b32 x2
  have := b32 k1
  have := b32 k2
  have := b32 nn
  have := b32 y1
  have := b32 y2
  have := b32 r
  have := c_isub k1 (1 : Int32)
  have := b32 (k1 - (1 : Int32))
  try simp only [Int32.lt_iff_toInt_lt, ← Int32.toInt_inj, Int32.reduceToInt, Int64.lt_iff_toInt_lt, ← Int64.toInt_inj, Int64.reduceToInt, true_and, and_true, true_or, or_true, false_or, or_false, false_and, and_false, not_true_eq_false, not_false_eq_true] at *
  omega
set_option maxRecDepth 65536 in
set_option maxHeartbeats 40000000 in
theorem lf6_32 (n : Int32) (x1 : Int32) (x2 : Int32) (k1 : Int32) (k2 : Int32) (nn : Int32) (y1 : Int32) (y2 : Int32) (r : Int32) (hc6_1 : ¬ (n < (1 : Int32))) (hc17_91 : ¬ (x1 < (k1 - (1 : Int32)))) (hc26_92 : n < (2 : Int32)) (hc44_93 : (-1 : Int32) < 0) (hc52_94 : r = (0 : Int32)) (hc66_105 : ¬ (nn < (1 : Int32))) (hc70_110 : ¬ ((0 : Int32) < (-1 : Int32))) (hc80_111 : ¬ ((-1 : Int32) = 0)) (hc96_112 : ¬ ((1 : Int32) = 0)) (hc104_113 : y1 = (0 : Int32)) (hc118_117 : ¬ (nn < (2 : Int32))) (hc123_118 : ¬ ((-1 : Int32) = (1 : Int32))) (hc139_119 : ¬ ((1 : Int32) = 0)) (hc147_120 : ¬ (y2 = (0 : Int32))) (H :  ((n < 1 ∨ ¬ x1 < (k1 - 1)) ∧ (n < 2 ∨ ¬ x2 < (k2 - 1)) ∧ r = 0 ∧ (nn < 1 ∨ y1 = 0) ∧ (nn < 2 ∨ y2 = 0)) ∨ (¬ n < 1 ∧ x1 < (k1 - 1) ∧ (n < 2 ∨ ¬ x2 < (k2 - 1)) ∧ r = 1 ∧ (nn < 1 ∨ y1 = (x1 + 1)) ∧ (nn < 2 ∨ y2 = 0)) ∨ (¬ n < 2 ∧ x2 < (k2 - 1) ∧ r = 1 ∧ (nn < 1 ∨ y1 = x1) ∧ (nn < 2 ∨ y2 = (x2 + 1)))) : False := by
  have := b32 n
  have := b32 x1
  have := b32 x2
  have := b32 k1
  have := b32 k2
  have := b32 nn
  have := b32 y1
  have := b32 y2
  have := b32 r
  have := c_isub k1 (1 : Int32)
  have := b32 (k1 - (1 : Int32))
  try simp only [Int32.lt_iff_toInt_lt, ← Int32.toInt_inj, Int32.reduceToInt, Int64.lt_iff_toInt_lt, ← Int64.toInt_inj, Int64.reduceToInt, true_and, and_true, true_or, or_true, false_or, or_false, false_and, and_false, not_true_eq_false, not_false_eq_true] at *
  omega
set_option maxRecDepth 65536 in
set_option maxHeartbeats 40000000 in
theorem lf6_33 (n : Int32) (x1 : Int32) (x2 : Int32) (k1 : Int32) (k2 : Int32) (nn : Int32) (y1 : Int32) (y2 : Int32) (r : Int32) (hc6_1 : ¬ (n < (1 : Int32))) (hc17_91 : ¬ (x1 < (k1 - (1 : Int32)))) (hc26_92 : ¬ (n < (2 : Int32))) (hc37_121 : ¬ (x2 < (k2 - (1 : Int32)))) (hc44_122 : (-1 : Int32) < 0) (hc52_123 : ¬ (r = (0 : Int32))) (hc66_124 : nn < (1 : Int32)) (hc118_125 : nn < (2 : Int32)) (H :  ((n < 1 ∨ ¬ x1 < (k1 - 1)) ∧ (n < 2 ∨ ¬ x2 < (k2 - 1)) ∧ r = 0 ∧ (nn < 1 ∨ y1 = 0) ∧ (nn < 2 ∨ y2 = 0)) ∨ (¬ n < 1 ∧ x1 < (k1 - 1) ∧ (n < 2 ∨ ¬ x2 < (k2 - 1)) ∧ r = 1 ∧ (nn < 1 ∨ y1 = (x1 + 1)) ∧ (nn < 2 ∨ y2 = 0)) ∨ (¬ n < 2 ∧ x2 < (k2 - 1) ∧ r = 1 ∧ (nn < 1 ∨ y1 = x1) ∧ (nn < 2 ∨ y2 = (x2 + 1)))) : False := by
  have := b32 n
  have := b32 x1
  have := b32 x2
  have := b32 k1
  have := b32 k2
  have := b32 nn
  have := b32 y1
  have := b32 y2
  have := b32 r
  have := c_isub k1 (1 : Int32)
  have := b32 (k1 - (1 : Int32))
  have := c_isub k2 (1 : Int32)
  have := b32 (k2 - (1 : Int32))
  try simp only [Int32.lt_iff_toInt_lt, ← Int32.toInt_inj, Int32.reduceToInt, Int64.lt_iff_toInt_lt, ← Int64.toInt_inj, Int64.reduceToInt, true_and, and_true, true_or, or_true, false_or, or_false, false_and, and_false, not_true_eq_false, not_false_eq_true] at *
  omega
set_option maxRecDepth 65536 in
set_option maxHeartbeats 40000000 in
theorem lf6_34 (n : Int32) (x1 : Int32) (x2 : Int32) (k1 : Int32) (k2 : Int32) (nn : Int32) (y1 : Int32) (y2 : Int32) (r : Int32) (hc6_1 : ¬ (n < (1 : Int32))) (hc17_91 : ¬ (x1 < (k1 - (1 : Int32)))) (hc26_92 : ¬ (n < (2 : Int32))) (hc37_121 : ¬ (x2 < (k2 - (1 : Int32)))) (hc44_122 : (-1 : Int32) < 0) (hc52_123 : ¬ (r = (0 : Int32))) (hc66_124 : nn < (1 : Int32)) (hc118_125 : ¬ (nn < (2 : Int32))) (hc123_126 : ¬ ((-1 : Int32) = (1 : Int32))) (hc139_127 : (0 : Int32) = 0) (H :  ((n < 1 ∨ ¬ x1 < (k1 - 1)) ∧ (n < 2 ∨ ¬ x2 < (k2 - 1)) ∧ r = 0 ∧ (nn < 1 ∨ y1 = 0) ∧ (nn < 2 ∨ y2 = 0)) ∨ (¬ n < 1 ∧ x1 < (k1 - 1) ∧ (n < 2 ∨ ¬ x2 < (k2 - 1)) ∧ r = 1 ∧ (nn < 1 ∨ y1 = (x1 + 1)) ∧ (nn < 2 ∨ y2 = 0)) ∨ (¬ n < 2 ∧ x2 < (k2 - 1) ∧ r = 1 ∧ (nn < 1 ∨ y1 = x1) ∧ (nn < 2 ∨ y2 = (x2 + 1)))) : False := by
  have := b32 n
  have := b32 x1
  have := b32 x2
  have := b32 k1
  have := b32 k2
  have := b32 nn
  have := b32 y1
  have := b32 y2
  have := b32 r
  have := c_isub k1 (1 : Int32)
  have := b32 (k1 - (1 : Int32))
  have := c_isub k2 (1 : Int32)
  have := b32 (k2 - (1 : Int32))
  try simp only [Int32.lt_iff_toInt_lt, ← Int32.toInt_inj, Int32.reduceToInt, Int64.lt_iff_toInt_lt, ← Int64.toInt_inj, Int64.reduceToInt, true_and, and_true, true_or, or_true, false_or, or_false, false_and, and_false, not_true_eq_false, not_false_eq_true] at *
  omega
set_option maxRecDepth 65536 in
set_option maxHeartbeats 40000000 in
theorem lf6_35 (n : Int32) (x1 : Int32) (x2 : Int32) (k1 : Int32) (k2 : Int32) (nn : Int32) (y1 : Int32) (y2 : Int32) (r : Int32) (hc6_1 : ¬ (n < (1 : Int32))) (hc17_91 : ¬ (x1 < (k1 - (1 : Int32)))) (hc26_92 : ¬ (n < (2 : Int32))) (hc37_121 : ¬ (x2 < (k2 - (1 : Int32)))) (hc44_122 : (-1 : Int32) < 0) (hc52_123 : ¬ (r = (0 : Int32))) (hc66_124 : ¬ (nn < (1 : Int32))) (hc70_128 : ¬ ((0 : Int32) < (-1 : Int32))) (hc80_129 : ¬ ((-1 : Int32) = 0)) (hc96_130 : (0 : Int32) = 0) (hc118_131 : nn < (2 : Int32)) (H :  ((n < 1 ∨ ¬ x1 < (k1 - 1)) ∧ (n < 2 ∨ ¬ x2 < (k2 - 1)) ∧ r = 0 ∧ (nn < 1 ∨ y1 = 0) ∧ (nn < 2 ∨ y2 = 0)) ∨ (¬ n < 1 ∧ x1 < (k1 - 1) ∧ (n < 2 ∨ ¬ x2 < (k2 - 1)) ∧ r = 1 ∧ (nn < 1 ∨ y1 = (x1 + 1)) ∧ (nn < 2 ∨ y2 = 0)) ∨ (¬ n < 2 ∧ x2 < (k2 - 1) ∧ r = 1 ∧ (nn < 1 ∨ y1 = x1) ∧ (nn < 2 ∨ y2 = (x2 + 1)))) : False := by
  have := b32 n
  have := b32 x1
  have := b32 x2
  have := b32 k1
  have := b32 k2
  have := b32 nn
  have := b32 y1
  have := b32 y2
  have := b32 r
  have := c_isub k1 (1 : Int32)
  have := b32 (k1 - (1 : Int32))
  have := c_isub k2 (1 : Int32)
  have := b32 (k2 - (1 : Int32))
  try simp only [Int32.lt_iff_toInt_lt, ← Int32.toInt_inj, Int32.reduceToInt, Int64.lt_iff_toInt_lt, ← Int64.toInt_inj, Int64.reduceToInt, true_and, and_true, true_or, or_true, false_or, or_false, false_and, and_false, not_true_eq_false, not_false_eq_true] at *
  omega
set_option maxRecDepth 65536 in
set_option maxHeartbeats 40000000 in
theorem lf6_36 (n : Int32) (x1 : Int32) (x2 : Int32) (k1 : Int32) (k2 : Int32) (nn : Int32) (y1 : Int32) (y2 : Int32) (r : Int32) (hc6_1 : ¬ (n < (1 : Int32))) (hc17_91 : ¬ (x1 < (k1 - (1 : Int32)))) (hc26_92 : ¬ (n < (2 : Int32))) (hc37_121 : ¬ (x2 < (k2 - (1 : Int32)))) (hc44_122 : (-1 : Int32) < 0) (hc52_123 : ¬ (r = (0 : Int32))) (hc66_124 : ¬ (nn < (1 : Int32))) (hc70_128 : ¬ ((0 : Int32) < (-1 : Int32))) (hc80_129 : ¬ ((-1 : Int32) = 0)) (hc96_130 : (0 : Int32) = 0) (hc118_131 : ¬ (nn < (2 : Int32))) (hc123_132 : ¬ ((-1 : Int32) = (1 : Int32))) (hc139_133 : (0 : Int32) = 0) (H :  ((n < 1 ∨ ¬ x1 < (k1 - 1)) ∧ (n < 2 ∨ ¬ x2 < (k2 - 1)) ∧ r = 0 ∧ (nn < 1 ∨ y1 = 0) ∧ (nn < 2 ∨ y2 = 0)) ∨ (¬ n < 1 ∧ x1 < (k1 - 1) ∧ (n < 2 ∨ ¬ x2 < (k2 - 1)) ∧ r = 1 ∧ (nn < 1 ∨ y1 = (x1 + 1)) ∧ (nn < 2 ∨ y2 = 0)) ∨ (¬ n < 2 ∧ x2 < (k2 - 1) ∧ r = 1 ∧ (nn < 1 ∨ y1 = x1) ∧ (nn < 2 ∨ y2 = (x2 + 1)))) : False := by
  have := b32 n
  have := b32 x1
  have := b32 x2
  have := b32 k1
  have := b32 k2
  have := b32 nn
  have := b32 y1
  have := b32 y2
  have := b32 r
  have := c_isub k1 (1 : Int32)
  have := b32 (k1 - (1 : Int32))
  have := c_isub k2 (1 : Int32)
  have := b32 (k2 - (1 : Int32))
  try simp only [Int32.lt_iff_toInt_lt, ← Int32.toInt_inj, Int32.reduceToInt, Int64.lt_iff_toInt_lt, ← Int64.toInt_inj, Int64.reduceToInt, true_and, and_true, true_or, or_true, false_or, or_false, false_and, and_false, not_true_eq_false, not_false_eq_true] at *
  omega
set_option maxRecDepth 65536 in
set_option maxHeartbeats 40000000 in
theorem lf6_37 (n : Int32) (x1 : Int32) (x2 : Int32) (k1 : Int32) (k2 : Int32) (nn : Int32) (y1 : Int32) (y2 : Int32) (r : Int32) (hc6_1 : ¬ (n < (1 : Int32))) (hc17_91 : ¬ (x1 < (k1 - (1 : Int32)))) (hc26_92 : ¬ (n < (2 : Int32))) (hc37_121 : ¬ (x2 < (k2 - (1 : Int32)))) (hc44_122 : (-1 : Int32) < 0) (hc52_123 : r = (0 : Int32)) (hc66_134 : nn < (1 : Int32)) (hc118_135 : ¬ (nn < (2 : Int32))) (hc123_136 : ¬ ((-1 : Int32) = (1 : Int32))) (hc139_137 : ¬ ((1 : Int32) = 0)) (hc147_138 : ¬ (y2 = (0 : Int32))) (H :  ((n < 1 ∨ ¬ x1 < (k1 - 1)) ∧ (n < 2 ∨ ¬ x2 < (k2 - 1)) ∧ r = 0 ∧ (nn < 1 ∨ y1 = 0) ∧ (nn < 2 ∨ y2 = 0)) ∨ (¬ n < 1 ∧ x1 < (k1 - 1) ∧ (n < 2 ∨ ¬ x2 < (k2 - 1)) ∧ r = 1 ∧ (nn < 1 ∨ y1 = (x1 + 1)) ∧ (nn < 2 ∨ y2 = 0)) ∨ (¬ n < 2 ∧ x2 < (k2 - 1) ∧ r = 1 ∧ (nn < 1 ∨ y1 = x1) ∧ (nn < 2 ∨ y2 = (x2 + 1)))) : False := by
  have := b32 n
  have := b32 x1
  have := b32 x2
  have := b32 k1
  have := b32 k2
  have := b32 nn
  have := b32 y1
  have := b32 y2
  have := b32 r
  have := c_isub k1 (1 : Int32)
  have := b32 (k1 - (1 : Int32))
  have := c_isub k2 (1 : Int32)
  have := b32 (k2 - (1 : Int32))
  try simp only [Int32.lt_iff_toInt_lt, ← Int32.toInt_inj, Int32.reduceToInt, Int64.lt_iff_toInt_lt, ← Int64.toInt_inj, Int64.reduceToInt, true_and, and_true, true_or, or_true, false_or, or_false, false_and, and_false, not_true_eq_false, not_false_eq_true] at *
  omega
set_option maxRecDepth 65536 in
set_option maxHeartbeats 40000000 in
theorem lf6_38 (n : Int32) (x1 : Int32) (x2 : Int32) (k1 : Int32) (k2 : Int32) (nn : Int32) (y1 : Int32) (y2 : Int32) (r : Int32) (hc6_1 : ¬ (n < (1 : Int32))) (hc17_91 : ¬ (x1 < (k1 - (1 : Int32)))) (hc26_92 : ¬ (n < (2 : Int32))) (hc37_121 : ¬ (x2 < (k2 - (1 : Int32)))) (hc44_122 : (-1 : Int32) < 0) (hc52_123 : r = (0 : Int32)) (hc66_134 : ¬ (nn < (1 : Int32))) (hc70_139 : ¬ ((0 : Int32) < (-1 : Int32))) (hc80_140 : ¬ ((-1 : Int32) = 0)) (hc96_141 : ¬ ((1 : Int32) = 0)) (hc104_142 : ¬ (y1 = (0 : Int32))) (hc118_143 : nn < (2 : Int32)) (H :  ((n < 1 ∨ ¬ x1 < (k1 - 1)) ∧ (n < 2 ∨ ¬ x2 < (k2 - 1)) ∧ r = 0 ∧ (nn < 1 ∨ y1 = 0) ∧ (nn < 2 ∨ y2 = 0)) ∨ (¬ n < 1 ∧ x1 < (k1 - 1) ∧ (n < 2 ∨ ¬ x2 < (k2 - 1)) ∧ r = 1 ∧ (nn < 1 ∨ y1 = (x1 + 1)) ∧ (nn < 2 ∨ y2 = 0)) ∨ (¬ n < 2 ∧ x2 < (k2 - 1) ∧ r = 1 ∧ (nn < 1 ∨ y1 = x1) ∧ (nn < 2 ∨ y2 = (x2 + 1)))) : False := by
  have := b32 n
  have := b32 x1
  have := b32 x2
  have := b32 k1
  have := b32 k2
  have := b32 nn
  have := b32 y1
  have := b32 y2
  have := b32 r
  have := c_isub k1 (1 : Int32)
  have := b32 (k1 - (1 : Int32))
  have := c_isub k2 (1 : Int32)
  have := b32 (k2 - (1 : Int32))
  try simp only [Int32.lt_iff_toInt_lt, ← Int32.toInt_inj, Int32.reduceToInt, Int64.lt_iff_toInt_lt, ← Int64.toInt_inj, Int64.reduceToInt, true_and, and_true, true_or, or_true, false_or, or_false, false_and, and_false, not_true_eq_false, not_false_eq_true] at *
  omega
set_option maxRecDepth 65536 in
set_option maxHeartbeats 40000000 in
theorem lf6_39 (n : Int32) (x1 : Int32) (x2 : Int32) (k1 : Int32) (k2 : Int32) (nn : Int32) (y1 : Int32) (y2 : Int32) (r : Int32) (hc6_1 : ¬ (n < (1 : Int32))) (hc17_91 : ¬ (x1 < (k1 - (1 : Int32)))) (hc26_92 : ¬ (n < (2 : Int32))) (hc37_121 : ¬ (x2 < (k2 - (1 : Int32)))) (hc44_122 : (-1 : Int32) < 0) (hc52_123 : r = (0 : Int32)) (hc66_134 : ¬ (nn < (1 : Int32))) (hc70_139 : ¬ ((0 : Int32) < (-1 : Int32))) (hc80_140 : ¬ ((-1 : Int32) = 0)) (hc96_141 : ¬ ((1 : Int32) = 0)) (hc104_142 : ¬ (y1 = (0 : Int32))) (hc118_143 : ¬ (nn < (2 : Int32))) (hc123_144 : ¬ ((-1 : Int32) = (1 : Int32))) (hc139_145 : (0 : Int32) = 0) (H :  ((n < 1 ∨ ¬ x1 < (k1 - 1)) ∧ (n < 2 ∨ ¬ x2 < (k2 - 1)) ∧ r = 0 ∧ (nn < 1 ∨ y1 = 0) ∧ (nn < 2 ∨ y2 = 0)) ∨ (¬ n < 1 ∧ x1 < (k1 - 1) ∧ (n < 2 ∨ ¬ x2 < (k2 - 1)) ∧ r = 1 ∧ (nn < 1 ∨ y1 = (x1 + 1)) ∧ (nn < 2 ∨ y2 = 0)) ∨ (¬ n < 2 ∧ x2 < (k2 - 1) ∧ r = 1 ∧ (nn < 1 ∨ y1 = x1) ∧ (nn < 2 ∨ y2 = (x2 + 1)))) : False := by
  have := b32 n
  have := b32 x1
  have := b32 x2
  have := b32 k1
  have := b32 k2
  have := b32 nn
  have := b32 y1
  have := b32 y2
  have := b32 r
  have := c_isub k1 (1 : Int32)
  have := b32 (k1 - (1 : Int32))
  have := c_isub k2 (1 : Int32)
  have := b32 (k2 - (1 : Int32))
  try simp only [Int32.lt_iff_toInt_lt, ← Int32.toInt_inj, Int32.reduceToInt, Int64.lt_iff_toInt_lt, ← Int64.toInt_inj, Int64.reduceToInt, true_and, and_true, true_or, or_true, false_or, or_false, false_and, and_false, not_true_eq_false, not_false_eq_true] at *
  omega
set_option maxRecDepth 65536 in
set_option maxHeartbeats 40000000 in
theorem lf6_40 (n : Int32) (x1 : Int32) (x2 : Int32) (k1 : Int32) (k2 : Int32) (nn : Int32) (y1 : Int32) (y2 : Int32) (r : Int32) (hc6_1 : ¬ (n < (1 : Int32))) (hc17_91 : ¬ (x1 < (k1 - (1 : Int32)))) (hc26_92 : ¬ (n < (2 : Int32))) (hc37_121 : ¬ (x2 < (k2 - (1 : Int32)))) (hc44_122 : (-1 : Int32) < 0) (hc52_123 : r = (0 : Int32)) (hc66_134 : ¬ (nn < (1 : Int32))) (hc70_139 : ¬ ((0 : Int32) < (-1 : Int32))) (hc80_140 : ¬ ((-1 : Int32) = 0)) (hc96_141 : ¬ ((1 : Int32) = 0)) (hc104_142 : y1 = (0 : Int32)) (hc118_146 : ¬ (nn < (2 : Int32))) (hc123_147 : ¬ ((-1 : Int32) = (1 : Int32))) (hc139_148 : ¬ ((1 : Int32) = 0)) (hc147_149 : ¬ (y2 = (0 : Int32))) (H :  ((n < 1 ∨ ¬ x1 < (k1 - 1)) ∧ (n < 2 ∨ ¬ x2 < (k2 - 1)) ∧ r = 0 ∧ (nn < 1 ∨ y1 = 0) ∧ (nn < 2 ∨ y2 = 0)) ∨ (¬ n < 1 ∧ x1 < (k1 - 1) ∧ (n < 2 ∨ ¬ x2 < (k2 - 1)) ∧ r = 1 ∧ (nn < 1 ∨ y1 = (x1 + 1)) ∧ (nn < 2 ∨ y2 = 0)) ∨ (¬ n < 2 ∧ x2 < (k2 - 1) ∧ r = 1 ∧ (nn < 1 ∨ y1 = x1) ∧ (nn < 2 ∨ y2 = (x2 + 1)))) : False := by
  have := b32 n
  have := b32 x1
  have := b32 x2
  have := b32 k1
  have := b32 k2
  have := b32 nn
  have := b32 y1
  have := b32 y2
  have := b32 r
  have := c_isub k1 (1 : Int32)
  have := b32 (k1 - (1 : Int32))
  have := c_isub k2 (1 : Int32)
  have := b32 (k2 - (1 : Int32))
  try simp only [Int32.lt_iff_toInt_lt, ← Int32.toInt_inj, Int32.reduceToInt, Int64.lt_iff_toInt_lt, ← Int64.toInt_inj, Int64.reduceToInt, true_and, and_true, true_or, or_true, false_or, or_false, false_and, and_false, not_true_eq_false, not_false_eq_true] at *
  omega
set_option maxRecDepth 65536 in
set_option maxHeartbeats 40000000 in
theorem lf6_41 (n : Int32) (x1 : Int32) (x2 : Int32) (k1 : Int32) (k2 : Int32) (nn : Int32) (y1 : Int32) (y2 : Int32) (r : Int32) (hc6_1 : ¬ (n < (1 : Int32))) (hc17_91 : ¬ (x1 < (k1 - (1 : Int32)))) (hc26_92 : ¬ (n < (2 : Int32))) (hc37_121 : x2 < (k2 - (1 : Int32))) (hc44_150 : ¬ ((1 : Int32) < 0)) (hc52_151 : ¬ (r = (1 : Int32))) (hc66_152 : nn < (1 : Int32)) (hc118_153 : nn < (2 : Int32)) (H :  ((n < 1 ∨ ¬ x1 < (k1 - 1)) ∧ (n < 2 ∨ ¬ x2 < (k2 - 1)) ∧ r = 0 ∧ (nn < 1 ∨ y1 = 0) ∧ (nn < 2 ∨ y2 = 0)) ∨ (¬ n < 1 ∧ x1 < (k1 - 1) ∧ (n < 2 ∨ ¬ x2 < (k2 - 1)) ∧ r = 1 ∧ (nn < 1 ∨ y1 = (x1 + 1)) ∧ (nn < 2 ∨ y2 = 0)) ∨ (¬ n < 2 ∧ x2 < (k2 - 1) ∧ r = 1 ∧ (nn < 1 ∨ y1 = x1) ∧ (nn < 2 ∨ y2 = (x2 + 1)))) : False := by
  have := b32 n
  have := b32 x1
  have := b32 x2
  have := b32 k1
  have := b32 k2
  have := b32 nn
  have := b32 y1
  have := b32 y2
  have := b32 r
  have := c_isub k1 (1 : Int32)
  have := b32 (k1 - (1 : Int32))
  have := c_isub k2 (1 : Int32)
  have := b32 (k2 - (1 : Int32))
  try simp only [Int32.lt_iff_toInt_lt, ← Int32.toInt_inj, Int32.reduceToInt, Int64.lt_iff_toInt_lt, ← Int64.toInt_inj, Int64.reduceToInt, true_and, and_true, true_or, or_true, false_or, or_false, false_and, and_false, not_true_eq_false, not_false_eq_true] at *
  omega
set_option maxRecDepth 65536 in
set_option maxHeartbeats 40000000 in
theorem lf6_42 (n : Int32) (x1 : Int32) (x2 : Int32) (k1 : Int32) (k2 : Int32) (nn : Int32) (y1 : Int32) (y2 : Int32) (r : Int32) (i5_155 : Int32) (hc6_1 : ¬ (n < (1 : Int32))) (hc17_91 : ¬ (x1 < (k1 - (1 : Int32)))) (hc26_92 : ¬ (n < (2 : Int32))) (hc37_121 : x2 < (k2 - (1 : Int32))) (hc44_150 : ¬ ((1 : Int32) < 0)) (hc52_151 : ¬ (r = (1 : Int32))) (hc66_152 : nn < (1 : Int32)) (hc118_153 : ¬ (nn < (2 : Int32))) (hc123_154 : (1 : Int32) = (1 : Int32)) (hi5_155 : i5_155 = (x2 + (1 : Int32))) (hc139_156 : (0 : Int32) = 0) (H :  ((n < 1 ∨ ¬ x1 < (k1 - 1)) ∧ (n < 2 ∨ ¬ x2 < (k2 - 1)) ∧ r = 0 ∧ (nn < 1 ∨ y1 = 0) ∧ (nn < 2 ∨ y2 = 0)) ∨ (¬ n < 1 ∧ x1 < (k1 - 1) ∧ (n < 2 ∨ ¬ x2 < (k2 - 1)) ∧ r = 1 ∧ (nn < 1 ∨ y1 = (x1 + 1)) ∧ (nn < 2 ∨ y2 = 0)) ∨ (¬ n < 2 ∧ x2 < (k2 - 1) ∧ r = 1 ∧ (nn < 1 ∨ y1 = x1) ∧ (nn < 2 ∨ y2 = (x2 + 1)))) : False := by
  have := b32 n
  have := b32 x1
  have := b32 x2
  have := b32 k1
  have := b32 k2
  have := b32 nn
  have := b32 y1
  have := b32 y2
  have := b32 r
  have := b32 i5_155
  have := c_isub k1 (1 : Int32)
  have := b32 (k1 - (1 : Int32))
  have := c_isub k2 (1 : Int32)
  have := b32 (k2 - (1 : Int32))
  have := c_iadd x2 (1 : Int32)
  have := b32 (x2 + (1 : Int32))
  try simp only [Int32.lt_iff_toInt_lt, ← Int32.toInt_inj, Int32.reduceToInt, Int64.lt_iff_toInt_lt, ← Int64.toInt_inj, Int64.reduceToInt, true_and, and_true, true_or, or_true, false_or, or_false, false_and, and_false, not_true_eq_false, not_false_eq_true] at *
  omega
set_option maxRecDepth 65536 in
set_option maxHeartbeats 40000000 in
theorem lf6_43 (n : Int32) (x1 : Int32) (x2 : Int32) (k1 : Int32) (k2 : Int32) (nn : Int32) (y1 : Int32) (y2 : Int32) (r : Int32) (hc6_1 : ¬ (n < (1 : Int32))) (hc17_91 : ¬ (x1 < (k1 - (1 : Int32)))) (hc26_92 : ¬ (n < (2 : Int32))) (hc37_121 : x2 < (k2 - (1 : Int32))) (hc44_150 : ¬ ((1 : Int32) < 0)) (hc52_151 : ¬ (r = (1 : Int32))) (hc66_152 : ¬ (nn < (1 : Int32))) (hc70_157 : (0 : Int32) < (1 : Int32)) (hc96_158 : (0 : Int32) = 0) (hc118_159 : nn < (2 : Int32)) (H :  ((n < 1 ∨ ¬ x1 < (k1 - 1)) ∧ (n < 2 ∨ ¬ x2 < (k2 - 1)) ∧ r = 0 ∧ (nn < 1 ∨ y1 = 0) ∧ (nn < 2 ∨ y2 = 0)) ∨ (¬ n < 1 ∧ x1 < (k1 - 1) ∧ (n < 2 ∨ ¬ x2 < (k2 - 1)) ∧ r = 1 ∧ (nn < 1 ∨ y1 = (x1 + 1)) ∧ (nn < 2 ∨ y2 = 0)) ∨ (¬ n < 2 ∧ x2 < (k2 - 1) ∧ r = 1 ∧ (nn < 1 ∨ y1 = x1) ∧ (nn < 2 ∨ y2 = (x2 + 1)))) : False := by
  have := b32 n
  have := b32 x1
  have := b32 x2
  have := b32 k1
  have := b32 k2
  have := b32 nn
  have := b32 y1
  have := b32 y2
  have := b32 r
  have := c_isub k1 (1 : Int32)
  have := b32 (k1 - (1 : Int32))
  have := c_isub k2 (1 : Int32)
  have := b32 (k2 - (1 : Int32))
  try simp only [Int32.lt_iff_toInt_lt, ← Int32.toInt_inj, Int32.reduceToInt, Int64.lt_iff_toInt_lt, ← Int64.toInt_inj, Int64.reduceToInt, true_and, and_true, true_or, or_true, false_or, or_false, false_and, and_false, not_true_eq_false, not_false_eq_true] at *
  omega
set_option maxRecDepth 65536 in
set_option maxHeartbeats 40000000 in
theorem lf6_44 (n : Int32) (x1 : Int32) (x2 : Int32) (k1 : Int32) (k2 : Int32) (nn : Int32) (y1 : Int32) (y2 : Int32) (r : Int32) (i5_161 : Int32) (hc6_1 : ¬ (n < (1 : Int32))) (hc17_91 : ¬ (x1 < (k1 - (1 : Int32)))) (hc26_92 : ¬ (n < (2 : Int32))) (hc37_121 : x2 < (k2 - (1 : Int32))) (hc44_150 : ¬ ((1 : Int32) < 0)) (hc52_151 : ¬ (r = (1 : Int32))) (hc66_152 : ¬ (nn < (1 : Int32))) (hc70_157 : (0 : Int32) < (1 : Int32)) (hc96_158 : (0 : Int32) = 0) (hc118_159 : ¬ (nn < (2 : Int32))) (hc123_160 : (1 : Int32) = (1 : Int32)) (hi5_161 : i5_161 = (x2 + (1 : Int32))) (hc139_162 : (0 : Int32) = 0) (H :  ((n < 1 ∨ ¬ x1 < (k1 - 1)) ∧ (n < 2 ∨ ¬ x2 < (k2 - 1)) ∧ r = 0 ∧ (nn < 1 ∨ y1 = 0) ∧ (nn < 2 ∨ y2 = 0)) ∨ (¬ n < 1 ∧ x1 < (k1 - 1) ∧ (n < 2 ∨ ¬ x2 < (k2 - 1)) ∧ r = 1 ∧ (nn < 1 ∨ y1 = (x1 + 1)) ∧ (nn < 2 ∨ y2 = 0)) ∨ (¬ n < 2 ∧ x2 < (k2 - 1) ∧ r = 1 ∧ (nn < 1 ∨ y1 = x1) ∧ (nn < 2 ∨ y2 = (x2 + 1)))) : False := by
  have := b32 n
  have := b32 x1
  have := b32 x2
  have := b32 k1
  have := b32 k2
  have := b32 nn
  have := b32 y1
  have := b32 y2
  have := b32 r
  have := b32 i5_161
  have := c_isub k1 (1 : Int32)
  have := b32 (k1 - (1 : Int32))
  have := c_isub k2 (1 : Int32)
  have := b32 (k2 - (1 : Int32))
  have := c_iadd x2 (1 : Int32)
  have := b32 (x2 + (1 : Int32))
  try simp only [Int32.lt_iff_toInt_lt, ← Int32.toInt_inj, Int32.reduceToInt, Int64.lt_iff_toInt_lt, ← Int64.toInt_inj, Int64.reduceToInt, true_and, and_true, true_or, or_true, false_or, or_false, false_and, and_false, not_true_eq_false, not_false_eq_true] at *
  omega
set_option maxRecDepth 65536 in
set_option maxHeartbeats 40000000 in
theorem lf6_45 (n : Int32) (x1 : Int32) (x2 : Int32) (k1 : Int32) (k2 : Int32) (nn : Int32) (y1 : Int32) (y2 : Int32) (r : Int32) (i5_166 : Int32) (hc6_1 : ¬ (n < (1 : Int32))) (hc17_91 : ¬ (x1 < (k1 - (1 : Int32)))) (hc26_92 : ¬ (n < (2 : Int32))) (hc37_121 : x2 < (k2 - (1 : Int32))) (hc44_150 : ¬ ((1 : Int32) < 0)) (hc52_151 : r = (1 : Int32)) (hc66_163 : nn < (1 : Int32)) (hc118_164 : ¬ (nn < (2 : Int32))) (hc123_165 : (1 : Int32) = (1 : Int32)) (hi5_166 : i5_166 = (x2 + (1 : Int32))) (hc139_167 : ¬ ((1 : Int32) = 0)) (hc147_168 : ¬ (y2 = i5_166)) (H :  ((n < 1 ∨ ¬ x1 < (k1 - 1)) ∧ (n < 2 ∨ ¬ x2 < (k2 - 1)) ∧ r = 0 ∧ (nn < 1 ∨ y1 = 0) ∧ (nn < 2 ∨ y2 = 0)) ∨ (¬ n < 1 ∧ x1 < (k1 - 1) ∧ (n < 2 ∨ ¬ x2 < (k2 - 1)) ∧ r = 1 ∧ (nn < 1 ∨ y1 = (x1 + 1)) ∧ (nn < 2 ∨ y2 = 0)) ∨ (¬ n < 2 ∧ x2 < (k2 - 1) ∧ r = 1 ∧ (nn < 1 ∨ y1 = x1) ∧ (nn < 2 ∨ y2 = (x2 + 1)))) : False := by
  have := b32 n
  have := b32 x1
  have := b32 x2
  have := b32 k1
  have := b32 k2
  have := b32 nn
  have := b32 y1
  have := b32 y2
  have := b32 r
  have := b32 i5_166
  have := c_isub k1 (1 : Int32)
  have := b32 (k1 - (1 : Int32))
  have := c_isub k2 (1 : Int32)
  have := b32 (k2 - (1 : Int32))
  have := c_iadd x2 (1 : Int32)
  have := b32 (x2 + (1 : Int32))
  try simp only [Int32.lt_iff_toInt_lt, ← Int32.toInt_inj, Int32.reduceToInt, Int64.lt_iff_toInt_lt, ← Int64.toInt_inj, Int64.reduceToInt, true_and, and_true, true_or, or_true, false_or, or_false, false_and, and_false, not_true_eq_false, not_false_eq_true] at *
  omega
set_option maxRecDepth 65536 in
set_option maxHeartbeats 40000000 in
theorem lf6_46 (n : Int32) (x1 : Int32) (x2 : Int32) (k1 : Int32) (k2 : Int32) (nn : Int32) (y1 : Int32) (y2 : Int32) (r : Int32) (hc6_1 : ¬ (n < (1 : Int32))) (hc17_91 : ¬ (x1 < (k1 - (1 : Int32)))) (hc26_92 : ¬ (n < (2 : Int32))) (hc37_121 : x2 < (k2 - (1 : Int32))) (hc44_150 : ¬ ((1 : Int32) < 0)) (hc52_151 : r = (1 : Int32)) (hc66_163 : ¬ (nn < (1 : Int32))) (hc70_169 : (0 : Int32) < (1 : Int32)) (hc96_170 : ¬ ((1 : Int32) = 0)) (hc104_171 : ¬ (y1 = x1)) (hc118_172 : nn < (2 : Int32)) (H :  ((n < 1 ∨ ¬ x1 < (k1 - 1)) ∧ (n < 2 ∨ ¬ x2 < (k2 - 1)) ∧ r = 0 ∧ (nn < 1 ∨ y1 = 0) ∧ (nn < 2 ∨ y2 = 0)) ∨ (¬ n < 1 ∧ x1 < (k1 - 1) ∧ (n < 2 ∨ ¬ x2 < (k2 - 1)) ∧ r = 1 ∧ (nn < 1 ∨ y1 = (x1 + 1)) ∧ (nn < 2 ∨ y2 = 0)) ∨ (¬ n < 2 ∧ x2 < (k2 - 1) ∧ r = 1 ∧ (nn < 1 ∨ y1 = x1) ∧ (nn < 2 ∨ y2 = (x2 + 1)))) : False := by
  have := b32 n
  have := b32 x1
  have := b32 x2
  have := b32 k1
  have := b32 k2
  have := b32 nn
  have := b32 y1
  have := b32 y2
  have := b32 r
  have := c_isub k1 (1 : Int32)
  have := b32 (k1 - (1 : Int32))
  have := c_isub k2 (1 : Int32)
  have := b32 (k2 - (1 : Int32))
  try simp only [Int32.lt_iff_toInt_lt, ← Int32.toInt_inj, Int32.reduceToInt, Int64.lt_iff_toInt_lt, ← Int64.toInt_inj, Int64.reduceToInt, true_and, and_true, true_or, or_true, false_or, or_false, false_and, and_false, not_true_eq_false, not_false_eq_true] at *
  omega
set_option maxRecDepth 65536 in
set_option maxHeartbeats 40000000 in
theorem lf6_47 (n : Int32) (x1 : Int32) (x2 : Int32) (k1 : Int32) (k2 : Int32) (nn : Int32) (y1 : Int32) (y2 : Int32) (r : Int32) (i5_174 : Int32) (hc6_1 : ¬ (n < (1 : Int32))) (hc17_91 : ¬ (x1 < (k1 - (1 : Int32)))) (hc26_92 : ¬ (n < (2 : Int32))) (hc37_121 : x2 < (k2 - (1 : Int32))) (hc44_150 : ¬ ((1 : Int32) < 0)) (hc52_151 : r = (1 : Int32)) (hc66_163 : ¬ (nn < (1 : Int32))) (hc70_169 : (0 : Int32) < (1 : Int32)) (hc96_170 : ¬ ((1 : Int32) = 0)) (hc104_171 : ¬ (y1 = x1)) (hc118_172 : ¬ (nn < (2 : Int32))) (hc123_173 : (1 : Int32) = (1 : Int32)) (hi5_174 : i5_174 = (x2 + (1 : Int32))) (hc139_175 : (0 : Int32) = 0) (H :  ((n < 1 ∨ ¬ x1 < (k1 - 1)) ∧ (n < 2 ∨ ¬ x2 < (k2 - 1)) ∧ r = 0 ∧ (nn < 1 ∨ y1 = 0) ∧ (nn < 2 ∨ y2 = 0)) ∨ (¬ n < 1 ∧ x1 < (k1 - 1) ∧ (n < 2 ∨ ¬ x2 < (k2 - 1)) ∧ r = 1 ∧ (nn < 1 ∨ y1 = (x1 + 1)) ∧ (nn < 2 ∨ y2 = 0)) ∨ (¬ n < 2 ∧ x2 < (k2 - 1) ∧ r = 1 ∧ (nn < 1 ∨ y1 = x1) ∧ (nn < 2 ∨ y2 = (x2 + 1)))) : False := by
  have := b32 n
  have := b32 x1
  have := b32 x2
  have := b32 k1
  have := b32 k2
  have := b32 nn
  have := b32 y1
  have := b32 y2
  have := b32 r
  have := b32 i5_174
  have := c_isub k1 (1 : Int32)
  have := b32 (k1 - (1 : Int32))
  have := c_isub k2 (1 : Int32)
  have := b32 (k2 - (1 : Int32))
  have := c_iadd x2 (1 : Int32)
  have := b32 (x2 + (1 : Int32))
  try simp only [Int32.lt_iff_toInt_lt, ← Int32.toInt_inj, Int32.reduceToInt, Int64.lt_iff_toInt_lt, ← Int64.toInt_inj, Int64.reduceToInt, true_and, and_true, true_or, or_true, false_or, or_false, false_and, and_false, not_true_eq_false, not_false_eq_true] at *
  omega
set_option maxRecDepth 65536 in
set_option maxHeartbeats 40000000 in
theorem lf6_48 (n : Int32) (x1 : Int32) (x2 : Int32) (k1 : Int32) (k2 : Int32) (nn : Int32) (y1 : Int32) (y2 : Int32) (r : Int32) (i5_178 : Int32) (hc6_1 : ¬ (n < (1 : Int32))) (hc17_91 : ¬ (x1 < (k1 - (1 : Int32)))) (hc26_92 : ¬ (n < (2 : Int32))) (hc37_121 : x2 < (k2 - (1 : Int32))) (hc44_150 : ¬ ((1 : Int32) < 0)) (hc52_151 : r = (1 : Int32)) (hc66_163 : ¬ (nn < (1 : Int32))) (hc70_169 : (0 : Int32) < (1 : Int32)) (hc96_170 : ¬ ((1 : Int32) = 0)) (hc104_171 : y1 = x1) (hc118_176 : ¬ (nn < (2 : Int32))) (hc123_177 : (1 : Int32) = (1 : Int32)) (hi5_178 : i5_178 = (x2 + (1 : Int32))) (hc139_179 : ¬ ((1 : Int32) = 0)) (hc147_180 : ¬ (y2 = i5_178)) (H :  ((n < 1 ∨ ¬ x1 < (k1 - 1)) ∧ (n < 2 ∨ ¬ x2 < (k2 - 1)) ∧ r = 0 ∧ (nn < 1 ∨ y1 = 0) ∧ (nn < 2 ∨ y2 = 0)) ∨ (¬ n < 1 ∧ x1 < (k1 - 1) ∧ (n < 2 ∨ ¬ x2 < (k2 - 1)) ∧ r = 1 ∧ (nn < 1 ∨ y1 = (x1 + 1)) ∧ (nn < 2 ∨ y2 = 0)) ∨ (¬ n < 2 ∧ x2 < (k2 - 1) ∧ r = 1 ∧ (nn < 1 ∨ y1 = x1) ∧ (nn < 2 ∨ y2 = (x2 + 1)))) : False := by
  have := b32 n
  have := b32 x1
  have := b32 x2
  have := b32 k1
  have := b32 k2
  have := b32 nn
  have := b32 y1
  have := b32 y2
  have := b32 r
  have := b32 i5_178
  have := c_isub k1 (1 : Int32)
  have := b32 (k1 - (1 : Int32))
  have := c_isub k2 (1 : Int32)
  have := b32 (k2 - (1 : Int32))
  have := c_iadd x2 (1 : Int32)
  have := b32 (x2 + (1 : Int32))
  try simp only [Int32.lt_iff_toInt_lt, ← Int32.toInt_inj, Int32.reduceToInt, Int64.lt_iff_toInt_lt, ← Int64.toInt_inj, Int64.reduceToInt, true_and, and_true, true_or, or_true, false_or, or_false, false_and, and_false, not_true_eq_false, not_false_eq_true] at *
  omega
set_option maxRecDepth 65536 in
set_option maxHeartbeats 40000000 in
theorem lf6_49 (n : Int32) (x1 : Int32) (x2 : Int32) (k1 : Int32) (k2 : Int32) (nn : Int32) (y1 : Int32) (y2 : Int32) (r : Int32) (hc6_1 : ¬ (n < (1 : Int32))) (hc17_91 : x1 < (k1 - (1 : Int32))) (hc26_181 : n < (2 : Int32)) (hc44_182 : ¬ ((0 : Int32) < 0)) (hc52_183 : ¬ (r = (1 : Int32))) (hc66_184 : nn < (1 : Int32)) (hc118_185 : nn < (2 : Int32)) (H :  ((n < 1 ∨ ¬ x1 < (k1 - 1)) ∧ (n < 2 ∨ ¬ x2 < (k2 - 1)) ∧ r = 0 ∧ (nn < 1 ∨ y1 = 0) ∧ (nn < 2 ∨ y2 = 0)) ∨ (¬ n < 1 ∧ x1 < (k1 - 1) ∧ (n < 2 ∨ ¬ x2 < (k2 - 1)) ∧ r = 1 ∧ (nn < 1 ∨ y1 = (x1 + 1)) ∧ (nn < 2 ∨ y2 = 0)) ∨ (¬ n < 2 ∧ x2 < (k2 - 1) ∧ r = 1 ∧ (nn < 1 ∨ y1 = x1) ∧ (nn < 2 ∨ y2 = (x2 + 1)))) : False := by
  have := b32 n
  have := b32 x1
  have := b32 x2
  have := b32 k1
  have := b32 k2
  have := b32 nn
  have := b32 y1
  have := b32 y2
  have := b32 r
  have := c_isub k1 (1 : Int32)
  have := b32 (k1 - (1 : Int32))
  try simp only [Int32.lt_iff_toInt_lt, ← Int32.toInt_inj, Int32.reduceToInt, Int64.lt_iff_toInt_lt, ← Int64.toInt_inj, Int64.reduceToInt, true_and, and_true, true_or, or_true, false_or, or_false, false_and, and_false, not_true_eq_false, not_false_eq_true] at *
  omega
set_option maxRecDepth 65536 in
set_option maxHeartbeats 40000000 in
theorem lf6_50 (n : Int32) (x1 : Int32) (x2 : Int32) (k1 : Int32) (k2 : Int32) (nn : Int32) (y1 : Int32) (y2 : Int32) (r : Int32) (hc6_1 : ¬ (n < (1 : Int32))) (hc17_91 : x1 < (k1 - (1 : Int32))) (hc26_181 : n < (2 : Int32)) (hc44_182 : ¬ ((0 : Int32) < 0)) (hc52_183 : ¬ (r = (1 : Int32))) (hc66_184 : nn < (1 : Int32)) (hc118_185 : ¬ (nn < (2 : Int32))) (hc123_186 : ¬ ((0 : Int32) = (1 : Int32))) (hc139_187 : (0 : Int32) = 0) (H :  ((n < 1 ∨ ¬ x1 < (k1 - 1)) ∧ (n < 2 ∨ ¬ x2 < (k2 - 1)) ∧ r = 0 ∧ (nn < 1 ∨ y1 = 0) ∧ (nn < 2 ∨ y2 = 0)) ∨ (¬ n < 1 ∧ x1 < (k1 - 1) ∧ (n < 2 ∨ ¬ x2 < (k2 - 1)) ∧ r = 1 ∧ (nn < 1 ∨ y1 = (x1 + 1)) ∧ (nn < 2 ∨ y2 = 0)) ∨ (¬ n < 2 ∧ x2 < (k2 - 1) ∧ r = 1 ∧ (nn < 1 ∨ y1 = x1) ∧ (nn < 2 ∨ y2 = (x2 + 1)))) : False := by
  have := b32 n
  have := b32 x1
  have := b32 x2
  have := b32 k1
  have := b32 k2
  have := b32 nn
  have := b32 y1
  have := b32 y2
  have := b32 r
  have := c_isub k1 (1 : Int32)
  have := b32 (k1 - (1 : Int32))
  try simp only [Int32.lt_iff_toInt_lt, ← Int32.toInt_inj, Int32.reduceToInt, Int64.lt_iff_toInt_lt, ← Int64.toInt_inj, Int64.reduceToInt, true_and, and_true, true_or, or_true, false_or, or_false, false_and, and_false, not_true_eq_false, not_false_eq_true] at *
  omega
set_option maxRecDepth 65536 in
set_option maxHeartbeats 40000000 in
theorem lf6_51 (n : Int32) (x1 : Int32) (x2 : Int32) (k1 : Int32) (k2 : Int32) (nn : Int32) (y1 : Int32) (y2 : Int32) (r : Int32) (i5_190 : Int32) (hc6_1 : ¬ (n < (1 : Int32))) (hc17_91 : x1 < (k1 - (1 : Int32))) (hc26_181 : n < (2 : Int32)) (hc44_182 : ¬ ((0 : Int32) < 0)) (hc52_183 : ¬ (r = (1 : Int32))) (hc66_184 : ¬ (nn < (1 : Int32))) (hc70_188 : ¬ ((0 : Int32) < (0 : Int32))) (hc80_189 : (0 : Int32) = 0) (hi5_190 : i5_190 = (x1 + (1 : Int32))) (hc96_191 : (0 : Int32) = 0) (hc118_192 : nn < (2 : Int32)) (H :  ((n < 1 ∨ ¬ x1 < (k1 - 1)) ∧ (n < 2 ∨ ¬ x2 < (k2 - 1)) ∧ r = 0 ∧ (nn < 1 ∨ y1 = 0) ∧ (nn < 2 ∨ y2 = 0)) ∨ (¬ n < 1 ∧ x1 < (k1 - 1) ∧ (n < 2 ∨ ¬ x2 < (k2 - 1)) ∧ r = 1 ∧ (nn < 1 ∨ y1 = (x1 + 1)) ∧ (nn < 2 ∨ y2 = 0)) ∨ (¬ n < 2 ∧ x2 < (k2 - 1) ∧ r = 1 ∧ (nn < 1 ∨ y1 = x1) ∧ (nn < 2 ∨ y2 = (x2 + 1)))) : False := by
  have := b32 n
  have := b32 x1
  have := b32 x2
  have := b32 k1
  have := b32 k2
  have := b32 nn
  have := b32 y1
  have := b32 y2
  have := b32 r
  have := b32 i5_190
  have := c_isub k1 (1 : Int32)
  have := b32 (k1 - (1 : Int32))
  have := c_iadd x1 (1 : Int32)
  have := b32 (x1 + (1 : Int32))
  try simp only [Int32.lt_iff_toInt_lt, ← Int32.toInt_inj, Int32.reduceToInt, Int64.lt_iff_toInt_lt, ← Int64.toInt_inj, Int64.reduceToInt, true_and, and_true, true_or, or_true, false_or, or_false, false_and, and_false, not_true_eq_false, not_false_eq_true] at *
  omega
set_option maxRecDepth 65536 in
set_option maxHeartbeats 40000000 in
theorem lf6_52 (n : Int32) (x1 : Int32) (x2 : Int32) (k1 : Int32) (k2 : Int32) (nn : Int32) (y1 : Int32) (y2 : Int32) (r : Int32) (i5_190 : Int32) (hc6_1 : ¬ (n < (1 : Int32))) (hc17_91 : x1 < (k1 - (1 : Int32))) (hc26_181 : n < (2 : Int32)) (hc44_182 : ¬ ((0 : Int32) < 0)) (hc52_183 : ¬ (r = (1 : Int32))) (hc66_184 : ¬ (nn < (1 : Int32))) (hc70_188 : ¬ ((0 : Int32) < (0 : Int32))) (hc80_189 : (0 : Int32) = 0) (hi5_190 : i5_190 = (x1 + (1 : Int32))) (hc96_191 : (0 : Int32) = 0) (hc118_192 : ¬ (nn < (2 : Int32))) (hc123_193 : ¬ ((0 : Int32) = (1 : Int32))) (hc139_194 : (0 : Int32) = 0) (H :  ((n < 1 ∨ ¬ x1 < (k1 - 1)) ∧ (n < 2 ∨ ¬ x2 < (k2 - 1)) ∧ r = 0 ∧ (nn < 1 ∨ y1 = 0) ∧ (nn < 2 ∨ y2 = 0)) ∨ (¬ n < 1 ∧ x1 < (k1 - 1) ∧ (n < 2 ∨ ¬ x2 < (k2 - 1)) ∧ r = 1 ∧ (nn < 1 ∨ y1 = (x1 + 1)) ∧ (nn < 2 ∨ y2 = 0)) ∨ (¬ n < 2 ∧ x2 < (k2 - 1) ∧ r = 1 ∧ (nn < 1 ∨ y1 = x1) ∧ (nn < 2 ∨ y2 = (x2 + 1)))) : False := by
  have := b32 n
  have := b32 x1
  have := b32 x2
  have := b32 k1
  have := b32 k2
  have := b32 nn
  have := b32 y1
  have := b32 y2
  have := b32 r
  have := b32 i5_190
  have := c_isub k1 (1 : Int32)
  have := b32 (k1 - (1 : Int32))
  have := c_iadd x1 (1 : Int32)
  have := b32 (x1 + (1 : Int32))
  try simp only [Int32.lt_iff_toInt_lt, ← Int32.toInt_inj, Int32.reduceToInt, Int64.lt_iff_toInt_lt, ← Int64.toInt_inj, Int64.reduceToInt, true_and, and_true, true_or, or_true, false_or, or_false, false_and, and_false, not_true_eq_false, not_false_eq_true] at *
  omega
set_option maxRecDepth 65536 in
set_option maxHeartbeats 40000000 in
theorem lf6_53 (n : Int32) (x1 : Int32) (x2 : Int32) (k1 : Int32) (k2 : Int32) (nn : Int32) (y1 : Int32) (y2 : Int32) (r : Int32) (hc6_1 : ¬ (n < (1 : Int32))) (hc17_91 : x1 < (k1 - (1 : Int32))) (hc26_181 : n < (2 : Int32)) (hc44_182 : ¬ ((0 : Int32) < 0)) (hc52_183 : r = (1 : Int32)) (hc66_195 : nn < (1 : Int32)) (hc118_196 : ¬ (nn < (2 : Int32))) (hc123_197 : ¬ ((0 : Int32) = (1 : Int32))) (hc139_198 : ¬ ((1 : Int32) = 0)) (hc147_199 : ¬ (y2 = (0 : Int32))) (H :  ((n < 1 ∨ ¬ x1 < (k1 - 1)) ∧ (n < 2 ∨ ¬ x2 < (k2 - 1)) ∧ r = 0 ∧ (nn < 1 ∨ y1 = 0) ∧ (nn < 2 ∨ y2 = 0)) ∨ (¬ n < 1 ∧ x1 < (k1 - 1) ∧ (n < 2 ∨ ¬ x2 < (k2 - 1)) ∧ r = 1 ∧ (nn < 1 ∨ y1 = (x1 + 1)) ∧ (nn < 2 ∨ y2 = 0)) ∨ (¬ n < 2 ∧ x2 < (k2 - 1) ∧ r = 1 ∧ (nn < 1 ∨ y1 = x1) ∧ (nn < 2 ∨ y2 = (x2 + 1)))) : False := by
  have := b32 n
  have := b32 x1
  have := b32 x2
  have := b32 k1
  have := b32 k2
  have := b32 nn
  have := b32 y1
  have := b32 y2
  have := b32 r
  have := c_isub k1 (1 : Int32)
  have := b32 (k1 - (1 : Int32))
  try simp only [Int32.lt_iff_toInt_lt, ← Int32.toInt_inj, Int32.reduceToInt, Int64.lt_iff_toInt_lt, ← Int64.toInt_inj, Int64.reduceToInt, true_and, and_true, true_or, or_true, false_or, or_false, false_and, and_false, not_true_eq_false, not_false_eq_true] at *
  omega
set_option maxRecDepth 65536 in
set_option maxHeartbeats 40000000 in
theorem lf6_54 (n : Int32) (x1 : Int32) (x2 : Int32) (k1 : Int32) (k2 : Int32) (nn : Int32) (y1 : Int32) (y2 : Int32) (r : Int32) (i5_202 : Int32) (hc6_1 : ¬ (n < (1 : Int32))) (hc17_91 : x1 < (k1 - (1 : Int32))) (hc26_181 : n < (2 : Int32)) (hc44_182 : ¬ ((0 : Int32) < 0)) (hc52_183 : r = (1 : Int32)) (hc66_195 : ¬ (nn < (1 : Int32))) (hc70_200 : ¬ ((0 : Int32) < (0 : Int32))) (hc80_201 : (0 : Int32) = 0) (hi5_202 : i5_202 = (x1 + (1 : Int32))) (hc96_203 : ¬ ((1 : Int32) = 0)) (hc104_204 : ¬ (y1 = i5_202)) (hc118_205 : nn < (2 : Int32)) (H :  ((n < 1 ∨ ¬ x1 < (k1 - 1)) ∧ (n < 2 ∨ ¬ x2 < (k2 - 1)) ∧ r = 0 ∧ (nn < 1 ∨ y1 = 0) ∧ (nn < 2 ∨ y2 = 0)) ∨ (¬ n < 1 ∧ x1 < (k1 - 1) ∧ (n < 2 ∨ ¬ x2 < (k2 - 1)) ∧ r = 1 ∧ (nn < 1 ∨ y1 = (x1 + 1)) ∧ (nn < 2 ∨ y2 = 0)) ∨ (¬ n < 2 ∧ x2 < (k2 - 1) ∧ r = 1 ∧ (nn < 1 ∨ y1 = x1) ∧ (nn < 2 ∨ y2 = (x2 + 1)))) : False := by
  have := b32 n
  have := b32 x1
  have := b32 x2
  have := b32 k1
  have := b32 k2
  have := b32 nn
  have := b32 y1
  have := b32 y2
  have := b32 r
  have := b32 i5_202
  have := c_isub k1 (1 : Int32)
  have := b32 (k1 - (1 : Int32))
  have := c_iadd x1 (1 : Int32)
  have := b32 (x1 + (1 : Int32))
  try simp only [Int32.lt_iff_toInt_lt, ← Int32.toInt_inj, Int32.reduceToInt, Int64.lt_iff_toInt_lt, ← Int64.toInt_inj, Int64.reduceToInt, true_and, and_true, true_or, or_true, false_or, or_false, false_and, and_false, not_true_eq_false, not_false_eq_true] at *
  omega
set_option maxRecDepth 65536 in
set_option maxHeartbeats 40000000 in
theorem lf6_55 (n : Int32) (x1 : Int32) (x2 : Int32) (k1 : Int32) (k2 : Int32) (nn : Int32) (y1 : Int32) (y2 : Int32) (r : Int32) (i5_202 : Int32) (hc6_1 : ¬ (n < (1 : Int32))) (hc17_91 : x1 < (k1 - (1 : Int32))) (hc26_181 : n < (2 : Int32)) (hc44_182 : ¬ ((0 : Int32) < 0)) (hc52_183 : r = (1 : Int32)) (hc66_195 : ¬ (nn < (1 : Int32))) (hc70_200 : ¬ ((0 : Int32) < (0 : Int32))) (hc80_201 : (0 : Int32) = 0) (hi5_202 : i5_202 = (x1 + (1 : Int32))) (hc96_203 : ¬ ((1 : Int32) = 0)) (hc104_204 : ¬ (y1 = i5_202)) (hc118_205 : ¬ (nn < (2 : Int32))) (hc123_206 : ¬ ((0 : Int32) = (1 : Int32))) (hc139_207 : (0 : Int32) = 0) (H :  ((n < 1 ∨ ¬ x1 < (k1 - 1)) ∧ (n < 2 ∨ ¬ x2 < (k2 - 1)) ∧ r = 0 ∧ (nn < 1 ∨ y1 = 0) ∧ (nn < 2 ∨ y2 = 0)) ∨ (¬ n < 1 ∧ x1 < (k1 - 1) ∧ (n < 2 ∨ ¬ x2 < (k2 - 1)) ∧ r = 1 ∧ (nn < 1 ∨ y1 = (x1 + 1)) ∧ (nn < 2 ∨ y2 = 0)) ∨ (¬ n < 2 ∧ x2 < (k2 - 1) ∧ r = 1 ∧ (nn < 1 ∨ y1 = x1) ∧ (nn < 2 ∨ y2 = (x2 + 1)))) : False := by
  have := b32 n
  have := b32 x1
  have := b32 x2
  have := b32 k1
  have := b32 k2
  have := b32 nn
  have := b32 y1
  have := b32 y2
  have := b32 r
  have := b32 i5_202
  have := c_isub k1 (1 : Int32)
  have := b32 (k1 - (1 : Int32))
  have := c_iadd x1 (1 : Int32)
  have := b32 (x1 + (1 : Int32))
  try simp only [Int32.lt_iff_toInt_lt, ← Int32.toInt_inj, Int32.reduceToInt, Int64.lt_iff_toInt_lt, ← Int64.toInt_inj, Int64.reduceToInt, true_and, and_true, true_or, or_true, false_or, or_false, false_and, and_false, not_true_eq_false, not_false_eq_true] at *
  omega
set_option maxRecDepth 65536 in
set_option maxHeartbeats 40000000 in
theorem lf6_56 (n : Int32) (x1 : Int32) (x2 : Int32) (k1 : Int32) (k2 : Int32) (nn : Int32) (y1 : Int32) (y2 : Int32) (r : Int32) (i5_202 : Int32) (hc6_1 : ¬ (n < (1 : Int32))) (hc17_91 : x1 < (k1 - (1 : Int32))) (hc26_181 : n < (2 : Int32)) (hc44_182 : ¬ ((0 : Int32) < 0)) (hc52_183 : r = (1 : Int32)) (hc66_195 : ¬ (nn < (1 : Int32))) (hc70_200 : ¬ ((0 : Int32) < (0 : Int32))) (hc80_201 : (0 : Int32) = 0) (hi5_202 : i5_202 = (x1 + (1 : Int32))) (hc96_203 : ¬ ((1 : Int32) = 0)) (hc104_204 : y1 = i5_202) (hc118_208 : ¬ (nn < (2 : Int32))) (hc123_209 : ¬ ((0 : Int32) = (1 : Int32))) (hc139_210 : ¬ ((1 : Int32) = 0)) (hc147_211 : ¬ (y2 = (0 : Int32))) (H :  ((n < 1 ∨ ¬ x1 < (k1 - 1)) ∧ (n < 2 ∨ ¬ x2 < (k2 - 1)) ∧ r = 0 ∧ (nn < 1 ∨ y1 = 0) ∧ (nn < 2 ∨ y2 = 0)) ∨ (¬ n < 1 ∧ x1 < (k1 - 1) ∧ (n < 2 ∨ ¬ x2 < (k2 - 1)) ∧ r = 1 ∧ (nn < 1 ∨ y1 = (x1 + 1)) ∧ (nn < 2 ∨ y2 = 0)) ∨ (¬ n < 2 ∧ x2 < (k2 - 1) ∧ r = 1 ∧ (nn < 1 ∨ y1 = x1) ∧ (nn < 2 ∨ y2 = (x2 + 1)))) : False := by
  have := b32 n
  have := b32 x1
  have := b32 x2
  have := b32 k1
  have := b32 k2
  have := b32 nn
  have := b32 y1
  have := b32 y2
  have := b32 r
  have := b32 i5_202
  have := c_isub k1 (1 : Int32)
  have := b32 (k1 - (1 : Int32))
  have := c_iadd x1 (1 : Int32)
  have := b32 (x1 + (1 : Int32))
  try simp only [Int32.lt_iff_toInt_lt, ← Int32.toInt_inj, Int32.reduceToInt, Int64.lt_iff_toInt_lt, ← Int64.toInt_inj, Int64.reduceToInt, true_and, and_true, true_or, or_true, false_or, or_false, false_and, and_false, not_true_eq_false, not_false_eq_true] at *
  omega
set_option maxRecDepth 65536 in
set_option maxHeartbeats 40000000 in
theorem lf6_57 (n : Int32) (x1 : Int32) (x2 : Int32) (k1 : Int32) (k2 : Int32) (nn : Int32) (y1 : Int32) (y2 : Int32) (r : Int32) (hc6_1 : ¬ (n < (1 : Int32))) (hc17_91 : x1 < (k1 - (1 : Int32))) (hc26_181 : ¬ (n < (2 : Int32))) (hc37_212 : ¬ (x2 < (k2 - (1 : Int32)))) (hc44_213 : ¬ ((0 : Int32) < 0)) (hc52_214 : ¬ (r = (1 : Int32))) (hc66_215 : nn < (1 : Int32)) (hc118_216 : nn < (2 : Int32)) (H :  ((n < 1 ∨ ¬ x1 < (k1 - 1)) ∧ (n < 2 ∨ ¬ x2 < (k2 - 1)) ∧ r = 0 ∧ (nn < 1 ∨ y1 = 0) ∧ (nn < 2 ∨ y2 = 0)) ∨ (¬ n < 1 ∧ x1 < (k1 - 1) ∧ (n < 2 ∨ ¬ x2 < (k2 - 1)) ∧ r = 1 ∧ (nn < 1 ∨ y1 = (x1 + 1)) ∧ (nn < 2 ∨ y2 = 0)) ∨ (¬ n < 2 ∧ x2 < (k2 - 1) ∧ r = 1 ∧ (nn < 1 ∨ y1 = x1) ∧ (nn < 2 ∨ y2 = (x2 + 1)))) : False := by
  have := b32 n
  have := b32 x1
  have := b32 x2
  have := b32 k1
  have := b32 k2
  have := b32 nn
  have := b32 y1
  have := b32 y2
  have := b32 r
  have := c_isub k1 (1 : Int32)
  have := b32 (k1 - (1 : Int32))
  have := c_isub k2 (1 : Int32)
  have := b32 (k2 - (1 : Int32))
  try simp only [Int32.lt_iff_toInt_lt, ← Int32.toInt_inj, Int32.reduceToInt, Int64.lt_iff_toInt_lt, ← Int64.toInt_inj, Int64.reduceToInt, true_and, and_true, true_or, or_true, false_or, or_false, false_and, and_false, not_true_eq_false, not_false_eq_true] at *
  omega
set_option maxRecDepth 65536 in
set_option maxHeartbeats 40000000 in
theorem lf6_58 (n : Int32) (x1 : Int32) (x2 : Int32) (k1 : Int32) (k2 : Int32) (nn : Int32) (y1 : Int32) (y2 : Int32) (r : Int32) (hc6_1 : ¬ (n < (1 : Int32))) (hc17_91 : x1 < (k1 - (1 : Int32))) (hc26_181 : ¬ (n < (2 : Int32))) (hc37_212 : ¬ (x2 < (k2 - (1 : Int32)))) (hc44_213 : ¬ ((0 : Int32) < 0)) (hc52_214 : ¬ (r = (1 : Int32))) (hc66_215 : nn < (1 : Int32)) (hc118_216 : ¬ (nn < (2 : Int32))) (hc123_217 : ¬ ((0 : Int32) = (1 : Int32))) (hc139_218 : (0 : Int32) = 0) (H :  ((n < 1 ∨ ¬ x1 < (k1 - 1)) ∧ (n < 2 ∨ ¬ x2 < (k2 - 1)) ∧ r = 0 ∧ (nn < 1 ∨ y1 = 0) ∧ (nn < 2 ∨ y2 = 0)) ∨ (¬ n < 1 ∧ x1 < (k1 - 1) ∧ (n < 2 ∨ ¬ x2 < (k2 - 1)) ∧ r = 1 ∧ (nn < 1 ∨ y1 = (x1 + 1)) ∧ (nn < 2 ∨ y2 = 0)) ∨ (¬ n < 2 ∧ x2 < (k2 - 1) ∧ r = 1 ∧ (nn < 1 ∨ y1 = x1) ∧ (nn < 2 ∨ y2 = (x2 + 1)))) : False := by
  have := b32 n
  have := b32 x1
  have := b32 x2
  have := b32 k1
  have := b32 k2
  have := b32 nn
  have := b32 y1
  have := b32 y2
  have := b32 r
  have := c_isub k1 (1 : Int32)
  have := b32 (k1 - (1 : Int32))
  have := c_isub k2 (1 : Int32)
  have := b32 (k2 - (1 : Int32))
  try simp only [Int32.lt_iff_toInt_lt, ← Int32.toInt_inj, Int32.reduceToInt, Int64.lt_iff_toInt_lt, ← Int64.toInt_inj, Int64.reduceToInt, true_and, and_true, true_or, or_true, false_or, or_false, false_and, and_false, not_true_eq_false, not_false_eq_true] at *
  omega
set_option maxRecDepth 65536 in
set_option maxHeartbeats 40000000 in
theorem lf6_59 (n : Int32) (x1 : Int32) (x2 : Int32) (k1 : Int32) (k2 : Int32) (nn : Int32) (y1 : Int32) (y2 : Int32) (r : Int32) (i5_221 : Int32) (hc6_1 : ¬ (n < (1 : Int32))) (hc17_91 : x1 < (k1 - (1 : Int32))) (hc26_181 : ¬ (n < (2 : Int32))) (hc37_212 : ¬ (x2 < (k2 - (1 : Int32)))) (hc44_213 : ¬ ((0 : Int32) < 0)) (hc52_214 : ¬ (r = (1 : Int32))) (hc66_215 : ¬ (nn < (1 : Int32))) (hc70_219 : ¬ ((0 : Int32) < (0 : Int32))) (hc80_220 : (0 : Int32) = 0) (hi5_221 : i5_221 = (x1 + (1 : Int32))) (hc96_222 : (0 : Int32) = 0) (hc118_223 : nn < (2 : Int32)) (H :  ((n < 1 ∨ ¬ x1 < (k1 - 1)) ∧ (n < 2 ∨ ¬ x2 < (k2 - 1)) ∧ r = 0 ∧ (nn < 1 ∨ y1 = 0) ∧ (nn < 2 ∨ y2 = 0)) ∨ (¬ n < 1 ∧ x1 < (k1 - 1) ∧ (n < 2 ∨ ¬ x2 < (k2 - 1)) ∧ r = 1 ∧ (nn < 1 ∨ y1 = (x1 + 1)) ∧ (nn < 2 ∨ y2 = 0)) ∨ (¬ n < 2 ∧ x2 < (k2 - 1) ∧ r = 1 ∧ (nn < 1 ∨ y1 = x1) ∧ (nn < 2 ∨ y2 = (x2 + 1)))) : False := by
  have := b32 n
  have := b32 x1
  have := b32 x2
  have := b32 k1
  have := b32 k2
  have := b32 nn
  have := b32 y1
  have := b32 y2
  have := b32 r
  have := b32 i5_221
  have := c_isub k1 (1 : Int32)
  have := b32 (k1 - (1 : Int32))
  have := c_isub k2 (1 : Int32)
  have := b32 (k2 - (1 : Int32))
  have := c_iadd x1 (1 : Int32)
  have := b32 (x1 + (1 : Int32))
  try simp only [Int32.lt_iff_toInt_lt, ← Int32.toInt_inj, Int32.reduceToInt, Int64.lt_iff_toInt_lt, ← Int64.toInt_inj, Int64.reduceToInt, true_and, and_true, true_or, or_true, false_or, or_false, false_and, and_false, not_true_eq_false, not_false_eq_true] at *
  omega
set_option maxRecDepth 65536 in
set_option maxHeartbeats 40000000 in
theorem lf6_60 (n : Int32) (x1 : Int32) (x2 : Int32) (k1 : Int32) (k2 : Int32) (nn : Int32) (y1 : Int32) (y2 : Int32) (r : Int32) (i5_221 : Int32) (hc6_1 : ¬ (n < (1 : Int32))) (hc17_91 : x1 < (k1 - (1 : Int32))) (hc26_181 : ¬ (n < (2 : Int32))) (hc37_212 : ¬ (x2 < (k2 - (1 : Int32)))) (hc44_213 : ¬ ((0 : Int32) < 0)) (hc52_214 : ¬ (r = (1 : Int32))) (hc66_215 : ¬ (nn < (1 : Int32))) (hc70_219 : ¬ ((0 : Int32) < (0 : Int32))) (hc80_220 : (0 : Int32) = 0) (hi5_221 : i5_221 = (x1 + (1 : Int32))) (hc96_222 : (0 : Int32) = 0) (hc118_223 : ¬ (nn < (2 : Int32))) (hc123_224 : ¬ ((0 : Int32) = (1 : Int32))) (hc139_225 : (0 : Int32) = 0) (H :  ((n < 1 ∨ ¬ x1 < (k1 - 1)) ∧ (n < 2 ∨ ¬ x2 < (k2 - 1)) ∧ r = 0 ∧ (nn < 1 ∨ y1 = 0) ∧ (nn < 2 ∨ y2 = 0)) ∨ (¬ n < 1 ∧ x1 < (k1 - 1) ∧ (n < 2 ∨ ¬ x2 < (k2 - 1)) ∧ r = 1 ∧ (nn < 1 ∨ y1 = (x1 + 1)) ∧ (nn < 2 ∨ y2 = 0)) ∨ (¬ n < 2 ∧ x2 < (k2 - 1) ∧ r = 1 ∧ (nn < 1 ∨ y1 = x1) ∧ (nn < 2 ∨ y2 = (x2 + 1)))) : False := by
  have := b32 n
  have := b32 x1
  have := b32 x2
  have := b32 k1
  have := b32 k2
  have := b32 nn
  have := b32 y1
  have := b32 y2
  have := b32 r
  have := b32 i5_221
  have := c_isub k1 (1 : Int32)
  have := b32 (k1 - (1 : Int32))
  have := c_isub k2 (1 : Int32)
  have := b32 (k2 - (1 : Int32))
  have := c_iadd x1 (1 : Int32)
  have := b32 (x1 + (1 : Int32))
  try simp only [Int32.lt_iff_toInt_lt, ← Int32.toInt_inj, Int32.reduceToInt, Int64.lt_iff_toInt_lt, ← Int64.toInt_inj, Int64.reduceToInt, true_and, and_true, true_or, or_true, false_or, or_false, false_and, and_false, not_true_eq_false, not_false_eq_true] at *
  omega
set_option maxRecDepth 65536 in
set_option maxHeartbeats 40000000 in
theorem lf6_61 (n : Int32) (x1 : Int32) (x2 : Int32) (k1 : Int32) (k2 : Int32) (nn : Int32) (y1 : Int32) (y2 : Int32) (r : Int32) (hc6_1 : ¬ (n < (1 : Int32))) (hc17_91 : x1 < (k1 - (1 : Int32))) (hc26_181 : ¬ (n < (2 : Int32))) (hc37_212 : ¬ (x2 < (k2 - (1 : Int32)))) (hc44_213 : ¬ ((0 : Int32) < 0)) (hc52_214 : r = (1 : Int32)) (hc66_226 : nn < (1 : Int32)) (hc118_227 : ¬ (nn < (2 : Int32))) (hc123_228 : ¬ ((0 : Int32) = (1 : Int32))) (hc139_229 : ¬ ((1 : Int32) = 0)) (hc147_230 : ¬ (y2 = (0 : Int32))) (H :  ((n < 1 ∨ ¬ x1 < (k1 - 1)) ∧ (n < 2 ∨ ¬ x2 < (k2 - 1)) ∧ r = 0 ∧ (nn < 1 ∨ y1 = 0) ∧ (nn < 2 ∨ y2 = 0)) ∨ (¬ n < 1 ∧ x1 < (k1 - 1) ∧ (n < 2 ∨ ¬ x2 < (k2 - 1)) ∧ r = 1 ∧ (nn < 1 ∨ y1 = (x1 + 1)) ∧ (nn < 2 ∨ y2 = 0)) ∨ (¬ n < 2 ∧ x2 < (k2 - 1) ∧ r = 1 ∧ (nn < 1 ∨ y1 = x1) ∧ (nn < 2 ∨ y2 = (x2 + 1)))) : False := by
  have := b32 n
  have := b32 x1
  have := b32 x2
  have := b32 k1
  have := b32 k2
  have := b32 nn
  have := b32 y1
  have := b32 y2
  have := b32 r
  have := c_isub k1 (1 : Int32)
  have := b32 (k1 - (1 : Int32))
  have := c_isub k2 (1 : Int32)
  have := b32 (k2 - (1 : Int32))
  try simp only [Int32.lt_iff_toInt_lt, ← Int32.toInt_inj, Int32.reduceToInt, Int64.lt_iff_toInt_lt, ← Int64.toInt_inj, Int64.reduceToInt, true_and, and_true, true_or, or_true, false_or, or_false, false_and, and_false, not_true_eq_false, not_false_eq_true] at *
  omega
set_option maxRecDepth 65536 in
set_option maxHeartbeats 40000000 in
theorem lf6_62 (n : Int32) (x1 : Int32) (x2 : Int32) (k1 : Int32) (k2 : Int32) (nn : Int32) (y1 : Int32) (y2 : Int32) (r : Int32) (i5_233 : Int32) (hc6_1 : ¬ (n < (1 : Int32))) (hc17_91 : x1 < (k1 - (1 : Int32))) (hc26_181 : ¬ (n < (2 : Int32))) (hc37_212 : ¬ (x2 < (k2 - (1 : Int32)))) (hc44_213 : ¬ ((0 : Int32) < 0)) (hc52_214 : r = (1 : Int32)) (hc66_226 : ¬ (nn < (1 : Int32))) (hc70_231 : ¬ ((0 : Int32) < (0 : Int32))) (hc80_232 : (0 : Int32) = 0) (hi5_233 : i5_233 = (x1 + (1 : Int32))) (hc96_234 : ¬ ((1 : Int32) = 0)) (hc104_235 : ¬ (y1 = i5_233)) (hc118_236 : nn < (2 : Int32)) (H :  ((n < 1 ∨ ¬ x1 < (k1 - 1)) ∧ (n < 2 ∨ ¬ x2 < (k2 - 1)) ∧ r = 0 ∧ (nn < 1 ∨ y1 = 0) ∧ (nn < 2 ∨ y2 = 0)) ∨ (¬ n < 1 ∧ x1 < (k1 - 1) ∧ (n < 2 ∨ ¬ x2 < (k2 - 1)) ∧ r = 1 ∧ (nn < 1 ∨ y1 = (x1 + 1)) ∧ (nn < 2 ∨ y2 = 0)) ∨ (¬ n < 2 ∧ x2 < (k2 - 1) ∧ r = 1 ∧ (nn < 1 ∨ y1 = x1) ∧ (nn < 2 ∨ y2 = (x2 + 1)))) : False := by
  have := b32 n
  have := b32 x1
  have := b32 x2
  have := b32 k1
  have := b32 k2
  have := b32 nn
  have := b32 y1
  have := b32 y2
  have := b32 r
  have := b32 i5_233
  have := c_isub k1 (1 : Int32)
  have := b32 (k1 - (1 : Int32))
  have := c_isub k2 (1 : Int32)
  have := b32 (k2 - (1 : Int32))
  have := c_iadd x1 (1 : Int32)
  have := b32 (x1 + (1 : Int32))
  try simp only [Int32.lt_iff_toInt_lt, ← Int32.toInt_inj, Int32.reduceToInt, Int64.lt_iff_toInt_lt, ← Int64.toInt_inj, Int64.reduceToInt, true_and, and_true, true_or, or_true, false_or, or_false, false_and, and_false, not_true_eq_false, not_false_eq_true] at *
  omega
set_option maxRecDepth 65536 in
set_option maxHeartbeats 40000000 in
theorem lf6_63 (n : Int32) (x1 : Int32) (x2 : Int32) (k1 : Int32) (k2 : Int32) (nn : Int32) (y1 : Int32) (y2 : Int32) (r : Int32) (i5_233 : Int32) (hc6_1 : ¬ (n < (1 : Int32))) (hc17_91 : x1 < (k1 - (1 : Int32))) (hc26_181 : ¬ (n < (2 : Int32))) (hc37_212 : ¬ (x2 < (k2 - (1 : Int32)))) (hc44_213 : ¬ ((0 : Int32) < 0)) (hc52_214 : r = (1 : Int32)) (hc66_226 : ¬ (nn < (1 : Int32))) (hc70_231 : ¬ ((0 : Int32) < (0 : Int32))) (hc80_232 : (0 : Int32) = 0) (hi5_233 : i5_233 = (x1 + (1 : Int32))) (hc96_234 : ¬ ((1 : Int32) = 0)) (hc104_235 : ¬ (y1 = i5_233)) (hc118_236 : ¬ (nn < (2 : Int32))) (hc123_237 : ¬ ((0 : Int32) = (1 : Int32))) (hc139_238 : (0 : Int32) = 0) (H :  ((n < 1 ∨ ¬ x1 < (k1 - 1)) ∧ (n < 2 ∨ ¬ x2 < (k2 - 1)) ∧ r = 0 ∧ (nn < 1 ∨ y1 = 0) ∧ (nn < 2 ∨ y2 = 0)) ∨ (¬ n < 1 ∧ x1 < (k1 - 1) ∧ (n < 2 ∨ ¬ x2 < (k2 - 1)) ∧ r = 1 ∧ (nn < 1 ∨ y1 = (x1 + 1)) ∧ (nn < 2 ∨ y2 = 0)) ∨ (¬ n < 2 ∧ x2 < (k2 - 1) ∧ r = 1 ∧ (nn < 1 ∨ y1 = x1) ∧ (nn < 2 ∨ y2 = (x2 + 1)))) : False := by
  have := b32 n
  have := b32 x1
  have := b32 x2
  have := b32 k1
  have := b32 k2
  have := b32 nn
  have := b32 y1
  have := b32 y2
  have := b32 r
  have := b32 i5_233
  have := c_isub k1 (1 : Int32)
  have := b32 (k1 - (1 : Int32))
  have := c_isub k2 (1 : Int32)
  have := b32 (k2 - (1 : Int32))
  have := c_iadd x1 (1 : Int32)
  have := b32 (x1 + (1 : Int32))
  try simp only [Int32.lt_iff_toInt_lt, ← Int32.toInt_inj, Int32.reduceToInt, Int64.lt_iff_toInt_lt, ← Int64.toInt_inj, Int64.reduceToInt, true_and, and_true, true_or, or_true, false_or, or_false, false_and, and_false, not_true_eq_false, not_false_eq_true] at *
  omega
set_option maxRecDepth 65536 in
set_option maxHeartbeats 40000000 in
theorem lf6_64 (n : Int32) (x1 : Int32) (x2 : Int32) (k1 : Int32) (k2 : Int32) (nn : Int32) (y1 : Int32) (y2 : Int32) (r : Int32) (i5_233 : Int32) (hc6_1 : ¬ (n < (1 : Int32))) (hc17_91 : x1 < (k1 - (1 : Int32))) (hc26_181 : ¬ (n < (2 : Int32))) (hc37_212 : ¬ (x2 < (k2 - (1 : Int32)))) (hc44_213 : ¬ ((0 : Int32) < 0)) (hc52_214 : r = (1 : Int32)) (hc66_226 : ¬ (nn < (1 : Int32))) (hc70_231 : ¬ ((0 : Int32) < (0 : Int32))) (hc80_232 : (0 : Int32) = 0) (hi5_233 : i5_233 = (x1 + (1 : Int32))) (hc96_234 : ¬ ((1 : Int32) = 0)) (hc104_235 : y1 = i5_233) (hc118_239 : ¬ (nn < (2 : Int32))) (hc123_240 : ¬ ((0 : Int32) = (1 : Int32))) (hc139_241 : ¬ ((1 : Int32) = 0)) (hc147_242 : ¬ (y2 = (0 : Int32))) (H :  ((n < 1 ∨ ¬ x1 < (k1 - 1)) ∧ (n < 2 ∨ ¬ x2 < (k2 - 1)) ∧ r = 0 ∧ (nn < 1 ∨ y1 = 0) ∧ (nn < 2 ∨ y2 = 0)) ∨ (¬ n < 1 ∧ x1 < (k1 - 1) ∧ (n < 2 ∨ ¬ x2 < (k2 - 1)) ∧ r = 1 ∧ (nn < 1 ∨ y1 = (x1 + 1)) ∧ (nn < 2 ∨ y2 = 0)) ∨ (¬ n < 2 ∧ x2 < (k2 - 1) ∧ r = 1 ∧ (nn < 1 ∨ y1 = x1) ∧ (nn < 2 ∨ y2 = (x2 + 1)))) : False := by
  have := b32 n
  have := b32 x1
  have := b32 x2
  have := b32 k1
  have := b32 k2
  have := b32 nn
  have := b32 y1
  have := b32 y2
  have := b32 r
  have := b32 i5_233
  have := c_isub k1 (1 : Int32)
  have := b32 (k1 - (1 : Int32))
  have := c_isub k2 (1 : Int32)
  have := b32 (k2 - (1 : Int32))
  have := c_iadd x1 (1 : Int32)
  have := b32 (x1 + (1 : Int32))
  try simp only [Int32.lt_iff_toInt_lt, ← Int32.toInt_inj, Int32.reduceToInt, Int64.lt_iff_toInt_lt, ← Int64.toInt_inj, Int64.reduceToInt, true_and, and_true, true_or, or_true, false_or, or_false, false_and, and_false, not_true_eq_false, not_false_eq_true] at *
  omega
set_option maxRecDepth 65536 in
set_option maxHeartbeats 40000000 in
theorem lf6_65 (n : Int32) (x1 : Int32) (x2 : Int32) (k1 : Int32) (k2 : Int32) (nn : Int32) (y1 : Int32) (y2 : Int32) (r : Int32) (hc6_1 : ¬ (n < (1 : Int32))) (hc17_91 : x1 < (k1 - (1 : Int32))) (hc26_181 : ¬ (n < (2 : Int32))) (hc37_212 : x2 < (k2 - (1 : Int32))) (hc44_243 : ¬ ((1 : Int32) < 0)) (hc52_244 : ¬ (r = (1 : Int32))) (hc66_245 : nn < (1 : Int32)) (hc118_246 : nn < (2 : Int32)) (H :  ((n < 1 ∨ ¬ x1 < (k1 - 1)) ∧ (n < 2 ∨ ¬ x2 < (k2 - 1)) ∧ r = 0 ∧ (nn < 1 ∨ y1 = 0) ∧ (nn < 2 ∨ y2 = 0)) ∨ (¬ n < 1 ∧ x1 < (k1 - 1) ∧ (n < 2 ∨ ¬ x2 < (k2 - 1)) ∧ r = 1 ∧ (nn < 1 ∨ y1 = (x1 + 1)) ∧ (nn < 2 ∨ y2 = 0)) ∨ (¬ n < 2 ∧ x2 < (k2 - 1) ∧ r = 1 ∧ (nn < 1 ∨ y1 = x1) ∧ (nn < 2 ∨ y2 = (x2 + 1)))) : False := by
  have := b32 n
  have := b32 x1
  have := b32 x2
  have := b32 k1
  have := b32 k2
  have := b32 nn
  have := b32 y1
  have := b32 y2
  have := b32 r
  have := c_isub k1 (1 : Int32)
  have := b32 (k1 - (1 : Int32))
  have := c_isub k2 (1 : Int32)
  have := b32 (k2 - (1 : Int32))
  try simp only [Int32.lt_iff_toInt_lt, ← Int32.toInt_inj, Int32.reduceToInt, Int64.lt_iff_toInt_lt, ← Int64.toInt_inj, Int64.reduceToInt, true_and, and_true, true_or, or_true, false_or, or_false, false_and, and_false, not_true_eq_false, not_false_eq_true] at *
  omega
set_option maxRecDepth 65536 in
set_option maxHeartbeats 40000000 in
theorem lf6_66 (n : Int32) (x1 : Int32) (x2 : Int32) (k1 : Int32) (k2 : Int32) (nn : Int32) (y1 : Int32) (y2 : Int32) (r : Int32) (i5_248 : Int32) (hc6_1 : ¬ (n < (1 : Int32))) (hc17_91 : x1 < (k1 - (1 : Int32))) (hc26_181 : ¬ (n < (2 : Int32))) (hc37_212 : x2 < (k2 - (1 : Int32))) (hc44_243 : ¬ ((1 : Int32) < 0)) (hc52_244 : ¬ (r = (1 : Int32))) (hc66_245 : nn < (1 : Int32)) (hc118_246 : ¬ (nn < (2 : Int32))) (hc123_247 : (1 : Int32) = (1 : Int32)) (hi5_248 : i5_248 = (x2 + (1 : Int32))) (hc139_249 : (0 : Int32) = 0) (H :  ((n < 1 ∨ ¬ x1 < (k1 - 1)) ∧ (n < 2 ∨ ¬ x2 < (k2 - 1)) ∧ r = 0 ∧ (nn < 1 ∨ y1 = 0) ∧ (nn < 2 ∨ y2 = 0)) ∨ (¬ n < 1 ∧ x1 < (k1 - 1) ∧ (n < 2 ∨ ¬ x2 < (k2 - 1)) ∧ r = 1 ∧ (nn < 1 ∨ y1 = (x1 + 1)) ∧ (nn < 2 ∨ y2 = 0)) ∨ (¬ n < 2 ∧ x2 < (k2 - 1) ∧ r = 1 ∧ (nn < 1 ∨ y1 = x1) ∧ (nn < 2 ∨ y2 = (x2 + 1)))) : False := by
  have := b32 n
  have := b32 x1
  have := b32 x2
  have := b32 k1
  have := b32 k2
  have := b32 nn
  have := b32 y1
  have := b32 y2
  have := b32 r
  have := b32 i5_248
  have := c_isub k1 (1 : Int32)
  have := b32 (k1 - (1 : Int32))
  have := c_isub k2 (1 : Int32)
  have := b32 (k2 - (1 : Int32))
  have := c_iadd x2 (1 : Int32)
  have := b32 (x2 + (1 : Int32))
  try simp only [Int32.lt_iff_toInt_lt, ← Int32.toInt_inj, Int32.reduceToInt, Int64.lt_iff_toInt_lt, ← Int64.toInt_inj, Int64.reduceToInt, true_and, and_true, true_or, or_true, false_or, or_false, false_and, and_false, not_true_eq_false, not_false_eq_true] at *
  omega
set_option maxRecDepth 65536 in
set_option maxHeartbeats 40000000 in
theorem lf6_67 (n : Int32) (x1 : Int32) (x2 : Int32) (k1 : Int32) (k2 : Int32) (nn : Int32) (y1 : Int32) (y2 : Int32) (r : Int32) (hc6_1 : ¬ (n < (1 : Int32))) (hc17_91 : x1 < (k1 - (1 : Int32))) (hc26_181 : ¬ (n < (2 : Int32))) (hc37_212 : x2 < (k2 - (1 : Int32))) (hc44_243 : ¬ ((1 : Int32) < 0)) (hc52_244 : ¬ (r = (1 : Int32))) (hc66_245 : ¬ (nn < (1 : Int32))) (hc70_250 : (0 : Int32) < (1 : Int32)) (hc96_251 : (0 : Int32) = 0) (hc118_252 : nn < (2 : Int32)) (H :  ((n < 1 ∨ ¬ x1 < (k1 - 1)) ∧ (n < 2 ∨ ¬ x2 < (k2 - 1)) ∧ r = 0 ∧ (nn < 1 ∨ y1 = 0) ∧ (nn < 2 ∨ y2 = 0)) ∨ (¬ n < 1 ∧ x1 < (k1 - 1) ∧ (n < 2 ∨ ¬ x2 < (k2 - 1)) ∧ r = 1 ∧ (nn < 1 ∨ y1 = (x1 + 1)) ∧ (nn < 2 ∨ y2 = 0)) ∨ (¬ n < 2 ∧ x2 < (k2 - 1) ∧ r = 1 ∧ (nn < 1 ∨ y1 = x1) ∧ (nn < 2 ∨ y2 = (x2 + 1)))) : False := by
  have := b32 n
  have := b32 x1
  have := b32 x2
  have := b32 k1
  have := b32 k2
  have := b32 nn
  have := b32 y1
  have := b32 y2
  have := b32 r
  have := c_isub k1 (1 : Int32)
  have := b32 (k1 - (1 : Int32))
  have := c_isub k2 (1 : Int32)
  have := b32 (k2 - (1 : Int32))
  try simp only [Int32.lt_iff_toInt_lt, ← Int32.toInt_inj, Int32.reduceToInt, Int64.lt_iff_toInt_lt, ← Int64.toInt_inj, Int64.reduceToInt, true_and, and_true, true_or, or_true, false_or, or_false, false_and, and_false, not_true_eq_false, not_false_eq_true] at *
  omega
set_option maxRecDepth 65536 in
set_option maxHeartbeats 40000000 in
theorem lf6_68 (n : Int32) (x1 : Int32) (x2 : Int32) (k1 : Int32) (k2 : Int32) (nn : Int32) (y1 : Int32) (y2 : Int32) (r : Int32) (i5_254 : Int32) (hc6_1 : ¬ (n < (1 : Int32))) (hc17_91 : x1 < (k1 - (1 : Int32))) (hc26_181 : ¬ (n < (2 : Int32))) (hc37_212 : x2 < (k2 - (1 : Int32))) (hc44_243 : ¬ ((1 : Int32) < 0)) (hc52_244 : ¬ (r = (1 : Int32))) (hc66_245 : ¬ (nn < (1 : Int32))) (hc70_250 : (0 : Int32) < (1 : Int32)) (hc96_251 : (0 : Int32) = 0) (hc118_252 : ¬ (nn < (2 : Int32))) (hc123_253 : (1 : Int32) = (1 : Int32)) (hi5_254 : i5_254 = (x2 + (1 : Int32))) (hc139_255 : (0 : Int32) = 0) (H :  ((n < 1 ∨ ¬ x1 < (k1 - 1)) ∧ (n < 2 ∨ ¬ x2 < (k2 - 1)) ∧ r = 0 ∧ (nn < 1 ∨ y1 = 0) ∧ (nn < 2 ∨ y2 = 0)) ∨ (¬ n < 1 ∧ x1 < (k1 - 1) ∧ (n < 2 ∨ ¬ x2 < (k2 - 1)) ∧ r = 1 ∧ (nn < 1 ∨ y1 = (x1 + 1)) ∧ (nn < 2 ∨ y2 = 0)) ∨ (¬ n < 2 ∧ x2 < (k2 - 1) ∧ r = 1 ∧ (nn < 1 ∨ y1 = x1) ∧ (nn < 2 ∨ y2 = (x2 + 1)))) : False := by
  have := b32 n
  have := b32 x1
  have := b32 x2
  have := b32 k1
  have := b32 k2
  have := b32 nn
  have := b32 y1
  have := b32 y2
  have := b32 r
  have := b32 i5_254
  have := c_isub k1 (1 : Int32)
  have := b32 (k1 - (1 : Int32))
  have := c_isub k2 (1 : Int32)
  have := b32 (k2 - (1 : Int32))
  have := c_iadd x2 (1 : Int32)
  have := b32 (x2 + (1 : Int32))
  try simp only [Int32.lt_iff_toInt_lt, ← Int32.toInt_inj, Int32.reduceToInt, Int64.lt_iff_toInt_lt, ← Int64.toInt_inj, Int64.reduceToInt, true_and, and_true, true_or, or_true, false_or, or_false, false_and, and_false, not_true_eq_false, not_false_eq_true] at *
  omega
set_option maxRecDepth 65536 in
set_option maxHeartbeats 40000000 in
theorem lf6_69 (n : Int32) (x1 : Int32) (x2 : Int32) (k1 : Int32) (k2 : Int32) (nn : Int32) (y1 : Int32) (y2 : Int32) (r : Int32) (i5_259 : Int32) (hc6_1 : ¬ (n < (1 : Int32))) (hc17_91 : x1 < (k1 - (1 : Int32))) (hc26_181 : ¬ (n < (2 : Int32))) (hc37_212 : x2 < (k2 - (1 : Int32))) (hc44_243 : ¬ ((1 : Int32) < 0)) (hc52_244 : r = (1 : Int32)) (hc66_256 : nn < (1 : Int32)) (hc118_257 : ¬ (nn < (2 : Int32))) (hc123_258 : (1 : Int32) = (1 : Int32)) (hi5_259 : i5_259 = (x2 + (1 : Int32))) (hc139_260 : ¬ ((1 : Int32) = 0)) (hc147_261 : ¬ (y2 = i5_259)) (H :  ((n < 1 ∨ ¬ x1 < (k1 - 1)) ∧ (n < 2 ∨ ¬ x2 < (k2 - 1)) ∧ r = 0 ∧ (nn < 1 ∨ y1 = 0) ∧ (nn < 2 ∨ y2 = 0)) ∨ (¬ n < 1 ∧ x1 < (k1 - 1) ∧ (n < 2 ∨ ¬ x2 < (k2 - 1)) ∧ r = 1 ∧ (nn < 1 ∨ y1 = (x1 + 1)) ∧ (nn < 2 ∨ y2 = 0)) ∨ (¬ n < 2 ∧ x2 < (k2 - 1) ∧ r = 1 ∧ (nn < 1 ∨ y1 = x1) ∧ (nn < 2 ∨ y2 = (x2 + 1)))) : False := by
  have := b32 n
  have := b32 x1
  have := b32 x2
  have := b32 k1
  have := b32 k2
  have := b32 nn
  have := b32 y1
  have := b32 y2
  have := b32 r
  have := b32 i5_259
  have := c_isub k1 (1 : Int32)
  have := b32 (k1 - (1 : Int32))
  have := c_isub k2 (1 : Int32)
  have := b32 (k2 - (1 : Int32))
  have := c_iadd x2 (1 : Int32)
  have := b32 (x2 + (1 : Int32))
  try simp only [Int32.lt_iff_toInt_lt, ← Int32.toInt_inj, Int32.reduceToInt, Int64.lt_iff_toInt_lt, ← Int64.toInt_inj, Int64.reduceToInt, true_and, and_true, true_or, or_true, false_or, or_false, false_and, and_false, not_true_eq_false, not_false_eq_true] at *
  omega
set_option maxRecDepth 65536 in
set_option maxHeartbeats 40000000 in
theorem lf6_70 (n : Int32) (x1 : Int32) (x2 : Int32) (k1 : Int32) (k2 : Int32) (nn : Int32) (y1 : Int32) (y2 : Int32) (r : Int32) (hc6_1 : ¬ (n < (1 : Int32))) (hc17_91 : x1 < (k1 - (1 : Int32))) (hc26_181 : ¬ (n < (2 : Int32))) (hc37_212 : x2 < (k2 - (1 : Int32))) (hc44_243 : ¬ ((1 : Int32) < 0)) (hc52_244 : r = (1 : Int32)) (hc66_256 : ¬ (nn < (1 : Int32))) (hc70_262 : (0 : Int32) < (1 : Int32)) (hc96_263 : ¬ ((1 : Int32) = 0)) (hc104_264 : ¬ (y1 = x1)) (hc118_265 : nn < (2 : Int32)) (H :  ((n < 1 ∨ ¬ x1 < (k1 - 1)) ∧ (n < 2 ∨ ¬ x2 < (k2 - 1)) ∧ r = 0 ∧ (nn < 1 ∨ y1 = 0) ∧ (nn < 2 ∨ y2 = 0)) ∨ (¬ n < 1 ∧ x1 < (k1 - 1) ∧ (n < 2 ∨ ¬ x2 < (k2 - 1)) ∧ r = 1 ∧ (nn < 1 ∨ y1 = (x1 + 1)) ∧ (nn < 2 ∨ y2 = 0)) ∨ (¬ n < 2 ∧ x2 < (k2 - 1) ∧ r = 1 ∧ (nn < 1 ∨ y1 = x1) ∧ (nn < 2 ∨ y2 = (x2 + 1)))) : False := by
  have := b32 n
  have := b32 x1
  have := b32 x2
  have := b32 k1
  have := b32 k2
  have := b32 nn
  have := b32 y1
  have := b32 y2
  have := b32 r
  have := c_isub k1 (1 : Int32)
  have := b32 (k1 - (1 : Int32))
  have := c_isub k2 (1 : Int32)
  have := b32 (k2 - (1 : Int32))
  try simp only [Int32.lt_iff_toInt_lt, ← Int32.toInt_inj, Int32.reduceToInt, Int64.lt_iff_toInt_lt, ← Int64.toInt_inj, Int64.reduceToInt, true_and, and_true, true_or, or_true, false_or, or_false, false_and, and_false, not_true_eq_false, not_false_eq_true] at *
  omega
set_option maxRecDepth 65536 in
set_option maxHeartbeats 40000000 in
theorem lf6_71 (n : Int32) (x1 : Int32) (x2 : Int32) (k1 : Int32) (k2 : Int32) (nn : Int32) (y1 : Int32) (y2 : Int32) (r : Int32) (i5_267 : Int32) (hc6_1 : ¬ (n < (1 : Int32))) (hc17_91 : x1 < (k1 - (1 : Int32))) (hc26_181 : ¬ (n < (2 : Int32))) (hc37_212 : x2 < (k2 - (1 : Int32))) (hc44_243 : ¬ ((1 : Int32) < 0)) (hc52_244 : r = (1 : Int32)) (hc66_256 : ¬ (nn < (1 : Int32))) (hc70_262 : (0 : Int32) < (1 : Int32)) (hc96_263 : ¬ ((1 : Int32) = 0)) (hc104_264 : ¬ (y1 = x1)) (hc118_265 : ¬ (nn < (2 : Int32))) (hc123_266 : (1 : Int32) = (1 : Int32)) (hi5_267 : i5_267 = (x2 + (1 : Int32))) (hc139_268 : (0 : Int32) = 0) (H :  ((n < 1 ∨ ¬ x1 < (k1 - 1)) ∧ (n < 2 ∨ ¬ x2 < (k2 - 1)) ∧ r = 0 ∧ (nn < 1 ∨ y1 = 0) ∧ (nn < 2 ∨ y2 = 0)) ∨ (¬ n < 1 ∧ x1 < (k1 - 1) ∧ (n < 2 ∨ ¬ x2 < (k2 - 1)) ∧ r = 1 ∧ (nn < 1 ∨ y1 = (x1 + 1)) ∧ (nn < 2 ∨ y2 = 0)) ∨ (¬ n < 2 ∧ x2 < (k2 - 1) ∧ r = 1 ∧ (nn < 1 ∨ y1 = x1) ∧ (nn < 2 ∨ y2 = (x2 + 1)))) : False := by
  have := b32 n
  have := b32 x1
  have := b32 x2
  have := b32 k1
  have := b32 k2
  have := b32 nn
  have := b32 y1
  have := b32 y2
  have := b32 r
  have := b32 i5_267
  have := c_isub k1 (1 : Int32)
  have := b32 (k1 - (1 : Int32))
  have := c_isub k2 (1 : Int32)
  have := b32 (k2 - (1 : Int32))
  have := c_iadd x2 (1 : Int32)
  have := b32 (x2 + (1 : Int32))
  try simp only [Int32.lt_iff_toInt_lt, ← Int32.toInt_inj, Int32.reduceToInt, Int64.lt_iff_toInt_lt, ← Int64.toInt_inj, Int64.reduceToInt, true_and, and_true, true_or, or_true, false_or, or_false, false_and, and_false, not_true_eq_false, not_false_eq_true] at *
  omega
set_option maxRecDepth 65536 in
set_option maxHeartbeats 40000000 in
theorem lf6_72 (n : Int32) (x1 : Int32) (x2 : Int32) (k1 : Int32) (k2 : Int32) (nn : Int32) (y1 : Int32) (y2 : Int32) (r : Int32) (i5_271 : Int32) (hc6_1 : ¬ (n < (1 : Int32))) (hc17_91 : x1 < (k1 - (1 : Int32))) (hc26_181 : ¬ (n < (2 : Int32))) (hc37_212 : x2 < (k2 - (1 : Int32))) (hc44_243 : ¬ ((1 : Int32) < 0)) (hc52_244 : r = (1 : Int32)) (hc66_256 : ¬ (nn < (1 : Int32))) (hc70_262 : (0 : Int32) < (1 : Int32)) (hc96_263 : ¬ ((1 : Int32) = 0)) (hc104_264 : y1 = x1) (hc118_269 : ¬ (nn < (2 : Int32))) (hc123_270 : (1 : Int32) = (1 : Int32)) (hi5_271 : i5_271 = (x2 + (1 : Int32))) (hc139_272 : ¬ ((1 : Int32) = 0)) (hc147_273 : ¬ (y2 = i5_271)) (H :  ((n < 1 ∨ ¬ x1 < (k1 - 1)) ∧ (n < 2 ∨ ¬ x2 < (k2 - 1)) ∧ r = 0 ∧ (nn < 1 ∨ y1 = 0) ∧ (nn < 2 ∨ y2 = 0)) ∨ (¬ n < 1 ∧ x1 < (k1 - 1) ∧ (n < 2 ∨ ¬ x2 < (k2 - 1)) ∧ r = 1 ∧ (nn < 1 ∨ y1 = (x1 + 1)) ∧ (nn < 2 ∨ y2 = 0)) ∨ (¬ n < 2 ∧ x2 < (k2 - 1) ∧ r = 1 ∧ (nn < 1 ∨ y1 = x1) ∧ (nn < 2 ∨ y2 = (x2 + 1)))) : False := by
  have := b32 n
  have := b32 x1
  have := b32 x2
  have := b32 k1
  have := b32 k2
  have := b32 nn
  have := b32 y1
  have := b32 y2
  have := b32 r
  have := b32 i5_271
  have := c_isub k1 (1 : Int32)
  have := b32 (k1 - (1 : Int32))
  have := c_isub k2 (1 : Int32)
  have := b32 (k2 - (1 : Int32))
  have := c_iadd x2 (1 : Int32)
  have := b32 (x2 + (1 : Int32))
  try simp only [Int32.lt_iff_toInt_lt, ← Int32.toInt_inj, Int32.reduceToInt, Int64.lt_iff_toInt_lt, ← Int64.toInt_inj, Int64.reduceToInt, true_and, and_true, true_or, or_true, false_or, or_false, false_and, and_false, not_true_eq_false, not_false_eq_true] at *
  omega
theorem d6_0 : decode method_5_code 0 = .ok (.iconst (-1), 1) := by decide +kernel
theorem d6_1 : decode method_5_code 1 = .ok (.istore_n 3, 1) := by decide +kernel
theorem d6_2 : decode method_5_code 2 = .ok (.aload_n 0, 1) := by decide +kernel
theorem d6_3 : decode method_5_code 3 = .ok (.iconst 0, 1) := by decide +kernel
theorem d6_4 : decode method_5_code 4 = .ok (.iaload, 1) := by decide +kernel
theorem d6_5 : decode method_5_code 5 = .ok (.iconst 1, 1) := by decide +kernel
theorem d6_6 : decode method_5_code 6 = .ok (.if_icmp .lt 16, 3) := by decide +kernel
theorem d6_9 : decode method_5_code 9 = .ok (.aload_n 0, 1) := by decide +kernel
theorem d6_10 : decode method_5_code 10 = .ok (.iconst 1, 1) := by decide +kernel
theorem d6_11 : decode method_5_code 11 = .ok (.iaload, 1) := by decide +kernel
theorem d6_12 : decode method_5_code 12 = .ok (.aload_n 0, 1) := by decide +kernel
theorem d6_13 : decode method_5_code 13 = .ok (.iconst 3, 1) := by decide +kernel
theorem d6_14 : decode method_5_code 14 = .ok (.iaload, 1) := by decide +kernel
theorem d6_15 : decode method_5_code 15 = .ok (.iconst 1, 1) := by decide +kernel
theorem d6_16 : decode method_5_code 16 = .ok (.isub, 1) := by decide +kernel
theorem d6_17 : decode method_5_code 17 = .ok (.if_icmp .ge 5, 3) := by decide +kernel
theorem d6_20 : decode method_5_code 20 = .ok (.iconst 0, 1) := by decide +kernel
theorem d6_21 : decode method_5_code 21 = .ok (.istore_n 3, 1) := by decide +kernel
theorem d6_22 : decode method_5_code 22 = .ok (.aload_n 0, 1) := by decide +kernel
theorem d6_23 : decode method_5_code 23 = .ok (.iconst 0, 1) := by decide +kernel
theorem d6_24 : decode method_5_code 24 = .ok (.iaload, 1) := by decide +kernel
theorem d6_25 : decode method_5_code 25 = .ok (.iconst 2, 1) := by decide +kernel
theorem d6_26 : decode method_5_code 26 = .ok (.if_icmp .lt 16, 3) := by decide +kernel
theorem d6_29 : decode method_5_code 29 = .ok (.aload_n 0, 1) := by decide +kernel
theorem d6_30 : decode method_5_code 30 = .ok (.iconst 2, 1) := by decide +kernel
theorem d6_31 : decode method_5_code 31 = .ok (.iaload, 1) := by decide +kernel
theorem d6_32 : decode method_5_code 32 = .ok (.aload_n 0, 1) := by decide +kernel
theorem d6_33 : decode method_5_code 33 = .ok (.iconst 4, 1) := by decide +kernel
theorem d6_34 : decode method_5_code 34 = .ok (.iaload, 1) := by decide +kernel
theorem d6_35 : decode method_5_code 35 = .ok (.iconst 1, 1) := by decide +kernel
theorem d6_36 : decode method_5_code 36 = .ok (.isub, 1) := by decide +kernel
theorem d6_37 : decode method_5_code 37 = .ok (.if_icmp .ge 5, 3) := by decide +kernel
theorem d6_40 : decode method_5_code 40 = .ok (.iconst 1, 1) := by decide +kernel
theorem d6_41 : decode method_5_code 41 = .ok (.istore_n 3, 1) := by decide +kernel
theorem d6_42 : decode method_5_code 42 = .ok (.iload_n 2, 1) := by decide +kernel
theorem d6_43 : decode method_5_code 43 = .ok (.iload_n 3, 1) := by decide +kernel
theorem d6_44 : decode method_5_code 44 = .ok (.ifCond .lt 7, 3) := by decide +kernel
theorem d6_47 : decode method_5_code 47 = .ok (.iconst 1, 1) := by decide +kernel
theorem d6_48 : decode method_5_code 48 = .ok (.goto 4, 3) := by decide +kernel
theorem d6_51 : decode method_5_code 51 = .ok (.iconst 0, 1) := by decide +kernel
theorem d6_52 : decode method_5_code 52 = .ok (.if_icmp .ne 7, 3) := by decide +kernel
theorem d6_55 : decode method_5_code 55 = .ok (.iconst 1, 1) := by decide +kernel
theorem d6_56 : decode method_5_code 56 = .ok (.goto 4, 3) := by decide +kernel
theorem d6_59 : decode method_5_code 59 = .ok (.iconst 0, 1) := by decide +kernel
theorem d6_60 : decode method_5_code 60 = .ok (.istore 4, 2) := by decide +kernel
theorem d6_62 : decode method_5_code 62 = .ok (.aload_n 1, 1) := by decide +kernel
theorem d6_63 : decode method_5_code 63 = .ok (.iconst 0, 1) := by decide +kernel
theorem d6_64 : decode method_5_code 64 = .ok (.iaload, 1) := by decide +kernel
theorem d6_65 : decode method_5_code 65 = .ok (.iconst 1, 1) := by decide +kernel
theorem d6_66 : decode method_5_code 66 = .ok (.if_icmp .lt 48, 3) := by decide +kernel
theorem d6_69 : decode method_5_code 69 = .ok (.iload_n 3, 1) := by decide +kernel
theorem d6_70 : decode method_5_code 70 = .ok (.ifCond .le 9, 3) := by decide +kernel
theorem d6_73 : decode method_5_code 73 = .ok (.aload_n 0, 1) := by decide +kernel
theorem d6_74 : decode method_5_code 74 = .ok (.iconst 1, 1) := by decide +kernel
theorem d6_75 : decode method_5_code 75 = .ok (.iaload, 1) := by decide +kernel
theorem d6_76 : decode method_5_code 76 = .ok (.goto 16, 3) := by decide +kernel
theorem d6_79 : decode method_5_code 79 = .ok (.iload_n 3, 1) := by decide +kernel
theorem d6_80 : decode method_5_code 80 = .ok (.ifCond .ne 11, 3) := by decide +kernel
theorem d6_83 : decode method_5_code 83 = .ok (.aload_n 0, 1) := by decide +kernel
theorem d6_84 : decode method_5_code 84 = .ok (.iconst 1, 1) := by decide +kernel
theorem d6_85 : decode method_5_code 85 = .ok (.iaload, 1) := by decide +kernel
theorem d6_86 : decode method_5_code 86 = .ok (.iconst 1, 1) := by decide +kernel
theorem d6_87 : decode method_5_code 87 = .ok (.iadd, 1) := by decide +kernel
theorem d6_88 : decode method_5_code 88 = .ok (.goto 4, 3) := by decide +kernel
theorem d6_91 : decode method_5_code 91 = .ok (.iconst 0, 1) := by decide +kernel
theorem d6_92 : decode method_5_code 92 = .ok (.istore 5, 2) := by decide +kernel
theorem d6_94 : decode method_5_code 94 = .ok (.iload 4, 2) := by decide +kernel
theorem d6_96 : decode method_5_code 96 = .ok (.ifCond .eq 15, 3) := by decide +kernel
theorem d6_99 : decode method_5_code 99 = .ok (.aload_n 1, 1) := by decide +kernel
theorem d6_100 : decode method_5_code 100 = .ok (.iconst 1, 1) := by decide +kernel
theorem d6_101 : decode method_5_code 101 = .ok (.iaload, 1) := by decide +kernel
theorem d6_102 : decode method_5_code 102 = .ok (.iload 5, 2) := by decide +kernel
theorem d6_104 : decode method_5_code 104 = .ok (.if_icmp .ne 7, 3) := by decide +kernel
theorem d6_107 : decode method_5_code 107 = .ok (.iconst 1, 1) := by decide +kernel
theorem d6_108 : decode method_5_code 108 = .ok (.goto 4, 3) := by decide +kernel
theorem d6_111 : decode method_5_code 111 = .ok (.iconst 0, 1) := by decide +kernel
theorem d6_112 : decode method_5_code 112 = .ok (.istore 4, 2) := by decide +kernel
theorem d6_114 : decode method_5_code 114 = .ok (.aload_n 1, 1) := by decide +kernel
theorem d6_115 : decode method_5_code 115 = .ok (.iconst 0, 1) := by decide +kernel
theorem d6_116 : decode method_5_code 116 = .ok (.iaload, 1) := by decide +kernel
theorem d6_117 : decode method_5_code 117 = .ok (.iconst 2, 1) := by decide +kernel
theorem d6_118 : decode method_5_code 118 = .ok (.if_icmp .lt 39, 3) := by decide +kernel
theorem d6_121 : decode method_5_code 121 = .ok (.iload_n 3, 1) := by decide +kernel
theorem d6_122 : decode method_5_code 122 = .ok (.iconst 1, 1) := by decide +kernel
theorem d6_123 : decode method_5_code 123 = .ok (.if_icmp .ne 11, 3) := by decide +kernel
theorem d6_126 : decode method_5_code 126 = .ok (.aload_n 0, 1) := by decide +kernel
theorem d6_127 : decode method_5_code 127 = .ok (.iconst 2, 1) := by decide +kernel
theorem d6_128 : decode method_5_code 128 = .ok (.iaload, 1) := by decide +kernel
theorem d6_129 : decode method_5_code 129 = .ok (.iconst 1, 1) := by decide +kernel
theorem d6_130 : decode method_5_code 130 = .ok (.iadd, 1) := by decide +kernel
theorem d6_131 : decode method_5_code 131 = .ok (.goto 4, 3) := by decide +kernel
theorem d6_134 : decode method_5_code 134 = .ok (.iconst 0, 1) := by decide +kernel
theorem d6_135 : decode method_5_code 135 = .ok (.istore 5, 2) := by decide +kernel
theorem d6_137 : decode method_5_code 137 = .ok (.iload 4, 2) := by decide +kernel
theorem d6_139 : decode method_5_code 139 = .ok (.ifCond .eq 15, 3) := by decide +kernel
theorem d6_142 : decode method_5_code 142 = .ok (.aload_n 1, 1) := by decide +kernel
theorem d6_143 : decode method_5_code 143 = .ok (.iconst 2, 1) := by decide +kernel
theorem d6_144 : decode method_5_code 144 = .ok (.iaload, 1) := by decide +kernel
theorem d6_145 : decode method_5_code 145 = .ok (.iload 5, 2) := by decide +kernel
theorem d6_147 : decode method_5_code 147 = .ok (.if_icmp .ne 7, 3) := by decide +kernel
theorem d6_150 : decode method_5_code 150 = .ok (.iconst 1, 1) := by decide +kernel
theorem d6_151 : decode method_5_code 151 = .ok (.goto 4, 3) := by decide +kernel
theorem d6_154 : decode method_5_code 154 = .ok (.iconst 0, 1) := by decide +kernel
theorem d6_155 : decode method_5_code 155 = .ok (.istore 4, 2) := by decide +kernel
theorem d6_157 : decode method_5_code 157 = .ok (.iload 4, 2) := by decide +kernel
theorem d6_159 : decode method_5_code 159 = .ok (.ireturn, 1) := by decide +kernel
set_option maxRecDepth 65536 in
set_option maxHeartbeats 40000000 in
theorem rm_fo {l : Launch} {Z : State} {a0 : Array Value} (hw : ∀ d ∈ tables_1, d.before a0 Z = true) (A B : Addr) (n x1 x2 k1 k2 nn y1 y2 j1 j2 r : Int32) (h : Heap) (n0 : Nat) (zn : n0 ≤ h.size) (V_A : PA Z h A .int [n, x1, x2, k1, k2]) (V_B : PA Z h B .int [nn, y1, y2, j1, j2]) (H :  ((n < 1 ∨ ¬ x1 < (k1 - 1)) ∧ (n < 2 ∨ ¬ x2 < (k2 - 1)) ∧ r = 0 ∧ (nn < 1 ∨ y1 = 0) ∧ (nn < 2 ∨ y2 = 0)) ∨ (¬ n < 1 ∧ x1 < (k1 - 1) ∧ (n < 2 ∨ ¬ x2 < (k2 - 1)) ∧ r = 1 ∧ (nn < 1 ∨ y1 = (x1 + 1)) ∧ (nn < 2 ∨ y2 = 0)) ∨ (¬ n < 2 ∧ x2 < (k2 - 1) ∧ r = 1 ∧ (nn < 1 ∨ y1 = x1) ∧ (nn < 2 ∨ y2 = (x2 + 1)))) :
    Met l Z (⟨"com/example/vigilant_mailbox/vigilantmailbox/engine/ChoicesNextPinLaw", "follows", "([I[IZ)Z"⟩ : MethodName) method_5_code 6 (some .boolean) [] ({ frames := 0, cells := 0, slots := 0, locals := 0 } : Room) #[(.ref A), (.ref B), (.int r)] h n0 (RI fun r h' => h' = h ∧ r = (1 : Int32)) := by
  refine start (ls := #[.val (.ref A), .val (.ref B), .val (.int r), .unset, .unset, .unset]) (plainFor_of_name pn7) (fun m => by first | (simp [entryFrame, mkF, argsToLocals, Value.category]; done) | rfl) ?_
  intro p e s m below meth c T G w X
  refine iconst w X (-1 : Int32) d6_0 1 rfl rfl ?_
  refine istoreN w X (-1 : Int32) d6_1 2 rfl rfl #[.val (.ref A), .val (.ref B), .val (.int r), .val (.int (-1 : Int32)), .unset, .unset] rfl ?_
  refine aloadN w X d6_2 3 rfl rfl rfl ?_
  refine iconst w X (0 : Int32) d6_3 4 rfl rfl ?_
  refine iaload w X V_A (by decide) 0 rfl (Nat.le_of_ble_eq_true rfl) d6_4 5 rfl n rfl ?_
  refine iconst w X (1 : Int32) d6_5 6 rfl rfl ?_
  refine icmp_lt w X d6_6 22 9 (by decide) (by decide) rfl (fun hc6_1 => ?_) (fun hc6_1 => ?_)
  ·
    refine aloadN w X d6_22 23 rfl rfl rfl ?_
    refine iconst w X (0 : Int32) d6_23 24 rfl rfl ?_
    refine iaload w X V_A (by decide) 0 rfl (Nat.le_of_ble_eq_true rfl) d6_24 25 rfl n rfl ?_
    refine iconst w X (2 : Int32) d6_25 26 rfl rfl ?_
    refine icmp_lt w X d6_26 42 29 (by decide) (by decide) rfl (fun hc26_2 => ?_) (fun hc26_2 => ?_)
    ·
      refine iloadN w X d6_42 43 rfl rfl ?_
      refine iloadN w X d6_43 44 rfl rfl ?_
      refine if_lt w X d6_44 51 47 (by decide) (by decide) rfl (fun hc44_3 => ?_) (fun q => absurd q (by decide))
      refine iconst w X (0 : Int32) d6_51 52 rfl rfl ?_
      refine icmp_ne w X d6_52 59 55 (by decide) (by decide) rfl (fun hc52_4 => ?_) (fun hc52_4 => ?_)
      ·
        refine iconst w X (0 : Int32) d6_59 60 rfl rfl ?_
        refine istore w X (0 : Int32) d6_60 62 rfl rfl #[.val (.ref A), .val (.ref B), .val (.int r), .val (.int (-1 : Int32)), .val (.int (0 : Int32)), .unset] rfl ?_
        refine aloadN w X d6_62 63 rfl rfl rfl ?_
        refine iconst w X (0 : Int32) d6_63 64 rfl rfl ?_
        refine iaload w X V_B (by decide) 0 rfl (Nat.le_of_ble_eq_true rfl) d6_64 65 rfl nn rfl ?_
        refine iconst w X (1 : Int32) d6_65 66 rfl rfl ?_
        refine icmp_lt w X d6_66 114 69 (by decide) (by decide) rfl (fun hc66_5 => ?_) (fun hc66_5 => ?_)
        ·
          refine aloadN w X d6_114 115 rfl rfl rfl ?_
          refine iconst w X (0 : Int32) d6_115 116 rfl rfl ?_
          refine iaload w X V_B (by decide) 0 rfl (Nat.le_of_ble_eq_true rfl) d6_116 117 rfl nn rfl ?_
          refine iconst w X (2 : Int32) d6_117 118 rfl rfl ?_
          refine icmp_lt w X d6_118 157 121 (by decide) (by decide) rfl (fun hc118_6 => ?_) (fun hc118_6 => ?_)
          ·
            refine iload w X d6_157 159 rfl rfl ?_
            refine retN w X (t := .boolean) rfl (by simp) d6_159 (by decide) (by decide) ?_
            exact (lf6_1 n x1 x2 k1 k2 nn y1 y2 r hc6_1 hc26_2 hc44_3 hc52_4 hc66_5 hc118_6 H).elim
          ·
            refine iloadN w X d6_121 122 rfl rfl ?_
            refine iconst w X (1 : Int32) d6_122 123 rfl rfl ?_
            refine icmp_ne w X d6_123 134 126 (by decide) (by decide) rfl (fun hc123_7 => ?_) (fun q => absurd q (by decide))
            refine iconst w X (0 : Int32) d6_134 135 rfl rfl ?_
            refine istore w X (0 : Int32) d6_135 137 rfl rfl #[.val (.ref A), .val (.ref B), .val (.int r), .val (.int (-1 : Int32)), .val (.int (0 : Int32)), .val (.int (0 : Int32))] rfl ?_
            refine iload w X d6_137 139 rfl rfl ?_
            refine if_eq w X d6_139 154 142 (by decide) (by decide) rfl (fun hc139_8 => ?_) (fun q => absurd q (by decide))
            refine iconst w X (0 : Int32) d6_154 155 rfl rfl ?_
            refine istore w X (0 : Int32) d6_155 157 rfl rfl #[.val (.ref A), .val (.ref B), .val (.int r), .val (.int (-1 : Int32)), .val (.int (0 : Int32)), .val (.int (0 : Int32))] rfl ?_
            refine iload w X d6_157 159 rfl rfl ?_
            refine retN w X (t := .boolean) rfl (by simp) d6_159 (by decide) (by decide) ?_
            exact (lf6_2 n x1 x2 k1 k2 nn y1 y2 r hc6_1 hc26_2 hc44_3 hc52_4 hc66_5 hc118_6 hc123_7 hc139_8 H).elim
        ·
          refine iloadN w X d6_69 70 rfl rfl ?_
          refine if_le w X d6_70 79 73 (by decide) (by decide) rfl (fun hc70_9 => ?_) (fun q => absurd q (by decide))
          refine iloadN w X d6_79 80 rfl rfl ?_
          refine if_ne w X d6_80 91 83 (by decide) (by decide) rfl (fun hc80_10 => ?_) (fun q => absurd q (by decide))
          refine iconst w X (0 : Int32) d6_91 92 rfl rfl ?_
          refine istore w X (0 : Int32) d6_92 94 rfl rfl #[.val (.ref A), .val (.ref B), .val (.int r), .val (.int (-1 : Int32)), .val (.int (0 : Int32)), .val (.int (0 : Int32))] rfl ?_
          refine iload w X d6_94 96 rfl rfl ?_
          refine if_eq w X d6_96 111 99 (by decide) (by decide) rfl (fun hc96_11 => ?_) (fun q => absurd q (by decide))
          refine iconst w X (0 : Int32) d6_111 112 rfl rfl ?_
          refine istore w X (0 : Int32) d6_112 114 rfl rfl #[.val (.ref A), .val (.ref B), .val (.int r), .val (.int (-1 : Int32)), .val (.int (0 : Int32)), .val (.int (0 : Int32))] rfl ?_
          refine aloadN w X d6_114 115 rfl rfl rfl ?_
          refine iconst w X (0 : Int32) d6_115 116 rfl rfl ?_
          refine iaload w X V_B (by decide) 0 rfl (Nat.le_of_ble_eq_true rfl) d6_116 117 rfl nn rfl ?_
          refine iconst w X (2 : Int32) d6_117 118 rfl rfl ?_
          refine icmp_lt w X d6_118 157 121 (by decide) (by decide) rfl (fun hc118_12 => ?_) (fun hc118_12 => ?_)
          ·
            refine iload w X d6_157 159 rfl rfl ?_
            refine retN w X (t := .boolean) rfl (by simp) d6_159 (by decide) (by decide) ?_
            exact (lf6_3 n x1 x2 k1 k2 nn y1 y2 r hc6_1 hc26_2 hc44_3 hc52_4 hc66_5 hc70_9 hc80_10 hc96_11 hc118_12 H).elim
          ·
            refine iloadN w X d6_121 122 rfl rfl ?_
            refine iconst w X (1 : Int32) d6_122 123 rfl rfl ?_
            refine icmp_ne w X d6_123 134 126 (by decide) (by decide) rfl (fun hc123_13 => ?_) (fun q => absurd q (by decide))
            refine iconst w X (0 : Int32) d6_134 135 rfl rfl ?_
            refine istore w X (0 : Int32) d6_135 137 rfl rfl #[.val (.ref A), .val (.ref B), .val (.int r), .val (.int (-1 : Int32)), .val (.int (0 : Int32)), .val (.int (0 : Int32))] rfl ?_
            refine iload w X d6_137 139 rfl rfl ?_
            refine if_eq w X d6_139 154 142 (by decide) (by decide) rfl (fun hc139_14 => ?_) (fun q => absurd q (by decide))
            refine iconst w X (0 : Int32) d6_154 155 rfl rfl ?_
            refine istore w X (0 : Int32) d6_155 157 rfl rfl #[.val (.ref A), .val (.ref B), .val (.int r), .val (.int (-1 : Int32)), .val (.int (0 : Int32)), .val (.int (0 : Int32))] rfl ?_
            refine iload w X d6_157 159 rfl rfl ?_
            refine retN w X (t := .boolean) rfl (by simp) d6_159 (by decide) (by decide) ?_
            exact (lf6_4 n x1 x2 k1 k2 nn y1 y2 r hc6_1 hc26_2 hc44_3 hc52_4 hc66_5 hc70_9 hc80_10 hc96_11 hc118_12 hc123_13 hc139_14 H).elim
      ·
        refine iconst w X (1 : Int32) d6_55 56 rfl rfl ?_
        refine goto w X d6_56 60 (by decide) (by decide) ?_
        refine istore w X (1 : Int32) d6_60 62 rfl rfl #[.val (.ref A), .val (.ref B), .val (.int r), .val (.int (-1 : Int32)), .val (.int (1 : Int32)), .unset] rfl ?_
        refine aloadN w X d6_62 63 rfl rfl rfl ?_
        refine iconst w X (0 : Int32) d6_63 64 rfl rfl ?_
        refine iaload w X V_B (by decide) 0 rfl (Nat.le_of_ble_eq_true rfl) d6_64 65 rfl nn rfl ?_
        refine iconst w X (1 : Int32) d6_65 66 rfl rfl ?_
        refine icmp_lt w X d6_66 114 69 (by decide) (by decide) rfl (fun hc66_15 => ?_) (fun hc66_15 => ?_)
        ·
          refine aloadN w X d6_114 115 rfl rfl rfl ?_
          refine iconst w X (0 : Int32) d6_115 116 rfl rfl ?_
          refine iaload w X V_B (by decide) 0 rfl (Nat.le_of_ble_eq_true rfl) d6_116 117 rfl nn rfl ?_
          refine iconst w X (2 : Int32) d6_117 118 rfl rfl ?_
          refine icmp_lt w X d6_118 157 121 (by decide) (by decide) rfl (fun hc118_16 => ?_) (fun hc118_16 => ?_)
          ·
            refine iload w X d6_157 159 rfl rfl ?_
            refine retN w X (t := .boolean) rfl (by simp) d6_159 (by decide) (by decide) ?_
            exact ⟨(1 : Int32), rfl, rfl, rfl⟩
          ·
            refine iloadN w X d6_121 122 rfl rfl ?_
            refine iconst w X (1 : Int32) d6_122 123 rfl rfl ?_
            refine icmp_ne w X d6_123 134 126 (by decide) (by decide) rfl (fun hc123_17 => ?_) (fun q => absurd q (by decide))
            refine iconst w X (0 : Int32) d6_134 135 rfl rfl ?_
            refine istore w X (0 : Int32) d6_135 137 rfl rfl #[.val (.ref A), .val (.ref B), .val (.int r), .val (.int (-1 : Int32)), .val (.int (1 : Int32)), .val (.int (0 : Int32))] rfl ?_
            refine iload w X d6_137 139 rfl rfl ?_
            refine if_eq w X d6_139 154 142 (by decide) (by decide) rfl (fun q => absurd q (by decide)) (fun hc139_18 => ?_)
            refine aloadN w X d6_142 143 rfl rfl rfl ?_
            refine iconst w X (2 : Int32) d6_143 144 rfl rfl ?_
            refine iaload w X V_B (by decide) 2 rfl (Nat.le_of_ble_eq_true rfl) d6_144 145 rfl y2 rfl ?_
            refine iload w X d6_145 147 rfl rfl ?_
            refine icmp_ne w X d6_147 154 150 (by decide) (by decide) rfl (fun hc147_19 => ?_) (fun hc147_19 => ?_)
            ·
              refine iconst w X (0 : Int32) d6_154 155 rfl rfl ?_
              refine istore w X (0 : Int32) d6_155 157 rfl rfl #[.val (.ref A), .val (.ref B), .val (.int r), .val (.int (-1 : Int32)), .val (.int (0 : Int32)), .val (.int (0 : Int32))] rfl ?_
              refine iload w X d6_157 159 rfl rfl ?_
              refine retN w X (t := .boolean) rfl (by simp) d6_159 (by decide) (by decide) ?_
              exact (lf6_5 n x1 x2 k1 k2 nn y1 y2 r hc6_1 hc26_2 hc44_3 hc52_4 hc66_15 hc118_16 hc123_17 hc139_18 hc147_19 H).elim
            ·
              refine iconst w X (1 : Int32) d6_150 151 rfl rfl ?_
              refine goto w X d6_151 155 (by decide) (by decide) ?_
              refine istore w X (1 : Int32) d6_155 157 rfl rfl #[.val (.ref A), .val (.ref B), .val (.int r), .val (.int (-1 : Int32)), .val (.int (1 : Int32)), .val (.int (0 : Int32))] rfl ?_
              refine iload w X d6_157 159 rfl rfl ?_
              refine retN w X (t := .boolean) rfl (by simp) d6_159 (by decide) (by decide) ?_
              exact ⟨(1 : Int32), rfl, rfl, rfl⟩
        ·
          refine iloadN w X d6_69 70 rfl rfl ?_
          refine if_le w X d6_70 79 73 (by decide) (by decide) rfl (fun hc70_20 => ?_) (fun q => absurd q (by decide))
          refine iloadN w X d6_79 80 rfl rfl ?_
          refine if_ne w X d6_80 91 83 (by decide) (by decide) rfl (fun hc80_21 => ?_) (fun q => absurd q (by decide))
          refine iconst w X (0 : Int32) d6_91 92 rfl rfl ?_
          refine istore w X (0 : Int32) d6_92 94 rfl rfl #[.val (.ref A), .val (.ref B), .val (.int r), .val (.int (-1 : Int32)), .val (.int (1 : Int32)), .val (.int (0 : Int32))] rfl ?_
          refine iload w X d6_94 96 rfl rfl ?_
          refine if_eq w X d6_96 111 99 (by decide) (by decide) rfl (fun q => absurd q (by decide)) (fun hc96_22 => ?_)
          refine aloadN w X d6_99 100 rfl rfl rfl ?_
          refine iconst w X (1 : Int32) d6_100 101 rfl rfl ?_
          refine iaload w X V_B (by decide) 1 rfl (Nat.le_of_ble_eq_true rfl) d6_101 102 rfl y1 rfl ?_
          refine iload w X d6_102 104 rfl rfl ?_
          refine icmp_ne w X d6_104 111 107 (by decide) (by decide) rfl (fun hc104_23 => ?_) (fun hc104_23 => ?_)
          ·
            refine iconst w X (0 : Int32) d6_111 112 rfl rfl ?_
            refine istore w X (0 : Int32) d6_112 114 rfl rfl #[.val (.ref A), .val (.ref B), .val (.int r), .val (.int (-1 : Int32)), .val (.int (0 : Int32)), .val (.int (0 : Int32))] rfl ?_
            refine aloadN w X d6_114 115 rfl rfl rfl ?_
            refine iconst w X (0 : Int32) d6_115 116 rfl rfl ?_
            refine iaload w X V_B (by decide) 0 rfl (Nat.le_of_ble_eq_true rfl) d6_116 117 rfl nn rfl ?_
            refine iconst w X (2 : Int32) d6_117 118 rfl rfl ?_
            refine icmp_lt w X d6_118 157 121 (by decide) (by decide) rfl (fun hc118_24 => ?_) (fun hc118_24 => ?_)
            ·
              refine iload w X d6_157 159 rfl rfl ?_
              refine retN w X (t := .boolean) rfl (by simp) d6_159 (by decide) (by decide) ?_
              exact (lf6_6 n x1 x2 k1 k2 nn y1 y2 r hc6_1 hc26_2 hc44_3 hc52_4 hc66_15 hc70_20 hc80_21 hc96_22 hc104_23 hc118_24 H).elim
            ·
              refine iloadN w X d6_121 122 rfl rfl ?_
              refine iconst w X (1 : Int32) d6_122 123 rfl rfl ?_
              refine icmp_ne w X d6_123 134 126 (by decide) (by decide) rfl (fun hc123_25 => ?_) (fun q => absurd q (by decide))
              refine iconst w X (0 : Int32) d6_134 135 rfl rfl ?_
              refine istore w X (0 : Int32) d6_135 137 rfl rfl #[.val (.ref A), .val (.ref B), .val (.int r), .val (.int (-1 : Int32)), .val (.int (0 : Int32)), .val (.int (0 : Int32))] rfl ?_
              refine iload w X d6_137 139 rfl rfl ?_
              refine if_eq w X d6_139 154 142 (by decide) (by decide) rfl (fun hc139_26 => ?_) (fun q => absurd q (by decide))
              refine iconst w X (0 : Int32) d6_154 155 rfl rfl ?_
              refine istore w X (0 : Int32) d6_155 157 rfl rfl #[.val (.ref A), .val (.ref B), .val (.int r), .val (.int (-1 : Int32)), .val (.int (0 : Int32)), .val (.int (0 : Int32))] rfl ?_
              refine iload w X d6_157 159 rfl rfl ?_
              refine retN w X (t := .boolean) rfl (by simp) d6_159 (by decide) (by decide) ?_
              exact (lf6_7 n x1 x2 k1 k2 nn y1 y2 r hc6_1 hc26_2 hc44_3 hc52_4 hc66_15 hc70_20 hc80_21 hc96_22 hc104_23 hc118_24 hc123_25 hc139_26 H).elim
          ·
            refine iconst w X (1 : Int32) d6_107 108 rfl rfl ?_
            refine goto w X d6_108 112 (by decide) (by decide) ?_
            refine istore w X (1 : Int32) d6_112 114 rfl rfl #[.val (.ref A), .val (.ref B), .val (.int r), .val (.int (-1 : Int32)), .val (.int (1 : Int32)), .val (.int (0 : Int32))] rfl ?_
            refine aloadN w X d6_114 115 rfl rfl rfl ?_
            refine iconst w X (0 : Int32) d6_115 116 rfl rfl ?_
            refine iaload w X V_B (by decide) 0 rfl (Nat.le_of_ble_eq_true rfl) d6_116 117 rfl nn rfl ?_
            refine iconst w X (2 : Int32) d6_117 118 rfl rfl ?_
            refine icmp_lt w X d6_118 157 121 (by decide) (by decide) rfl (fun hc118_27 => ?_) (fun hc118_27 => ?_)
            ·
              refine iload w X d6_157 159 rfl rfl ?_
              refine retN w X (t := .boolean) rfl (by simp) d6_159 (by decide) (by decide) ?_
              exact ⟨(1 : Int32), rfl, rfl, rfl⟩
            ·
              refine iloadN w X d6_121 122 rfl rfl ?_
              refine iconst w X (1 : Int32) d6_122 123 rfl rfl ?_
              refine icmp_ne w X d6_123 134 126 (by decide) (by decide) rfl (fun hc123_28 => ?_) (fun q => absurd q (by decide))
              refine iconst w X (0 : Int32) d6_134 135 rfl rfl ?_
              refine istore w X (0 : Int32) d6_135 137 rfl rfl #[.val (.ref A), .val (.ref B), .val (.int r), .val (.int (-1 : Int32)), .val (.int (1 : Int32)), .val (.int (0 : Int32))] rfl ?_
              refine iload w X d6_137 139 rfl rfl ?_
              refine if_eq w X d6_139 154 142 (by decide) (by decide) rfl (fun q => absurd q (by decide)) (fun hc139_29 => ?_)
              refine aloadN w X d6_142 143 rfl rfl rfl ?_
              refine iconst w X (2 : Int32) d6_143 144 rfl rfl ?_
              refine iaload w X V_B (by decide) 2 rfl (Nat.le_of_ble_eq_true rfl) d6_144 145 rfl y2 rfl ?_
              refine iload w X d6_145 147 rfl rfl ?_
              refine icmp_ne w X d6_147 154 150 (by decide) (by decide) rfl (fun hc147_30 => ?_) (fun hc147_30 => ?_)
              ·
                refine iconst w X (0 : Int32) d6_154 155 rfl rfl ?_
                refine istore w X (0 : Int32) d6_155 157 rfl rfl #[.val (.ref A), .val (.ref B), .val (.int r), .val (.int (-1 : Int32)), .val (.int (0 : Int32)), .val (.int (0 : Int32))] rfl ?_
                refine iload w X d6_157 159 rfl rfl ?_
                refine retN w X (t := .boolean) rfl (by simp) d6_159 (by decide) (by decide) ?_
                exact (lf6_8 n x1 x2 k1 k2 nn y1 y2 r hc6_1 hc26_2 hc44_3 hc52_4 hc66_15 hc70_20 hc80_21 hc96_22 hc104_23 hc118_27 hc123_28 hc139_29 hc147_30 H).elim
              ·
                refine iconst w X (1 : Int32) d6_150 151 rfl rfl ?_
                refine goto w X d6_151 155 (by decide) (by decide) ?_
                refine istore w X (1 : Int32) d6_155 157 rfl rfl #[.val (.ref A), .val (.ref B), .val (.int r), .val (.int (-1 : Int32)), .val (.int (1 : Int32)), .val (.int (0 : Int32))] rfl ?_
                refine iload w X d6_157 159 rfl rfl ?_
                refine retN w X (t := .boolean) rfl (by simp) d6_159 (by decide) (by decide) ?_
                exact ⟨(1 : Int32), rfl, rfl, rfl⟩
    ·
      refine aloadN w X d6_29 30 rfl rfl rfl ?_
      refine iconst w X (2 : Int32) d6_30 31 rfl rfl ?_
      refine iaload w X V_A (by decide) 2 rfl (Nat.le_of_ble_eq_true rfl) d6_31 32 rfl x2 rfl ?_
      refine aloadN w X d6_32 33 rfl rfl rfl ?_
      refine iconst w X (4 : Int32) d6_33 34 rfl rfl ?_
      refine iaload w X V_A (by decide) 4 rfl (Nat.le_of_ble_eq_true rfl) d6_34 35 rfl k2 rfl ?_
      refine iconst w X (1 : Int32) d6_35 36 rfl rfl ?_
      refine isub w X (k2 - (1 : Int32)) d6_36 37 rfl rfl ?_
      refine icmp_ge w X d6_37 42 40 (by decide) (by decide) rfl (fun hc37_31 => ?_) (fun hc37_31 => ?_)
      ·
        refine iloadN w X d6_42 43 rfl rfl ?_
        refine iloadN w X d6_43 44 rfl rfl ?_
        refine if_lt w X d6_44 51 47 (by decide) (by decide) rfl (fun hc44_32 => ?_) (fun q => absurd q (by decide))
        refine iconst w X (0 : Int32) d6_51 52 rfl rfl ?_
        refine icmp_ne w X d6_52 59 55 (by decide) (by decide) rfl (fun hc52_33 => ?_) (fun hc52_33 => ?_)
        ·
          refine iconst w X (0 : Int32) d6_59 60 rfl rfl ?_
          refine istore w X (0 : Int32) d6_60 62 rfl rfl #[.val (.ref A), .val (.ref B), .val (.int r), .val (.int (-1 : Int32)), .val (.int (0 : Int32)), .unset] rfl ?_
          refine aloadN w X d6_62 63 rfl rfl rfl ?_
          refine iconst w X (0 : Int32) d6_63 64 rfl rfl ?_
          refine iaload w X V_B (by decide) 0 rfl (Nat.le_of_ble_eq_true rfl) d6_64 65 rfl nn rfl ?_
          refine iconst w X (1 : Int32) d6_65 66 rfl rfl ?_
          refine icmp_lt w X d6_66 114 69 (by decide) (by decide) rfl (fun hc66_34 => ?_) (fun hc66_34 => ?_)
          ·
            refine aloadN w X d6_114 115 rfl rfl rfl ?_
            refine iconst w X (0 : Int32) d6_115 116 rfl rfl ?_
            refine iaload w X V_B (by decide) 0 rfl (Nat.le_of_ble_eq_true rfl) d6_116 117 rfl nn rfl ?_
            refine iconst w X (2 : Int32) d6_117 118 rfl rfl ?_
            refine icmp_lt w X d6_118 157 121 (by decide) (by decide) rfl (fun hc118_35 => ?_) (fun hc118_35 => ?_)
            ·
              refine iload w X d6_157 159 rfl rfl ?_
              refine retN w X (t := .boolean) rfl (by simp) d6_159 (by decide) (by decide) ?_
              exact (lf6_9 n x1 x2 k1 k2 nn y1 y2 r hc6_1 hc26_2 hc37_31 hc44_32 hc52_33 hc66_34 hc118_35 H).elim
            ·
              refine iloadN w X d6_121 122 rfl rfl ?_
              refine iconst w X (1 : Int32) d6_122 123 rfl rfl ?_
              refine icmp_ne w X d6_123 134 126 (by decide) (by decide) rfl (fun hc123_36 => ?_) (fun q => absurd q (by decide))
              refine iconst w X (0 : Int32) d6_134 135 rfl rfl ?_
              refine istore w X (0 : Int32) d6_135 137 rfl rfl #[.val (.ref A), .val (.ref B), .val (.int r), .val (.int (-1 : Int32)), .val (.int (0 : Int32)), .val (.int (0 : Int32))] rfl ?_
              refine iload w X d6_137 139 rfl rfl ?_
              refine if_eq w X d6_139 154 142 (by decide) (by decide) rfl (fun hc139_37 => ?_) (fun q => absurd q (by decide))
              refine iconst w X (0 : Int32) d6_154 155 rfl rfl ?_
              refine istore w X (0 : Int32) d6_155 157 rfl rfl #[.val (.ref A), .val (.ref B), .val (.int r), .val (.int (-1 : Int32)), .val (.int (0 : Int32)), .val (.int (0 : Int32))] rfl ?_
              refine iload w X d6_157 159 rfl rfl ?_
              refine retN w X (t := .boolean) rfl (by simp) d6_159 (by decide) (by decide) ?_
              exact (lf6_10 n x1 x2 k1 k2 nn y1 y2 r hc6_1 hc26_2 hc37_31 hc44_32 hc52_33 hc66_34 hc118_35 hc123_36 hc139_37 H).elim
          ·
            refine iloadN w X d6_69 70 rfl rfl ?_
            refine if_le w X d6_70 79 73 (by decide) (by decide) rfl (fun hc70_38 => ?_) (fun q => absurd q (by decide))
            refine iloadN w X d6_79 80 rfl rfl ?_
            refine if_ne w X d6_80 91 83 (by decide) (by decide) rfl (fun hc80_39 => ?_) (fun q => absurd q (by decide))
            refine iconst w X (0 : Int32) d6_91 92 rfl rfl ?_
            refine istore w X (0 : Int32) d6_92 94 rfl rfl #[.val (.ref A), .val (.ref B), .val (.int r), .val (.int (-1 : Int32)), .val (.int (0 : Int32)), .val (.int (0 : Int32))] rfl ?_
            refine iload w X d6_94 96 rfl rfl ?_
            refine if_eq w X d6_96 111 99 (by decide) (by decide) rfl (fun hc96_40 => ?_) (fun q => absurd q (by decide))
            refine iconst w X (0 : Int32) d6_111 112 rfl rfl ?_
            refine istore w X (0 : Int32) d6_112 114 rfl rfl #[.val (.ref A), .val (.ref B), .val (.int r), .val (.int (-1 : Int32)), .val (.int (0 : Int32)), .val (.int (0 : Int32))] rfl ?_
            refine aloadN w X d6_114 115 rfl rfl rfl ?_
            refine iconst w X (0 : Int32) d6_115 116 rfl rfl ?_
            refine iaload w X V_B (by decide) 0 rfl (Nat.le_of_ble_eq_true rfl) d6_116 117 rfl nn rfl ?_
            refine iconst w X (2 : Int32) d6_117 118 rfl rfl ?_
            refine icmp_lt w X d6_118 157 121 (by decide) (by decide) rfl (fun hc118_41 => ?_) (fun hc118_41 => ?_)
            ·
              refine iload w X d6_157 159 rfl rfl ?_
              refine retN w X (t := .boolean) rfl (by simp) d6_159 (by decide) (by decide) ?_
              exact (lf6_11 n x1 x2 k1 k2 nn y1 y2 r hc6_1 hc26_2 hc37_31 hc44_32 hc52_33 hc66_34 hc70_38 hc80_39 hc96_40 hc118_41 H).elim
            ·
              refine iloadN w X d6_121 122 rfl rfl ?_
              refine iconst w X (1 : Int32) d6_122 123 rfl rfl ?_
              refine icmp_ne w X d6_123 134 126 (by decide) (by decide) rfl (fun hc123_42 => ?_) (fun q => absurd q (by decide))
              refine iconst w X (0 : Int32) d6_134 135 rfl rfl ?_
              refine istore w X (0 : Int32) d6_135 137 rfl rfl #[.val (.ref A), .val (.ref B), .val (.int r), .val (.int (-1 : Int32)), .val (.int (0 : Int32)), .val (.int (0 : Int32))] rfl ?_
              refine iload w X d6_137 139 rfl rfl ?_
              refine if_eq w X d6_139 154 142 (by decide) (by decide) rfl (fun hc139_43 => ?_) (fun q => absurd q (by decide))
              refine iconst w X (0 : Int32) d6_154 155 rfl rfl ?_
              refine istore w X (0 : Int32) d6_155 157 rfl rfl #[.val (.ref A), .val (.ref B), .val (.int r), .val (.int (-1 : Int32)), .val (.int (0 : Int32)), .val (.int (0 : Int32))] rfl ?_
              refine iload w X d6_157 159 rfl rfl ?_
              refine retN w X (t := .boolean) rfl (by simp) d6_159 (by decide) (by decide) ?_
              exact (lf6_12 n x1 x2 k1 k2 nn y1 y2 r hc6_1 hc26_2 hc37_31 hc44_32 hc52_33 hc66_34 hc70_38 hc80_39 hc96_40 hc118_41 hc123_42 hc139_43 H).elim
        ·
          refine iconst w X (1 : Int32) d6_55 56 rfl rfl ?_
          refine goto w X d6_56 60 (by decide) (by decide) ?_
          refine istore w X (1 : Int32) d6_60 62 rfl rfl #[.val (.ref A), .val (.ref B), .val (.int r), .val (.int (-1 : Int32)), .val (.int (1 : Int32)), .unset] rfl ?_
          refine aloadN w X d6_62 63 rfl rfl rfl ?_
          refine iconst w X (0 : Int32) d6_63 64 rfl rfl ?_
          refine iaload w X V_B (by decide) 0 rfl (Nat.le_of_ble_eq_true rfl) d6_64 65 rfl nn rfl ?_
          refine iconst w X (1 : Int32) d6_65 66 rfl rfl ?_
          refine icmp_lt w X d6_66 114 69 (by decide) (by decide) rfl (fun hc66_44 => ?_) (fun hc66_44 => ?_)
          ·
            refine aloadN w X d6_114 115 rfl rfl rfl ?_
            refine iconst w X (0 : Int32) d6_115 116 rfl rfl ?_
            refine iaload w X V_B (by decide) 0 rfl (Nat.le_of_ble_eq_true rfl) d6_116 117 rfl nn rfl ?_
            refine iconst w X (2 : Int32) d6_117 118 rfl rfl ?_
            refine icmp_lt w X d6_118 157 121 (by decide) (by decide) rfl (fun hc118_45 => ?_) (fun hc118_45 => ?_)
            ·
              refine iload w X d6_157 159 rfl rfl ?_
              refine retN w X (t := .boolean) rfl (by simp) d6_159 (by decide) (by decide) ?_
              exact ⟨(1 : Int32), rfl, rfl, rfl⟩
            ·
              refine iloadN w X d6_121 122 rfl rfl ?_
              refine iconst w X (1 : Int32) d6_122 123 rfl rfl ?_
              refine icmp_ne w X d6_123 134 126 (by decide) (by decide) rfl (fun hc123_46 => ?_) (fun q => absurd q (by decide))
              refine iconst w X (0 : Int32) d6_134 135 rfl rfl ?_
              refine istore w X (0 : Int32) d6_135 137 rfl rfl #[.val (.ref A), .val (.ref B), .val (.int r), .val (.int (-1 : Int32)), .val (.int (1 : Int32)), .val (.int (0 : Int32))] rfl ?_
              refine iload w X d6_137 139 rfl rfl ?_
              refine if_eq w X d6_139 154 142 (by decide) (by decide) rfl (fun q => absurd q (by decide)) (fun hc139_47 => ?_)
              refine aloadN w X d6_142 143 rfl rfl rfl ?_
              refine iconst w X (2 : Int32) d6_143 144 rfl rfl ?_
              refine iaload w X V_B (by decide) 2 rfl (Nat.le_of_ble_eq_true rfl) d6_144 145 rfl y2 rfl ?_
              refine iload w X d6_145 147 rfl rfl ?_
              refine icmp_ne w X d6_147 154 150 (by decide) (by decide) rfl (fun hc147_48 => ?_) (fun hc147_48 => ?_)
              ·
                refine iconst w X (0 : Int32) d6_154 155 rfl rfl ?_
                refine istore w X (0 : Int32) d6_155 157 rfl rfl #[.val (.ref A), .val (.ref B), .val (.int r), .val (.int (-1 : Int32)), .val (.int (0 : Int32)), .val (.int (0 : Int32))] rfl ?_
                refine iload w X d6_157 159 rfl rfl ?_
                refine retN w X (t := .boolean) rfl (by simp) d6_159 (by decide) (by decide) ?_
                exact (lf6_13 n x1 x2 k1 k2 nn y1 y2 r hc6_1 hc26_2 hc37_31 hc44_32 hc52_33 hc66_44 hc118_45 hc123_46 hc139_47 hc147_48 H).elim
              ·
                refine iconst w X (1 : Int32) d6_150 151 rfl rfl ?_
                refine goto w X d6_151 155 (by decide) (by decide) ?_
                refine istore w X (1 : Int32) d6_155 157 rfl rfl #[.val (.ref A), .val (.ref B), .val (.int r), .val (.int (-1 : Int32)), .val (.int (1 : Int32)), .val (.int (0 : Int32))] rfl ?_
                refine iload w X d6_157 159 rfl rfl ?_
                refine retN w X (t := .boolean) rfl (by simp) d6_159 (by decide) (by decide) ?_
                exact ⟨(1 : Int32), rfl, rfl, rfl⟩
          ·
            refine iloadN w X d6_69 70 rfl rfl ?_
            refine if_le w X d6_70 79 73 (by decide) (by decide) rfl (fun hc70_49 => ?_) (fun q => absurd q (by decide))
            refine iloadN w X d6_79 80 rfl rfl ?_
            refine if_ne w X d6_80 91 83 (by decide) (by decide) rfl (fun hc80_50 => ?_) (fun q => absurd q (by decide))
            refine iconst w X (0 : Int32) d6_91 92 rfl rfl ?_
            refine istore w X (0 : Int32) d6_92 94 rfl rfl #[.val (.ref A), .val (.ref B), .val (.int r), .val (.int (-1 : Int32)), .val (.int (1 : Int32)), .val (.int (0 : Int32))] rfl ?_
            refine iload w X d6_94 96 rfl rfl ?_
            refine if_eq w X d6_96 111 99 (by decide) (by decide) rfl (fun q => absurd q (by decide)) (fun hc96_51 => ?_)
            refine aloadN w X d6_99 100 rfl rfl rfl ?_
            refine iconst w X (1 : Int32) d6_100 101 rfl rfl ?_
            refine iaload w X V_B (by decide) 1 rfl (Nat.le_of_ble_eq_true rfl) d6_101 102 rfl y1 rfl ?_
            refine iload w X d6_102 104 rfl rfl ?_
            refine icmp_ne w X d6_104 111 107 (by decide) (by decide) rfl (fun hc104_52 => ?_) (fun hc104_52 => ?_)
            ·
              refine iconst w X (0 : Int32) d6_111 112 rfl rfl ?_
              refine istore w X (0 : Int32) d6_112 114 rfl rfl #[.val (.ref A), .val (.ref B), .val (.int r), .val (.int (-1 : Int32)), .val (.int (0 : Int32)), .val (.int (0 : Int32))] rfl ?_
              refine aloadN w X d6_114 115 rfl rfl rfl ?_
              refine iconst w X (0 : Int32) d6_115 116 rfl rfl ?_
              refine iaload w X V_B (by decide) 0 rfl (Nat.le_of_ble_eq_true rfl) d6_116 117 rfl nn rfl ?_
              refine iconst w X (2 : Int32) d6_117 118 rfl rfl ?_
              refine icmp_lt w X d6_118 157 121 (by decide) (by decide) rfl (fun hc118_53 => ?_) (fun hc118_53 => ?_)
              ·
                refine iload w X d6_157 159 rfl rfl ?_
                refine retN w X (t := .boolean) rfl (by simp) d6_159 (by decide) (by decide) ?_
                exact (lf6_14 n x1 x2 k1 k2 nn y1 y2 r hc6_1 hc26_2 hc37_31 hc44_32 hc52_33 hc66_44 hc70_49 hc80_50 hc96_51 hc104_52 hc118_53 H).elim
              ·
                refine iloadN w X d6_121 122 rfl rfl ?_
                refine iconst w X (1 : Int32) d6_122 123 rfl rfl ?_
                refine icmp_ne w X d6_123 134 126 (by decide) (by decide) rfl (fun hc123_54 => ?_) (fun q => absurd q (by decide))
                refine iconst w X (0 : Int32) d6_134 135 rfl rfl ?_
                refine istore w X (0 : Int32) d6_135 137 rfl rfl #[.val (.ref A), .val (.ref B), .val (.int r), .val (.int (-1 : Int32)), .val (.int (0 : Int32)), .val (.int (0 : Int32))] rfl ?_
                refine iload w X d6_137 139 rfl rfl ?_
                refine if_eq w X d6_139 154 142 (by decide) (by decide) rfl (fun hc139_55 => ?_) (fun q => absurd q (by decide))
                refine iconst w X (0 : Int32) d6_154 155 rfl rfl ?_
                refine istore w X (0 : Int32) d6_155 157 rfl rfl #[.val (.ref A), .val (.ref B), .val (.int r), .val (.int (-1 : Int32)), .val (.int (0 : Int32)), .val (.int (0 : Int32))] rfl ?_
                refine iload w X d6_157 159 rfl rfl ?_
                refine retN w X (t := .boolean) rfl (by simp) d6_159 (by decide) (by decide) ?_
                exact (lf6_15 n x1 x2 k1 k2 nn y1 y2 r hc6_1 hc26_2 hc37_31 hc44_32 hc52_33 hc66_44 hc70_49 hc80_50 hc96_51 hc104_52 hc118_53 hc123_54 hc139_55 H).elim
            ·
              refine iconst w X (1 : Int32) d6_107 108 rfl rfl ?_
              refine goto w X d6_108 112 (by decide) (by decide) ?_
              refine istore w X (1 : Int32) d6_112 114 rfl rfl #[.val (.ref A), .val (.ref B), .val (.int r), .val (.int (-1 : Int32)), .val (.int (1 : Int32)), .val (.int (0 : Int32))] rfl ?_
              refine aloadN w X d6_114 115 rfl rfl rfl ?_
              refine iconst w X (0 : Int32) d6_115 116 rfl rfl ?_
              refine iaload w X V_B (by decide) 0 rfl (Nat.le_of_ble_eq_true rfl) d6_116 117 rfl nn rfl ?_
              refine iconst w X (2 : Int32) d6_117 118 rfl rfl ?_
              refine icmp_lt w X d6_118 157 121 (by decide) (by decide) rfl (fun hc118_56 => ?_) (fun hc118_56 => ?_)
              ·
                refine iload w X d6_157 159 rfl rfl ?_
                refine retN w X (t := .boolean) rfl (by simp) d6_159 (by decide) (by decide) ?_
                exact ⟨(1 : Int32), rfl, rfl, rfl⟩
              ·
                refine iloadN w X d6_121 122 rfl rfl ?_
                refine iconst w X (1 : Int32) d6_122 123 rfl rfl ?_
                refine icmp_ne w X d6_123 134 126 (by decide) (by decide) rfl (fun hc123_57 => ?_) (fun q => absurd q (by decide))
                refine iconst w X (0 : Int32) d6_134 135 rfl rfl ?_
                refine istore w X (0 : Int32) d6_135 137 rfl rfl #[.val (.ref A), .val (.ref B), .val (.int r), .val (.int (-1 : Int32)), .val (.int (1 : Int32)), .val (.int (0 : Int32))] rfl ?_
                refine iload w X d6_137 139 rfl rfl ?_
                refine if_eq w X d6_139 154 142 (by decide) (by decide) rfl (fun q => absurd q (by decide)) (fun hc139_58 => ?_)
                refine aloadN w X d6_142 143 rfl rfl rfl ?_
                refine iconst w X (2 : Int32) d6_143 144 rfl rfl ?_
                refine iaload w X V_B (by decide) 2 rfl (Nat.le_of_ble_eq_true rfl) d6_144 145 rfl y2 rfl ?_
                refine iload w X d6_145 147 rfl rfl ?_
                refine icmp_ne w X d6_147 154 150 (by decide) (by decide) rfl (fun hc147_59 => ?_) (fun hc147_59 => ?_)
                ·
                  refine iconst w X (0 : Int32) d6_154 155 rfl rfl ?_
                  refine istore w X (0 : Int32) d6_155 157 rfl rfl #[.val (.ref A), .val (.ref B), .val (.int r), .val (.int (-1 : Int32)), .val (.int (0 : Int32)), .val (.int (0 : Int32))] rfl ?_
                  refine iload w X d6_157 159 rfl rfl ?_
                  refine retN w X (t := .boolean) rfl (by simp) d6_159 (by decide) (by decide) ?_
                  exact (lf6_16 n x1 x2 k1 k2 nn y1 y2 r hc6_1 hc26_2 hc37_31 hc44_32 hc52_33 hc66_44 hc70_49 hc80_50 hc96_51 hc104_52 hc118_56 hc123_57 hc139_58 hc147_59 H).elim
                ·
                  refine iconst w X (1 : Int32) d6_150 151 rfl rfl ?_
                  refine goto w X d6_151 155 (by decide) (by decide) ?_
                  refine istore w X (1 : Int32) d6_155 157 rfl rfl #[.val (.ref A), .val (.ref B), .val (.int r), .val (.int (-1 : Int32)), .val (.int (1 : Int32)), .val (.int (0 : Int32))] rfl ?_
                  refine iload w X d6_157 159 rfl rfl ?_
                  refine retN w X (t := .boolean) rfl (by simp) d6_159 (by decide) (by decide) ?_
                  exact ⟨(1 : Int32), rfl, rfl, rfl⟩
      ·
        refine iconst w X (1 : Int32) d6_40 41 rfl rfl ?_
        refine istoreN w X (1 : Int32) d6_41 42 rfl rfl #[.val (.ref A), .val (.ref B), .val (.int r), .val (.int (1 : Int32)), .unset, .unset] rfl ?_
        refine iloadN w X d6_42 43 rfl rfl ?_
        refine iloadN w X d6_43 44 rfl rfl ?_
        refine if_lt w X d6_44 51 47 (by decide) (by decide) rfl (fun q => absurd q (by decide)) (fun hc44_60 => ?_)
        refine iconst w X (1 : Int32) d6_47 48 rfl rfl ?_
        refine goto w X d6_48 52 (by decide) (by decide) ?_
        refine icmp_ne w X d6_52 59 55 (by decide) (by decide) rfl (fun hc52_61 => ?_) (fun hc52_61 => ?_)
        ·
          refine iconst w X (0 : Int32) d6_59 60 rfl rfl ?_
          refine istore w X (0 : Int32) d6_60 62 rfl rfl #[.val (.ref A), .val (.ref B), .val (.int r), .val (.int (1 : Int32)), .val (.int (0 : Int32)), .unset] rfl ?_
          refine aloadN w X d6_62 63 rfl rfl rfl ?_
          refine iconst w X (0 : Int32) d6_63 64 rfl rfl ?_
          refine iaload w X V_B (by decide) 0 rfl (Nat.le_of_ble_eq_true rfl) d6_64 65 rfl nn rfl ?_
          refine iconst w X (1 : Int32) d6_65 66 rfl rfl ?_
          refine icmp_lt w X d6_66 114 69 (by decide) (by decide) rfl (fun hc66_62 => ?_) (fun hc66_62 => ?_)
          ·
            refine aloadN w X d6_114 115 rfl rfl rfl ?_
            refine iconst w X (0 : Int32) d6_115 116 rfl rfl ?_
            refine iaload w X V_B (by decide) 0 rfl (Nat.le_of_ble_eq_true rfl) d6_116 117 rfl nn rfl ?_
            refine iconst w X (2 : Int32) d6_117 118 rfl rfl ?_
            refine icmp_lt w X d6_118 157 121 (by decide) (by decide) rfl (fun hc118_63 => ?_) (fun hc118_63 => ?_)
            ·
              refine iload w X d6_157 159 rfl rfl ?_
              refine retN w X (t := .boolean) rfl (by simp) d6_159 (by decide) (by decide) ?_
              exact (lf6_17 n x1 x2 k1 k2 nn y1 y2 r hc6_1 hc26_2 hc37_31 hc44_60 hc52_61 hc66_62 hc118_63 H).elim
            ·
              refine iloadN w X d6_121 122 rfl rfl ?_
              refine iconst w X (1 : Int32) d6_122 123 rfl rfl ?_
              refine icmp_ne w X d6_123 134 126 (by decide) (by decide) rfl (fun q => absurd q (by decide)) (fun hc123_64 => ?_)
              refine aloadN w X d6_126 127 rfl rfl rfl ?_
              refine iconst w X (2 : Int32) d6_127 128 rfl rfl ?_
              refine iaload w X V_A (by decide) 2 rfl (Nat.le_of_ble_eq_true rfl) d6_128 129 rfl x2 rfl ?_
              refine iconst w X (1 : Int32) d6_129 130 rfl rfl ?_
              refine iadd w X (x2 + (1 : Int32)) d6_130 131 rfl rfl ?_
              refine goto w X d6_131 135 (by decide) (by decide) ?_
              obtain ⟨i5_65, hi5_65⟩ : ∃ z : Int32, z = (x2 + (1 : Int32)) := ⟨_, rfl⟩
              refine istore w X i5_65 d6_135 137 rfl hi5_65 #[.val (.ref A), .val (.ref B), .val (.int r), .val (.int (1 : Int32)), .val (.int (0 : Int32)), .val (.int i5_65)] rfl ?_
              refine iload w X d6_137 139 rfl rfl ?_
              refine if_eq w X d6_139 154 142 (by decide) (by decide) rfl (fun hc139_66 => ?_) (fun q => absurd q (by decide))
              refine iconst w X (0 : Int32) d6_154 155 rfl rfl ?_
              refine istore w X (0 : Int32) d6_155 157 rfl rfl #[.val (.ref A), .val (.ref B), .val (.int r), .val (.int (1 : Int32)), .val (.int (0 : Int32)), .val (.int i5_65)] rfl ?_
              refine iload w X d6_157 159 rfl rfl ?_
              refine retN w X (t := .boolean) rfl (by simp) d6_159 (by decide) (by decide) ?_
              exact (lf6_18 n x1 x2 k1 k2 nn y1 y2 r i5_65 hc6_1 hc26_2 hc37_31 hc44_60 hc52_61 hc66_62 hc118_63 hc123_64 hi5_65 hc139_66 H).elim
          ·
            refine iloadN w X d6_69 70 rfl rfl ?_
            refine if_le w X d6_70 79 73 (by decide) (by decide) rfl (fun q => absurd q (by decide)) (fun hc70_67 => ?_)
            refine aloadN w X d6_73 74 rfl rfl rfl ?_
            refine iconst w X (1 : Int32) d6_74 75 rfl rfl ?_
            refine iaload w X V_A (by decide) 1 rfl (Nat.le_of_ble_eq_true rfl) d6_75 76 rfl x1 rfl ?_
            refine goto w X d6_76 92 (by decide) (by decide) ?_
            refine istore w X x1 d6_92 94 rfl rfl #[.val (.ref A), .val (.ref B), .val (.int r), .val (.int (1 : Int32)), .val (.int (0 : Int32)), .val (.int x1)] rfl ?_
            refine iload w X d6_94 96 rfl rfl ?_
            refine if_eq w X d6_96 111 99 (by decide) (by decide) rfl (fun hc96_68 => ?_) (fun q => absurd q (by decide))
            refine iconst w X (0 : Int32) d6_111 112 rfl rfl ?_
            refine istore w X (0 : Int32) d6_112 114 rfl rfl #[.val (.ref A), .val (.ref B), .val (.int r), .val (.int (1 : Int32)), .val (.int (0 : Int32)), .val (.int x1)] rfl ?_
            refine aloadN w X d6_114 115 rfl rfl rfl ?_
            refine iconst w X (0 : Int32) d6_115 116 rfl rfl ?_
            refine iaload w X V_B (by decide) 0 rfl (Nat.le_of_ble_eq_true rfl) d6_116 117 rfl nn rfl ?_
            refine iconst w X (2 : Int32) d6_117 118 rfl rfl ?_
            refine icmp_lt w X d6_118 157 121 (by decide) (by decide) rfl (fun hc118_69 => ?_) (fun hc118_69 => ?_)
            ·
              refine iload w X d6_157 159 rfl rfl ?_
              refine retN w X (t := .boolean) rfl (by simp) d6_159 (by decide) (by decide) ?_
              exact (lf6_19 n x1 x2 k1 k2 nn y1 y2 r hc6_1 hc26_2 hc37_31 hc44_60 hc52_61 hc66_62 hc70_67 hc96_68 hc118_69 H).elim
            ·
              refine iloadN w X d6_121 122 rfl rfl ?_
              refine iconst w X (1 : Int32) d6_122 123 rfl rfl ?_
              refine icmp_ne w X d6_123 134 126 (by decide) (by decide) rfl (fun q => absurd q (by decide)) (fun hc123_70 => ?_)
              refine aloadN w X d6_126 127 rfl rfl rfl ?_
              refine iconst w X (2 : Int32) d6_127 128 rfl rfl ?_
              refine iaload w X V_A (by decide) 2 rfl (Nat.le_of_ble_eq_true rfl) d6_128 129 rfl x2 rfl ?_
              refine iconst w X (1 : Int32) d6_129 130 rfl rfl ?_
              refine iadd w X (x2 + (1 : Int32)) d6_130 131 rfl rfl ?_
              refine goto w X d6_131 135 (by decide) (by decide) ?_
              obtain ⟨i5_71, hi5_71⟩ : ∃ z : Int32, z = (x2 + (1 : Int32)) := ⟨_, rfl⟩
              refine istore w X i5_71 d6_135 137 rfl hi5_71 #[.val (.ref A), .val (.ref B), .val (.int r), .val (.int (1 : Int32)), .val (.int (0 : Int32)), .val (.int i5_71)] rfl ?_
              refine iload w X d6_137 139 rfl rfl ?_
              refine if_eq w X d6_139 154 142 (by decide) (by decide) rfl (fun hc139_72 => ?_) (fun q => absurd q (by decide))
              refine iconst w X (0 : Int32) d6_154 155 rfl rfl ?_
              refine istore w X (0 : Int32) d6_155 157 rfl rfl #[.val (.ref A), .val (.ref B), .val (.int r), .val (.int (1 : Int32)), .val (.int (0 : Int32)), .val (.int i5_71)] rfl ?_
              refine iload w X d6_157 159 rfl rfl ?_
              refine retN w X (t := .boolean) rfl (by simp) d6_159 (by decide) (by decide) ?_
              exact (lf6_20 n x1 x2 k1 k2 nn y1 y2 r i5_71 hc6_1 hc26_2 hc37_31 hc44_60 hc52_61 hc66_62 hc70_67 hc96_68 hc118_69 hc123_70 hi5_71 hc139_72 H).elim
        ·
          refine iconst w X (1 : Int32) d6_55 56 rfl rfl ?_
          refine goto w X d6_56 60 (by decide) (by decide) ?_
          refine istore w X (1 : Int32) d6_60 62 rfl rfl #[.val (.ref A), .val (.ref B), .val (.int r), .val (.int (1 : Int32)), .val (.int (1 : Int32)), .unset] rfl ?_
          refine aloadN w X d6_62 63 rfl rfl rfl ?_
          refine iconst w X (0 : Int32) d6_63 64 rfl rfl ?_
          refine iaload w X V_B (by decide) 0 rfl (Nat.le_of_ble_eq_true rfl) d6_64 65 rfl nn rfl ?_
          refine iconst w X (1 : Int32) d6_65 66 rfl rfl ?_
          refine icmp_lt w X d6_66 114 69 (by decide) (by decide) rfl (fun hc66_73 => ?_) (fun hc66_73 => ?_)
          ·
            refine aloadN w X d6_114 115 rfl rfl rfl ?_
            refine iconst w X (0 : Int32) d6_115 116 rfl rfl ?_
            refine iaload w X V_B (by decide) 0 rfl (Nat.le_of_ble_eq_true rfl) d6_116 117 rfl nn rfl ?_
            refine iconst w X (2 : Int32) d6_117 118 rfl rfl ?_
            refine icmp_lt w X d6_118 157 121 (by decide) (by decide) rfl (fun hc118_74 => ?_) (fun hc118_74 => ?_)
            ·
              refine iload w X d6_157 159 rfl rfl ?_
              refine retN w X (t := .boolean) rfl (by simp) d6_159 (by decide) (by decide) ?_
              exact ⟨(1 : Int32), rfl, rfl, rfl⟩
            ·
              refine iloadN w X d6_121 122 rfl rfl ?_
              refine iconst w X (1 : Int32) d6_122 123 rfl rfl ?_
              refine icmp_ne w X d6_123 134 126 (by decide) (by decide) rfl (fun q => absurd q (by decide)) (fun hc123_75 => ?_)
              refine aloadN w X d6_126 127 rfl rfl rfl ?_
              refine iconst w X (2 : Int32) d6_127 128 rfl rfl ?_
              refine iaload w X V_A (by decide) 2 rfl (Nat.le_of_ble_eq_true rfl) d6_128 129 rfl x2 rfl ?_
              refine iconst w X (1 : Int32) d6_129 130 rfl rfl ?_
              refine iadd w X (x2 + (1 : Int32)) d6_130 131 rfl rfl ?_
              refine goto w X d6_131 135 (by decide) (by decide) ?_
              obtain ⟨i5_76, hi5_76⟩ : ∃ z : Int32, z = (x2 + (1 : Int32)) := ⟨_, rfl⟩
              refine istore w X i5_76 d6_135 137 rfl hi5_76 #[.val (.ref A), .val (.ref B), .val (.int r), .val (.int (1 : Int32)), .val (.int (1 : Int32)), .val (.int i5_76)] rfl ?_
              refine iload w X d6_137 139 rfl rfl ?_
              refine if_eq w X d6_139 154 142 (by decide) (by decide) rfl (fun q => absurd q (by decide)) (fun hc139_77 => ?_)
              refine aloadN w X d6_142 143 rfl rfl rfl ?_
              refine iconst w X (2 : Int32) d6_143 144 rfl rfl ?_
              refine iaload w X V_B (by decide) 2 rfl (Nat.le_of_ble_eq_true rfl) d6_144 145 rfl y2 rfl ?_
              refine iload w X d6_145 147 rfl rfl ?_
              refine icmp_ne w X d6_147 154 150 (by decide) (by decide) rfl (fun hc147_78 => ?_) (fun hc147_78 => ?_)
              ·
                refine iconst w X (0 : Int32) d6_154 155 rfl rfl ?_
                refine istore w X (0 : Int32) d6_155 157 rfl rfl #[.val (.ref A), .val (.ref B), .val (.int r), .val (.int (1 : Int32)), .val (.int (0 : Int32)), .val (.int i5_76)] rfl ?_
                refine iload w X d6_157 159 rfl rfl ?_
                refine retN w X (t := .boolean) rfl (by simp) d6_159 (by decide) (by decide) ?_
                exact (lf6_21 n x1 x2 k1 k2 nn y1 y2 r i5_76 hc6_1 hc26_2 hc37_31 hc44_60 hc52_61 hc66_73 hc118_74 hc123_75 hi5_76 hc139_77 hc147_78 H).elim
              ·
                refine iconst w X (1 : Int32) d6_150 151 rfl rfl ?_
                refine goto w X d6_151 155 (by decide) (by decide) ?_
                refine istore w X (1 : Int32) d6_155 157 rfl rfl #[.val (.ref A), .val (.ref B), .val (.int r), .val (.int (1 : Int32)), .val (.int (1 : Int32)), .val (.int i5_76)] rfl ?_
                refine iload w X d6_157 159 rfl rfl ?_
                refine retN w X (t := .boolean) rfl (by simp) d6_159 (by decide) (by decide) ?_
                exact ⟨(1 : Int32), rfl, rfl, rfl⟩
          ·
            refine iloadN w X d6_69 70 rfl rfl ?_
            refine if_le w X d6_70 79 73 (by decide) (by decide) rfl (fun q => absurd q (by decide)) (fun hc70_79 => ?_)
            refine aloadN w X d6_73 74 rfl rfl rfl ?_
            refine iconst w X (1 : Int32) d6_74 75 rfl rfl ?_
            refine iaload w X V_A (by decide) 1 rfl (Nat.le_of_ble_eq_true rfl) d6_75 76 rfl x1 rfl ?_
            refine goto w X d6_76 92 (by decide) (by decide) ?_
            refine istore w X x1 d6_92 94 rfl rfl #[.val (.ref A), .val (.ref B), .val (.int r), .val (.int (1 : Int32)), .val (.int (1 : Int32)), .val (.int x1)] rfl ?_
            refine iload w X d6_94 96 rfl rfl ?_
            refine if_eq w X d6_96 111 99 (by decide) (by decide) rfl (fun q => absurd q (by decide)) (fun hc96_80 => ?_)
            refine aloadN w X d6_99 100 rfl rfl rfl ?_
            refine iconst w X (1 : Int32) d6_100 101 rfl rfl ?_
            refine iaload w X V_B (by decide) 1 rfl (Nat.le_of_ble_eq_true rfl) d6_101 102 rfl y1 rfl ?_
            refine iload w X d6_102 104 rfl rfl ?_
            refine icmp_ne w X d6_104 111 107 (by decide) (by decide) rfl (fun hc104_81 => ?_) (fun hc104_81 => ?_)
            ·
              refine iconst w X (0 : Int32) d6_111 112 rfl rfl ?_
              refine istore w X (0 : Int32) d6_112 114 rfl rfl #[.val (.ref A), .val (.ref B), .val (.int r), .val (.int (1 : Int32)), .val (.int (0 : Int32)), .val (.int x1)] rfl ?_
              refine aloadN w X d6_114 115 rfl rfl rfl ?_
              refine iconst w X (0 : Int32) d6_115 116 rfl rfl ?_
              refine iaload w X V_B (by decide) 0 rfl (Nat.le_of_ble_eq_true rfl) d6_116 117 rfl nn rfl ?_
              refine iconst w X (2 : Int32) d6_117 118 rfl rfl ?_
              refine icmp_lt w X d6_118 157 121 (by decide) (by decide) rfl (fun hc118_82 => ?_) (fun hc118_82 => ?_)
              ·
                refine iload w X d6_157 159 rfl rfl ?_
                refine retN w X (t := .boolean) rfl (by simp) d6_159 (by decide) (by decide) ?_
                exact (lf6_22 n x1 x2 k1 k2 nn y1 y2 r hc6_1 hc26_2 hc37_31 hc44_60 hc52_61 hc66_73 hc70_79 hc96_80 hc104_81 hc118_82 H).elim
              ·
                refine iloadN w X d6_121 122 rfl rfl ?_
                refine iconst w X (1 : Int32) d6_122 123 rfl rfl ?_
                refine icmp_ne w X d6_123 134 126 (by decide) (by decide) rfl (fun q => absurd q (by decide)) (fun hc123_83 => ?_)
                refine aloadN w X d6_126 127 rfl rfl rfl ?_
                refine iconst w X (2 : Int32) d6_127 128 rfl rfl ?_
                refine iaload w X V_A (by decide) 2 rfl (Nat.le_of_ble_eq_true rfl) d6_128 129 rfl x2 rfl ?_
                refine iconst w X (1 : Int32) d6_129 130 rfl rfl ?_
                refine iadd w X (x2 + (1 : Int32)) d6_130 131 rfl rfl ?_
                refine goto w X d6_131 135 (by decide) (by decide) ?_
                obtain ⟨i5_84, hi5_84⟩ : ∃ z : Int32, z = (x2 + (1 : Int32)) := ⟨_, rfl⟩
                refine istore w X i5_84 d6_135 137 rfl hi5_84 #[.val (.ref A), .val (.ref B), .val (.int r), .val (.int (1 : Int32)), .val (.int (0 : Int32)), .val (.int i5_84)] rfl ?_
                refine iload w X d6_137 139 rfl rfl ?_
                refine if_eq w X d6_139 154 142 (by decide) (by decide) rfl (fun hc139_85 => ?_) (fun q => absurd q (by decide))
                refine iconst w X (0 : Int32) d6_154 155 rfl rfl ?_
                refine istore w X (0 : Int32) d6_155 157 rfl rfl #[.val (.ref A), .val (.ref B), .val (.int r), .val (.int (1 : Int32)), .val (.int (0 : Int32)), .val (.int i5_84)] rfl ?_
                refine iload w X d6_157 159 rfl rfl ?_
                refine retN w X (t := .boolean) rfl (by simp) d6_159 (by decide) (by decide) ?_
                exact (lf6_23 n x1 x2 k1 k2 nn y1 y2 r i5_84 hc6_1 hc26_2 hc37_31 hc44_60 hc52_61 hc66_73 hc70_79 hc96_80 hc104_81 hc118_82 hc123_83 hi5_84 hc139_85 H).elim
            ·
              refine iconst w X (1 : Int32) d6_107 108 rfl rfl ?_
              refine goto w X d6_108 112 (by decide) (by decide) ?_
              refine istore w X (1 : Int32) d6_112 114 rfl rfl #[.val (.ref A), .val (.ref B), .val (.int r), .val (.int (1 : Int32)), .val (.int (1 : Int32)), .val (.int x1)] rfl ?_
              refine aloadN w X d6_114 115 rfl rfl rfl ?_
              refine iconst w X (0 : Int32) d6_115 116 rfl rfl ?_
              refine iaload w X V_B (by decide) 0 rfl (Nat.le_of_ble_eq_true rfl) d6_116 117 rfl nn rfl ?_
              refine iconst w X (2 : Int32) d6_117 118 rfl rfl ?_
              refine icmp_lt w X d6_118 157 121 (by decide) (by decide) rfl (fun hc118_86 => ?_) (fun hc118_86 => ?_)
              ·
                refine iload w X d6_157 159 rfl rfl ?_
                refine retN w X (t := .boolean) rfl (by simp) d6_159 (by decide) (by decide) ?_
                exact ⟨(1 : Int32), rfl, rfl, rfl⟩
              ·
                refine iloadN w X d6_121 122 rfl rfl ?_
                refine iconst w X (1 : Int32) d6_122 123 rfl rfl ?_
                refine icmp_ne w X d6_123 134 126 (by decide) (by decide) rfl (fun q => absurd q (by decide)) (fun hc123_87 => ?_)
                refine aloadN w X d6_126 127 rfl rfl rfl ?_
                refine iconst w X (2 : Int32) d6_127 128 rfl rfl ?_
                refine iaload w X V_A (by decide) 2 rfl (Nat.le_of_ble_eq_true rfl) d6_128 129 rfl x2 rfl ?_
                refine iconst w X (1 : Int32) d6_129 130 rfl rfl ?_
                refine iadd w X (x2 + (1 : Int32)) d6_130 131 rfl rfl ?_
                refine goto w X d6_131 135 (by decide) (by decide) ?_
                obtain ⟨i5_88, hi5_88⟩ : ∃ z : Int32, z = (x2 + (1 : Int32)) := ⟨_, rfl⟩
                refine istore w X i5_88 d6_135 137 rfl hi5_88 #[.val (.ref A), .val (.ref B), .val (.int r), .val (.int (1 : Int32)), .val (.int (1 : Int32)), .val (.int i5_88)] rfl ?_
                refine iload w X d6_137 139 rfl rfl ?_
                refine if_eq w X d6_139 154 142 (by decide) (by decide) rfl (fun q => absurd q (by decide)) (fun hc139_89 => ?_)
                refine aloadN w X d6_142 143 rfl rfl rfl ?_
                refine iconst w X (2 : Int32) d6_143 144 rfl rfl ?_
                refine iaload w X V_B (by decide) 2 rfl (Nat.le_of_ble_eq_true rfl) d6_144 145 rfl y2 rfl ?_
                refine iload w X d6_145 147 rfl rfl ?_
                refine icmp_ne w X d6_147 154 150 (by decide) (by decide) rfl (fun hc147_90 => ?_) (fun hc147_90 => ?_)
                ·
                  refine iconst w X (0 : Int32) d6_154 155 rfl rfl ?_
                  refine istore w X (0 : Int32) d6_155 157 rfl rfl #[.val (.ref A), .val (.ref B), .val (.int r), .val (.int (1 : Int32)), .val (.int (0 : Int32)), .val (.int i5_88)] rfl ?_
                  refine iload w X d6_157 159 rfl rfl ?_
                  refine retN w X (t := .boolean) rfl (by simp) d6_159 (by decide) (by decide) ?_
                  exact (lf6_24 n x1 x2 k1 k2 nn y1 y2 r i5_88 hc6_1 hc26_2 hc37_31 hc44_60 hc52_61 hc66_73 hc70_79 hc96_80 hc104_81 hc118_86 hc123_87 hi5_88 hc139_89 hc147_90 H).elim
                ·
                  refine iconst w X (1 : Int32) d6_150 151 rfl rfl ?_
                  refine goto w X d6_151 155 (by decide) (by decide) ?_
                  refine istore w X (1 : Int32) d6_155 157 rfl rfl #[.val (.ref A), .val (.ref B), .val (.int r), .val (.int (1 : Int32)), .val (.int (1 : Int32)), .val (.int i5_88)] rfl ?_
                  refine iload w X d6_157 159 rfl rfl ?_
                  refine retN w X (t := .boolean) rfl (by simp) d6_159 (by decide) (by decide) ?_
                  exact ⟨(1 : Int32), rfl, rfl, rfl⟩
  ·
    refine aloadN w X d6_9 10 rfl rfl rfl ?_
    refine iconst w X (1 : Int32) d6_10 11 rfl rfl ?_
    refine iaload w X V_A (by decide) 1 rfl (Nat.le_of_ble_eq_true rfl) d6_11 12 rfl x1 rfl ?_
    refine aloadN w X d6_12 13 rfl rfl rfl ?_
    refine iconst w X (3 : Int32) d6_13 14 rfl rfl ?_
    refine iaload w X V_A (by decide) 3 rfl (Nat.le_of_ble_eq_true rfl) d6_14 15 rfl k1 rfl ?_
    refine iconst w X (1 : Int32) d6_15 16 rfl rfl ?_
    refine isub w X (k1 - (1 : Int32)) d6_16 17 rfl rfl ?_
    refine icmp_ge w X d6_17 22 20 (by decide) (by decide) rfl (fun hc17_91 => ?_) (fun hc17_91 => ?_)
    ·
      refine aloadN w X d6_22 23 rfl rfl rfl ?_
      refine iconst w X (0 : Int32) d6_23 24 rfl rfl ?_
      refine iaload w X V_A (by decide) 0 rfl (Nat.le_of_ble_eq_true rfl) d6_24 25 rfl n rfl ?_
      refine iconst w X (2 : Int32) d6_25 26 rfl rfl ?_
      refine icmp_lt w X d6_26 42 29 (by decide) (by decide) rfl (fun hc26_92 => ?_) (fun hc26_92 => ?_)
      ·
        refine iloadN w X d6_42 43 rfl rfl ?_
        refine iloadN w X d6_43 44 rfl rfl ?_
        refine if_lt w X d6_44 51 47 (by decide) (by decide) rfl (fun hc44_93 => ?_) (fun q => absurd q (by decide))
        refine iconst w X (0 : Int32) d6_51 52 rfl rfl ?_
        refine icmp_ne w X d6_52 59 55 (by decide) (by decide) rfl (fun hc52_94 => ?_) (fun hc52_94 => ?_)
        ·
          refine iconst w X (0 : Int32) d6_59 60 rfl rfl ?_
          refine istore w X (0 : Int32) d6_60 62 rfl rfl #[.val (.ref A), .val (.ref B), .val (.int r), .val (.int (-1 : Int32)), .val (.int (0 : Int32)), .unset] rfl ?_
          refine aloadN w X d6_62 63 rfl rfl rfl ?_
          refine iconst w X (0 : Int32) d6_63 64 rfl rfl ?_
          refine iaload w X V_B (by decide) 0 rfl (Nat.le_of_ble_eq_true rfl) d6_64 65 rfl nn rfl ?_
          refine iconst w X (1 : Int32) d6_65 66 rfl rfl ?_
          refine icmp_lt w X d6_66 114 69 (by decide) (by decide) rfl (fun hc66_95 => ?_) (fun hc66_95 => ?_)
          ·
            refine aloadN w X d6_114 115 rfl rfl rfl ?_
            refine iconst w X (0 : Int32) d6_115 116 rfl rfl ?_
            refine iaload w X V_B (by decide) 0 rfl (Nat.le_of_ble_eq_true rfl) d6_116 117 rfl nn rfl ?_
            refine iconst w X (2 : Int32) d6_117 118 rfl rfl ?_
            refine icmp_lt w X d6_118 157 121 (by decide) (by decide) rfl (fun hc118_96 => ?_) (fun hc118_96 => ?_)
            ·
              refine iload w X d6_157 159 rfl rfl ?_
              refine retN w X (t := .boolean) rfl (by simp) d6_159 (by decide) (by decide) ?_
              exact (lf6_25 n x1 x2 k1 k2 nn y1 y2 r hc6_1 hc17_91 hc26_92 hc44_93 hc52_94 hc66_95 hc118_96 H).elim
            ·
              refine iloadN w X d6_121 122 rfl rfl ?_
              refine iconst w X (1 : Int32) d6_122 123 rfl rfl ?_
              refine icmp_ne w X d6_123 134 126 (by decide) (by decide) rfl (fun hc123_97 => ?_) (fun q => absurd q (by decide))
              refine iconst w X (0 : Int32) d6_134 135 rfl rfl ?_
              refine istore w X (0 : Int32) d6_135 137 rfl rfl #[.val (.ref A), .val (.ref B), .val (.int r), .val (.int (-1 : Int32)), .val (.int (0 : Int32)), .val (.int (0 : Int32))] rfl ?_
              refine iload w X d6_137 139 rfl rfl ?_
              refine if_eq w X d6_139 154 142 (by decide) (by decide) rfl (fun hc139_98 => ?_) (fun q => absurd q (by decide))
              refine iconst w X (0 : Int32) d6_154 155 rfl rfl ?_
              refine istore w X (0 : Int32) d6_155 157 rfl rfl #[.val (.ref A), .val (.ref B), .val (.int r), .val (.int (-1 : Int32)), .val (.int (0 : Int32)), .val (.int (0 : Int32))] rfl ?_
              refine iload w X d6_157 159 rfl rfl ?_
              refine retN w X (t := .boolean) rfl (by simp) d6_159 (by decide) (by decide) ?_
              exact (lf6_26 n x1 x2 k1 k2 nn y1 y2 r hc6_1 hc17_91 hc26_92 hc44_93 hc52_94 hc66_95 hc118_96 hc123_97 hc139_98 H).elim
          ·
            refine iloadN w X d6_69 70 rfl rfl ?_
            refine if_le w X d6_70 79 73 (by decide) (by decide) rfl (fun hc70_99 => ?_) (fun q => absurd q (by decide))
            refine iloadN w X d6_79 80 rfl rfl ?_
            refine if_ne w X d6_80 91 83 (by decide) (by decide) rfl (fun hc80_100 => ?_) (fun q => absurd q (by decide))
            refine iconst w X (0 : Int32) d6_91 92 rfl rfl ?_
            refine istore w X (0 : Int32) d6_92 94 rfl rfl #[.val (.ref A), .val (.ref B), .val (.int r), .val (.int (-1 : Int32)), .val (.int (0 : Int32)), .val (.int (0 : Int32))] rfl ?_
            refine iload w X d6_94 96 rfl rfl ?_
            refine if_eq w X d6_96 111 99 (by decide) (by decide) rfl (fun hc96_101 => ?_) (fun q => absurd q (by decide))
            refine iconst w X (0 : Int32) d6_111 112 rfl rfl ?_
            refine istore w X (0 : Int32) d6_112 114 rfl rfl #[.val (.ref A), .val (.ref B), .val (.int r), .val (.int (-1 : Int32)), .val (.int (0 : Int32)), .val (.int (0 : Int32))] rfl ?_
            refine aloadN w X d6_114 115 rfl rfl rfl ?_
            refine iconst w X (0 : Int32) d6_115 116 rfl rfl ?_
            refine iaload w X V_B (by decide) 0 rfl (Nat.le_of_ble_eq_true rfl) d6_116 117 rfl nn rfl ?_
            refine iconst w X (2 : Int32) d6_117 118 rfl rfl ?_
            refine icmp_lt w X d6_118 157 121 (by decide) (by decide) rfl (fun hc118_102 => ?_) (fun hc118_102 => ?_)
            ·
              refine iload w X d6_157 159 rfl rfl ?_
              refine retN w X (t := .boolean) rfl (by simp) d6_159 (by decide) (by decide) ?_
              exact (lf6_27 n x1 x2 k1 k2 nn y1 y2 r hc6_1 hc17_91 hc26_92 hc44_93 hc52_94 hc66_95 hc70_99 hc80_100 hc96_101 hc118_102 H).elim
            ·
              refine iloadN w X d6_121 122 rfl rfl ?_
              refine iconst w X (1 : Int32) d6_122 123 rfl rfl ?_
              refine icmp_ne w X d6_123 134 126 (by decide) (by decide) rfl (fun hc123_103 => ?_) (fun q => absurd q (by decide))
              refine iconst w X (0 : Int32) d6_134 135 rfl rfl ?_
              refine istore w X (0 : Int32) d6_135 137 rfl rfl #[.val (.ref A), .val (.ref B), .val (.int r), .val (.int (-1 : Int32)), .val (.int (0 : Int32)), .val (.int (0 : Int32))] rfl ?_
              refine iload w X d6_137 139 rfl rfl ?_
              refine if_eq w X d6_139 154 142 (by decide) (by decide) rfl (fun hc139_104 => ?_) (fun q => absurd q (by decide))
              refine iconst w X (0 : Int32) d6_154 155 rfl rfl ?_
              refine istore w X (0 : Int32) d6_155 157 rfl rfl #[.val (.ref A), .val (.ref B), .val (.int r), .val (.int (-1 : Int32)), .val (.int (0 : Int32)), .val (.int (0 : Int32))] rfl ?_
              refine iload w X d6_157 159 rfl rfl ?_
              refine retN w X (t := .boolean) rfl (by simp) d6_159 (by decide) (by decide) ?_
              exact (lf6_28 n x1 x2 k1 k2 nn y1 y2 r hc6_1 hc17_91 hc26_92 hc44_93 hc52_94 hc66_95 hc70_99 hc80_100 hc96_101 hc118_102 hc123_103 hc139_104 H).elim
        ·
          refine iconst w X (1 : Int32) d6_55 56 rfl rfl ?_
          refine goto w X d6_56 60 (by decide) (by decide) ?_
          refine istore w X (1 : Int32) d6_60 62 rfl rfl #[.val (.ref A), .val (.ref B), .val (.int r), .val (.int (-1 : Int32)), .val (.int (1 : Int32)), .unset] rfl ?_
          refine aloadN w X d6_62 63 rfl rfl rfl ?_
          refine iconst w X (0 : Int32) d6_63 64 rfl rfl ?_
          refine iaload w X V_B (by decide) 0 rfl (Nat.le_of_ble_eq_true rfl) d6_64 65 rfl nn rfl ?_
          refine iconst w X (1 : Int32) d6_65 66 rfl rfl ?_
          refine icmp_lt w X d6_66 114 69 (by decide) (by decide) rfl (fun hc66_105 => ?_) (fun hc66_105 => ?_)
          ·
            refine aloadN w X d6_114 115 rfl rfl rfl ?_
            refine iconst w X (0 : Int32) d6_115 116 rfl rfl ?_
            refine iaload w X V_B (by decide) 0 rfl (Nat.le_of_ble_eq_true rfl) d6_116 117 rfl nn rfl ?_
            refine iconst w X (2 : Int32) d6_117 118 rfl rfl ?_
            refine icmp_lt w X d6_118 157 121 (by decide) (by decide) rfl (fun hc118_106 => ?_) (fun hc118_106 => ?_)
            ·
              refine iload w X d6_157 159 rfl rfl ?_
              refine retN w X (t := .boolean) rfl (by simp) d6_159 (by decide) (by decide) ?_
              exact ⟨(1 : Int32), rfl, rfl, rfl⟩
            ·
              refine iloadN w X d6_121 122 rfl rfl ?_
              refine iconst w X (1 : Int32) d6_122 123 rfl rfl ?_
              refine icmp_ne w X d6_123 134 126 (by decide) (by decide) rfl (fun hc123_107 => ?_) (fun q => absurd q (by decide))
              refine iconst w X (0 : Int32) d6_134 135 rfl rfl ?_
              refine istore w X (0 : Int32) d6_135 137 rfl rfl #[.val (.ref A), .val (.ref B), .val (.int r), .val (.int (-1 : Int32)), .val (.int (1 : Int32)), .val (.int (0 : Int32))] rfl ?_
              refine iload w X d6_137 139 rfl rfl ?_
              refine if_eq w X d6_139 154 142 (by decide) (by decide) rfl (fun q => absurd q (by decide)) (fun hc139_108 => ?_)
              refine aloadN w X d6_142 143 rfl rfl rfl ?_
              refine iconst w X (2 : Int32) d6_143 144 rfl rfl ?_
              refine iaload w X V_B (by decide) 2 rfl (Nat.le_of_ble_eq_true rfl) d6_144 145 rfl y2 rfl ?_
              refine iload w X d6_145 147 rfl rfl ?_
              refine icmp_ne w X d6_147 154 150 (by decide) (by decide) rfl (fun hc147_109 => ?_) (fun hc147_109 => ?_)
              ·
                refine iconst w X (0 : Int32) d6_154 155 rfl rfl ?_
                refine istore w X (0 : Int32) d6_155 157 rfl rfl #[.val (.ref A), .val (.ref B), .val (.int r), .val (.int (-1 : Int32)), .val (.int (0 : Int32)), .val (.int (0 : Int32))] rfl ?_
                refine iload w X d6_157 159 rfl rfl ?_
                refine retN w X (t := .boolean) rfl (by simp) d6_159 (by decide) (by decide) ?_
                exact (lf6_29 n x1 x2 k1 k2 nn y1 y2 r hc6_1 hc17_91 hc26_92 hc44_93 hc52_94 hc66_105 hc118_106 hc123_107 hc139_108 hc147_109 H).elim
              ·
                refine iconst w X (1 : Int32) d6_150 151 rfl rfl ?_
                refine goto w X d6_151 155 (by decide) (by decide) ?_
                refine istore w X (1 : Int32) d6_155 157 rfl rfl #[.val (.ref A), .val (.ref B), .val (.int r), .val (.int (-1 : Int32)), .val (.int (1 : Int32)), .val (.int (0 : Int32))] rfl ?_
                refine iload w X d6_157 159 rfl rfl ?_
                refine retN w X (t := .boolean) rfl (by simp) d6_159 (by decide) (by decide) ?_
                exact ⟨(1 : Int32), rfl, rfl, rfl⟩
          ·
            refine iloadN w X d6_69 70 rfl rfl ?_
            refine if_le w X d6_70 79 73 (by decide) (by decide) rfl (fun hc70_110 => ?_) (fun q => absurd q (by decide))
            refine iloadN w X d6_79 80 rfl rfl ?_
            refine if_ne w X d6_80 91 83 (by decide) (by decide) rfl (fun hc80_111 => ?_) (fun q => absurd q (by decide))
            refine iconst w X (0 : Int32) d6_91 92 rfl rfl ?_
            refine istore w X (0 : Int32) d6_92 94 rfl rfl #[.val (.ref A), .val (.ref B), .val (.int r), .val (.int (-1 : Int32)), .val (.int (1 : Int32)), .val (.int (0 : Int32))] rfl ?_
            refine iload w X d6_94 96 rfl rfl ?_
            refine if_eq w X d6_96 111 99 (by decide) (by decide) rfl (fun q => absurd q (by decide)) (fun hc96_112 => ?_)
            refine aloadN w X d6_99 100 rfl rfl rfl ?_
            refine iconst w X (1 : Int32) d6_100 101 rfl rfl ?_
            refine iaload w X V_B (by decide) 1 rfl (Nat.le_of_ble_eq_true rfl) d6_101 102 rfl y1 rfl ?_
            refine iload w X d6_102 104 rfl rfl ?_
            refine icmp_ne w X d6_104 111 107 (by decide) (by decide) rfl (fun hc104_113 => ?_) (fun hc104_113 => ?_)
            ·
              refine iconst w X (0 : Int32) d6_111 112 rfl rfl ?_
              refine istore w X (0 : Int32) d6_112 114 rfl rfl #[.val (.ref A), .val (.ref B), .val (.int r), .val (.int (-1 : Int32)), .val (.int (0 : Int32)), .val (.int (0 : Int32))] rfl ?_
              refine aloadN w X d6_114 115 rfl rfl rfl ?_
              refine iconst w X (0 : Int32) d6_115 116 rfl rfl ?_
              refine iaload w X V_B (by decide) 0 rfl (Nat.le_of_ble_eq_true rfl) d6_116 117 rfl nn rfl ?_
              refine iconst w X (2 : Int32) d6_117 118 rfl rfl ?_
              refine icmp_lt w X d6_118 157 121 (by decide) (by decide) rfl (fun hc118_114 => ?_) (fun hc118_114 => ?_)
              ·
                refine iload w X d6_157 159 rfl rfl ?_
                refine retN w X (t := .boolean) rfl (by simp) d6_159 (by decide) (by decide) ?_
                exact (lf6_30 n x1 x2 k1 k2 nn y1 y2 r hc6_1 hc17_91 hc26_92 hc44_93 hc52_94 hc66_105 hc70_110 hc80_111 hc96_112 hc104_113 hc118_114 H).elim
              ·
                refine iloadN w X d6_121 122 rfl rfl ?_
                refine iconst w X (1 : Int32) d6_122 123 rfl rfl ?_
                refine icmp_ne w X d6_123 134 126 (by decide) (by decide) rfl (fun hc123_115 => ?_) (fun q => absurd q (by decide))
                refine iconst w X (0 : Int32) d6_134 135 rfl rfl ?_
                refine istore w X (0 : Int32) d6_135 137 rfl rfl #[.val (.ref A), .val (.ref B), .val (.int r), .val (.int (-1 : Int32)), .val (.int (0 : Int32)), .val (.int (0 : Int32))] rfl ?_
                refine iload w X d6_137 139 rfl rfl ?_
                refine if_eq w X d6_139 154 142 (by decide) (by decide) rfl (fun hc139_116 => ?_) (fun q => absurd q (by decide))
                refine iconst w X (0 : Int32) d6_154 155 rfl rfl ?_
                refine istore w X (0 : Int32) d6_155 157 rfl rfl #[.val (.ref A), .val (.ref B), .val (.int r), .val (.int (-1 : Int32)), .val (.int (0 : Int32)), .val (.int (0 : Int32))] rfl ?_
                refine iload w X d6_157 159 rfl rfl ?_
                refine retN w X (t := .boolean) rfl (by simp) d6_159 (by decide) (by decide) ?_
                exact (lf6_31 n x1 x2 k1 k2 nn y1 y2 r hc6_1 hc17_91 hc26_92 hc44_93 hc52_94 hc66_105 hc70_110 hc80_111 hc96_112 hc104_113 hc118_114 hc123_115 hc139_116 H).elim
            ·
              refine iconst w X (1 : Int32) d6_107 108 rfl rfl ?_
              refine goto w X d6_108 112 (by decide) (by decide) ?_
              refine istore w X (1 : Int32) d6_112 114 rfl rfl #[.val (.ref A), .val (.ref B), .val (.int r), .val (.int (-1 : Int32)), .val (.int (1 : Int32)), .val (.int (0 : Int32))] rfl ?_
              refine aloadN w X d6_114 115 rfl rfl rfl ?_
              refine iconst w X (0 : Int32) d6_115 116 rfl rfl ?_
              refine iaload w X V_B (by decide) 0 rfl (Nat.le_of_ble_eq_true rfl) d6_116 117 rfl nn rfl ?_
              refine iconst w X (2 : Int32) d6_117 118 rfl rfl ?_
              refine icmp_lt w X d6_118 157 121 (by decide) (by decide) rfl (fun hc118_117 => ?_) (fun hc118_117 => ?_)
              ·
                refine iload w X d6_157 159 rfl rfl ?_
                refine retN w X (t := .boolean) rfl (by simp) d6_159 (by decide) (by decide) ?_
                exact ⟨(1 : Int32), rfl, rfl, rfl⟩
              ·
                refine iloadN w X d6_121 122 rfl rfl ?_
                refine iconst w X (1 : Int32) d6_122 123 rfl rfl ?_
                refine icmp_ne w X d6_123 134 126 (by decide) (by decide) rfl (fun hc123_118 => ?_) (fun q => absurd q (by decide))
                refine iconst w X (0 : Int32) d6_134 135 rfl rfl ?_
                refine istore w X (0 : Int32) d6_135 137 rfl rfl #[.val (.ref A), .val (.ref B), .val (.int r), .val (.int (-1 : Int32)), .val (.int (1 : Int32)), .val (.int (0 : Int32))] rfl ?_
                refine iload w X d6_137 139 rfl rfl ?_
                refine if_eq w X d6_139 154 142 (by decide) (by decide) rfl (fun q => absurd q (by decide)) (fun hc139_119 => ?_)
                refine aloadN w X d6_142 143 rfl rfl rfl ?_
                refine iconst w X (2 : Int32) d6_143 144 rfl rfl ?_
                refine iaload w X V_B (by decide) 2 rfl (Nat.le_of_ble_eq_true rfl) d6_144 145 rfl y2 rfl ?_
                refine iload w X d6_145 147 rfl rfl ?_
                refine icmp_ne w X d6_147 154 150 (by decide) (by decide) rfl (fun hc147_120 => ?_) (fun hc147_120 => ?_)
                ·
                  refine iconst w X (0 : Int32) d6_154 155 rfl rfl ?_
                  refine istore w X (0 : Int32) d6_155 157 rfl rfl #[.val (.ref A), .val (.ref B), .val (.int r), .val (.int (-1 : Int32)), .val (.int (0 : Int32)), .val (.int (0 : Int32))] rfl ?_
                  refine iload w X d6_157 159 rfl rfl ?_
                  refine retN w X (t := .boolean) rfl (by simp) d6_159 (by decide) (by decide) ?_
                  exact (lf6_32 n x1 x2 k1 k2 nn y1 y2 r hc6_1 hc17_91 hc26_92 hc44_93 hc52_94 hc66_105 hc70_110 hc80_111 hc96_112 hc104_113 hc118_117 hc123_118 hc139_119 hc147_120 H).elim
                ·
                  refine iconst w X (1 : Int32) d6_150 151 rfl rfl ?_
                  refine goto w X d6_151 155 (by decide) (by decide) ?_
                  refine istore w X (1 : Int32) d6_155 157 rfl rfl #[.val (.ref A), .val (.ref B), .val (.int r), .val (.int (-1 : Int32)), .val (.int (1 : Int32)), .val (.int (0 : Int32))] rfl ?_
                  refine iload w X d6_157 159 rfl rfl ?_
                  refine retN w X (t := .boolean) rfl (by simp) d6_159 (by decide) (by decide) ?_
                  exact ⟨(1 : Int32), rfl, rfl, rfl⟩
      ·
        refine aloadN w X d6_29 30 rfl rfl rfl ?_
        refine iconst w X (2 : Int32) d6_30 31 rfl rfl ?_
        refine iaload w X V_A (by decide) 2 rfl (Nat.le_of_ble_eq_true rfl) d6_31 32 rfl x2 rfl ?_
        refine aloadN w X d6_32 33 rfl rfl rfl ?_
        refine iconst w X (4 : Int32) d6_33 34 rfl rfl ?_
        refine iaload w X V_A (by decide) 4 rfl (Nat.le_of_ble_eq_true rfl) d6_34 35 rfl k2 rfl ?_
        refine iconst w X (1 : Int32) d6_35 36 rfl rfl ?_
        refine isub w X (k2 - (1 : Int32)) d6_36 37 rfl rfl ?_
        refine icmp_ge w X d6_37 42 40 (by decide) (by decide) rfl (fun hc37_121 => ?_) (fun hc37_121 => ?_)
        ·
          refine iloadN w X d6_42 43 rfl rfl ?_
          refine iloadN w X d6_43 44 rfl rfl ?_
          refine if_lt w X d6_44 51 47 (by decide) (by decide) rfl (fun hc44_122 => ?_) (fun q => absurd q (by decide))
          refine iconst w X (0 : Int32) d6_51 52 rfl rfl ?_
          refine icmp_ne w X d6_52 59 55 (by decide) (by decide) rfl (fun hc52_123 => ?_) (fun hc52_123 => ?_)
          ·
            refine iconst w X (0 : Int32) d6_59 60 rfl rfl ?_
            refine istore w X (0 : Int32) d6_60 62 rfl rfl #[.val (.ref A), .val (.ref B), .val (.int r), .val (.int (-1 : Int32)), .val (.int (0 : Int32)), .unset] rfl ?_
            refine aloadN w X d6_62 63 rfl rfl rfl ?_
            refine iconst w X (0 : Int32) d6_63 64 rfl rfl ?_
            refine iaload w X V_B (by decide) 0 rfl (Nat.le_of_ble_eq_true rfl) d6_64 65 rfl nn rfl ?_
            refine iconst w X (1 : Int32) d6_65 66 rfl rfl ?_
            refine icmp_lt w X d6_66 114 69 (by decide) (by decide) rfl (fun hc66_124 => ?_) (fun hc66_124 => ?_)
            ·
              refine aloadN w X d6_114 115 rfl rfl rfl ?_
              refine iconst w X (0 : Int32) d6_115 116 rfl rfl ?_
              refine iaload w X V_B (by decide) 0 rfl (Nat.le_of_ble_eq_true rfl) d6_116 117 rfl nn rfl ?_
              refine iconst w X (2 : Int32) d6_117 118 rfl rfl ?_
              refine icmp_lt w X d6_118 157 121 (by decide) (by decide) rfl (fun hc118_125 => ?_) (fun hc118_125 => ?_)
              ·
                refine iload w X d6_157 159 rfl rfl ?_
                refine retN w X (t := .boolean) rfl (by simp) d6_159 (by decide) (by decide) ?_
                exact (lf6_33 n x1 x2 k1 k2 nn y1 y2 r hc6_1 hc17_91 hc26_92 hc37_121 hc44_122 hc52_123 hc66_124 hc118_125 H).elim
              ·
                refine iloadN w X d6_121 122 rfl rfl ?_
                refine iconst w X (1 : Int32) d6_122 123 rfl rfl ?_
                refine icmp_ne w X d6_123 134 126 (by decide) (by decide) rfl (fun hc123_126 => ?_) (fun q => absurd q (by decide))
                refine iconst w X (0 : Int32) d6_134 135 rfl rfl ?_
                refine istore w X (0 : Int32) d6_135 137 rfl rfl #[.val (.ref A), .val (.ref B), .val (.int r), .val (.int (-1 : Int32)), .val (.int (0 : Int32)), .val (.int (0 : Int32))] rfl ?_
                refine iload w X d6_137 139 rfl rfl ?_
                refine if_eq w X d6_139 154 142 (by decide) (by decide) rfl (fun hc139_127 => ?_) (fun q => absurd q (by decide))
                refine iconst w X (0 : Int32) d6_154 155 rfl rfl ?_
                refine istore w X (0 : Int32) d6_155 157 rfl rfl #[.val (.ref A), .val (.ref B), .val (.int r), .val (.int (-1 : Int32)), .val (.int (0 : Int32)), .val (.int (0 : Int32))] rfl ?_
                refine iload w X d6_157 159 rfl rfl ?_
                refine retN w X (t := .boolean) rfl (by simp) d6_159 (by decide) (by decide) ?_
                exact (lf6_34 n x1 x2 k1 k2 nn y1 y2 r hc6_1 hc17_91 hc26_92 hc37_121 hc44_122 hc52_123 hc66_124 hc118_125 hc123_126 hc139_127 H).elim
            ·
              refine iloadN w X d6_69 70 rfl rfl ?_
              refine if_le w X d6_70 79 73 (by decide) (by decide) rfl (fun hc70_128 => ?_) (fun q => absurd q (by decide))
              refine iloadN w X d6_79 80 rfl rfl ?_
              refine if_ne w X d6_80 91 83 (by decide) (by decide) rfl (fun hc80_129 => ?_) (fun q => absurd q (by decide))
              refine iconst w X (0 : Int32) d6_91 92 rfl rfl ?_
              refine istore w X (0 : Int32) d6_92 94 rfl rfl #[.val (.ref A), .val (.ref B), .val (.int r), .val (.int (-1 : Int32)), .val (.int (0 : Int32)), .val (.int (0 : Int32))] rfl ?_
              refine iload w X d6_94 96 rfl rfl ?_
              refine if_eq w X d6_96 111 99 (by decide) (by decide) rfl (fun hc96_130 => ?_) (fun q => absurd q (by decide))
              refine iconst w X (0 : Int32) d6_111 112 rfl rfl ?_
              refine istore w X (0 : Int32) d6_112 114 rfl rfl #[.val (.ref A), .val (.ref B), .val (.int r), .val (.int (-1 : Int32)), .val (.int (0 : Int32)), .val (.int (0 : Int32))] rfl ?_
              refine aloadN w X d6_114 115 rfl rfl rfl ?_
              refine iconst w X (0 : Int32) d6_115 116 rfl rfl ?_
              refine iaload w X V_B (by decide) 0 rfl (Nat.le_of_ble_eq_true rfl) d6_116 117 rfl nn rfl ?_
              refine iconst w X (2 : Int32) d6_117 118 rfl rfl ?_
              refine icmp_lt w X d6_118 157 121 (by decide) (by decide) rfl (fun hc118_131 => ?_) (fun hc118_131 => ?_)
              ·
                refine iload w X d6_157 159 rfl rfl ?_
                refine retN w X (t := .boolean) rfl (by simp) d6_159 (by decide) (by decide) ?_
                exact (lf6_35 n x1 x2 k1 k2 nn y1 y2 r hc6_1 hc17_91 hc26_92 hc37_121 hc44_122 hc52_123 hc66_124 hc70_128 hc80_129 hc96_130 hc118_131 H).elim
              ·
                refine iloadN w X d6_121 122 rfl rfl ?_
                refine iconst w X (1 : Int32) d6_122 123 rfl rfl ?_
                refine icmp_ne w X d6_123 134 126 (by decide) (by decide) rfl (fun hc123_132 => ?_) (fun q => absurd q (by decide))
                refine iconst w X (0 : Int32) d6_134 135 rfl rfl ?_
                refine istore w X (0 : Int32) d6_135 137 rfl rfl #[.val (.ref A), .val (.ref B), .val (.int r), .val (.int (-1 : Int32)), .val (.int (0 : Int32)), .val (.int (0 : Int32))] rfl ?_
                refine iload w X d6_137 139 rfl rfl ?_
                refine if_eq w X d6_139 154 142 (by decide) (by decide) rfl (fun hc139_133 => ?_) (fun q => absurd q (by decide))
                refine iconst w X (0 : Int32) d6_154 155 rfl rfl ?_
                refine istore w X (0 : Int32) d6_155 157 rfl rfl #[.val (.ref A), .val (.ref B), .val (.int r), .val (.int (-1 : Int32)), .val (.int (0 : Int32)), .val (.int (0 : Int32))] rfl ?_
                refine iload w X d6_157 159 rfl rfl ?_
                refine retN w X (t := .boolean) rfl (by simp) d6_159 (by decide) (by decide) ?_
                exact (lf6_36 n x1 x2 k1 k2 nn y1 y2 r hc6_1 hc17_91 hc26_92 hc37_121 hc44_122 hc52_123 hc66_124 hc70_128 hc80_129 hc96_130 hc118_131 hc123_132 hc139_133 H).elim
          ·
            refine iconst w X (1 : Int32) d6_55 56 rfl rfl ?_
            refine goto w X d6_56 60 (by decide) (by decide) ?_
            refine istore w X (1 : Int32) d6_60 62 rfl rfl #[.val (.ref A), .val (.ref B), .val (.int r), .val (.int (-1 : Int32)), .val (.int (1 : Int32)), .unset] rfl ?_
            refine aloadN w X d6_62 63 rfl rfl rfl ?_
            refine iconst w X (0 : Int32) d6_63 64 rfl rfl ?_
            refine iaload w X V_B (by decide) 0 rfl (Nat.le_of_ble_eq_true rfl) d6_64 65 rfl nn rfl ?_
            refine iconst w X (1 : Int32) d6_65 66 rfl rfl ?_
            refine icmp_lt w X d6_66 114 69 (by decide) (by decide) rfl (fun hc66_134 => ?_) (fun hc66_134 => ?_)
            ·
              refine aloadN w X d6_114 115 rfl rfl rfl ?_
              refine iconst w X (0 : Int32) d6_115 116 rfl rfl ?_
              refine iaload w X V_B (by decide) 0 rfl (Nat.le_of_ble_eq_true rfl) d6_116 117 rfl nn rfl ?_
              refine iconst w X (2 : Int32) d6_117 118 rfl rfl ?_
              refine icmp_lt w X d6_118 157 121 (by decide) (by decide) rfl (fun hc118_135 => ?_) (fun hc118_135 => ?_)
              ·
                refine iload w X d6_157 159 rfl rfl ?_
                refine retN w X (t := .boolean) rfl (by simp) d6_159 (by decide) (by decide) ?_
                exact ⟨(1 : Int32), rfl, rfl, rfl⟩
              ·
                refine iloadN w X d6_121 122 rfl rfl ?_
                refine iconst w X (1 : Int32) d6_122 123 rfl rfl ?_
                refine icmp_ne w X d6_123 134 126 (by decide) (by decide) rfl (fun hc123_136 => ?_) (fun q => absurd q (by decide))
                refine iconst w X (0 : Int32) d6_134 135 rfl rfl ?_
                refine istore w X (0 : Int32) d6_135 137 rfl rfl #[.val (.ref A), .val (.ref B), .val (.int r), .val (.int (-1 : Int32)), .val (.int (1 : Int32)), .val (.int (0 : Int32))] rfl ?_
                refine iload w X d6_137 139 rfl rfl ?_
                refine if_eq w X d6_139 154 142 (by decide) (by decide) rfl (fun q => absurd q (by decide)) (fun hc139_137 => ?_)
                refine aloadN w X d6_142 143 rfl rfl rfl ?_
                refine iconst w X (2 : Int32) d6_143 144 rfl rfl ?_
                refine iaload w X V_B (by decide) 2 rfl (Nat.le_of_ble_eq_true rfl) d6_144 145 rfl y2 rfl ?_
                refine iload w X d6_145 147 rfl rfl ?_
                refine icmp_ne w X d6_147 154 150 (by decide) (by decide) rfl (fun hc147_138 => ?_) (fun hc147_138 => ?_)
                ·
                  refine iconst w X (0 : Int32) d6_154 155 rfl rfl ?_
                  refine istore w X (0 : Int32) d6_155 157 rfl rfl #[.val (.ref A), .val (.ref B), .val (.int r), .val (.int (-1 : Int32)), .val (.int (0 : Int32)), .val (.int (0 : Int32))] rfl ?_
                  refine iload w X d6_157 159 rfl rfl ?_
                  refine retN w X (t := .boolean) rfl (by simp) d6_159 (by decide) (by decide) ?_
                  exact (lf6_37 n x1 x2 k1 k2 nn y1 y2 r hc6_1 hc17_91 hc26_92 hc37_121 hc44_122 hc52_123 hc66_134 hc118_135 hc123_136 hc139_137 hc147_138 H).elim
                ·
                  refine iconst w X (1 : Int32) d6_150 151 rfl rfl ?_
                  refine goto w X d6_151 155 (by decide) (by decide) ?_
                  refine istore w X (1 : Int32) d6_155 157 rfl rfl #[.val (.ref A), .val (.ref B), .val (.int r), .val (.int (-1 : Int32)), .val (.int (1 : Int32)), .val (.int (0 : Int32))] rfl ?_
                  refine iload w X d6_157 159 rfl rfl ?_
                  refine retN w X (t := .boolean) rfl (by simp) d6_159 (by decide) (by decide) ?_
                  exact ⟨(1 : Int32), rfl, rfl, rfl⟩
            ·
              refine iloadN w X d6_69 70 rfl rfl ?_
              refine if_le w X d6_70 79 73 (by decide) (by decide) rfl (fun hc70_139 => ?_) (fun q => absurd q (by decide))
              refine iloadN w X d6_79 80 rfl rfl ?_
              refine if_ne w X d6_80 91 83 (by decide) (by decide) rfl (fun hc80_140 => ?_) (fun q => absurd q (by decide))
              refine iconst w X (0 : Int32) d6_91 92 rfl rfl ?_
              refine istore w X (0 : Int32) d6_92 94 rfl rfl #[.val (.ref A), .val (.ref B), .val (.int r), .val (.int (-1 : Int32)), .val (.int (1 : Int32)), .val (.int (0 : Int32))] rfl ?_
              refine iload w X d6_94 96 rfl rfl ?_
              refine if_eq w X d6_96 111 99 (by decide) (by decide) rfl (fun q => absurd q (by decide)) (fun hc96_141 => ?_)
              refine aloadN w X d6_99 100 rfl rfl rfl ?_
              refine iconst w X (1 : Int32) d6_100 101 rfl rfl ?_
              refine iaload w X V_B (by decide) 1 rfl (Nat.le_of_ble_eq_true rfl) d6_101 102 rfl y1 rfl ?_
              refine iload w X d6_102 104 rfl rfl ?_
              refine icmp_ne w X d6_104 111 107 (by decide) (by decide) rfl (fun hc104_142 => ?_) (fun hc104_142 => ?_)
              ·
                refine iconst w X (0 : Int32) d6_111 112 rfl rfl ?_
                refine istore w X (0 : Int32) d6_112 114 rfl rfl #[.val (.ref A), .val (.ref B), .val (.int r), .val (.int (-1 : Int32)), .val (.int (0 : Int32)), .val (.int (0 : Int32))] rfl ?_
                refine aloadN w X d6_114 115 rfl rfl rfl ?_
                refine iconst w X (0 : Int32) d6_115 116 rfl rfl ?_
                refine iaload w X V_B (by decide) 0 rfl (Nat.le_of_ble_eq_true rfl) d6_116 117 rfl nn rfl ?_
                refine iconst w X (2 : Int32) d6_117 118 rfl rfl ?_
                refine icmp_lt w X d6_118 157 121 (by decide) (by decide) rfl (fun hc118_143 => ?_) (fun hc118_143 => ?_)
                ·
                  refine iload w X d6_157 159 rfl rfl ?_
                  refine retN w X (t := .boolean) rfl (by simp) d6_159 (by decide) (by decide) ?_
                  exact (lf6_38 n x1 x2 k1 k2 nn y1 y2 r hc6_1 hc17_91 hc26_92 hc37_121 hc44_122 hc52_123 hc66_134 hc70_139 hc80_140 hc96_141 hc104_142 hc118_143 H).elim
                ·
                  refine iloadN w X d6_121 122 rfl rfl ?_
                  refine iconst w X (1 : Int32) d6_122 123 rfl rfl ?_
                  refine icmp_ne w X d6_123 134 126 (by decide) (by decide) rfl (fun hc123_144 => ?_) (fun q => absurd q (by decide))
                  refine iconst w X (0 : Int32) d6_134 135 rfl rfl ?_
                  refine istore w X (0 : Int32) d6_135 137 rfl rfl #[.val (.ref A), .val (.ref B), .val (.int r), .val (.int (-1 : Int32)), .val (.int (0 : Int32)), .val (.int (0 : Int32))] rfl ?_
                  refine iload w X d6_137 139 rfl rfl ?_
                  refine if_eq w X d6_139 154 142 (by decide) (by decide) rfl (fun hc139_145 => ?_) (fun q => absurd q (by decide))
                  refine iconst w X (0 : Int32) d6_154 155 rfl rfl ?_
                  refine istore w X (0 : Int32) d6_155 157 rfl rfl #[.val (.ref A), .val (.ref B), .val (.int r), .val (.int (-1 : Int32)), .val (.int (0 : Int32)), .val (.int (0 : Int32))] rfl ?_
                  refine iload w X d6_157 159 rfl rfl ?_
                  refine retN w X (t := .boolean) rfl (by simp) d6_159 (by decide) (by decide) ?_
                  exact (lf6_39 n x1 x2 k1 k2 nn y1 y2 r hc6_1 hc17_91 hc26_92 hc37_121 hc44_122 hc52_123 hc66_134 hc70_139 hc80_140 hc96_141 hc104_142 hc118_143 hc123_144 hc139_145 H).elim
              ·
                refine iconst w X (1 : Int32) d6_107 108 rfl rfl ?_
                refine goto w X d6_108 112 (by decide) (by decide) ?_
                refine istore w X (1 : Int32) d6_112 114 rfl rfl #[.val (.ref A), .val (.ref B), .val (.int r), .val (.int (-1 : Int32)), .val (.int (1 : Int32)), .val (.int (0 : Int32))] rfl ?_
                refine aloadN w X d6_114 115 rfl rfl rfl ?_
                refine iconst w X (0 : Int32) d6_115 116 rfl rfl ?_
                refine iaload w X V_B (by decide) 0 rfl (Nat.le_of_ble_eq_true rfl) d6_116 117 rfl nn rfl ?_
                refine iconst w X (2 : Int32) d6_117 118 rfl rfl ?_
                refine icmp_lt w X d6_118 157 121 (by decide) (by decide) rfl (fun hc118_146 => ?_) (fun hc118_146 => ?_)
                ·
                  refine iload w X d6_157 159 rfl rfl ?_
                  refine retN w X (t := .boolean) rfl (by simp) d6_159 (by decide) (by decide) ?_
                  exact ⟨(1 : Int32), rfl, rfl, rfl⟩
                ·
                  refine iloadN w X d6_121 122 rfl rfl ?_
                  refine iconst w X (1 : Int32) d6_122 123 rfl rfl ?_
                  refine icmp_ne w X d6_123 134 126 (by decide) (by decide) rfl (fun hc123_147 => ?_) (fun q => absurd q (by decide))
                  refine iconst w X (0 : Int32) d6_134 135 rfl rfl ?_
                  refine istore w X (0 : Int32) d6_135 137 rfl rfl #[.val (.ref A), .val (.ref B), .val (.int r), .val (.int (-1 : Int32)), .val (.int (1 : Int32)), .val (.int (0 : Int32))] rfl ?_
                  refine iload w X d6_137 139 rfl rfl ?_
                  refine if_eq w X d6_139 154 142 (by decide) (by decide) rfl (fun q => absurd q (by decide)) (fun hc139_148 => ?_)
                  refine aloadN w X d6_142 143 rfl rfl rfl ?_
                  refine iconst w X (2 : Int32) d6_143 144 rfl rfl ?_
                  refine iaload w X V_B (by decide) 2 rfl (Nat.le_of_ble_eq_true rfl) d6_144 145 rfl y2 rfl ?_
                  refine iload w X d6_145 147 rfl rfl ?_
                  refine icmp_ne w X d6_147 154 150 (by decide) (by decide) rfl (fun hc147_149 => ?_) (fun hc147_149 => ?_)
                  ·
                    refine iconst w X (0 : Int32) d6_154 155 rfl rfl ?_
                    refine istore w X (0 : Int32) d6_155 157 rfl rfl #[.val (.ref A), .val (.ref B), .val (.int r), .val (.int (-1 : Int32)), .val (.int (0 : Int32)), .val (.int (0 : Int32))] rfl ?_
                    refine iload w X d6_157 159 rfl rfl ?_
                    refine retN w X (t := .boolean) rfl (by simp) d6_159 (by decide) (by decide) ?_
                    exact (lf6_40 n x1 x2 k1 k2 nn y1 y2 r hc6_1 hc17_91 hc26_92 hc37_121 hc44_122 hc52_123 hc66_134 hc70_139 hc80_140 hc96_141 hc104_142 hc118_146 hc123_147 hc139_148 hc147_149 H).elim
                  ·
                    refine iconst w X (1 : Int32) d6_150 151 rfl rfl ?_
                    refine goto w X d6_151 155 (by decide) (by decide) ?_
                    refine istore w X (1 : Int32) d6_155 157 rfl rfl #[.val (.ref A), .val (.ref B), .val (.int r), .val (.int (-1 : Int32)), .val (.int (1 : Int32)), .val (.int (0 : Int32))] rfl ?_
                    refine iload w X d6_157 159 rfl rfl ?_
                    refine retN w X (t := .boolean) rfl (by simp) d6_159 (by decide) (by decide) ?_
                    exact ⟨(1 : Int32), rfl, rfl, rfl⟩
        ·
          refine iconst w X (1 : Int32) d6_40 41 rfl rfl ?_
          refine istoreN w X (1 : Int32) d6_41 42 rfl rfl #[.val (.ref A), .val (.ref B), .val (.int r), .val (.int (1 : Int32)), .unset, .unset] rfl ?_
          refine iloadN w X d6_42 43 rfl rfl ?_
          refine iloadN w X d6_43 44 rfl rfl ?_
          refine if_lt w X d6_44 51 47 (by decide) (by decide) rfl (fun q => absurd q (by decide)) (fun hc44_150 => ?_)
          refine iconst w X (1 : Int32) d6_47 48 rfl rfl ?_
          refine goto w X d6_48 52 (by decide) (by decide) ?_
          refine icmp_ne w X d6_52 59 55 (by decide) (by decide) rfl (fun hc52_151 => ?_) (fun hc52_151 => ?_)
          ·
            refine iconst w X (0 : Int32) d6_59 60 rfl rfl ?_
            refine istore w X (0 : Int32) d6_60 62 rfl rfl #[.val (.ref A), .val (.ref B), .val (.int r), .val (.int (1 : Int32)), .val (.int (0 : Int32)), .unset] rfl ?_
            refine aloadN w X d6_62 63 rfl rfl rfl ?_
            refine iconst w X (0 : Int32) d6_63 64 rfl rfl ?_
            refine iaload w X V_B (by decide) 0 rfl (Nat.le_of_ble_eq_true rfl) d6_64 65 rfl nn rfl ?_
            refine iconst w X (1 : Int32) d6_65 66 rfl rfl ?_
            refine icmp_lt w X d6_66 114 69 (by decide) (by decide) rfl (fun hc66_152 => ?_) (fun hc66_152 => ?_)
            ·
              refine aloadN w X d6_114 115 rfl rfl rfl ?_
              refine iconst w X (0 : Int32) d6_115 116 rfl rfl ?_
              refine iaload w X V_B (by decide) 0 rfl (Nat.le_of_ble_eq_true rfl) d6_116 117 rfl nn rfl ?_
              refine iconst w X (2 : Int32) d6_117 118 rfl rfl ?_
              refine icmp_lt w X d6_118 157 121 (by decide) (by decide) rfl (fun hc118_153 => ?_) (fun hc118_153 => ?_)
              ·
                refine iload w X d6_157 159 rfl rfl ?_
                refine retN w X (t := .boolean) rfl (by simp) d6_159 (by decide) (by decide) ?_
                exact (lf6_41 n x1 x2 k1 k2 nn y1 y2 r hc6_1 hc17_91 hc26_92 hc37_121 hc44_150 hc52_151 hc66_152 hc118_153 H).elim
              ·
                refine iloadN w X d6_121 122 rfl rfl ?_
                refine iconst w X (1 : Int32) d6_122 123 rfl rfl ?_
                refine icmp_ne w X d6_123 134 126 (by decide) (by decide) rfl (fun q => absurd q (by decide)) (fun hc123_154 => ?_)
                refine aloadN w X d6_126 127 rfl rfl rfl ?_
                refine iconst w X (2 : Int32) d6_127 128 rfl rfl ?_
                refine iaload w X V_A (by decide) 2 rfl (Nat.le_of_ble_eq_true rfl) d6_128 129 rfl x2 rfl ?_
                refine iconst w X (1 : Int32) d6_129 130 rfl rfl ?_
                refine iadd w X (x2 + (1 : Int32)) d6_130 131 rfl rfl ?_
                refine goto w X d6_131 135 (by decide) (by decide) ?_
                obtain ⟨i5_155, hi5_155⟩ : ∃ z : Int32, z = (x2 + (1 : Int32)) := ⟨_, rfl⟩
                refine istore w X i5_155 d6_135 137 rfl hi5_155 #[.val (.ref A), .val (.ref B), .val (.int r), .val (.int (1 : Int32)), .val (.int (0 : Int32)), .val (.int i5_155)] rfl ?_
                refine iload w X d6_137 139 rfl rfl ?_
                refine if_eq w X d6_139 154 142 (by decide) (by decide) rfl (fun hc139_156 => ?_) (fun q => absurd q (by decide))
                refine iconst w X (0 : Int32) d6_154 155 rfl rfl ?_
                refine istore w X (0 : Int32) d6_155 157 rfl rfl #[.val (.ref A), .val (.ref B), .val (.int r), .val (.int (1 : Int32)), .val (.int (0 : Int32)), .val (.int i5_155)] rfl ?_
                refine iload w X d6_157 159 rfl rfl ?_
                refine retN w X (t := .boolean) rfl (by simp) d6_159 (by decide) (by decide) ?_
                exact (lf6_42 n x1 x2 k1 k2 nn y1 y2 r i5_155 hc6_1 hc17_91 hc26_92 hc37_121 hc44_150 hc52_151 hc66_152 hc118_153 hc123_154 hi5_155 hc139_156 H).elim
            ·
              refine iloadN w X d6_69 70 rfl rfl ?_
              refine if_le w X d6_70 79 73 (by decide) (by decide) rfl (fun q => absurd q (by decide)) (fun hc70_157 => ?_)
              refine aloadN w X d6_73 74 rfl rfl rfl ?_
              refine iconst w X (1 : Int32) d6_74 75 rfl rfl ?_
              refine iaload w X V_A (by decide) 1 rfl (Nat.le_of_ble_eq_true rfl) d6_75 76 rfl x1 rfl ?_
              refine goto w X d6_76 92 (by decide) (by decide) ?_
              refine istore w X x1 d6_92 94 rfl rfl #[.val (.ref A), .val (.ref B), .val (.int r), .val (.int (1 : Int32)), .val (.int (0 : Int32)), .val (.int x1)] rfl ?_
              refine iload w X d6_94 96 rfl rfl ?_
              refine if_eq w X d6_96 111 99 (by decide) (by decide) rfl (fun hc96_158 => ?_) (fun q => absurd q (by decide))
              refine iconst w X (0 : Int32) d6_111 112 rfl rfl ?_
              refine istore w X (0 : Int32) d6_112 114 rfl rfl #[.val (.ref A), .val (.ref B), .val (.int r), .val (.int (1 : Int32)), .val (.int (0 : Int32)), .val (.int x1)] rfl ?_
              refine aloadN w X d6_114 115 rfl rfl rfl ?_
              refine iconst w X (0 : Int32) d6_115 116 rfl rfl ?_
              refine iaload w X V_B (by decide) 0 rfl (Nat.le_of_ble_eq_true rfl) d6_116 117 rfl nn rfl ?_
              refine iconst w X (2 : Int32) d6_117 118 rfl rfl ?_
              refine icmp_lt w X d6_118 157 121 (by decide) (by decide) rfl (fun hc118_159 => ?_) (fun hc118_159 => ?_)
              ·
                refine iload w X d6_157 159 rfl rfl ?_
                refine retN w X (t := .boolean) rfl (by simp) d6_159 (by decide) (by decide) ?_
                exact (lf6_43 n x1 x2 k1 k2 nn y1 y2 r hc6_1 hc17_91 hc26_92 hc37_121 hc44_150 hc52_151 hc66_152 hc70_157 hc96_158 hc118_159 H).elim
              ·
                refine iloadN w X d6_121 122 rfl rfl ?_
                refine iconst w X (1 : Int32) d6_122 123 rfl rfl ?_
                refine icmp_ne w X d6_123 134 126 (by decide) (by decide) rfl (fun q => absurd q (by decide)) (fun hc123_160 => ?_)
                refine aloadN w X d6_126 127 rfl rfl rfl ?_
                refine iconst w X (2 : Int32) d6_127 128 rfl rfl ?_
                refine iaload w X V_A (by decide) 2 rfl (Nat.le_of_ble_eq_true rfl) d6_128 129 rfl x2 rfl ?_
                refine iconst w X (1 : Int32) d6_129 130 rfl rfl ?_
                refine iadd w X (x2 + (1 : Int32)) d6_130 131 rfl rfl ?_
                refine goto w X d6_131 135 (by decide) (by decide) ?_
                obtain ⟨i5_161, hi5_161⟩ : ∃ z : Int32, z = (x2 + (1 : Int32)) := ⟨_, rfl⟩
                refine istore w X i5_161 d6_135 137 rfl hi5_161 #[.val (.ref A), .val (.ref B), .val (.int r), .val (.int (1 : Int32)), .val (.int (0 : Int32)), .val (.int i5_161)] rfl ?_
                refine iload w X d6_137 139 rfl rfl ?_
                refine if_eq w X d6_139 154 142 (by decide) (by decide) rfl (fun hc139_162 => ?_) (fun q => absurd q (by decide))
                refine iconst w X (0 : Int32) d6_154 155 rfl rfl ?_
                refine istore w X (0 : Int32) d6_155 157 rfl rfl #[.val (.ref A), .val (.ref B), .val (.int r), .val (.int (1 : Int32)), .val (.int (0 : Int32)), .val (.int i5_161)] rfl ?_
                refine iload w X d6_157 159 rfl rfl ?_
                refine retN w X (t := .boolean) rfl (by simp) d6_159 (by decide) (by decide) ?_
                exact (lf6_44 n x1 x2 k1 k2 nn y1 y2 r i5_161 hc6_1 hc17_91 hc26_92 hc37_121 hc44_150 hc52_151 hc66_152 hc70_157 hc96_158 hc118_159 hc123_160 hi5_161 hc139_162 H).elim
          ·
            refine iconst w X (1 : Int32) d6_55 56 rfl rfl ?_
            refine goto w X d6_56 60 (by decide) (by decide) ?_
            refine istore w X (1 : Int32) d6_60 62 rfl rfl #[.val (.ref A), .val (.ref B), .val (.int r), .val (.int (1 : Int32)), .val (.int (1 : Int32)), .unset] rfl ?_
            refine aloadN w X d6_62 63 rfl rfl rfl ?_
            refine iconst w X (0 : Int32) d6_63 64 rfl rfl ?_
            refine iaload w X V_B (by decide) 0 rfl (Nat.le_of_ble_eq_true rfl) d6_64 65 rfl nn rfl ?_
            refine iconst w X (1 : Int32) d6_65 66 rfl rfl ?_
            refine icmp_lt w X d6_66 114 69 (by decide) (by decide) rfl (fun hc66_163 => ?_) (fun hc66_163 => ?_)
            ·
              refine aloadN w X d6_114 115 rfl rfl rfl ?_
              refine iconst w X (0 : Int32) d6_115 116 rfl rfl ?_
              refine iaload w X V_B (by decide) 0 rfl (Nat.le_of_ble_eq_true rfl) d6_116 117 rfl nn rfl ?_
              refine iconst w X (2 : Int32) d6_117 118 rfl rfl ?_
              refine icmp_lt w X d6_118 157 121 (by decide) (by decide) rfl (fun hc118_164 => ?_) (fun hc118_164 => ?_)
              ·
                refine iload w X d6_157 159 rfl rfl ?_
                refine retN w X (t := .boolean) rfl (by simp) d6_159 (by decide) (by decide) ?_
                exact ⟨(1 : Int32), rfl, rfl, rfl⟩
              ·
                refine iloadN w X d6_121 122 rfl rfl ?_
                refine iconst w X (1 : Int32) d6_122 123 rfl rfl ?_
                refine icmp_ne w X d6_123 134 126 (by decide) (by decide) rfl (fun q => absurd q (by decide)) (fun hc123_165 => ?_)
                refine aloadN w X d6_126 127 rfl rfl rfl ?_
                refine iconst w X (2 : Int32) d6_127 128 rfl rfl ?_
                refine iaload w X V_A (by decide) 2 rfl (Nat.le_of_ble_eq_true rfl) d6_128 129 rfl x2 rfl ?_
                refine iconst w X (1 : Int32) d6_129 130 rfl rfl ?_
                refine iadd w X (x2 + (1 : Int32)) d6_130 131 rfl rfl ?_
                refine goto w X d6_131 135 (by decide) (by decide) ?_
                obtain ⟨i5_166, hi5_166⟩ : ∃ z : Int32, z = (x2 + (1 : Int32)) := ⟨_, rfl⟩
                refine istore w X i5_166 d6_135 137 rfl hi5_166 #[.val (.ref A), .val (.ref B), .val (.int r), .val (.int (1 : Int32)), .val (.int (1 : Int32)), .val (.int i5_166)] rfl ?_
                refine iload w X d6_137 139 rfl rfl ?_
                refine if_eq w X d6_139 154 142 (by decide) (by decide) rfl (fun q => absurd q (by decide)) (fun hc139_167 => ?_)
                refine aloadN w X d6_142 143 rfl rfl rfl ?_
                refine iconst w X (2 : Int32) d6_143 144 rfl rfl ?_
                refine iaload w X V_B (by decide) 2 rfl (Nat.le_of_ble_eq_true rfl) d6_144 145 rfl y2 rfl ?_
                refine iload w X d6_145 147 rfl rfl ?_
                refine icmp_ne w X d6_147 154 150 (by decide) (by decide) rfl (fun hc147_168 => ?_) (fun hc147_168 => ?_)
                ·
                  refine iconst w X (0 : Int32) d6_154 155 rfl rfl ?_
                  refine istore w X (0 : Int32) d6_155 157 rfl rfl #[.val (.ref A), .val (.ref B), .val (.int r), .val (.int (1 : Int32)), .val (.int (0 : Int32)), .val (.int i5_166)] rfl ?_
                  refine iload w X d6_157 159 rfl rfl ?_
                  refine retN w X (t := .boolean) rfl (by simp) d6_159 (by decide) (by decide) ?_
                  exact (lf6_45 n x1 x2 k1 k2 nn y1 y2 r i5_166 hc6_1 hc17_91 hc26_92 hc37_121 hc44_150 hc52_151 hc66_163 hc118_164 hc123_165 hi5_166 hc139_167 hc147_168 H).elim
                ·
                  refine iconst w X (1 : Int32) d6_150 151 rfl rfl ?_
                  refine goto w X d6_151 155 (by decide) (by decide) ?_
                  refine istore w X (1 : Int32) d6_155 157 rfl rfl #[.val (.ref A), .val (.ref B), .val (.int r), .val (.int (1 : Int32)), .val (.int (1 : Int32)), .val (.int i5_166)] rfl ?_
                  refine iload w X d6_157 159 rfl rfl ?_
                  refine retN w X (t := .boolean) rfl (by simp) d6_159 (by decide) (by decide) ?_
                  exact ⟨(1 : Int32), rfl, rfl, rfl⟩
            ·
              refine iloadN w X d6_69 70 rfl rfl ?_
              refine if_le w X d6_70 79 73 (by decide) (by decide) rfl (fun q => absurd q (by decide)) (fun hc70_169 => ?_)
              refine aloadN w X d6_73 74 rfl rfl rfl ?_
              refine iconst w X (1 : Int32) d6_74 75 rfl rfl ?_
              refine iaload w X V_A (by decide) 1 rfl (Nat.le_of_ble_eq_true rfl) d6_75 76 rfl x1 rfl ?_
              refine goto w X d6_76 92 (by decide) (by decide) ?_
              refine istore w X x1 d6_92 94 rfl rfl #[.val (.ref A), .val (.ref B), .val (.int r), .val (.int (1 : Int32)), .val (.int (1 : Int32)), .val (.int x1)] rfl ?_
              refine iload w X d6_94 96 rfl rfl ?_
              refine if_eq w X d6_96 111 99 (by decide) (by decide) rfl (fun q => absurd q (by decide)) (fun hc96_170 => ?_)
              refine aloadN w X d6_99 100 rfl rfl rfl ?_
              refine iconst w X (1 : Int32) d6_100 101 rfl rfl ?_
              refine iaload w X V_B (by decide) 1 rfl (Nat.le_of_ble_eq_true rfl) d6_101 102 rfl y1 rfl ?_
              refine iload w X d6_102 104 rfl rfl ?_
              refine icmp_ne w X d6_104 111 107 (by decide) (by decide) rfl (fun hc104_171 => ?_) (fun hc104_171 => ?_)
              ·
                refine iconst w X (0 : Int32) d6_111 112 rfl rfl ?_
                refine istore w X (0 : Int32) d6_112 114 rfl rfl #[.val (.ref A), .val (.ref B), .val (.int r), .val (.int (1 : Int32)), .val (.int (0 : Int32)), .val (.int x1)] rfl ?_
                refine aloadN w X d6_114 115 rfl rfl rfl ?_
                refine iconst w X (0 : Int32) d6_115 116 rfl rfl ?_
                refine iaload w X V_B (by decide) 0 rfl (Nat.le_of_ble_eq_true rfl) d6_116 117 rfl nn rfl ?_
                refine iconst w X (2 : Int32) d6_117 118 rfl rfl ?_
                refine icmp_lt w X d6_118 157 121 (by decide) (by decide) rfl (fun hc118_172 => ?_) (fun hc118_172 => ?_)
                ·
                  refine iload w X d6_157 159 rfl rfl ?_
                  refine retN w X (t := .boolean) rfl (by simp) d6_159 (by decide) (by decide) ?_
                  exact (lf6_46 n x1 x2 k1 k2 nn y1 y2 r hc6_1 hc17_91 hc26_92 hc37_121 hc44_150 hc52_151 hc66_163 hc70_169 hc96_170 hc104_171 hc118_172 H).elim
                ·
                  refine iloadN w X d6_121 122 rfl rfl ?_
                  refine iconst w X (1 : Int32) d6_122 123 rfl rfl ?_
                  refine icmp_ne w X d6_123 134 126 (by decide) (by decide) rfl (fun q => absurd q (by decide)) (fun hc123_173 => ?_)
                  refine aloadN w X d6_126 127 rfl rfl rfl ?_
                  refine iconst w X (2 : Int32) d6_127 128 rfl rfl ?_
                  refine iaload w X V_A (by decide) 2 rfl (Nat.le_of_ble_eq_true rfl) d6_128 129 rfl x2 rfl ?_
                  refine iconst w X (1 : Int32) d6_129 130 rfl rfl ?_
                  refine iadd w X (x2 + (1 : Int32)) d6_130 131 rfl rfl ?_
                  refine goto w X d6_131 135 (by decide) (by decide) ?_
                  obtain ⟨i5_174, hi5_174⟩ : ∃ z : Int32, z = (x2 + (1 : Int32)) := ⟨_, rfl⟩
                  refine istore w X i5_174 d6_135 137 rfl hi5_174 #[.val (.ref A), .val (.ref B), .val (.int r), .val (.int (1 : Int32)), .val (.int (0 : Int32)), .val (.int i5_174)] rfl ?_
                  refine iload w X d6_137 139 rfl rfl ?_
                  refine if_eq w X d6_139 154 142 (by decide) (by decide) rfl (fun hc139_175 => ?_) (fun q => absurd q (by decide))
                  refine iconst w X (0 : Int32) d6_154 155 rfl rfl ?_
                  refine istore w X (0 : Int32) d6_155 157 rfl rfl #[.val (.ref A), .val (.ref B), .val (.int r), .val (.int (1 : Int32)), .val (.int (0 : Int32)), .val (.int i5_174)] rfl ?_
                  refine iload w X d6_157 159 rfl rfl ?_
                  refine retN w X (t := .boolean) rfl (by simp) d6_159 (by decide) (by decide) ?_
                  exact (lf6_47 n x1 x2 k1 k2 nn y1 y2 r i5_174 hc6_1 hc17_91 hc26_92 hc37_121 hc44_150 hc52_151 hc66_163 hc70_169 hc96_170 hc104_171 hc118_172 hc123_173 hi5_174 hc139_175 H).elim
              ·
                refine iconst w X (1 : Int32) d6_107 108 rfl rfl ?_
                refine goto w X d6_108 112 (by decide) (by decide) ?_
                refine istore w X (1 : Int32) d6_112 114 rfl rfl #[.val (.ref A), .val (.ref B), .val (.int r), .val (.int (1 : Int32)), .val (.int (1 : Int32)), .val (.int x1)] rfl ?_
                refine aloadN w X d6_114 115 rfl rfl rfl ?_
                refine iconst w X (0 : Int32) d6_115 116 rfl rfl ?_
                refine iaload w X V_B (by decide) 0 rfl (Nat.le_of_ble_eq_true rfl) d6_116 117 rfl nn rfl ?_
                refine iconst w X (2 : Int32) d6_117 118 rfl rfl ?_
                refine icmp_lt w X d6_118 157 121 (by decide) (by decide) rfl (fun hc118_176 => ?_) (fun hc118_176 => ?_)
                ·
                  refine iload w X d6_157 159 rfl rfl ?_
                  refine retN w X (t := .boolean) rfl (by simp) d6_159 (by decide) (by decide) ?_
                  exact ⟨(1 : Int32), rfl, rfl, rfl⟩
                ·
                  refine iloadN w X d6_121 122 rfl rfl ?_
                  refine iconst w X (1 : Int32) d6_122 123 rfl rfl ?_
                  refine icmp_ne w X d6_123 134 126 (by decide) (by decide) rfl (fun q => absurd q (by decide)) (fun hc123_177 => ?_)
                  refine aloadN w X d6_126 127 rfl rfl rfl ?_
                  refine iconst w X (2 : Int32) d6_127 128 rfl rfl ?_
                  refine iaload w X V_A (by decide) 2 rfl (Nat.le_of_ble_eq_true rfl) d6_128 129 rfl x2 rfl ?_
                  refine iconst w X (1 : Int32) d6_129 130 rfl rfl ?_
                  refine iadd w X (x2 + (1 : Int32)) d6_130 131 rfl rfl ?_
                  refine goto w X d6_131 135 (by decide) (by decide) ?_
                  obtain ⟨i5_178, hi5_178⟩ : ∃ z : Int32, z = (x2 + (1 : Int32)) := ⟨_, rfl⟩
                  refine istore w X i5_178 d6_135 137 rfl hi5_178 #[.val (.ref A), .val (.ref B), .val (.int r), .val (.int (1 : Int32)), .val (.int (1 : Int32)), .val (.int i5_178)] rfl ?_
                  refine iload w X d6_137 139 rfl rfl ?_
                  refine if_eq w X d6_139 154 142 (by decide) (by decide) rfl (fun q => absurd q (by decide)) (fun hc139_179 => ?_)
                  refine aloadN w X d6_142 143 rfl rfl rfl ?_
                  refine iconst w X (2 : Int32) d6_143 144 rfl rfl ?_
                  refine iaload w X V_B (by decide) 2 rfl (Nat.le_of_ble_eq_true rfl) d6_144 145 rfl y2 rfl ?_
                  refine iload w X d6_145 147 rfl rfl ?_
                  refine icmp_ne w X d6_147 154 150 (by decide) (by decide) rfl (fun hc147_180 => ?_) (fun hc147_180 => ?_)
                  ·
                    refine iconst w X (0 : Int32) d6_154 155 rfl rfl ?_
                    refine istore w X (0 : Int32) d6_155 157 rfl rfl #[.val (.ref A), .val (.ref B), .val (.int r), .val (.int (1 : Int32)), .val (.int (0 : Int32)), .val (.int i5_178)] rfl ?_
                    refine iload w X d6_157 159 rfl rfl ?_
                    refine retN w X (t := .boolean) rfl (by simp) d6_159 (by decide) (by decide) ?_
                    exact (lf6_48 n x1 x2 k1 k2 nn y1 y2 r i5_178 hc6_1 hc17_91 hc26_92 hc37_121 hc44_150 hc52_151 hc66_163 hc70_169 hc96_170 hc104_171 hc118_176 hc123_177 hi5_178 hc139_179 hc147_180 H).elim
                  ·
                    refine iconst w X (1 : Int32) d6_150 151 rfl rfl ?_
                    refine goto w X d6_151 155 (by decide) (by decide) ?_
                    refine istore w X (1 : Int32) d6_155 157 rfl rfl #[.val (.ref A), .val (.ref B), .val (.int r), .val (.int (1 : Int32)), .val (.int (1 : Int32)), .val (.int i5_178)] rfl ?_
                    refine iload w X d6_157 159 rfl rfl ?_
                    refine retN w X (t := .boolean) rfl (by simp) d6_159 (by decide) (by decide) ?_
                    exact ⟨(1 : Int32), rfl, rfl, rfl⟩
    ·
      refine iconst w X (0 : Int32) d6_20 21 rfl rfl ?_
      refine istoreN w X (0 : Int32) d6_21 22 rfl rfl #[.val (.ref A), .val (.ref B), .val (.int r), .val (.int (0 : Int32)), .unset, .unset] rfl ?_
      refine aloadN w X d6_22 23 rfl rfl rfl ?_
      refine iconst w X (0 : Int32) d6_23 24 rfl rfl ?_
      refine iaload w X V_A (by decide) 0 rfl (Nat.le_of_ble_eq_true rfl) d6_24 25 rfl n rfl ?_
      refine iconst w X (2 : Int32) d6_25 26 rfl rfl ?_
      refine icmp_lt w X d6_26 42 29 (by decide) (by decide) rfl (fun hc26_181 => ?_) (fun hc26_181 => ?_)
      ·
        refine iloadN w X d6_42 43 rfl rfl ?_
        refine iloadN w X d6_43 44 rfl rfl ?_
        refine if_lt w X d6_44 51 47 (by decide) (by decide) rfl (fun q => absurd q (by decide)) (fun hc44_182 => ?_)
        refine iconst w X (1 : Int32) d6_47 48 rfl rfl ?_
        refine goto w X d6_48 52 (by decide) (by decide) ?_
        refine icmp_ne w X d6_52 59 55 (by decide) (by decide) rfl (fun hc52_183 => ?_) (fun hc52_183 => ?_)
        ·
          refine iconst w X (0 : Int32) d6_59 60 rfl rfl ?_
          refine istore w X (0 : Int32) d6_60 62 rfl rfl #[.val (.ref A), .val (.ref B), .val (.int r), .val (.int (0 : Int32)), .val (.int (0 : Int32)), .unset] rfl ?_
          refine aloadN w X d6_62 63 rfl rfl rfl ?_
          refine iconst w X (0 : Int32) d6_63 64 rfl rfl ?_
          refine iaload w X V_B (by decide) 0 rfl (Nat.le_of_ble_eq_true rfl) d6_64 65 rfl nn rfl ?_
          refine iconst w X (1 : Int32) d6_65 66 rfl rfl ?_
          refine icmp_lt w X d6_66 114 69 (by decide) (by decide) rfl (fun hc66_184 => ?_) (fun hc66_184 => ?_)
          ·
            refine aloadN w X d6_114 115 rfl rfl rfl ?_
            refine iconst w X (0 : Int32) d6_115 116 rfl rfl ?_
            refine iaload w X V_B (by decide) 0 rfl (Nat.le_of_ble_eq_true rfl) d6_116 117 rfl nn rfl ?_
            refine iconst w X (2 : Int32) d6_117 118 rfl rfl ?_
            refine icmp_lt w X d6_118 157 121 (by decide) (by decide) rfl (fun hc118_185 => ?_) (fun hc118_185 => ?_)
            ·
              refine iload w X d6_157 159 rfl rfl ?_
              refine retN w X (t := .boolean) rfl (by simp) d6_159 (by decide) (by decide) ?_
              exact (lf6_49 n x1 x2 k1 k2 nn y1 y2 r hc6_1 hc17_91 hc26_181 hc44_182 hc52_183 hc66_184 hc118_185 H).elim
            ·
              refine iloadN w X d6_121 122 rfl rfl ?_
              refine iconst w X (1 : Int32) d6_122 123 rfl rfl ?_
              refine icmp_ne w X d6_123 134 126 (by decide) (by decide) rfl (fun hc123_186 => ?_) (fun q => absurd q (by decide))
              refine iconst w X (0 : Int32) d6_134 135 rfl rfl ?_
              refine istore w X (0 : Int32) d6_135 137 rfl rfl #[.val (.ref A), .val (.ref B), .val (.int r), .val (.int (0 : Int32)), .val (.int (0 : Int32)), .val (.int (0 : Int32))] rfl ?_
              refine iload w X d6_137 139 rfl rfl ?_
              refine if_eq w X d6_139 154 142 (by decide) (by decide) rfl (fun hc139_187 => ?_) (fun q => absurd q (by decide))
              refine iconst w X (0 : Int32) d6_154 155 rfl rfl ?_
              refine istore w X (0 : Int32) d6_155 157 rfl rfl #[.val (.ref A), .val (.ref B), .val (.int r), .val (.int (0 : Int32)), .val (.int (0 : Int32)), .val (.int (0 : Int32))] rfl ?_
              refine iload w X d6_157 159 rfl rfl ?_
              refine retN w X (t := .boolean) rfl (by simp) d6_159 (by decide) (by decide) ?_
              exact (lf6_50 n x1 x2 k1 k2 nn y1 y2 r hc6_1 hc17_91 hc26_181 hc44_182 hc52_183 hc66_184 hc118_185 hc123_186 hc139_187 H).elim
          ·
            refine iloadN w X d6_69 70 rfl rfl ?_
            refine if_le w X d6_70 79 73 (by decide) (by decide) rfl (fun hc70_188 => ?_) (fun q => absurd q (by decide))
            refine iloadN w X d6_79 80 rfl rfl ?_
            refine if_ne w X d6_80 91 83 (by decide) (by decide) rfl (fun q => absurd q (by decide)) (fun hc80_189 => ?_)
            refine aloadN w X d6_83 84 rfl rfl rfl ?_
            refine iconst w X (1 : Int32) d6_84 85 rfl rfl ?_
            refine iaload w X V_A (by decide) 1 rfl (Nat.le_of_ble_eq_true rfl) d6_85 86 rfl x1 rfl ?_
            refine iconst w X (1 : Int32) d6_86 87 rfl rfl ?_
            refine iadd w X (x1 + (1 : Int32)) d6_87 88 rfl rfl ?_
            refine goto w X d6_88 92 (by decide) (by decide) ?_
            obtain ⟨i5_190, hi5_190⟩ : ∃ z : Int32, z = (x1 + (1 : Int32)) := ⟨_, rfl⟩
            refine istore w X i5_190 d6_92 94 rfl hi5_190 #[.val (.ref A), .val (.ref B), .val (.int r), .val (.int (0 : Int32)), .val (.int (0 : Int32)), .val (.int i5_190)] rfl ?_
            refine iload w X d6_94 96 rfl rfl ?_
            refine if_eq w X d6_96 111 99 (by decide) (by decide) rfl (fun hc96_191 => ?_) (fun q => absurd q (by decide))
            refine iconst w X (0 : Int32) d6_111 112 rfl rfl ?_
            refine istore w X (0 : Int32) d6_112 114 rfl rfl #[.val (.ref A), .val (.ref B), .val (.int r), .val (.int (0 : Int32)), .val (.int (0 : Int32)), .val (.int i5_190)] rfl ?_
            refine aloadN w X d6_114 115 rfl rfl rfl ?_
            refine iconst w X (0 : Int32) d6_115 116 rfl rfl ?_
            refine iaload w X V_B (by decide) 0 rfl (Nat.le_of_ble_eq_true rfl) d6_116 117 rfl nn rfl ?_
            refine iconst w X (2 : Int32) d6_117 118 rfl rfl ?_
            refine icmp_lt w X d6_118 157 121 (by decide) (by decide) rfl (fun hc118_192 => ?_) (fun hc118_192 => ?_)
            ·
              refine iload w X d6_157 159 rfl rfl ?_
              refine retN w X (t := .boolean) rfl (by simp) d6_159 (by decide) (by decide) ?_
              exact (lf6_51 n x1 x2 k1 k2 nn y1 y2 r i5_190 hc6_1 hc17_91 hc26_181 hc44_182 hc52_183 hc66_184 hc70_188 hc80_189 hi5_190 hc96_191 hc118_192 H).elim
            ·
              refine iloadN w X d6_121 122 rfl rfl ?_
              refine iconst w X (1 : Int32) d6_122 123 rfl rfl ?_
              refine icmp_ne w X d6_123 134 126 (by decide) (by decide) rfl (fun hc123_193 => ?_) (fun q => absurd q (by decide))
              refine iconst w X (0 : Int32) d6_134 135 rfl rfl ?_
              refine istore w X (0 : Int32) d6_135 137 rfl rfl #[.val (.ref A), .val (.ref B), .val (.int r), .val (.int (0 : Int32)), .val (.int (0 : Int32)), .val (.int (0 : Int32))] rfl ?_
              refine iload w X d6_137 139 rfl rfl ?_
              refine if_eq w X d6_139 154 142 (by decide) (by decide) rfl (fun hc139_194 => ?_) (fun q => absurd q (by decide))
              refine iconst w X (0 : Int32) d6_154 155 rfl rfl ?_
              refine istore w X (0 : Int32) d6_155 157 rfl rfl #[.val (.ref A), .val (.ref B), .val (.int r), .val (.int (0 : Int32)), .val (.int (0 : Int32)), .val (.int (0 : Int32))] rfl ?_
              refine iload w X d6_157 159 rfl rfl ?_
              refine retN w X (t := .boolean) rfl (by simp) d6_159 (by decide) (by decide) ?_
              exact (lf6_52 n x1 x2 k1 k2 nn y1 y2 r i5_190 hc6_1 hc17_91 hc26_181 hc44_182 hc52_183 hc66_184 hc70_188 hc80_189 hi5_190 hc96_191 hc118_192 hc123_193 hc139_194 H).elim
        ·
          refine iconst w X (1 : Int32) d6_55 56 rfl rfl ?_
          refine goto w X d6_56 60 (by decide) (by decide) ?_
          refine istore w X (1 : Int32) d6_60 62 rfl rfl #[.val (.ref A), .val (.ref B), .val (.int r), .val (.int (0 : Int32)), .val (.int (1 : Int32)), .unset] rfl ?_
          refine aloadN w X d6_62 63 rfl rfl rfl ?_
          refine iconst w X (0 : Int32) d6_63 64 rfl rfl ?_
          refine iaload w X V_B (by decide) 0 rfl (Nat.le_of_ble_eq_true rfl) d6_64 65 rfl nn rfl ?_
          refine iconst w X (1 : Int32) d6_65 66 rfl rfl ?_
          refine icmp_lt w X d6_66 114 69 (by decide) (by decide) rfl (fun hc66_195 => ?_) (fun hc66_195 => ?_)
          ·
            refine aloadN w X d6_114 115 rfl rfl rfl ?_
            refine iconst w X (0 : Int32) d6_115 116 rfl rfl ?_
            refine iaload w X V_B (by decide) 0 rfl (Nat.le_of_ble_eq_true rfl) d6_116 117 rfl nn rfl ?_
            refine iconst w X (2 : Int32) d6_117 118 rfl rfl ?_
            refine icmp_lt w X d6_118 157 121 (by decide) (by decide) rfl (fun hc118_196 => ?_) (fun hc118_196 => ?_)
            ·
              refine iload w X d6_157 159 rfl rfl ?_
              refine retN w X (t := .boolean) rfl (by simp) d6_159 (by decide) (by decide) ?_
              exact ⟨(1 : Int32), rfl, rfl, rfl⟩
            ·
              refine iloadN w X d6_121 122 rfl rfl ?_
              refine iconst w X (1 : Int32) d6_122 123 rfl rfl ?_
              refine icmp_ne w X d6_123 134 126 (by decide) (by decide) rfl (fun hc123_197 => ?_) (fun q => absurd q (by decide))
              refine iconst w X (0 : Int32) d6_134 135 rfl rfl ?_
              refine istore w X (0 : Int32) d6_135 137 rfl rfl #[.val (.ref A), .val (.ref B), .val (.int r), .val (.int (0 : Int32)), .val (.int (1 : Int32)), .val (.int (0 : Int32))] rfl ?_
              refine iload w X d6_137 139 rfl rfl ?_
              refine if_eq w X d6_139 154 142 (by decide) (by decide) rfl (fun q => absurd q (by decide)) (fun hc139_198 => ?_)
              refine aloadN w X d6_142 143 rfl rfl rfl ?_
              refine iconst w X (2 : Int32) d6_143 144 rfl rfl ?_
              refine iaload w X V_B (by decide) 2 rfl (Nat.le_of_ble_eq_true rfl) d6_144 145 rfl y2 rfl ?_
              refine iload w X d6_145 147 rfl rfl ?_
              refine icmp_ne w X d6_147 154 150 (by decide) (by decide) rfl (fun hc147_199 => ?_) (fun hc147_199 => ?_)
              ·
                refine iconst w X (0 : Int32) d6_154 155 rfl rfl ?_
                refine istore w X (0 : Int32) d6_155 157 rfl rfl #[.val (.ref A), .val (.ref B), .val (.int r), .val (.int (0 : Int32)), .val (.int (0 : Int32)), .val (.int (0 : Int32))] rfl ?_
                refine iload w X d6_157 159 rfl rfl ?_
                refine retN w X (t := .boolean) rfl (by simp) d6_159 (by decide) (by decide) ?_
                exact (lf6_53 n x1 x2 k1 k2 nn y1 y2 r hc6_1 hc17_91 hc26_181 hc44_182 hc52_183 hc66_195 hc118_196 hc123_197 hc139_198 hc147_199 H).elim
              ·
                refine iconst w X (1 : Int32) d6_150 151 rfl rfl ?_
                refine goto w X d6_151 155 (by decide) (by decide) ?_
                refine istore w X (1 : Int32) d6_155 157 rfl rfl #[.val (.ref A), .val (.ref B), .val (.int r), .val (.int (0 : Int32)), .val (.int (1 : Int32)), .val (.int (0 : Int32))] rfl ?_
                refine iload w X d6_157 159 rfl rfl ?_
                refine retN w X (t := .boolean) rfl (by simp) d6_159 (by decide) (by decide) ?_
                exact ⟨(1 : Int32), rfl, rfl, rfl⟩
          ·
            refine iloadN w X d6_69 70 rfl rfl ?_
            refine if_le w X d6_70 79 73 (by decide) (by decide) rfl (fun hc70_200 => ?_) (fun q => absurd q (by decide))
            refine iloadN w X d6_79 80 rfl rfl ?_
            refine if_ne w X d6_80 91 83 (by decide) (by decide) rfl (fun q => absurd q (by decide)) (fun hc80_201 => ?_)
            refine aloadN w X d6_83 84 rfl rfl rfl ?_
            refine iconst w X (1 : Int32) d6_84 85 rfl rfl ?_
            refine iaload w X V_A (by decide) 1 rfl (Nat.le_of_ble_eq_true rfl) d6_85 86 rfl x1 rfl ?_
            refine iconst w X (1 : Int32) d6_86 87 rfl rfl ?_
            refine iadd w X (x1 + (1 : Int32)) d6_87 88 rfl rfl ?_
            refine goto w X d6_88 92 (by decide) (by decide) ?_
            obtain ⟨i5_202, hi5_202⟩ : ∃ z : Int32, z = (x1 + (1 : Int32)) := ⟨_, rfl⟩
            refine istore w X i5_202 d6_92 94 rfl hi5_202 #[.val (.ref A), .val (.ref B), .val (.int r), .val (.int (0 : Int32)), .val (.int (1 : Int32)), .val (.int i5_202)] rfl ?_
            refine iload w X d6_94 96 rfl rfl ?_
            refine if_eq w X d6_96 111 99 (by decide) (by decide) rfl (fun q => absurd q (by decide)) (fun hc96_203 => ?_)
            refine aloadN w X d6_99 100 rfl rfl rfl ?_
            refine iconst w X (1 : Int32) d6_100 101 rfl rfl ?_
            refine iaload w X V_B (by decide) 1 rfl (Nat.le_of_ble_eq_true rfl) d6_101 102 rfl y1 rfl ?_
            refine iload w X d6_102 104 rfl rfl ?_
            refine icmp_ne w X d6_104 111 107 (by decide) (by decide) rfl (fun hc104_204 => ?_) (fun hc104_204 => ?_)
            ·
              refine iconst w X (0 : Int32) d6_111 112 rfl rfl ?_
              refine istore w X (0 : Int32) d6_112 114 rfl rfl #[.val (.ref A), .val (.ref B), .val (.int r), .val (.int (0 : Int32)), .val (.int (0 : Int32)), .val (.int i5_202)] rfl ?_
              refine aloadN w X d6_114 115 rfl rfl rfl ?_
              refine iconst w X (0 : Int32) d6_115 116 rfl rfl ?_
              refine iaload w X V_B (by decide) 0 rfl (Nat.le_of_ble_eq_true rfl) d6_116 117 rfl nn rfl ?_
              refine iconst w X (2 : Int32) d6_117 118 rfl rfl ?_
              refine icmp_lt w X d6_118 157 121 (by decide) (by decide) rfl (fun hc118_205 => ?_) (fun hc118_205 => ?_)
              ·
                refine iload w X d6_157 159 rfl rfl ?_
                refine retN w X (t := .boolean) rfl (by simp) d6_159 (by decide) (by decide) ?_
                exact (lf6_54 n x1 x2 k1 k2 nn y1 y2 r i5_202 hc6_1 hc17_91 hc26_181 hc44_182 hc52_183 hc66_195 hc70_200 hc80_201 hi5_202 hc96_203 hc104_204 hc118_205 H).elim
              ·
                refine iloadN w X d6_121 122 rfl rfl ?_
                refine iconst w X (1 : Int32) d6_122 123 rfl rfl ?_
                refine icmp_ne w X d6_123 134 126 (by decide) (by decide) rfl (fun hc123_206 => ?_) (fun q => absurd q (by decide))
                refine iconst w X (0 : Int32) d6_134 135 rfl rfl ?_
                refine istore w X (0 : Int32) d6_135 137 rfl rfl #[.val (.ref A), .val (.ref B), .val (.int r), .val (.int (0 : Int32)), .val (.int (0 : Int32)), .val (.int (0 : Int32))] rfl ?_
                refine iload w X d6_137 139 rfl rfl ?_
                refine if_eq w X d6_139 154 142 (by decide) (by decide) rfl (fun hc139_207 => ?_) (fun q => absurd q (by decide))
                refine iconst w X (0 : Int32) d6_154 155 rfl rfl ?_
                refine istore w X (0 : Int32) d6_155 157 rfl rfl #[.val (.ref A), .val (.ref B), .val (.int r), .val (.int (0 : Int32)), .val (.int (0 : Int32)), .val (.int (0 : Int32))] rfl ?_
                refine iload w X d6_157 159 rfl rfl ?_
                refine retN w X (t := .boolean) rfl (by simp) d6_159 (by decide) (by decide) ?_
                exact (lf6_55 n x1 x2 k1 k2 nn y1 y2 r i5_202 hc6_1 hc17_91 hc26_181 hc44_182 hc52_183 hc66_195 hc70_200 hc80_201 hi5_202 hc96_203 hc104_204 hc118_205 hc123_206 hc139_207 H).elim
            ·
              refine iconst w X (1 : Int32) d6_107 108 rfl rfl ?_
              refine goto w X d6_108 112 (by decide) (by decide) ?_
              refine istore w X (1 : Int32) d6_112 114 rfl rfl #[.val (.ref A), .val (.ref B), .val (.int r), .val (.int (0 : Int32)), .val (.int (1 : Int32)), .val (.int i5_202)] rfl ?_
              refine aloadN w X d6_114 115 rfl rfl rfl ?_
              refine iconst w X (0 : Int32) d6_115 116 rfl rfl ?_
              refine iaload w X V_B (by decide) 0 rfl (Nat.le_of_ble_eq_true rfl) d6_116 117 rfl nn rfl ?_
              refine iconst w X (2 : Int32) d6_117 118 rfl rfl ?_
              refine icmp_lt w X d6_118 157 121 (by decide) (by decide) rfl (fun hc118_208 => ?_) (fun hc118_208 => ?_)
              ·
                refine iload w X d6_157 159 rfl rfl ?_
                refine retN w X (t := .boolean) rfl (by simp) d6_159 (by decide) (by decide) ?_
                exact ⟨(1 : Int32), rfl, rfl, rfl⟩
              ·
                refine iloadN w X d6_121 122 rfl rfl ?_
                refine iconst w X (1 : Int32) d6_122 123 rfl rfl ?_
                refine icmp_ne w X d6_123 134 126 (by decide) (by decide) rfl (fun hc123_209 => ?_) (fun q => absurd q (by decide))
                refine iconst w X (0 : Int32) d6_134 135 rfl rfl ?_
                refine istore w X (0 : Int32) d6_135 137 rfl rfl #[.val (.ref A), .val (.ref B), .val (.int r), .val (.int (0 : Int32)), .val (.int (1 : Int32)), .val (.int (0 : Int32))] rfl ?_
                refine iload w X d6_137 139 rfl rfl ?_
                refine if_eq w X d6_139 154 142 (by decide) (by decide) rfl (fun q => absurd q (by decide)) (fun hc139_210 => ?_)
                refine aloadN w X d6_142 143 rfl rfl rfl ?_
                refine iconst w X (2 : Int32) d6_143 144 rfl rfl ?_
                refine iaload w X V_B (by decide) 2 rfl (Nat.le_of_ble_eq_true rfl) d6_144 145 rfl y2 rfl ?_
                refine iload w X d6_145 147 rfl rfl ?_
                refine icmp_ne w X d6_147 154 150 (by decide) (by decide) rfl (fun hc147_211 => ?_) (fun hc147_211 => ?_)
                ·
                  refine iconst w X (0 : Int32) d6_154 155 rfl rfl ?_
                  refine istore w X (0 : Int32) d6_155 157 rfl rfl #[.val (.ref A), .val (.ref B), .val (.int r), .val (.int (0 : Int32)), .val (.int (0 : Int32)), .val (.int (0 : Int32))] rfl ?_
                  refine iload w X d6_157 159 rfl rfl ?_
                  refine retN w X (t := .boolean) rfl (by simp) d6_159 (by decide) (by decide) ?_
                  exact (lf6_56 n x1 x2 k1 k2 nn y1 y2 r i5_202 hc6_1 hc17_91 hc26_181 hc44_182 hc52_183 hc66_195 hc70_200 hc80_201 hi5_202 hc96_203 hc104_204 hc118_208 hc123_209 hc139_210 hc147_211 H).elim
                ·
                  refine iconst w X (1 : Int32) d6_150 151 rfl rfl ?_
                  refine goto w X d6_151 155 (by decide) (by decide) ?_
                  refine istore w X (1 : Int32) d6_155 157 rfl rfl #[.val (.ref A), .val (.ref B), .val (.int r), .val (.int (0 : Int32)), .val (.int (1 : Int32)), .val (.int (0 : Int32))] rfl ?_
                  refine iload w X d6_157 159 rfl rfl ?_
                  refine retN w X (t := .boolean) rfl (by simp) d6_159 (by decide) (by decide) ?_
                  exact ⟨(1 : Int32), rfl, rfl, rfl⟩
      ·
        refine aloadN w X d6_29 30 rfl rfl rfl ?_
        refine iconst w X (2 : Int32) d6_30 31 rfl rfl ?_
        refine iaload w X V_A (by decide) 2 rfl (Nat.le_of_ble_eq_true rfl) d6_31 32 rfl x2 rfl ?_
        refine aloadN w X d6_32 33 rfl rfl rfl ?_
        refine iconst w X (4 : Int32) d6_33 34 rfl rfl ?_
        refine iaload w X V_A (by decide) 4 rfl (Nat.le_of_ble_eq_true rfl) d6_34 35 rfl k2 rfl ?_
        refine iconst w X (1 : Int32) d6_35 36 rfl rfl ?_
        refine isub w X (k2 - (1 : Int32)) d6_36 37 rfl rfl ?_
        refine icmp_ge w X d6_37 42 40 (by decide) (by decide) rfl (fun hc37_212 => ?_) (fun hc37_212 => ?_)
        ·
          refine iloadN w X d6_42 43 rfl rfl ?_
          refine iloadN w X d6_43 44 rfl rfl ?_
          refine if_lt w X d6_44 51 47 (by decide) (by decide) rfl (fun q => absurd q (by decide)) (fun hc44_213 => ?_)
          refine iconst w X (1 : Int32) d6_47 48 rfl rfl ?_
          refine goto w X d6_48 52 (by decide) (by decide) ?_
          refine icmp_ne w X d6_52 59 55 (by decide) (by decide) rfl (fun hc52_214 => ?_) (fun hc52_214 => ?_)
          ·
            refine iconst w X (0 : Int32) d6_59 60 rfl rfl ?_
            refine istore w X (0 : Int32) d6_60 62 rfl rfl #[.val (.ref A), .val (.ref B), .val (.int r), .val (.int (0 : Int32)), .val (.int (0 : Int32)), .unset] rfl ?_
            refine aloadN w X d6_62 63 rfl rfl rfl ?_
            refine iconst w X (0 : Int32) d6_63 64 rfl rfl ?_
            refine iaload w X V_B (by decide) 0 rfl (Nat.le_of_ble_eq_true rfl) d6_64 65 rfl nn rfl ?_
            refine iconst w X (1 : Int32) d6_65 66 rfl rfl ?_
            refine icmp_lt w X d6_66 114 69 (by decide) (by decide) rfl (fun hc66_215 => ?_) (fun hc66_215 => ?_)
            ·
              refine aloadN w X d6_114 115 rfl rfl rfl ?_
              refine iconst w X (0 : Int32) d6_115 116 rfl rfl ?_
              refine iaload w X V_B (by decide) 0 rfl (Nat.le_of_ble_eq_true rfl) d6_116 117 rfl nn rfl ?_
              refine iconst w X (2 : Int32) d6_117 118 rfl rfl ?_
              refine icmp_lt w X d6_118 157 121 (by decide) (by decide) rfl (fun hc118_216 => ?_) (fun hc118_216 => ?_)
              ·
                refine iload w X d6_157 159 rfl rfl ?_
                refine retN w X (t := .boolean) rfl (by simp) d6_159 (by decide) (by decide) ?_
                exact (lf6_57 n x1 x2 k1 k2 nn y1 y2 r hc6_1 hc17_91 hc26_181 hc37_212 hc44_213 hc52_214 hc66_215 hc118_216 H).elim
              ·
                refine iloadN w X d6_121 122 rfl rfl ?_
                refine iconst w X (1 : Int32) d6_122 123 rfl rfl ?_
                refine icmp_ne w X d6_123 134 126 (by decide) (by decide) rfl (fun hc123_217 => ?_) (fun q => absurd q (by decide))
                refine iconst w X (0 : Int32) d6_134 135 rfl rfl ?_
                refine istore w X (0 : Int32) d6_135 137 rfl rfl #[.val (.ref A), .val (.ref B), .val (.int r), .val (.int (0 : Int32)), .val (.int (0 : Int32)), .val (.int (0 : Int32))] rfl ?_
                refine iload w X d6_137 139 rfl rfl ?_
                refine if_eq w X d6_139 154 142 (by decide) (by decide) rfl (fun hc139_218 => ?_) (fun q => absurd q (by decide))
                refine iconst w X (0 : Int32) d6_154 155 rfl rfl ?_
                refine istore w X (0 : Int32) d6_155 157 rfl rfl #[.val (.ref A), .val (.ref B), .val (.int r), .val (.int (0 : Int32)), .val (.int (0 : Int32)), .val (.int (0 : Int32))] rfl ?_
                refine iload w X d6_157 159 rfl rfl ?_
                refine retN w X (t := .boolean) rfl (by simp) d6_159 (by decide) (by decide) ?_
                exact (lf6_58 n x1 x2 k1 k2 nn y1 y2 r hc6_1 hc17_91 hc26_181 hc37_212 hc44_213 hc52_214 hc66_215 hc118_216 hc123_217 hc139_218 H).elim
            ·
              refine iloadN w X d6_69 70 rfl rfl ?_
              refine if_le w X d6_70 79 73 (by decide) (by decide) rfl (fun hc70_219 => ?_) (fun q => absurd q (by decide))
              refine iloadN w X d6_79 80 rfl rfl ?_
              refine if_ne w X d6_80 91 83 (by decide) (by decide) rfl (fun q => absurd q (by decide)) (fun hc80_220 => ?_)
              refine aloadN w X d6_83 84 rfl rfl rfl ?_
              refine iconst w X (1 : Int32) d6_84 85 rfl rfl ?_
              refine iaload w X V_A (by decide) 1 rfl (Nat.le_of_ble_eq_true rfl) d6_85 86 rfl x1 rfl ?_
              refine iconst w X (1 : Int32) d6_86 87 rfl rfl ?_
              refine iadd w X (x1 + (1 : Int32)) d6_87 88 rfl rfl ?_
              refine goto w X d6_88 92 (by decide) (by decide) ?_
              obtain ⟨i5_221, hi5_221⟩ : ∃ z : Int32, z = (x1 + (1 : Int32)) := ⟨_, rfl⟩
              refine istore w X i5_221 d6_92 94 rfl hi5_221 #[.val (.ref A), .val (.ref B), .val (.int r), .val (.int (0 : Int32)), .val (.int (0 : Int32)), .val (.int i5_221)] rfl ?_
              refine iload w X d6_94 96 rfl rfl ?_
              refine if_eq w X d6_96 111 99 (by decide) (by decide) rfl (fun hc96_222 => ?_) (fun q => absurd q (by decide))
              refine iconst w X (0 : Int32) d6_111 112 rfl rfl ?_
              refine istore w X (0 : Int32) d6_112 114 rfl rfl #[.val (.ref A), .val (.ref B), .val (.int r), .val (.int (0 : Int32)), .val (.int (0 : Int32)), .val (.int i5_221)] rfl ?_
              refine aloadN w X d6_114 115 rfl rfl rfl ?_
              refine iconst w X (0 : Int32) d6_115 116 rfl rfl ?_
              refine iaload w X V_B (by decide) 0 rfl (Nat.le_of_ble_eq_true rfl) d6_116 117 rfl nn rfl ?_
              refine iconst w X (2 : Int32) d6_117 118 rfl rfl ?_
              refine icmp_lt w X d6_118 157 121 (by decide) (by decide) rfl (fun hc118_223 => ?_) (fun hc118_223 => ?_)
              ·
                refine iload w X d6_157 159 rfl rfl ?_
                refine retN w X (t := .boolean) rfl (by simp) d6_159 (by decide) (by decide) ?_
                exact (lf6_59 n x1 x2 k1 k2 nn y1 y2 r i5_221 hc6_1 hc17_91 hc26_181 hc37_212 hc44_213 hc52_214 hc66_215 hc70_219 hc80_220 hi5_221 hc96_222 hc118_223 H).elim
              ·
                refine iloadN w X d6_121 122 rfl rfl ?_
                refine iconst w X (1 : Int32) d6_122 123 rfl rfl ?_
                refine icmp_ne w X d6_123 134 126 (by decide) (by decide) rfl (fun hc123_224 => ?_) (fun q => absurd q (by decide))
                refine iconst w X (0 : Int32) d6_134 135 rfl rfl ?_
                refine istore w X (0 : Int32) d6_135 137 rfl rfl #[.val (.ref A), .val (.ref B), .val (.int r), .val (.int (0 : Int32)), .val (.int (0 : Int32)), .val (.int (0 : Int32))] rfl ?_
                refine iload w X d6_137 139 rfl rfl ?_
                refine if_eq w X d6_139 154 142 (by decide) (by decide) rfl (fun hc139_225 => ?_) (fun q => absurd q (by decide))
                refine iconst w X (0 : Int32) d6_154 155 rfl rfl ?_
                refine istore w X (0 : Int32) d6_155 157 rfl rfl #[.val (.ref A), .val (.ref B), .val (.int r), .val (.int (0 : Int32)), .val (.int (0 : Int32)), .val (.int (0 : Int32))] rfl ?_
                refine iload w X d6_157 159 rfl rfl ?_
                refine retN w X (t := .boolean) rfl (by simp) d6_159 (by decide) (by decide) ?_
                exact (lf6_60 n x1 x2 k1 k2 nn y1 y2 r i5_221 hc6_1 hc17_91 hc26_181 hc37_212 hc44_213 hc52_214 hc66_215 hc70_219 hc80_220 hi5_221 hc96_222 hc118_223 hc123_224 hc139_225 H).elim
          ·
            refine iconst w X (1 : Int32) d6_55 56 rfl rfl ?_
            refine goto w X d6_56 60 (by decide) (by decide) ?_
            refine istore w X (1 : Int32) d6_60 62 rfl rfl #[.val (.ref A), .val (.ref B), .val (.int r), .val (.int (0 : Int32)), .val (.int (1 : Int32)), .unset] rfl ?_
            refine aloadN w X d6_62 63 rfl rfl rfl ?_
            refine iconst w X (0 : Int32) d6_63 64 rfl rfl ?_
            refine iaload w X V_B (by decide) 0 rfl (Nat.le_of_ble_eq_true rfl) d6_64 65 rfl nn rfl ?_
            refine iconst w X (1 : Int32) d6_65 66 rfl rfl ?_
            refine icmp_lt w X d6_66 114 69 (by decide) (by decide) rfl (fun hc66_226 => ?_) (fun hc66_226 => ?_)
            ·
              refine aloadN w X d6_114 115 rfl rfl rfl ?_
              refine iconst w X (0 : Int32) d6_115 116 rfl rfl ?_
              refine iaload w X V_B (by decide) 0 rfl (Nat.le_of_ble_eq_true rfl) d6_116 117 rfl nn rfl ?_
              refine iconst w X (2 : Int32) d6_117 118 rfl rfl ?_
              refine icmp_lt w X d6_118 157 121 (by decide) (by decide) rfl (fun hc118_227 => ?_) (fun hc118_227 => ?_)
              ·
                refine iload w X d6_157 159 rfl rfl ?_
                refine retN w X (t := .boolean) rfl (by simp) d6_159 (by decide) (by decide) ?_
                exact ⟨(1 : Int32), rfl, rfl, rfl⟩
              ·
                refine iloadN w X d6_121 122 rfl rfl ?_
                refine iconst w X (1 : Int32) d6_122 123 rfl rfl ?_
                refine icmp_ne w X d6_123 134 126 (by decide) (by decide) rfl (fun hc123_228 => ?_) (fun q => absurd q (by decide))
                refine iconst w X (0 : Int32) d6_134 135 rfl rfl ?_
                refine istore w X (0 : Int32) d6_135 137 rfl rfl #[.val (.ref A), .val (.ref B), .val (.int r), .val (.int (0 : Int32)), .val (.int (1 : Int32)), .val (.int (0 : Int32))] rfl ?_
                refine iload w X d6_137 139 rfl rfl ?_
                refine if_eq w X d6_139 154 142 (by decide) (by decide) rfl (fun q => absurd q (by decide)) (fun hc139_229 => ?_)
                refine aloadN w X d6_142 143 rfl rfl rfl ?_
                refine iconst w X (2 : Int32) d6_143 144 rfl rfl ?_
                refine iaload w X V_B (by decide) 2 rfl (Nat.le_of_ble_eq_true rfl) d6_144 145 rfl y2 rfl ?_
                refine iload w X d6_145 147 rfl rfl ?_
                refine icmp_ne w X d6_147 154 150 (by decide) (by decide) rfl (fun hc147_230 => ?_) (fun hc147_230 => ?_)
                ·
                  refine iconst w X (0 : Int32) d6_154 155 rfl rfl ?_
                  refine istore w X (0 : Int32) d6_155 157 rfl rfl #[.val (.ref A), .val (.ref B), .val (.int r), .val (.int (0 : Int32)), .val (.int (0 : Int32)), .val (.int (0 : Int32))] rfl ?_
                  refine iload w X d6_157 159 rfl rfl ?_
                  refine retN w X (t := .boolean) rfl (by simp) d6_159 (by decide) (by decide) ?_
                  exact (lf6_61 n x1 x2 k1 k2 nn y1 y2 r hc6_1 hc17_91 hc26_181 hc37_212 hc44_213 hc52_214 hc66_226 hc118_227 hc123_228 hc139_229 hc147_230 H).elim
                ·
                  refine iconst w X (1 : Int32) d6_150 151 rfl rfl ?_
                  refine goto w X d6_151 155 (by decide) (by decide) ?_
                  refine istore w X (1 : Int32) d6_155 157 rfl rfl #[.val (.ref A), .val (.ref B), .val (.int r), .val (.int (0 : Int32)), .val (.int (1 : Int32)), .val (.int (0 : Int32))] rfl ?_
                  refine iload w X d6_157 159 rfl rfl ?_
                  refine retN w X (t := .boolean) rfl (by simp) d6_159 (by decide) (by decide) ?_
                  exact ⟨(1 : Int32), rfl, rfl, rfl⟩
            ·
              refine iloadN w X d6_69 70 rfl rfl ?_
              refine if_le w X d6_70 79 73 (by decide) (by decide) rfl (fun hc70_231 => ?_) (fun q => absurd q (by decide))
              refine iloadN w X d6_79 80 rfl rfl ?_
              refine if_ne w X d6_80 91 83 (by decide) (by decide) rfl (fun q => absurd q (by decide)) (fun hc80_232 => ?_)
              refine aloadN w X d6_83 84 rfl rfl rfl ?_
              refine iconst w X (1 : Int32) d6_84 85 rfl rfl ?_
              refine iaload w X V_A (by decide) 1 rfl (Nat.le_of_ble_eq_true rfl) d6_85 86 rfl x1 rfl ?_
              refine iconst w X (1 : Int32) d6_86 87 rfl rfl ?_
              refine iadd w X (x1 + (1 : Int32)) d6_87 88 rfl rfl ?_
              refine goto w X d6_88 92 (by decide) (by decide) ?_
              obtain ⟨i5_233, hi5_233⟩ : ∃ z : Int32, z = (x1 + (1 : Int32)) := ⟨_, rfl⟩
              refine istore w X i5_233 d6_92 94 rfl hi5_233 #[.val (.ref A), .val (.ref B), .val (.int r), .val (.int (0 : Int32)), .val (.int (1 : Int32)), .val (.int i5_233)] rfl ?_
              refine iload w X d6_94 96 rfl rfl ?_
              refine if_eq w X d6_96 111 99 (by decide) (by decide) rfl (fun q => absurd q (by decide)) (fun hc96_234 => ?_)
              refine aloadN w X d6_99 100 rfl rfl rfl ?_
              refine iconst w X (1 : Int32) d6_100 101 rfl rfl ?_
              refine iaload w X V_B (by decide) 1 rfl (Nat.le_of_ble_eq_true rfl) d6_101 102 rfl y1 rfl ?_
              refine iload w X d6_102 104 rfl rfl ?_
              refine icmp_ne w X d6_104 111 107 (by decide) (by decide) rfl (fun hc104_235 => ?_) (fun hc104_235 => ?_)
              ·
                refine iconst w X (0 : Int32) d6_111 112 rfl rfl ?_
                refine istore w X (0 : Int32) d6_112 114 rfl rfl #[.val (.ref A), .val (.ref B), .val (.int r), .val (.int (0 : Int32)), .val (.int (0 : Int32)), .val (.int i5_233)] rfl ?_
                refine aloadN w X d6_114 115 rfl rfl rfl ?_
                refine iconst w X (0 : Int32) d6_115 116 rfl rfl ?_
                refine iaload w X V_B (by decide) 0 rfl (Nat.le_of_ble_eq_true rfl) d6_116 117 rfl nn rfl ?_
                refine iconst w X (2 : Int32) d6_117 118 rfl rfl ?_
                refine icmp_lt w X d6_118 157 121 (by decide) (by decide) rfl (fun hc118_236 => ?_) (fun hc118_236 => ?_)
                ·
                  refine iload w X d6_157 159 rfl rfl ?_
                  refine retN w X (t := .boolean) rfl (by simp) d6_159 (by decide) (by decide) ?_
                  exact (lf6_62 n x1 x2 k1 k2 nn y1 y2 r i5_233 hc6_1 hc17_91 hc26_181 hc37_212 hc44_213 hc52_214 hc66_226 hc70_231 hc80_232 hi5_233 hc96_234 hc104_235 hc118_236 H).elim
                ·
                  refine iloadN w X d6_121 122 rfl rfl ?_
                  refine iconst w X (1 : Int32) d6_122 123 rfl rfl ?_
                  refine icmp_ne w X d6_123 134 126 (by decide) (by decide) rfl (fun hc123_237 => ?_) (fun q => absurd q (by decide))
                  refine iconst w X (0 : Int32) d6_134 135 rfl rfl ?_
                  refine istore w X (0 : Int32) d6_135 137 rfl rfl #[.val (.ref A), .val (.ref B), .val (.int r), .val (.int (0 : Int32)), .val (.int (0 : Int32)), .val (.int (0 : Int32))] rfl ?_
                  refine iload w X d6_137 139 rfl rfl ?_
                  refine if_eq w X d6_139 154 142 (by decide) (by decide) rfl (fun hc139_238 => ?_) (fun q => absurd q (by decide))
                  refine iconst w X (0 : Int32) d6_154 155 rfl rfl ?_
                  refine istore w X (0 : Int32) d6_155 157 rfl rfl #[.val (.ref A), .val (.ref B), .val (.int r), .val (.int (0 : Int32)), .val (.int (0 : Int32)), .val (.int (0 : Int32))] rfl ?_
                  refine iload w X d6_157 159 rfl rfl ?_
                  refine retN w X (t := .boolean) rfl (by simp) d6_159 (by decide) (by decide) ?_
                  exact (lf6_63 n x1 x2 k1 k2 nn y1 y2 r i5_233 hc6_1 hc17_91 hc26_181 hc37_212 hc44_213 hc52_214 hc66_226 hc70_231 hc80_232 hi5_233 hc96_234 hc104_235 hc118_236 hc123_237 hc139_238 H).elim
              ·
                refine iconst w X (1 : Int32) d6_107 108 rfl rfl ?_
                refine goto w X d6_108 112 (by decide) (by decide) ?_
                refine istore w X (1 : Int32) d6_112 114 rfl rfl #[.val (.ref A), .val (.ref B), .val (.int r), .val (.int (0 : Int32)), .val (.int (1 : Int32)), .val (.int i5_233)] rfl ?_
                refine aloadN w X d6_114 115 rfl rfl rfl ?_
                refine iconst w X (0 : Int32) d6_115 116 rfl rfl ?_
                refine iaload w X V_B (by decide) 0 rfl (Nat.le_of_ble_eq_true rfl) d6_116 117 rfl nn rfl ?_
                refine iconst w X (2 : Int32) d6_117 118 rfl rfl ?_
                refine icmp_lt w X d6_118 157 121 (by decide) (by decide) rfl (fun hc118_239 => ?_) (fun hc118_239 => ?_)
                ·
                  refine iload w X d6_157 159 rfl rfl ?_
                  refine retN w X (t := .boolean) rfl (by simp) d6_159 (by decide) (by decide) ?_
                  exact ⟨(1 : Int32), rfl, rfl, rfl⟩
                ·
                  refine iloadN w X d6_121 122 rfl rfl ?_
                  refine iconst w X (1 : Int32) d6_122 123 rfl rfl ?_
                  refine icmp_ne w X d6_123 134 126 (by decide) (by decide) rfl (fun hc123_240 => ?_) (fun q => absurd q (by decide))
                  refine iconst w X (0 : Int32) d6_134 135 rfl rfl ?_
                  refine istore w X (0 : Int32) d6_135 137 rfl rfl #[.val (.ref A), .val (.ref B), .val (.int r), .val (.int (0 : Int32)), .val (.int (1 : Int32)), .val (.int (0 : Int32))] rfl ?_
                  refine iload w X d6_137 139 rfl rfl ?_
                  refine if_eq w X d6_139 154 142 (by decide) (by decide) rfl (fun q => absurd q (by decide)) (fun hc139_241 => ?_)
                  refine aloadN w X d6_142 143 rfl rfl rfl ?_
                  refine iconst w X (2 : Int32) d6_143 144 rfl rfl ?_
                  refine iaload w X V_B (by decide) 2 rfl (Nat.le_of_ble_eq_true rfl) d6_144 145 rfl y2 rfl ?_
                  refine iload w X d6_145 147 rfl rfl ?_
                  refine icmp_ne w X d6_147 154 150 (by decide) (by decide) rfl (fun hc147_242 => ?_) (fun hc147_242 => ?_)
                  ·
                    refine iconst w X (0 : Int32) d6_154 155 rfl rfl ?_
                    refine istore w X (0 : Int32) d6_155 157 rfl rfl #[.val (.ref A), .val (.ref B), .val (.int r), .val (.int (0 : Int32)), .val (.int (0 : Int32)), .val (.int (0 : Int32))] rfl ?_
                    refine iload w X d6_157 159 rfl rfl ?_
                    refine retN w X (t := .boolean) rfl (by simp) d6_159 (by decide) (by decide) ?_
                    exact (lf6_64 n x1 x2 k1 k2 nn y1 y2 r i5_233 hc6_1 hc17_91 hc26_181 hc37_212 hc44_213 hc52_214 hc66_226 hc70_231 hc80_232 hi5_233 hc96_234 hc104_235 hc118_239 hc123_240 hc139_241 hc147_242 H).elim
                  ·
                    refine iconst w X (1 : Int32) d6_150 151 rfl rfl ?_
                    refine goto w X d6_151 155 (by decide) (by decide) ?_
                    refine istore w X (1 : Int32) d6_155 157 rfl rfl #[.val (.ref A), .val (.ref B), .val (.int r), .val (.int (0 : Int32)), .val (.int (1 : Int32)), .val (.int (0 : Int32))] rfl ?_
                    refine iload w X d6_157 159 rfl rfl ?_
                    refine retN w X (t := .boolean) rfl (by simp) d6_159 (by decide) (by decide) ?_
                    exact ⟨(1 : Int32), rfl, rfl, rfl⟩
        ·
          refine iconst w X (1 : Int32) d6_40 41 rfl rfl ?_
          refine istoreN w X (1 : Int32) d6_41 42 rfl rfl #[.val (.ref A), .val (.ref B), .val (.int r), .val (.int (1 : Int32)), .unset, .unset] rfl ?_
          refine iloadN w X d6_42 43 rfl rfl ?_
          refine iloadN w X d6_43 44 rfl rfl ?_
          refine if_lt w X d6_44 51 47 (by decide) (by decide) rfl (fun q => absurd q (by decide)) (fun hc44_243 => ?_)
          refine iconst w X (1 : Int32) d6_47 48 rfl rfl ?_
          refine goto w X d6_48 52 (by decide) (by decide) ?_
          refine icmp_ne w X d6_52 59 55 (by decide) (by decide) rfl (fun hc52_244 => ?_) (fun hc52_244 => ?_)
          ·
            refine iconst w X (0 : Int32) d6_59 60 rfl rfl ?_
            refine istore w X (0 : Int32) d6_60 62 rfl rfl #[.val (.ref A), .val (.ref B), .val (.int r), .val (.int (1 : Int32)), .val (.int (0 : Int32)), .unset] rfl ?_
            refine aloadN w X d6_62 63 rfl rfl rfl ?_
            refine iconst w X (0 : Int32) d6_63 64 rfl rfl ?_
            refine iaload w X V_B (by decide) 0 rfl (Nat.le_of_ble_eq_true rfl) d6_64 65 rfl nn rfl ?_
            refine iconst w X (1 : Int32) d6_65 66 rfl rfl ?_
            refine icmp_lt w X d6_66 114 69 (by decide) (by decide) rfl (fun hc66_245 => ?_) (fun hc66_245 => ?_)
            ·
              refine aloadN w X d6_114 115 rfl rfl rfl ?_
              refine iconst w X (0 : Int32) d6_115 116 rfl rfl ?_
              refine iaload w X V_B (by decide) 0 rfl (Nat.le_of_ble_eq_true rfl) d6_116 117 rfl nn rfl ?_
              refine iconst w X (2 : Int32) d6_117 118 rfl rfl ?_
              refine icmp_lt w X d6_118 157 121 (by decide) (by decide) rfl (fun hc118_246 => ?_) (fun hc118_246 => ?_)
              ·
                refine iload w X d6_157 159 rfl rfl ?_
                refine retN w X (t := .boolean) rfl (by simp) d6_159 (by decide) (by decide) ?_
                exact (lf6_65 n x1 x2 k1 k2 nn y1 y2 r hc6_1 hc17_91 hc26_181 hc37_212 hc44_243 hc52_244 hc66_245 hc118_246 H).elim
              ·
                refine iloadN w X d6_121 122 rfl rfl ?_
                refine iconst w X (1 : Int32) d6_122 123 rfl rfl ?_
                refine icmp_ne w X d6_123 134 126 (by decide) (by decide) rfl (fun q => absurd q (by decide)) (fun hc123_247 => ?_)
                refine aloadN w X d6_126 127 rfl rfl rfl ?_
                refine iconst w X (2 : Int32) d6_127 128 rfl rfl ?_
                refine iaload w X V_A (by decide) 2 rfl (Nat.le_of_ble_eq_true rfl) d6_128 129 rfl x2 rfl ?_
                refine iconst w X (1 : Int32) d6_129 130 rfl rfl ?_
                refine iadd w X (x2 + (1 : Int32)) d6_130 131 rfl rfl ?_
                refine goto w X d6_131 135 (by decide) (by decide) ?_
                obtain ⟨i5_248, hi5_248⟩ : ∃ z : Int32, z = (x2 + (1 : Int32)) := ⟨_, rfl⟩
                refine istore w X i5_248 d6_135 137 rfl hi5_248 #[.val (.ref A), .val (.ref B), .val (.int r), .val (.int (1 : Int32)), .val (.int (0 : Int32)), .val (.int i5_248)] rfl ?_
                refine iload w X d6_137 139 rfl rfl ?_
                refine if_eq w X d6_139 154 142 (by decide) (by decide) rfl (fun hc139_249 => ?_) (fun q => absurd q (by decide))
                refine iconst w X (0 : Int32) d6_154 155 rfl rfl ?_
                refine istore w X (0 : Int32) d6_155 157 rfl rfl #[.val (.ref A), .val (.ref B), .val (.int r), .val (.int (1 : Int32)), .val (.int (0 : Int32)), .val (.int i5_248)] rfl ?_
                refine iload w X d6_157 159 rfl rfl ?_
                refine retN w X (t := .boolean) rfl (by simp) d6_159 (by decide) (by decide) ?_
                exact (lf6_66 n x1 x2 k1 k2 nn y1 y2 r i5_248 hc6_1 hc17_91 hc26_181 hc37_212 hc44_243 hc52_244 hc66_245 hc118_246 hc123_247 hi5_248 hc139_249 H).elim
            ·
              refine iloadN w X d6_69 70 rfl rfl ?_
              refine if_le w X d6_70 79 73 (by decide) (by decide) rfl (fun q => absurd q (by decide)) (fun hc70_250 => ?_)
              refine aloadN w X d6_73 74 rfl rfl rfl ?_
              refine iconst w X (1 : Int32) d6_74 75 rfl rfl ?_
              refine iaload w X V_A (by decide) 1 rfl (Nat.le_of_ble_eq_true rfl) d6_75 76 rfl x1 rfl ?_
              refine goto w X d6_76 92 (by decide) (by decide) ?_
              refine istore w X x1 d6_92 94 rfl rfl #[.val (.ref A), .val (.ref B), .val (.int r), .val (.int (1 : Int32)), .val (.int (0 : Int32)), .val (.int x1)] rfl ?_
              refine iload w X d6_94 96 rfl rfl ?_
              refine if_eq w X d6_96 111 99 (by decide) (by decide) rfl (fun hc96_251 => ?_) (fun q => absurd q (by decide))
              refine iconst w X (0 : Int32) d6_111 112 rfl rfl ?_
              refine istore w X (0 : Int32) d6_112 114 rfl rfl #[.val (.ref A), .val (.ref B), .val (.int r), .val (.int (1 : Int32)), .val (.int (0 : Int32)), .val (.int x1)] rfl ?_
              refine aloadN w X d6_114 115 rfl rfl rfl ?_
              refine iconst w X (0 : Int32) d6_115 116 rfl rfl ?_
              refine iaload w X V_B (by decide) 0 rfl (Nat.le_of_ble_eq_true rfl) d6_116 117 rfl nn rfl ?_
              refine iconst w X (2 : Int32) d6_117 118 rfl rfl ?_
              refine icmp_lt w X d6_118 157 121 (by decide) (by decide) rfl (fun hc118_252 => ?_) (fun hc118_252 => ?_)
              ·
                refine iload w X d6_157 159 rfl rfl ?_
                refine retN w X (t := .boolean) rfl (by simp) d6_159 (by decide) (by decide) ?_
                exact (lf6_67 n x1 x2 k1 k2 nn y1 y2 r hc6_1 hc17_91 hc26_181 hc37_212 hc44_243 hc52_244 hc66_245 hc70_250 hc96_251 hc118_252 H).elim
              ·
                refine iloadN w X d6_121 122 rfl rfl ?_
                refine iconst w X (1 : Int32) d6_122 123 rfl rfl ?_
                refine icmp_ne w X d6_123 134 126 (by decide) (by decide) rfl (fun q => absurd q (by decide)) (fun hc123_253 => ?_)
                refine aloadN w X d6_126 127 rfl rfl rfl ?_
                refine iconst w X (2 : Int32) d6_127 128 rfl rfl ?_
                refine iaload w X V_A (by decide) 2 rfl (Nat.le_of_ble_eq_true rfl) d6_128 129 rfl x2 rfl ?_
                refine iconst w X (1 : Int32) d6_129 130 rfl rfl ?_
                refine iadd w X (x2 + (1 : Int32)) d6_130 131 rfl rfl ?_
                refine goto w X d6_131 135 (by decide) (by decide) ?_
                obtain ⟨i5_254, hi5_254⟩ : ∃ z : Int32, z = (x2 + (1 : Int32)) := ⟨_, rfl⟩
                refine istore w X i5_254 d6_135 137 rfl hi5_254 #[.val (.ref A), .val (.ref B), .val (.int r), .val (.int (1 : Int32)), .val (.int (0 : Int32)), .val (.int i5_254)] rfl ?_
                refine iload w X d6_137 139 rfl rfl ?_
                refine if_eq w X d6_139 154 142 (by decide) (by decide) rfl (fun hc139_255 => ?_) (fun q => absurd q (by decide))
                refine iconst w X (0 : Int32) d6_154 155 rfl rfl ?_
                refine istore w X (0 : Int32) d6_155 157 rfl rfl #[.val (.ref A), .val (.ref B), .val (.int r), .val (.int (1 : Int32)), .val (.int (0 : Int32)), .val (.int i5_254)] rfl ?_
                refine iload w X d6_157 159 rfl rfl ?_
                refine retN w X (t := .boolean) rfl (by simp) d6_159 (by decide) (by decide) ?_
                exact (lf6_68 n x1 x2 k1 k2 nn y1 y2 r i5_254 hc6_1 hc17_91 hc26_181 hc37_212 hc44_243 hc52_244 hc66_245 hc70_250 hc96_251 hc118_252 hc123_253 hi5_254 hc139_255 H).elim
          ·
            refine iconst w X (1 : Int32) d6_55 56 rfl rfl ?_
            refine goto w X d6_56 60 (by decide) (by decide) ?_
            refine istore w X (1 : Int32) d6_60 62 rfl rfl #[.val (.ref A), .val (.ref B), .val (.int r), .val (.int (1 : Int32)), .val (.int (1 : Int32)), .unset] rfl ?_
            refine aloadN w X d6_62 63 rfl rfl rfl ?_
            refine iconst w X (0 : Int32) d6_63 64 rfl rfl ?_
            refine iaload w X V_B (by decide) 0 rfl (Nat.le_of_ble_eq_true rfl) d6_64 65 rfl nn rfl ?_
            refine iconst w X (1 : Int32) d6_65 66 rfl rfl ?_
            refine icmp_lt w X d6_66 114 69 (by decide) (by decide) rfl (fun hc66_256 => ?_) (fun hc66_256 => ?_)
            ·
              refine aloadN w X d6_114 115 rfl rfl rfl ?_
              refine iconst w X (0 : Int32) d6_115 116 rfl rfl ?_
              refine iaload w X V_B (by decide) 0 rfl (Nat.le_of_ble_eq_true rfl) d6_116 117 rfl nn rfl ?_
              refine iconst w X (2 : Int32) d6_117 118 rfl rfl ?_
              refine icmp_lt w X d6_118 157 121 (by decide) (by decide) rfl (fun hc118_257 => ?_) (fun hc118_257 => ?_)
              ·
                refine iload w X d6_157 159 rfl rfl ?_
                refine retN w X (t := .boolean) rfl (by simp) d6_159 (by decide) (by decide) ?_
                exact ⟨(1 : Int32), rfl, rfl, rfl⟩
              ·
                refine iloadN w X d6_121 122 rfl rfl ?_
                refine iconst w X (1 : Int32) d6_122 123 rfl rfl ?_
                refine icmp_ne w X d6_123 134 126 (by decide) (by decide) rfl (fun q => absurd q (by decide)) (fun hc123_258 => ?_)
                refine aloadN w X d6_126 127 rfl rfl rfl ?_
                refine iconst w X (2 : Int32) d6_127 128 rfl rfl ?_
                refine iaload w X V_A (by decide) 2 rfl (Nat.le_of_ble_eq_true rfl) d6_128 129 rfl x2 rfl ?_
                refine iconst w X (1 : Int32) d6_129 130 rfl rfl ?_
                refine iadd w X (x2 + (1 : Int32)) d6_130 131 rfl rfl ?_
                refine goto w X d6_131 135 (by decide) (by decide) ?_
                obtain ⟨i5_259, hi5_259⟩ : ∃ z : Int32, z = (x2 + (1 : Int32)) := ⟨_, rfl⟩
                refine istore w X i5_259 d6_135 137 rfl hi5_259 #[.val (.ref A), .val (.ref B), .val (.int r), .val (.int (1 : Int32)), .val (.int (1 : Int32)), .val (.int i5_259)] rfl ?_
                refine iload w X d6_137 139 rfl rfl ?_
                refine if_eq w X d6_139 154 142 (by decide) (by decide) rfl (fun q => absurd q (by decide)) (fun hc139_260 => ?_)
                refine aloadN w X d6_142 143 rfl rfl rfl ?_
                refine iconst w X (2 : Int32) d6_143 144 rfl rfl ?_
                refine iaload w X V_B (by decide) 2 rfl (Nat.le_of_ble_eq_true rfl) d6_144 145 rfl y2 rfl ?_
                refine iload w X d6_145 147 rfl rfl ?_
                refine icmp_ne w X d6_147 154 150 (by decide) (by decide) rfl (fun hc147_261 => ?_) (fun hc147_261 => ?_)
                ·
                  refine iconst w X (0 : Int32) d6_154 155 rfl rfl ?_
                  refine istore w X (0 : Int32) d6_155 157 rfl rfl #[.val (.ref A), .val (.ref B), .val (.int r), .val (.int (1 : Int32)), .val (.int (0 : Int32)), .val (.int i5_259)] rfl ?_
                  refine iload w X d6_157 159 rfl rfl ?_
                  refine retN w X (t := .boolean) rfl (by simp) d6_159 (by decide) (by decide) ?_
                  exact (lf6_69 n x1 x2 k1 k2 nn y1 y2 r i5_259 hc6_1 hc17_91 hc26_181 hc37_212 hc44_243 hc52_244 hc66_256 hc118_257 hc123_258 hi5_259 hc139_260 hc147_261 H).elim
                ·
                  refine iconst w X (1 : Int32) d6_150 151 rfl rfl ?_
                  refine goto w X d6_151 155 (by decide) (by decide) ?_
                  refine istore w X (1 : Int32) d6_155 157 rfl rfl #[.val (.ref A), .val (.ref B), .val (.int r), .val (.int (1 : Int32)), .val (.int (1 : Int32)), .val (.int i5_259)] rfl ?_
                  refine iload w X d6_157 159 rfl rfl ?_
                  refine retN w X (t := .boolean) rfl (by simp) d6_159 (by decide) (by decide) ?_
                  exact ⟨(1 : Int32), rfl, rfl, rfl⟩
            ·
              refine iloadN w X d6_69 70 rfl rfl ?_
              refine if_le w X d6_70 79 73 (by decide) (by decide) rfl (fun q => absurd q (by decide)) (fun hc70_262 => ?_)
              refine aloadN w X d6_73 74 rfl rfl rfl ?_
              refine iconst w X (1 : Int32) d6_74 75 rfl rfl ?_
              refine iaload w X V_A (by decide) 1 rfl (Nat.le_of_ble_eq_true rfl) d6_75 76 rfl x1 rfl ?_
              refine goto w X d6_76 92 (by decide) (by decide) ?_
              refine istore w X x1 d6_92 94 rfl rfl #[.val (.ref A), .val (.ref B), .val (.int r), .val (.int (1 : Int32)), .val (.int (1 : Int32)), .val (.int x1)] rfl ?_
              refine iload w X d6_94 96 rfl rfl ?_
              refine if_eq w X d6_96 111 99 (by decide) (by decide) rfl (fun q => absurd q (by decide)) (fun hc96_263 => ?_)
              refine aloadN w X d6_99 100 rfl rfl rfl ?_
              refine iconst w X (1 : Int32) d6_100 101 rfl rfl ?_
              refine iaload w X V_B (by decide) 1 rfl (Nat.le_of_ble_eq_true rfl) d6_101 102 rfl y1 rfl ?_
              refine iload w X d6_102 104 rfl rfl ?_
              refine icmp_ne w X d6_104 111 107 (by decide) (by decide) rfl (fun hc104_264 => ?_) (fun hc104_264 => ?_)
              ·
                refine iconst w X (0 : Int32) d6_111 112 rfl rfl ?_
                refine istore w X (0 : Int32) d6_112 114 rfl rfl #[.val (.ref A), .val (.ref B), .val (.int r), .val (.int (1 : Int32)), .val (.int (0 : Int32)), .val (.int x1)] rfl ?_
                refine aloadN w X d6_114 115 rfl rfl rfl ?_
                refine iconst w X (0 : Int32) d6_115 116 rfl rfl ?_
                refine iaload w X V_B (by decide) 0 rfl (Nat.le_of_ble_eq_true rfl) d6_116 117 rfl nn rfl ?_
                refine iconst w X (2 : Int32) d6_117 118 rfl rfl ?_
                refine icmp_lt w X d6_118 157 121 (by decide) (by decide) rfl (fun hc118_265 => ?_) (fun hc118_265 => ?_)
                ·
                  refine iload w X d6_157 159 rfl rfl ?_
                  refine retN w X (t := .boolean) rfl (by simp) d6_159 (by decide) (by decide) ?_
                  exact (lf6_70 n x1 x2 k1 k2 nn y1 y2 r hc6_1 hc17_91 hc26_181 hc37_212 hc44_243 hc52_244 hc66_256 hc70_262 hc96_263 hc104_264 hc118_265 H).elim
                ·
                  refine iloadN w X d6_121 122 rfl rfl ?_
                  refine iconst w X (1 : Int32) d6_122 123 rfl rfl ?_
                  refine icmp_ne w X d6_123 134 126 (by decide) (by decide) rfl (fun q => absurd q (by decide)) (fun hc123_266 => ?_)
                  refine aloadN w X d6_126 127 rfl rfl rfl ?_
                  refine iconst w X (2 : Int32) d6_127 128 rfl rfl ?_
                  refine iaload w X V_A (by decide) 2 rfl (Nat.le_of_ble_eq_true rfl) d6_128 129 rfl x2 rfl ?_
                  refine iconst w X (1 : Int32) d6_129 130 rfl rfl ?_
                  refine iadd w X (x2 + (1 : Int32)) d6_130 131 rfl rfl ?_
                  refine goto w X d6_131 135 (by decide) (by decide) ?_
                  obtain ⟨i5_267, hi5_267⟩ : ∃ z : Int32, z = (x2 + (1 : Int32)) := ⟨_, rfl⟩
                  refine istore w X i5_267 d6_135 137 rfl hi5_267 #[.val (.ref A), .val (.ref B), .val (.int r), .val (.int (1 : Int32)), .val (.int (0 : Int32)), .val (.int i5_267)] rfl ?_
                  refine iload w X d6_137 139 rfl rfl ?_
                  refine if_eq w X d6_139 154 142 (by decide) (by decide) rfl (fun hc139_268 => ?_) (fun q => absurd q (by decide))
                  refine iconst w X (0 : Int32) d6_154 155 rfl rfl ?_
                  refine istore w X (0 : Int32) d6_155 157 rfl rfl #[.val (.ref A), .val (.ref B), .val (.int r), .val (.int (1 : Int32)), .val (.int (0 : Int32)), .val (.int i5_267)] rfl ?_
                  refine iload w X d6_157 159 rfl rfl ?_
                  refine retN w X (t := .boolean) rfl (by simp) d6_159 (by decide) (by decide) ?_
                  exact (lf6_71 n x1 x2 k1 k2 nn y1 y2 r i5_267 hc6_1 hc17_91 hc26_181 hc37_212 hc44_243 hc52_244 hc66_256 hc70_262 hc96_263 hc104_264 hc118_265 hc123_266 hi5_267 hc139_268 H).elim
              ·
                refine iconst w X (1 : Int32) d6_107 108 rfl rfl ?_
                refine goto w X d6_108 112 (by decide) (by decide) ?_
                refine istore w X (1 : Int32) d6_112 114 rfl rfl #[.val (.ref A), .val (.ref B), .val (.int r), .val (.int (1 : Int32)), .val (.int (1 : Int32)), .val (.int x1)] rfl ?_
                refine aloadN w X d6_114 115 rfl rfl rfl ?_
                refine iconst w X (0 : Int32) d6_115 116 rfl rfl ?_
                refine iaload w X V_B (by decide) 0 rfl (Nat.le_of_ble_eq_true rfl) d6_116 117 rfl nn rfl ?_
                refine iconst w X (2 : Int32) d6_117 118 rfl rfl ?_
                refine icmp_lt w X d6_118 157 121 (by decide) (by decide) rfl (fun hc118_269 => ?_) (fun hc118_269 => ?_)
                ·
                  refine iload w X d6_157 159 rfl rfl ?_
                  refine retN w X (t := .boolean) rfl (by simp) d6_159 (by decide) (by decide) ?_
                  exact ⟨(1 : Int32), rfl, rfl, rfl⟩
                ·
                  refine iloadN w X d6_121 122 rfl rfl ?_
                  refine iconst w X (1 : Int32) d6_122 123 rfl rfl ?_
                  refine icmp_ne w X d6_123 134 126 (by decide) (by decide) rfl (fun q => absurd q (by decide)) (fun hc123_270 => ?_)
                  refine aloadN w X d6_126 127 rfl rfl rfl ?_
                  refine iconst w X (2 : Int32) d6_127 128 rfl rfl ?_
                  refine iaload w X V_A (by decide) 2 rfl (Nat.le_of_ble_eq_true rfl) d6_128 129 rfl x2 rfl ?_
                  refine iconst w X (1 : Int32) d6_129 130 rfl rfl ?_
                  refine iadd w X (x2 + (1 : Int32)) d6_130 131 rfl rfl ?_
                  refine goto w X d6_131 135 (by decide) (by decide) ?_
                  obtain ⟨i5_271, hi5_271⟩ : ∃ z : Int32, z = (x2 + (1 : Int32)) := ⟨_, rfl⟩
                  refine istore w X i5_271 d6_135 137 rfl hi5_271 #[.val (.ref A), .val (.ref B), .val (.int r), .val (.int (1 : Int32)), .val (.int (1 : Int32)), .val (.int i5_271)] rfl ?_
                  refine iload w X d6_137 139 rfl rfl ?_
                  refine if_eq w X d6_139 154 142 (by decide) (by decide) rfl (fun q => absurd q (by decide)) (fun hc139_272 => ?_)
                  refine aloadN w X d6_142 143 rfl rfl rfl ?_
                  refine iconst w X (2 : Int32) d6_143 144 rfl rfl ?_
                  refine iaload w X V_B (by decide) 2 rfl (Nat.le_of_ble_eq_true rfl) d6_144 145 rfl y2 rfl ?_
                  refine iload w X d6_145 147 rfl rfl ?_
                  refine icmp_ne w X d6_147 154 150 (by decide) (by decide) rfl (fun hc147_273 => ?_) (fun hc147_273 => ?_)
                  ·
                    refine iconst w X (0 : Int32) d6_154 155 rfl rfl ?_
                    refine istore w X (0 : Int32) d6_155 157 rfl rfl #[.val (.ref A), .val (.ref B), .val (.int r), .val (.int (1 : Int32)), .val (.int (0 : Int32)), .val (.int i5_271)] rfl ?_
                    refine iload w X d6_157 159 rfl rfl ?_
                    refine retN w X (t := .boolean) rfl (by simp) d6_159 (by decide) (by decide) ?_
                    exact (lf6_72 n x1 x2 k1 k2 nn y1 y2 r i5_271 hc6_1 hc17_91 hc26_181 hc37_212 hc44_243 hc52_244 hc66_256 hc70_262 hc96_263 hc104_264 hc118_269 hc123_270 hi5_271 hc139_272 hc147_273 H).elim
                  ·
                    refine iconst w X (1 : Int32) d6_150 151 rfl rfl ?_
                    refine goto w X d6_151 155 (by decide) (by decide) ?_
                    refine istore w X (1 : Int32) d6_155 157 rfl rfl #[.val (.ref A), .val (.ref B), .val (.int r), .val (.int (1 : Int32)), .val (.int (1 : Int32)), .val (.int i5_271)] rfl ?_
                    refine iload w X d6_157 159 rfl rfl ?_
                    refine retN w X (t := .boolean) rfl (by simp) d6_159 (by decide) (by decide) ?_
                    exact ⟨(1 : Int32), rfl, rfl, rfl⟩
set_option maxRecDepth 65536 in
set_option maxHeartbeats 40000000 in
theorem rm_law {l : Launch} {Z : State} {a0 : Array Value} (hw : ∀ d ∈ tables_1, d.before a0 Z = true) (pl f s1 : Int32) (h : Heap) (n0 : Nat) (zn : n0 ≤ h.size) :
    Met l Z x code maxLocals ret tables_1 room_1 #[(.int pl), (.int f), (.int s1)] h n0 (RI fun r _ => r = 1) := by
  refine start (ls := #[.val (.int pl), .val (.int f), .val (.int s1), .unset, .unset, .unset, .unset, .unset, .unset, .unset, .unset]) (plainFor_of_name pn7) (fun m => by first | (simp [entryFrame, mkF, argsToLocals, Value.category, maxLocals]; done) | rfl) ?_
  intro p e s m below meth c T G w X
  refine iconst w X (5 : Int32) at_0 1 rfl rfl ?_
  refine newarr (aty := .int) w X (wd0 hw) at_1 3 rfl (by decide) 5 (by decide) (by decide) (by decide) (by decide) (fun T h1 b2 cA X hnb2 E A => ?_)
  have g_b2 : n0 ≤ b2 := by rw [hnb2]; exact zn
  have zn : n0 ≤ h1.size := Nat.le_trans zn E.1
  have V_b2 : PA Z h1 b2 .int [(0 : Int32), (0 : Int32), (0 : Int32), (0 : Int32), (0 : Int32)] := PA.new .int rfl rfl 5 A (by decide)
  refine astoreN w X at_3 4 rfl rfl #[.val (.int pl), .val (.int f), .val (.int s1), .val (.ref b2), .unset, .unset, .unset, .unset, .unset, .unset, .unset] rfl ?_
  refine iconst w X (5 : Int32) at_4 5 rfl rfl ?_
  refine newarr (aty := .int) w X (wd0 hw) at_5 7 rfl (by decide) 5 (by decide) (by decide) (by decide) (by decide) (fun T h3 b4 cA X hnb4 E A => ?_)
  have ne_b2_b4 : b2 ≠ b4 := fun q => absurd (q ▸ V_b2.lt) (by rw [hnb4]; exact Nat.lt_irrefl _)
  have g_b4 : n0 ≤ b4 := by rw [hnb4]; exact zn
  have zn : n0 ≤ h3.size := Nat.le_trans zn E.1
  have V_b2 := V_b2.ext E
  have V_b4 : PA Z h3 b4 .int [(0 : Int32), (0 : Int32), (0 : Int32), (0 : Int32), (0 : Int32)] := PA.new .int rfl rfl 5 A (by decide)
  refine astore w X at_7 9 rfl rfl #[.val (.int pl), .val (.int f), .val (.int s1), .val (.ref b2), .val (.ref b4), .unset, .unset, .unset, .unset, .unset, .unset] rfl ?_
  refine iconst w X (5 : Int32) at_9 10 rfl rfl ?_
  refine newarr (aty := .int) w X (wd0 hw) at_10 12 rfl (by decide) 5 (by decide) (by decide) (by decide) (by decide) (fun T h5 b6 cA X hnb6 E A => ?_)
  have ne_b2_b6 : b2 ≠ b6 := fun q => absurd (q ▸ V_b2.lt) (by rw [hnb6]; exact Nat.lt_irrefl _)
  have ne_b4_b6 : b4 ≠ b6 := fun q => absurd (q ▸ V_b4.lt) (by rw [hnb6]; exact Nat.lt_irrefl _)
  have g_b6 : n0 ≤ b6 := by rw [hnb6]; exact zn
  have zn : n0 ≤ h5.size := Nat.le_trans zn E.1
  have V_b2 := V_b2.ext E
  have V_b4 := V_b4.ext E
  have V_b6 : PA Z h5 b6 .int [(0 : Int32), (0 : Int32), (0 : Int32), (0 : Int32), (0 : Int32)] := PA.new .int rfl rfl 5 A (by decide)
  refine astore w X at_12 14 rfl rfl #[.val (.int pl), .val (.int f), .val (.int s1), .val (.ref b2), .val (.ref b4), .val (.ref b6), .unset, .unset, .unset, .unset, .unset] rfl ?_
  refine iconst w X (5 : Int32) at_14 15 rfl rfl ?_
  refine newarr (aty := .int) w X (wd0 hw) at_15 17 rfl (by decide) 5 (by decide) (by decide) (by decide) (by decide) (fun T h7 b8 cA X hnb8 E A => ?_)
  have ne_b2_b8 : b2 ≠ b8 := fun q => absurd (q ▸ V_b2.lt) (by rw [hnb8]; exact Nat.lt_irrefl _)
  have ne_b4_b8 : b4 ≠ b8 := fun q => absurd (q ▸ V_b4.lt) (by rw [hnb8]; exact Nat.lt_irrefl _)
  have ne_b6_b8 : b6 ≠ b8 := fun q => absurd (q ▸ V_b6.lt) (by rw [hnb8]; exact Nat.lt_irrefl _)
  have g_b8 : n0 ≤ b8 := by rw [hnb8]; exact zn
  have zn : n0 ≤ h7.size := Nat.le_trans zn E.1
  have V_b2 := V_b2.ext E
  have V_b4 := V_b4.ext E
  have V_b6 := V_b6.ext E
  have V_b8 : PA Z h7 b8 .int [(0 : Int32), (0 : Int32), (0 : Int32), (0 : Int32), (0 : Int32)] := PA.new .int rfl rfl 5 A (by decide)
  refine astore w X at_17 19 rfl rfl #[.val (.int pl), .val (.int f), .val (.int s1), .val (.ref b2), .val (.ref b4), .val (.ref b6), .val (.ref b8), .unset, .unset, .unset, .unset] rfl ?_
  refine new w X (wd1 hw) (wd2 hw) (wd3 hw) at_19 22 rfl (by decide) (by decide) (fun T h9 b10 X hnb10 E A D => ?_)
  have ne_b2_b10 : b2 ≠ b10 := fun q => absurd (q ▸ V_b2.lt) (by rw [hnb10]; exact Nat.lt_irrefl _)
  have ne_b4_b10 : b4 ≠ b10 := fun q => absurd (q ▸ V_b4.lt) (by rw [hnb10]; exact Nat.lt_irrefl _)
  have ne_b6_b10 : b6 ≠ b10 := fun q => absurd (q ▸ V_b6.lt) (by rw [hnb10]; exact Nat.lt_irrefl _)
  have ne_b8_b10 : b8 ≠ b10 := fun q => absurd (q ▸ V_b8.lt) (by rw [hnb10]; exact Nat.lt_irrefl _)
  have g_b10 : n0 ≤ b10 := by rw [hnb10]; exact zn
  have zn : n0 ≤ h9.size := Nat.le_trans zn E.1
  have V_b2 := V_b2.ext E
  have V_b4 := V_b4.ext E
  have V_b6 := V_b6.ext E
  have V_b8 := V_b8.ext E
  have E_b10 := A
  have F_taken_b10 : Fld Z h9 b10 "com/example/vigilant_mailbox/vigilantmailbox/engine/Choices" "taken" "[I" .null := D (Or.inl (wd11 hw)) (ty := (.array .int)) (by decide)
  have F_counts_b10 : Fld Z h9 b10 "com/example/vigilant_mailbox/vigilantmailbox/engine/Choices" "counts" "[I" .null := D (Or.inl (wd13 hw)) (ty := (.array .int)) (by decide)
  have F_made_b10 : Fld Z h9 b10 "com/example/vigilant_mailbox/vigilantmailbox/engine/Choices" "made" "I" (.int (0 : Int32)) := D (Or.inl (wd24 hw)) (ty := .int) (by decide)
  have F_repeated_b10 : Fld Z h9 b10 "com/example/vigilant_mailbox/vigilantmailbox/engine/Choices" "repeated" "I" (.int (0 : Int32)) := D (Or.inl (wd26 hw)) (ty := .int) (by decide)
  refine dup w X at_22 23 rfl rfl ?_
  refine callNV w X [] (wd4 hw) (wd5 hw) (wd3 hw) (wd6 hw) rfl (by decide) (rm_in hw b10 h9 n0 zn g_b10 E_b10 F_taken_b10 F_counts_b10 F_made_b10 F_repeated_b10) at_23 26 rfl 1 (by decide) (by decide) (lenOf pd2 rfl) rfl (Nat.le_of_eq rfl) rfl (by decide) (by decide) (fun T h11 X hq => ?_)
  obtain ⟨TA12, NA13, Kq, E_b10, F_taken_b10, F_counts_b10, F_made_b10, F_repeated_b10, V_TA12, V_NA13, g_TA12, g_NA13, ne_b10_TA12, ne_b10_NA13, ne_TA12_NA13, szT, szN⟩ := hq
  have ne_b2_TA12 : b2 ≠ TA12 := fun q => absurd (Nat.lt_of_lt_of_le (q ▸ V_b2.lt) szT) (Nat.lt_irrefl _)
  have ne_b2_NA13 : b2 ≠ NA13 := fun q => absurd (Nat.lt_of_lt_of_le (q ▸ V_b2.lt) szN) (Nat.lt_irrefl _)
  have ne_b4_TA12 : b4 ≠ TA12 := fun q => absurd (Nat.lt_of_lt_of_le (q ▸ V_b4.lt) szT) (Nat.lt_irrefl _)
  have ne_b4_NA13 : b4 ≠ NA13 := fun q => absurd (Nat.lt_of_lt_of_le (q ▸ V_b4.lt) szN) (Nat.lt_irrefl _)
  have ne_b6_TA12 : b6 ≠ TA12 := fun q => absurd (Nat.lt_of_lt_of_le (q ▸ V_b6.lt) szT) (Nat.lt_irrefl _)
  have ne_b6_NA13 : b6 ≠ NA13 := fun q => absurd (Nat.lt_of_lt_of_le (q ▸ V_b6.lt) szN) (Nat.lt_irrefl _)
  have ne_b8_TA12 : b8 ≠ TA12 := fun q => absurd (Nat.lt_of_lt_of_le (q ▸ V_b8.lt) szT) (Nat.lt_irrefl _)
  have ne_b8_NA13 : b8 ≠ NA13 := fun q => absurd (Nat.lt_of_lt_of_le (q ▸ V_b8.lt) szN) (Nat.lt_irrefl _)
  have zn : n0 ≤ h11.size := Nat.le_trans zn Kq.1
  have V_b2 := V_b2.keep Kq (ninS ne_b2_b10 nin0)
  have V_b4 := V_b4.keep Kq (ninS ne_b4_b10 nin0)
  have V_b6 := V_b6.keep Kq (ninS ne_b6_b10 nin0)
  have V_b8 := V_b8.keep Kq (ninS ne_b8_b10 nin0)
  have I0 : own_inv pl f s1 0 0 0 0 0 := Or.inl rfl
  refine astore w X at_26 28 rfl rfl #[.val (.int pl), .val (.int f), .val (.int s1), .val (.ref b2), .val (.ref b4), .val (.ref b6), .val (.ref b8), .val (.ref b10), .unset, .unset, .unset] rfl ?_
  refine aload w X at_28 30 rfl rfl rfl ?_
  refine aloadN w X at_30 31 rfl rfl rfl ?_
  refine iloadN w X at_31 32 rfl rfl ?_
  refine iloadN w X at_32 33 rfl rfl ?_
  refine iloadN w X at_33 34 rfl rfl ?_
  refine callSV w X [(.ref b10), (.ref b2), (.int pl), (.int f), (.int s1)] (wd14 hw) (wd15 hw) (wd16 hw) (wd17 hw) (by decide) (rm_run hw b10 TA12 NA13 b2 pl f s1 (0 : Int32) (0 : Int32) (0 : Int32) (0 : Int32) (0 : Int32) h11 n0 zn E_b10 F_taken_b10 F_counts_b10 F_made_b10 F_repeated_b10 V_TA12 V_NA13 g_b10 g_TA12 g_NA13 ne_b10_TA12 ne_b10_NA13 ne_TA12_NA13 V_b2 g_b2 (Ne.symm ne_b2_b10) (Ne.symm ne_b2_TA12) (Ne.symm ne_b2_NA13)) at_34 37 rfl 0 (by decide) (by decide) (lenOf pd3 rfl) rfl (Nat.le_of_eq rfl) rfl (by decide) (by decide) (fun T h14 X hq => ?_)
  obtain ⟨n_1, x1_1, x2_1, k1_1, k2_1, u0_1, u1_1, d0_1, d1_1, R1, Kq, E_b10, F_taken_b10, F_counts_b10, F_made_b10, F_repeated_b10, V_TA12, V_NA13, V_b2⟩ := hq
  have M1 := own_run_mid I0 R1
  have zn : n0 ≤ h14.size := Nat.le_trans zn Kq.1
  have V_b4 := V_b4.keep Kq (ninS ne_b4_b10 (ninS ne_b4_TA12 (ninS ne_b4_NA13 (ninS (Ne.symm ne_b2_b4) nin0))))
  have V_b6 := V_b6.keep Kq (ninS ne_b6_b10 (ninS ne_b6_TA12 (ninS ne_b6_NA13 (ninS (Ne.symm ne_b2_b6) nin0))))
  have V_b8 := V_b8.keep Kq (ninS ne_b8_b10 (ninS ne_b8_TA12 (ninS ne_b8_NA13 (ninS (Ne.symm ne_b2_b8) nin0))))
  refine aload w X at_37 39 rfl rfl rfl ?_
  refine callVI w X [] (wd18 hw) (wd19 hw) (notFace_of_selects (args := #[]) (mvT w.2.2.2.2.1 (wd21 hw))) (wd21 hw) (wd20 hw) (wd3 hw) (wd22 hw) (by decide) E_b10 (rm_nx hw b10 TA12 NA13 n_1 (0 : Int32) u0_1 u1_1 d0_1 d1_1 h14 n0 zn E_b10 F_taken_b10 F_counts_b10 F_made_b10 F_repeated_b10 V_TA12 V_NA13 g_b10 g_TA12 g_NA13 ne_b10_TA12 ne_b10_NA13 ne_TA12_NA13 (own_n3 M1)) at_39 42 rfl 0 (by decide) (by decide) (lenOf pd4 rfl) rfl (Nat.le_of_eq rfl) rfl (by decide) (by decide) (fun r15 T h16 X hq => ?_)
  obtain ⟨rr_1, v0_1, v1_1, N1, Kq, E_b10, F_taken_b10, F_counts_b10, F_made_b10, F_repeated_b10, V_TA12, V_NA13⟩ := hq
  have I1 := own_next_inv M1 N1
  have zn : n0 ≤ h16.size := Nat.le_trans zn Kq.1
  have V_b4 := V_b4.keep Kq (ninS ne_b4_b10 (ninS ne_b4_TA12 (ninS ne_b4_NA13 nin0)))
  have V_b6 := V_b6.keep Kq (ninS ne_b6_b10 (ninS ne_b6_TA12 (ninS ne_b6_NA13 nin0)))
  have V_b8 := V_b8.keep Kq (ninS ne_b8_b10 (ninS ne_b8_TA12 (ninS ne_b8_NA13 nin0)))
  have V_b2 := V_b2.keep Kq (ninS ne_b2_b10 (ninS ne_b2_TA12 (ninS ne_b2_NA13 nin0)))
  refine istore w X r15 at_42 44 rfl rfl #[.val (.int pl), .val (.int f), .val (.int s1), .val (.ref b2), .val (.ref b4), .val (.ref b6), .val (.ref b8), .val (.ref b10), .val (.int r15), .unset, .unset] rfl ?_
  refine aload w X at_44 46 rfl rfl rfl ?_
  refine aload w X at_46 48 rfl rfl rfl ?_
  refine iloadN w X at_48 49 rfl rfl ?_
  refine iloadN w X at_49 50 rfl rfl ?_
  refine iloadN w X at_50 51 rfl rfl ?_
  refine callSV w X [(.ref b10), (.ref b4), (.int pl), (.int f), (.int s1)] (wd14 hw) (wd15 hw) (wd16 hw) (wd17 hw) (by decide) (rm_run hw b10 TA12 NA13 b4 pl f s1 rr_1 v0_1 v1_1 d0_1 d1_1 h16 n0 zn E_b10 F_taken_b10 F_counts_b10 F_made_b10 F_repeated_b10 V_TA12 V_NA13 g_b10 g_TA12 g_NA13 ne_b10_TA12 ne_b10_NA13 ne_TA12_NA13 V_b4 g_b4 (Ne.symm ne_b4_b10) (Ne.symm ne_b4_TA12) (Ne.symm ne_b4_NA13)) at_51 54 rfl 0 (by decide) (by decide) (lenOf pd3 rfl) rfl (Nat.le_of_eq rfl) rfl (by decide) (by decide) (fun T h17 X hq => ?_)
  obtain ⟨n_2, x1_2, x2_2, k1_2, k2_2, u0_2, u1_2, d0_2, d1_2, R2, Kq, E_b10, F_taken_b10, F_counts_b10, F_made_b10, F_repeated_b10, V_TA12, V_NA13, V_b4⟩ := hq
  have M2 := own_run_mid I1 R2
  have zn : n0 ≤ h17.size := Nat.le_trans zn Kq.1
  have V_b6 := V_b6.keep Kq (ninS ne_b6_b10 (ninS ne_b6_TA12 (ninS ne_b6_NA13 (ninS (Ne.symm ne_b4_b6) nin0))))
  have V_b8 := V_b8.keep Kq (ninS ne_b8_b10 (ninS ne_b8_TA12 (ninS ne_b8_NA13 (ninS (Ne.symm ne_b4_b8) nin0))))
  have V_b2 := V_b2.keep Kq (ninS ne_b2_b10 (ninS ne_b2_TA12 (ninS ne_b2_NA13 (ninS ne_b2_b4 nin0))))
  refine aload w X at_54 56 rfl rfl rfl ?_
  refine callVI w X [] (wd18 hw) (wd19 hw) (notFace_of_selects (args := #[]) (mvT w.2.2.2.2.1 (wd21 hw))) (wd21 hw) (wd20 hw) (wd3 hw) (wd22 hw) (by decide) E_b10 (rm_nx hw b10 TA12 NA13 n_2 rr_1 u0_2 u1_2 d0_2 d1_2 h17 n0 zn E_b10 F_taken_b10 F_counts_b10 F_made_b10 F_repeated_b10 V_TA12 V_NA13 g_b10 g_TA12 g_NA13 ne_b10_TA12 ne_b10_NA13 ne_TA12_NA13 (own_n3 M2)) at_56 59 rfl 0 (by decide) (by decide) (lenOf pd4 rfl) rfl (Nat.le_of_eq rfl) rfl (by decide) (by decide) (fun r18 T h19 X hq => ?_)
  obtain ⟨rr_2, v0_2, v1_2, N2, Kq, E_b10, F_taken_b10, F_counts_b10, F_made_b10, F_repeated_b10, V_TA12, V_NA13⟩ := hq
  have I2 := own_next_inv M2 N2
  have zn : n0 ≤ h19.size := Nat.le_trans zn Kq.1
  have V_b6 := V_b6.keep Kq (ninS ne_b6_b10 (ninS ne_b6_TA12 (ninS ne_b6_NA13 nin0)))
  have V_b8 := V_b8.keep Kq (ninS ne_b8_b10 (ninS ne_b8_TA12 (ninS ne_b8_NA13 nin0)))
  have V_b2 := V_b2.keep Kq (ninS ne_b2_b10 (ninS ne_b2_TA12 (ninS ne_b2_NA13 nin0)))
  have V_b4 := V_b4.keep Kq (ninS ne_b4_b10 (ninS ne_b4_TA12 (ninS ne_b4_NA13 nin0)))
  refine istore w X r18 at_59 61 rfl rfl #[.val (.int pl), .val (.int f), .val (.int s1), .val (.ref b2), .val (.ref b4), .val (.ref b6), .val (.ref b8), .val (.ref b10), .val (.int r15), .val (.int r18), .unset] rfl ?_
  refine aload w X at_61 63 rfl rfl rfl ?_
  refine aload w X at_63 65 rfl rfl rfl ?_
  refine iloadN w X at_65 66 rfl rfl ?_
  refine iloadN w X at_66 67 rfl rfl ?_
  refine iloadN w X at_67 68 rfl rfl ?_
  refine callSV w X [(.ref b10), (.ref b6), (.int pl), (.int f), (.int s1)] (wd14 hw) (wd15 hw) (wd16 hw) (wd17 hw) (by decide) (rm_run hw b10 TA12 NA13 b6 pl f s1 rr_2 v0_2 v1_2 d0_2 d1_2 h19 n0 zn E_b10 F_taken_b10 F_counts_b10 F_made_b10 F_repeated_b10 V_TA12 V_NA13 g_b10 g_TA12 g_NA13 ne_b10_TA12 ne_b10_NA13 ne_TA12_NA13 V_b6 g_b6 (Ne.symm ne_b6_b10) (Ne.symm ne_b6_TA12) (Ne.symm ne_b6_NA13)) at_68 71 rfl 0 (by decide) (by decide) (lenOf pd3 rfl) rfl (Nat.le_of_eq rfl) rfl (by decide) (by decide) (fun T h20 X hq => ?_)
  obtain ⟨n_3, x1_3, x2_3, k1_3, k2_3, u0_3, u1_3, d0_3, d1_3, R3, Kq, E_b10, F_taken_b10, F_counts_b10, F_made_b10, F_repeated_b10, V_TA12, V_NA13, V_b6⟩ := hq
  have M3 := own_run_mid I2 R3
  have zn : n0 ≤ h20.size := Nat.le_trans zn Kq.1
  have V_b8 := V_b8.keep Kq (ninS ne_b8_b10 (ninS ne_b8_TA12 (ninS ne_b8_NA13 (ninS (Ne.symm ne_b6_b8) nin0))))
  have V_b2 := V_b2.keep Kq (ninS ne_b2_b10 (ninS ne_b2_TA12 (ninS ne_b2_NA13 (ninS ne_b2_b6 nin0))))
  have V_b4 := V_b4.keep Kq (ninS ne_b4_b10 (ninS ne_b4_TA12 (ninS ne_b4_NA13 (ninS ne_b4_b6 nin0))))
  refine aload w X at_71 73 rfl rfl rfl ?_
  refine callVI w X [] (wd18 hw) (wd19 hw) (notFace_of_selects (args := #[]) (mvT w.2.2.2.2.1 (wd21 hw))) (wd21 hw) (wd20 hw) (wd3 hw) (wd22 hw) (by decide) E_b10 (rm_nx hw b10 TA12 NA13 n_3 rr_2 u0_3 u1_3 d0_3 d1_3 h20 n0 zn E_b10 F_taken_b10 F_counts_b10 F_made_b10 F_repeated_b10 V_TA12 V_NA13 g_b10 g_TA12 g_NA13 ne_b10_TA12 ne_b10_NA13 ne_TA12_NA13 (own_n3 M3)) at_73 76 rfl 0 (by decide) (by decide) (lenOf pd4 rfl) rfl (Nat.le_of_eq rfl) rfl (by decide) (by decide) (fun r21 T h22 X hq => ?_)
  obtain ⟨rr_3, v0_3, v1_3, N3, Kq, E_b10, F_taken_b10, F_counts_b10, F_made_b10, F_repeated_b10, V_TA12, V_NA13⟩ := hq
  have I3 := own_next_inv M3 N3
  have zn : n0 ≤ h22.size := Nat.le_trans zn Kq.1
  have V_b8 := V_b8.keep Kq (ninS ne_b8_b10 (ninS ne_b8_TA12 (ninS ne_b8_NA13 nin0)))
  have V_b2 := V_b2.keep Kq (ninS ne_b2_b10 (ninS ne_b2_TA12 (ninS ne_b2_NA13 nin0)))
  have V_b4 := V_b4.keep Kq (ninS ne_b4_b10 (ninS ne_b4_TA12 (ninS ne_b4_NA13 nin0)))
  have V_b6 := V_b6.keep Kq (ninS ne_b6_b10 (ninS ne_b6_TA12 (ninS ne_b6_NA13 nin0)))
  refine istore w X r21 at_76 78 rfl rfl #[.val (.int pl), .val (.int f), .val (.int s1), .val (.ref b2), .val (.ref b4), .val (.ref b6), .val (.ref b8), .val (.ref b10), .val (.int r15), .val (.int r18), .val (.int r21)] rfl ?_
  refine aload w X at_78 80 rfl rfl rfl ?_
  refine aload w X at_80 82 rfl rfl rfl ?_
  refine iloadN w X at_82 83 rfl rfl ?_
  refine iloadN w X at_83 84 rfl rfl ?_
  refine iloadN w X at_84 85 rfl rfl ?_
  refine callSV w X [(.ref b10), (.ref b8), (.int pl), (.int f), (.int s1)] (wd14 hw) (wd15 hw) (wd16 hw) (wd17 hw) (by decide) (rm_run hw b10 TA12 NA13 b8 pl f s1 rr_3 v0_3 v1_3 d0_3 d1_3 h22 n0 zn E_b10 F_taken_b10 F_counts_b10 F_made_b10 F_repeated_b10 V_TA12 V_NA13 g_b10 g_TA12 g_NA13 ne_b10_TA12 ne_b10_NA13 ne_TA12_NA13 V_b8 g_b8 (Ne.symm ne_b8_b10) (Ne.symm ne_b8_TA12) (Ne.symm ne_b8_NA13)) at_85 88 rfl 0 (by decide) (by decide) (lenOf pd3 rfl) rfl (Nat.le_of_eq rfl) rfl (by decide) (by decide) (fun T h23 X hq => ?_)
  obtain ⟨n_4, x1_4, x2_4, k1_4, k2_4, u0_4, u1_4, d0_4, d1_4, R4, Kq, E_b10, F_taken_b10, F_counts_b10, F_made_b10, F_repeated_b10, V_TA12, V_NA13, V_b8⟩ := hq
  have M4 := own_run_mid I3 R4
  have zn : n0 ≤ h23.size := Nat.le_trans zn Kq.1
  have V_b2 := V_b2.keep Kq (ninS ne_b2_b10 (ninS ne_b2_TA12 (ninS ne_b2_NA13 (ninS ne_b2_b8 nin0))))
  have V_b4 := V_b4.keep Kq (ninS ne_b4_b10 (ninS ne_b4_TA12 (ninS ne_b4_NA13 (ninS ne_b4_b8 nin0))))
  have V_b6 := V_b6.keep Kq (ninS ne_b6_b10 (ninS ne_b6_TA12 (ninS ne_b6_NA13 (ninS ne_b6_b8 nin0))))
  refine aloadN w X at_88 89 rfl rfl rfl ?_
  refine callSPI w X [(.ref b2)] (wd27 hw) (wd28 hw) (wd16 hw) (wd29 hw) (by decide) (rm_fw hw b2 n_1 x1_1 x2_1 k1_1 k2_1 h23 n0 zn V_b2 (own_r0 R1).1 (own_r0 R1).2) at_89 92 rfl 0 (by decide) (by decide) (lenOf pd5 rfl) rfl (Nat.le_of_eq rfl) rfl (by decide) (by decide) (fun r24 T X hq => ?_)
  have hr24 := hq
  refine if_eq w X at_92 134 95 (by decide) (by decide) rfl (fun q => False.elim (by rw [hr24] at q; exact absurd q (by decide))) (fun hc92_25 => ?_)
  refine aloadN w X at_95 96 rfl rfl rfl ?_
  refine aload w X at_96 98 rfl rfl rfl ?_
  refine iload w X at_98 100 rfl rfl ?_
  refine callSPI w X [(.ref b2), (.ref b4), (.int r15)] (wd30 hw) (wd31 hw) (wd16 hw) (wd32 hw) (by decide) (rm_fo hw b2 b4 n_1 x1_1 x2_1 k1_1 k2_1 n_2 x1_2 x2_2 k1_2 k2_2 r15 h23 n0 zn V_b2 V_b4 (own_all M1 N1 R2)) at_100 103 rfl 0 (by decide) (by decide) (lenOf pd6 rfl) rfl (Nat.le_of_eq rfl) rfl (by decide) (by decide) (fun r26 T X hq => ?_)
  have hr26 := hq
  refine if_eq w X at_103 134 106 (by decide) (by decide) rfl (fun q => False.elim (by rw [hr26] at q; exact absurd q (by decide))) (fun hc103_27 => ?_)
  refine aload w X at_106 108 rfl rfl rfl ?_
  refine aload w X at_108 110 rfl rfl rfl ?_
  refine iload w X at_110 112 rfl rfl ?_
  refine callSPI w X [(.ref b4), (.ref b6), (.int r18)] (wd30 hw) (wd31 hw) (wd16 hw) (wd32 hw) (by decide) (rm_fo hw b4 b6 n_2 x1_2 x2_2 k1_2 k2_2 n_3 x1_3 x2_3 k1_3 k2_3 r18 h23 n0 zn V_b4 V_b6 (own_all M2 N2 R3)) at_112 115 rfl 0 (by decide) (by decide) (lenOf pd6 rfl) rfl (Nat.le_of_eq rfl) rfl (by decide) (by decide) (fun r28 T X hq => ?_)
  have hr28 := hq
  refine if_eq w X at_115 134 118 (by decide) (by decide) rfl (fun q => False.elim (by rw [hr28] at q; exact absurd q (by decide))) (fun hc115_29 => ?_)
  refine aload w X at_118 120 rfl rfl rfl ?_
  refine aload w X at_120 122 rfl rfl rfl ?_
  refine iload w X at_122 124 rfl rfl ?_
  refine callSPI w X [(.ref b6), (.ref b8), (.int r21)] (wd30 hw) (wd31 hw) (wd16 hw) (wd32 hw) (by decide) (rm_fo hw b6 b8 n_3 x1_3 x2_3 k1_3 k2_3 n_4 x1_4 x2_4 k1_4 k2_4 r21 h23 n0 zn V_b6 V_b8 (own_all M3 N3 R4)) at_124 127 rfl 0 (by decide) (by decide) (lenOf pd6 rfl) rfl (Nat.le_of_eq rfl) rfl (by decide) (by decide) (fun r30 T X hq => ?_)
  have hr30 := hq
  refine if_eq w X at_127 134 130 (by decide) (by decide) rfl (fun q => False.elim (by rw [hr30] at q; exact absurd q (by decide))) (fun hc127_31 => ?_)
  refine iconst w X (1 : Int32) at_130 131 rfl rfl ?_
  refine goto w X at_131 135 (by decide) (by decide) ?_
  refine retN w X (t := .boolean) rfl (by simp) at_135 (by decide) (by decide) ?_
  exact ⟨_, rfl, rfl⟩
set_option maxRecDepth 65536 in
set_option maxHeartbeats 40000000 in
theorem comes_1 {Post : Tables → Env → Array Value → State → Outcome → State → Prop} (hpost : ∀ tb e args s v u, (limb_1_1.after args s (.returned v) u = true ∧ limb_1_2.after args s (.returned v) u = true ∧ True) → FrameEnd s (.returned v) u (Jvm.fieldLocs frame_1_writes args s ++ Jvm.arrayLocs frame_1_arrays args s ++ Jvm.staticLocs frame_1_statics s) 24 128 → Post tb e args s (.returned v) u) :
    ArmFor flags0 classFile x code maxLocals ret World_1 tables_1 room_1 Calls_1 rest_1 Pre_1 Post := by
  intro l hfl _ _ p e ha hc hk s m args below hf hA hF happ hP
  obtain ⟨hcalls, hrest, hpre⟩ := hP
  obtain ⟨-, -, -, hnamed, -, -, -, hat⟩ := (Spec.applies_iff hf).mp happ
  obtain ⟨hg, hn⟩ := and_e (Cond.before_iff.mp (show (Jvm.Cond.and given_1 narrow_1).before args s = true from hpre))
  obtain ⟨g1, g2⟩ := and_e hg
  obtain ⟨g3, g4⟩ := and_e g2
  obtain ⟨g5, g6⟩ := and_e g4
  obtain ⟨w0, w1, w2, rfl⟩ : ∃ w0 w1 w2 : Value, args = #[w0, w1, w2] := by
    have hs : args.size = 3 := by simpa [Cond.value, given_1] using g1
    obtain ⟨L⟩ := args
    match L, hs with
    | [w0, w1, w2], _ => exact ⟨w0, w1, w2, rfl⟩
  have hw := fun d (hd : d ∈ tables_1) => atoms_spec (ws := Jvm.Cond.code x code maxLocals ret :: tables_1) hat d (List.mem_cons_of_mem _ hd)
  obtain ⟨i0, ei0⟩ := is_v g3
  obtain rfl : w0 = (.int i0) := Option.some.inj ei0
  obtain ⟨i1, ei1⟩ := is_v g5
  obtain rfl : w1 = (.int i1) := Option.some.inj ei1
  obtain ⟨i2, ei2⟩ := is_v g6
  obtain rfl : w2 = (.int i2) := Option.some.inj ei2
  obtain ⟨n, o, h1, h2, h3, _, L, rfl, ⟨⟨_, rfl, rfl⟩, N⟩, hq⟩ := rm_law (l := l) hw i0 i1 i2 s.heap s.heap.size (Nat.le_refl _) p e ha hc hk s m _ below hf ((Spec.applies_iff_loose hf).mp happ).1 ⟨rfl, State.Warmed39.refl s, rfl⟩ trivial
  refine ⟨n, _, h1, h2, h3, hpost _ _ _ _ _ _ ⟨Cond.after_iff.mpr rfl, Cond.after_iff.mpr (eq_i res_at (Term.int_eval (1)) rfl), trivial⟩ ⟨hq.1, hq.2.1, (hq.2.2.sift fun y hy => Or.inr (N y hy)).mono (by decide) (by decide)⟩⟩
theorem main_1_1 : Claimed_1_1 := comes_1 fun _ _ _ _ _ _ h hF => ⟨h.1, hF⟩
theorem main_1_2 : Claimed_1_2 := comes_1 fun _ _ _ _ _ _ h hF => ⟨h.2.1, hF⟩
end Jvm.Pilot.@@N@@
namespace Jvm.Pilot.@@N@@
open Jvm Jvm.ClassFile Sem Op Lib Jvm.Free Jvm.Stand Jvm.Pilot.@@N@@.Jvm.D
/-! MADE BY PROGRAM (witnessworld.py) out of the Statement's table words and the real class files: 11 classes; the members and pool entries that the words name. The judged class is class 1, her method 5. -/
namespace start1
open Jvm.ClassFile
def u (s : String) : CpInfo := .utf8 (stringToUtf16 s)
/-- a pool by its gaps: so many unusable entries, then the entry; so many at the end -/
def gap : Nat → List CpInfo → List CpInfo
  | 0, r => r
  | n + 1, r => .unusable :: gap n r
def poolList (es : List (Nat × CpInfo)) (last : Nat) : List CpInfo := es.foldr (fun e r => gap e.1 (e.2 :: r)) (gap last [])
def pool (es : List (Nat × CpInfo)) (last : Nat) : Array CpInfo := ⟨poolList es last⟩
def fileOf (pool : Array CpInfo) (this : Nat) (attrs : Array Attribute := #[]) (ms : Array MethodInfo := #[]) (fl : Nat := 33) (sup : Nat := 0) (ifs : Array Nat := #[]) (fds : Array FieldInfo := #[]) : ClassFile where
  minorVersion := 0
  majorVersion := 65
  constantPool := pool
  accessFlags := fl
  thisClass := this
  superClass := sup
  interfaces := ifs
  fields := fds
  methods := ms
  attributes := attrs
def plain (name : String) (sup : Option ClassId) : Class where
  name := name
  kind := .ordinary
  loader := none
  accessFlags := 33
  super := sup
  interfaces := #[]
  cf := none
  fields := #[]
  methods := #[]
  instanceTypes := #[]
  staticTypes := #[]
  resolved := #[]
  callSites := []
  init := .initialized
  statics := none
  mirror := none

def pool0 : Array CpInfo := pool [(5, u "<init>"), (0, u "()V"), (1, .class_ 10), (1, u "java/lang/Object")] 113

def k0c0 : Code := { maxStack := 0, maxLocals := 1, code := object_method_1_code, exceptionTable := #[], attributes := #[] }
def k0m0 : Method := { name := "<init>", desc := "()V", sig := { parameters := [], returnType := none }, accessFlags := 1, code := some k0c0 }
/-- java/lang/Object -/
def k0 : Class := { plain "java/lang/Object" none with
  accessFlags := 33
  interfaces := #[]
  cf := some (fileOf pool0 8 #[] #[{ accessFlags := 1, nameIndex := 5, descriptorIndex := 6, attributes := #[] }] 33 0 #[] #[])
  fields := #[]
  methods := #[k0m0]
  instanceTypes := #[]
  staticTypes := #[]
  resolved := Array.replicate 124 none
  statics := none }

def pool1 : Array CpInfo := pool [(2, .class_ 4), (0, .nameAndType 5 6), (0, u "java/lang/Object"), (0, u "<init>"), (0, u "()V"), (0, .methodref 8 9), (0, .class_ 10), (0, .nameAndType 11 12), (0, u "com/example/vigilant_mailbox/vigilantmailbox/engine/ChoicesNextPinLaw"), (0, u "cnt"), (0, u "(I)I"), (0, .methodref 14 15), (0, .class_ 16), (0, .nameAndType 17 12), (0, u "com/example/vigilant_mailbox/vigilantmailbox/engine/Choices"), (0, u "choose"), (0, .methodref 19 20), (0, .class_ 21), (0, .nameAndType 22 23), (0, u "java/lang/Math"), (0, u "max"), (0, u "(II)I"), (0, .methodref 19 25), (0, .nameAndType 26 23), (0, u "min"), (0, .methodref 14 3), (0, .methodref 8 29), (0, .nameAndType 30 31), (0, u "run"), (0, u "(Lcom/example/vigilant_mailbox/vigilantmailbox/engine/Choices;[IIII)V"), (0, .methodref 14 33), (0, .nameAndType 34 35), (0, u "next"), (0, u "()Z"), (0, .methodref 8 37), (0, .nameAndType 38 39), (0, u "firstWay"), (0, u "([I)Z"), (0, .methodref 8 41), (0, .nameAndType 42 43), (0, u "follows"), (0, u "([I[IZ)Z"), (5, u "law"), (0, u "(III)Z")] 2

def k1m0 : Method := { name := "<init>", desc := "()V", sig := { parameters := [], returnType := none }, accessFlags := 2, code := none }
def k1c1 : Code := { maxStack := 3, maxLocals := 1, code := method_2_code, exceptionTable := #[], attributes := #[] }
def k1m1 : Method := { name := "cnt", desc := "(I)I", sig := { parameters := [.int], returnType := some .int }, accessFlags := 10, code := some k1c1 }
def k1c2 : Code := { maxStack := 3, maxLocals := 10, code := method_3_code, exceptionTable := #[], attributes := #[] }
def k1m2 : Method := { name := "run", desc := "(Lcom/example/vigilant_mailbox/vigilantmailbox/engine/Choices;[IIII)V", sig := { parameters := [(.object "com/example/vigilant_mailbox/vigilantmailbox/engine/Choices"), (.array .int), .int, .int, .int], returnType := none }, accessFlags := 10, code := some k1c2 }
def k1c3 : Code := { maxStack := 2, maxLocals := 2, code := method_4_code, exceptionTable := #[], attributes := #[] }
def k1m3 : Method := { name := "firstWay", desc := "([I)Z", sig := { parameters := [(.array .int)], returnType := some .boolean }, accessFlags := 10, code := some k1c3 }
def k1c4 : Code := { maxStack := 3, maxLocals := 6, code := method_5_code, exceptionTable := #[], attributes := #[] }
def k1m4 : Method := { name := "follows", desc := "([I[IZ)Z", sig := { parameters := [(.array .int), (.array .int), .boolean], returnType := some .boolean }, accessFlags := 10, code := some k1c4 }
def k1c5 : Code := { maxStack := 5, maxLocals := 11, code := code, exceptionTable := #[], attributes := #[] }
def k1m5 : Method := { name := "law", desc := "(III)Z", sig := { parameters := [.int, .int, .int], returnType := some .boolean }, accessFlags := 9, code := some k1c5 }
/-- com/example/vigilant_mailbox/vigilantmailbox/engine/ChoicesNextPinLaw -/
def k1 : Class := { plain "com/example/vigilant_mailbox/vigilantmailbox/engine/ChoicesNextPinLaw" (some 0) with
  accessFlags := 49
  interfaces := #[]
  cf := some (fileOf pool1 8 #[] #[{ accessFlags := 2, nameIndex := 5, descriptorIndex := 6, attributes := #[] }, { accessFlags := 10, nameIndex := 11, descriptorIndex := 12, attributes := #[] }, { accessFlags := 10, nameIndex := 30, descriptorIndex := 31, attributes := #[] }, { accessFlags := 10, nameIndex := 38, descriptorIndex := 39, attributes := #[] }, { accessFlags := 10, nameIndex := 42, descriptorIndex := 43, attributes := #[] }, { accessFlags := 9, nameIndex := 49, descriptorIndex := 50, attributes := #[] }] 49 2 #[] #[])
  fields := #[]
  methods := #[k1m0, k1m1, k1m2, k1m3, k1m4, k1m5]
  instanceTypes := #[]
  staticTypes := #[]
  resolved := Array.replicate 53 none
  statics := none }

def pool2 : Array CpInfo := pool [(1, .class_ 2), (0, u "com/example/vigilant_mailbox/vigilantmailbox/engine/Chooser"), (0, .class_ 4), (0, u "java/lang/Object")] 6

/-- com/example/vigilant_mailbox/vigilantmailbox/engine/Chooser -/
def k2 : Class := { plain "com/example/vigilant_mailbox/vigilantmailbox/engine/Chooser" (some 0) with
  accessFlags := 1536
  interfaces := #[]
  cf := some (fileOf pool2 1 #[] #[] 1536 3 #[] #[])
  fields := #[]
  methods := #[]
  instanceTypes := #[]
  staticTypes := #[]
  resolved := Array.replicate 11 none
  statics := none }

def pool3 : Array CpInfo := pool [(1, .methodref 2 3), (0, .class_ 4), (0, .nameAndType 5 6), (0, u "java/lang/Object"), (0, u "<init>"), (0, u "()V"), (0, .fieldref 8 9), (0, .class_ 10), (0, .nameAndType 11 12), (0, u "com/example/vigilant_mailbox/vigilantmailbox/engine/Choices"), (0, u "taken"), (0, u "[I"), (0, .fieldref 8 14), (0, .nameAndType 15 12), (0, u "counts"), (0, .fieldref 8 17), (0, .nameAndType 18 19), (0, u "made"), (0, u "I"), (6, .fieldref 8 27), (0, .nameAndType 28 19), (0, u "repeated"), (0, .class_ 30), (0, u "com/example/vigilant_mailbox/vigilantmailbox/engine/Chooser"), (2, u "choose"), (0, u "(I)I"), (1, u "next"), (0, u "()Z")] 3

def k3c0 : Code := { maxStack := 2, maxLocals := 1, code := prog_17_method_1_code, exceptionTable := #[], attributes := #[] }
def k3m0 : Method := { name := "<init>", desc := "()V", sig := { parameters := [], returnType := none }, accessFlags := 0, code := some k3c0 }
def k3c1 : Code := { maxStack := 5, maxLocals := 2, code := prog_17_method_2_code, exceptionTable := #[], attributes := #[] }
def k3m1 : Method := { name := "choose", desc := "(I)I", sig := { parameters := [.int], returnType := some .int }, accessFlags := 1, code := some k3c1 }
def k3c2 : Code := { maxStack := 4, maxLocals := 2, code := prog_17_method_3_code, exceptionTable := #[], attributes := #[] }
def k3m2 : Method := { name := "next", desc := "()Z", sig := { parameters := [], returnType := some .boolean }, accessFlags := 0, code := some k3c2 }
/-- com/example/vigilant_mailbox/vigilantmailbox/engine/Choices -/
def k3 : Class := { plain "com/example/vigilant_mailbox/vigilantmailbox/engine/Choices" (some 0) with
  accessFlags := 48
  interfaces := #[2]
  cf := some (fileOf pool3 8 #[] #[{ accessFlags := 0, nameIndex := 5, descriptorIndex := 6, attributes := #[] }, { accessFlags := 1, nameIndex := 33, descriptorIndex := 34, attributes := #[] }, { accessFlags := 0, nameIndex := 36, descriptorIndex := 37, attributes := #[] }] 48 2 #[29] #[{ accessFlags := 2, nameIndex := 11, descriptorIndex := 12, attributes := #[] }, { accessFlags := 2, nameIndex := 15, descriptorIndex := 12, attributes := #[] }, { accessFlags := 2, nameIndex := 18, descriptorIndex := 19, attributes := #[] }, { accessFlags := 2, nameIndex := 28, descriptorIndex := 19, attributes := #[] }])
  fields := #[{ name := "taken", type := (.array .int), accessFlags := 2, slot := 0, constantValue := 0 }, { name := "counts", type := (.array .int), accessFlags := 2, slot := 1, constantValue := 0 }, { name := "made", type := .int, accessFlags := 2, slot := 2, constantValue := 0 }, { name := "repeated", type := .int, accessFlags := 2, slot := 3, constantValue := 0 }]
  methods := #[k3m0, k3m1, k3m2]
  instanceTypes := #[(.array .int), (.array .int), .int, .int]
  staticTypes := #[]
  resolved := Array.replicate 41 none
  statics := none }

def pool4 : Array CpInfo := pool [(1, .class_ 2), (0, u "java/lang/Math"), (1, .class_ 6), (1, u "java/lang/Object"), (0, u "<init>"), (0, u "()V"), (89, .class_ 100), (1, u "java/lang/Math$RandomNumberGeneratorHolder"), (71, u "negativeZeroFloatBits"), (0, u "J"), (2, u "negativeZeroDoubleBits"), (21, u "max"), (2, u "min"), (43, u "$assertionsDisabled"), (0, u "Z"), (88, u "(II)I"), (2, u "twoToTheDoubleScaleDown"), (0, u "D"), (4, u "twoToTheDoubleScaleUp"), (9, u "E"), (3, u "PI"), (2, u "TAU"), (2, u "DEGREES_TO_RADIANS"), (0, u "RADIANS_TO_DEGREES")] 94

def k4m0 : Method := { name := "<init>", desc := "()V", sig := { parameters := [], returnType := none }, accessFlags := 2, code := none }
def k4c1 : Code := { maxStack := 2, maxLocals := 2, code := jdk_29_method_65_code, exceptionTable := #[], attributes := #[] }
def k4m1 : Method := { name := "max", desc := "(II)I", sig := { parameters := [.int, .int], returnType := some .int }, accessFlags := 9, code := some k4c1 }
def k4c2 : Code := { maxStack := 2, maxLocals := 2, code := jdk_29_method_69_code, exceptionTable := #[], attributes := #[] }
def k4m2 : Method := { name := "min", desc := "(II)I", sig := { parameters := [.int, .int], returnType := some .int }, accessFlags := 9, code := some k4c2 }
/-- java/lang/Math -/
def k4 : Class := { plain "java/lang/Math" (some 0) with
  accessFlags := 49
  interfaces := #[]
  cf := some (fileOf pool4 1 #[.nestMembers #[98]] #[{ accessFlags := 2, nameIndex := 7, descriptorIndex := 8, attributes := #[] }, { accessFlags := 9, nameIndex := 198, descriptorIndex := 335, attributes := #[] }, { accessFlags := 9, nameIndex := 201, descriptorIndex := 335, attributes := #[] }] 49 4 #[] #[{ accessFlags := 25, nameIndex := 354, descriptorIndex := 339, attributes := #[] }, { accessFlags := 25, nameIndex := 358, descriptorIndex := 339, attributes := #[] }, { accessFlags := 25, nameIndex := 361, descriptorIndex := 339, attributes := #[] }, { accessFlags := 26, nameIndex := 364, descriptorIndex := 339, attributes := #[] }, { accessFlags := 26, nameIndex := 365, descriptorIndex := 339, attributes := #[] }, { accessFlags := 26, nameIndex := 172, descriptorIndex := 173, attributes := #[] }, { accessFlags := 26, nameIndex := 176, descriptorIndex := 173, attributes := #[] }, { accessFlags := 8, nameIndex := 344, descriptorIndex := 339, attributes := #[] }, { accessFlags := 8, nameIndex := 338, descriptorIndex := 339, attributes := #[] }, { accessFlags := 4120, nameIndex := 245, descriptorIndex := 246, attributes := #[] }])
  fields := #[{ name := "E", type := .double, accessFlags := 25, slot := 0, constantValue := 0 }, { name := "PI", type := .double, accessFlags := 25, slot := 1, constantValue := 0 }, { name := "TAU", type := .double, accessFlags := 25, slot := 2, constantValue := 0 }, { name := "DEGREES_TO_RADIANS", type := .double, accessFlags := 26, slot := 3, constantValue := 0 }, { name := "RADIANS_TO_DEGREES", type := .double, accessFlags := 26, slot := 4, constantValue := 0 }, { name := "negativeZeroFloatBits", type := .long, accessFlags := 26, slot := 5, constantValue := 0 }, { name := "negativeZeroDoubleBits", type := .long, accessFlags := 26, slot := 6, constantValue := 0 }, { name := "twoToTheDoubleScaleUp", type := .double, accessFlags := 8, slot := 7, constantValue := 0 }, { name := "twoToTheDoubleScaleDown", type := .double, accessFlags := 8, slot := 8, constantValue := 0 }, { name := "$assertionsDisabled", type := .boolean, accessFlags := 4120, slot := 9, constantValue := 0 }]
  methods := #[k4m0, k4m1, k4m2]
  instanceTypes := #[]
  staticTypes := #[.double, .double, .double, .double, .double, .long, .long, .double, .double, .boolean]
  resolved := Array.replicate 460 none
  statics := none }

def pool5 : Array CpInfo := pool [(1, u "java/lang/Cloneable"), (0, .class_ 1), (0, u "java/lang/Object"), (0, .class_ 3)] 3

/-- java/lang/Cloneable -/
def k5 : Class := { plain "java/lang/Cloneable" (some 0) with
  accessFlags := 1537
  interfaces := #[]
  cf := some (fileOf pool5 2 #[] #[] 1537 4 #[] #[])
  fields := #[]
  methods := #[]
  instanceTypes := #[]
  staticTypes := #[]
  resolved := Array.replicate 8 none
  statics := none }

def pool6 : Array CpInfo := pool [(1, u "java/io/Serializable"), (0, .class_ 1), (0, u "java/lang/Object"), (0, .class_ 3)] 3

/-- java/io/Serializable -/
def k6 : Class := { plain "java/io/Serializable" (some 0) with
  accessFlags := 1537
  interfaces := #[]
  cf := some (fileOf pool6 2 #[] #[] 1537 4 #[] #[])
  fields := #[]
  methods := #[]
  instanceTypes := #[]
  staticTypes := #[]
  resolved := Array.replicate 8 none
  statics := none }

/-- the primitive byte -/
def k7 : Class := { plain "byte" none with kind := .primitive 'B', accessFlags := 0x411 }
/-- [B -/
def k8 : Class := { plain "[B" (some 0) with kind := .array 7 .byte, interfaces := #[5, 6], accessFlags := 1041 }

/-- the primitive int -/
def k9 : Class := { plain "int" none with kind := .primitive 'I', accessFlags := 0x411 }
/-- [I -/
def k10 : Class := { plain "[I" (some 0) with kind := .array 9 .int, interfaces := #[5, 6], accessFlags := 1041 }

def heap : Heap := #[]
def classes : Array Class := #[k0, k1, k2, k3, k4, k5, k6, k7, k8, k9, k10]
def interned : List (Array UInt16 × Addr) := []
def slotsUsed : Nat := 0
def theMethod : MethodId := ⟨1, 5⟩
def args0 : Array Value := #[.int 5, .int 6, .int 7]
def aboutOver (below : List Frame) : State where
  vm := { classes := classes, interned := interned.toArray }
  heap := heap
  slotsUsed := slotsUsed
  threads := #[{ frames := .invoking theMethod args0 :: below }]
def below0 : List Frame := [.native { method := ⟨0, 0⟩, args := #[] }]
def about1 : State := aboutOver below0
def p0 : Program := .bare "" "" ""
def e0 : Env := launch0.env 0 0 0
theorem w_frames : about1.frames = Frame.invoking theMethod args0 :: below0 := rfl
set_option maxRecDepth 65536 in
theorem w_args : argsFit about1.vm theMethod args0 = true := by decide +kernel
set_option maxRecDepth 65536 in
theorem w_heap : heapFits about1 = true := by decide +kernel
set_option maxRecDepth 65536 in
theorem w_runnable : about1.curStatus? = some .runnable := by decide +kernel
set_option maxRecDepth 65536 in
theorem w_alone : about1.alone = true := by decide +kernel
set_option maxRecDepth 65536 in
theorem w_named : about1.methodNamed? x = some theMethod := by decide +kernel
set_option maxRecDepth 65536 in
theorem w_hears : about1.hears theMethod below0 = true := by decide +kernel
set_option maxRecDepth 65536 in
theorem w_ripe : about1.ripe theMethod args0 below0 = true := by decide +kernel
theorem w_running : about1.status = .running := rfl
set_option maxRecDepth 65536 in
theorem w_room : about1.hasRoom e0.platform room_1 = true :=
  launch0.hasRoom_least _ room_1 (by decide +kernel) (by decide +kernel) (by decide +kernel) (by decide +kernel) (by decide +kernel) (by decide +kernel)
theorem allAtoms_all (ts : List Jvm.Cond) (a : Array Jvm.Value) (st : Jvm.State) : (allAtoms ts).before a st = ts.all (fun c => c.before a st) := by
  induction ts with
  | nil => rfl
  | cons c t ih =>
    show (Jvm.Cond.and c (allAtoms t)).before a st = _
    rw [Jvm.Cond.before_and, ih, List.all_cons]
def words1 : List Jvm.Cond := Jvm.Cond.code x code maxLocals ret :: tables_1
/-- a 'code' word, met by the world's own term for the bytes: nothing is compared byte by byte -/
theorem code_word {y : MethodName} {bytes : ByteArray} {mx : Nat} {rt : Option FieldType} {a : Array Value} {s : State} {m : MethodId} {meth : Method} {c : Code} (h1 : s.methodNamed? y = some m) (h2 : s.vm.method? m = some meth) (h3 : meth.code = some c) (h4 : c.code = bytes)
    (h5 : (c.maxLocals == mx && c.exceptionTable.isEmpty && decide (c.maxStack ≤ mostOperands) && decide (meth.sig.returnType = rt) && !meth.locks && decide (parseMethodDescriptor y.desc = some meth.sig)) = true) : (Jvm.Cond.code y bytes mx rt).before a s = true := by
  simp only [Bool.and_eq_true, beq_iff_eq, Bool.not_eq_true', decide_eq_true_eq] at h5
  obtain ⟨⟨⟨⟨⟨g1, g2⟩, g3⟩, g4⟩, g5⟩, g6⟩ := h5
  simp [Cond.before, Cond.holds, Cond.value, h1, h2, h3, h4, g1, g2, g3, g4, g5, g6]
def isCode : Jvm.Cond → Bool
  | .code _ _ _ _ => true
  | _ => false
theorem all_split {L : List Jvm.Cond} {P : Jvm.Cond → Bool} (h1 : L.all (fun c => isCode c || P c) = true) (h2 : ∀ c ∈ L.filter isCode, P c = true) : L.all P = true := by
  refine List.all_eq_true.mpr fun c hc => ?_
  have h := List.all_eq_true.mp h1 c hc
  rcases Bool.eq_false_or_eq_true (isCode c) with hi | hi
  · exact h2 c (List.mem_filter.mpr ⟨hc, hi⟩)
  · simpa [hi] using h
set_option maxRecDepth 65536 in
theorem w_c0 : (Jvm.Cond.code x code maxLocals ret).before args0 about1 = true := code_word (m := ⟨1, 5⟩) (meth := k1m5) (c := k1c5) (by decide +kernel) rfl rfl rfl (by decide +kernel)
set_option maxRecDepth 65536 in
theorem w_c1 : (Jvm.Cond.code ({ cls := "com/example/vigilant_mailbox/vigilantmailbox/engine/Choices", name := "<init>", desc := "()V" } : Jvm.MethodName) prog_17_method_1_code (1 : Nat) (Option.none : Option Jvm.ClassFile.FieldType)).before args0 about1 = true := code_word (m := ⟨3, 0⟩) (meth := k3m0) (c := k3c0) (by decide +kernel) rfl rfl rfl (by decide +kernel)
set_option maxRecDepth 65536 in
theorem w_c2 : (Jvm.Cond.code ({ cls := "java/lang/Object", name := "<init>", desc := "()V" } : Jvm.MethodName) object_method_1_code (1 : Nat) (Option.none : Option Jvm.ClassFile.FieldType)).before args0 about1 = true := code_word (m := ⟨0, 0⟩) (meth := k0m0) (c := k0c0) (by decide +kernel) rfl rfl rfl (by decide +kernel)
set_option maxRecDepth 65536 in
theorem w_c3 : (Jvm.Cond.code ({ cls := "com/example/vigilant_mailbox/vigilantmailbox/engine/ChoicesNextPinLaw", name := "run", desc := "(Lcom/example/vigilant_mailbox/vigilantmailbox/engine/Choices;[IIII)V" } : Jvm.MethodName) method_3_code (10 : Nat) (Option.none : Option Jvm.ClassFile.FieldType)).before args0 about1 = true := code_word (m := ⟨1, 2⟩) (meth := k1m2) (c := k1c2) (by decide +kernel) rfl rfl rfl (by decide +kernel)
set_option maxRecDepth 65536 in
theorem w_c4 : (Jvm.Cond.code ({ cls := "com/example/vigilant_mailbox/vigilantmailbox/engine/Choices", name := "next", desc := "()Z" } : Jvm.MethodName) prog_17_method_3_code (2 : Nat) (Option.some Jvm.ClassFile.FieldType.boolean)).before args0 about1 = true := code_word (m := ⟨3, 2⟩) (meth := k3m2) (c := k3c2) (by decide +kernel) rfl rfl rfl (by decide +kernel)
set_option maxRecDepth 65536 in
theorem w_c5 : (Jvm.Cond.code ({ cls := "com/example/vigilant_mailbox/vigilantmailbox/engine/ChoicesNextPinLaw", name := "firstWay", desc := "([I)Z" } : Jvm.MethodName) method_4_code (2 : Nat) (Option.some Jvm.ClassFile.FieldType.boolean)).before args0 about1 = true := code_word (m := ⟨1, 3⟩) (meth := k1m3) (c := k1c3) (by decide +kernel) rfl rfl rfl (by decide +kernel)
set_option maxRecDepth 65536 in
theorem w_c6 : (Jvm.Cond.code ({ cls := "com/example/vigilant_mailbox/vigilantmailbox/engine/ChoicesNextPinLaw", name := "follows", desc := "([I[IZ)Z" } : Jvm.MethodName) method_5_code (6 : Nat) (Option.some Jvm.ClassFile.FieldType.boolean)).before args0 about1 = true := code_word (m := ⟨1, 4⟩) (meth := k1m4) (c := k1c4) (by decide +kernel) rfl rfl rfl (by decide +kernel)
set_option maxRecDepth 65536 in
theorem w_c7 : (Jvm.Cond.code ({ cls := "com/example/vigilant_mailbox/vigilantmailbox/engine/ChoicesNextPinLaw", name := "cnt", desc := "(I)I" } : Jvm.MethodName) method_2_code (1 : Nat) (Option.some Jvm.ClassFile.FieldType.int)).before args0 about1 = true := code_word (m := ⟨1, 1⟩) (meth := k1m1) (c := k1c1) (by decide +kernel) rfl rfl rfl (by decide +kernel)
set_option maxRecDepth 65536 in
theorem w_c8 : (Jvm.Cond.code ({ cls := "com/example/vigilant_mailbox/vigilantmailbox/engine/Choices", name := "choose", desc := "(I)I" } : Jvm.MethodName) prog_17_method_2_code (2 : Nat) (Option.some Jvm.ClassFile.FieldType.int)).before args0 about1 = true := code_word (m := ⟨3, 1⟩) (meth := k3m1) (c := k3c1) (by decide +kernel) rfl rfl rfl (by decide +kernel)
set_option maxRecDepth 65536 in
theorem w_c9 : (Jvm.Cond.code ({ cls := "java/lang/Math", name := "max", desc := "(II)I" } : Jvm.MethodName) jdk_29_method_65_code (2 : Nat) (Option.some Jvm.ClassFile.FieldType.int)).before args0 about1 = true := code_word (m := ⟨4, 1⟩) (meth := k4m1) (c := k4c1) (by decide +kernel) rfl rfl rfl (by decide +kernel)
set_option maxRecDepth 65536 in
theorem w_c10 : (Jvm.Cond.code ({ cls := "java/lang/Math", name := "min", desc := "(II)I" } : Jvm.MethodName) jdk_29_method_69_code (2 : Nat) (Option.some Jvm.ClassFile.FieldType.int)).before args0 about1 = true := code_word (m := ⟨4, 2⟩) (meth := k4m2) (c := k4c2) (by decide +kernel) rfl rfl rfl (by decide +kernel)
def codes1 : List Jvm.Cond := [Jvm.Cond.code x code maxLocals ret, Jvm.Cond.code ({ cls := "com/example/vigilant_mailbox/vigilantmailbox/engine/Choices", name := "<init>", desc := "()V" } : Jvm.MethodName) prog_17_method_1_code (1 : Nat) (Option.none : Option Jvm.ClassFile.FieldType), Jvm.Cond.code ({ cls := "java/lang/Object", name := "<init>", desc := "()V" } : Jvm.MethodName) object_method_1_code (1 : Nat) (Option.none : Option Jvm.ClassFile.FieldType), Jvm.Cond.code ({ cls := "com/example/vigilant_mailbox/vigilantmailbox/engine/ChoicesNextPinLaw", name := "run", desc := "(Lcom/example/vigilant_mailbox/vigilantmailbox/engine/Choices;[IIII)V" } : Jvm.MethodName) method_3_code (10 : Nat) (Option.none : Option Jvm.ClassFile.FieldType), Jvm.Cond.code ({ cls := "com/example/vigilant_mailbox/vigilantmailbox/engine/Choices", name := "next", desc := "()Z" } : Jvm.MethodName) prog_17_method_3_code (2 : Nat) (Option.some Jvm.ClassFile.FieldType.boolean), Jvm.Cond.code ({ cls := "com/example/vigilant_mailbox/vigilantmailbox/engine/ChoicesNextPinLaw", name := "firstWay", desc := "([I)Z" } : Jvm.MethodName) method_4_code (2 : Nat) (Option.some Jvm.ClassFile.FieldType.boolean), Jvm.Cond.code ({ cls := "com/example/vigilant_mailbox/vigilantmailbox/engine/ChoicesNextPinLaw", name := "follows", desc := "([I[IZ)Z" } : Jvm.MethodName) method_5_code (6 : Nat) (Option.some Jvm.ClassFile.FieldType.boolean), Jvm.Cond.code ({ cls := "com/example/vigilant_mailbox/vigilantmailbox/engine/ChoicesNextPinLaw", name := "cnt", desc := "(I)I" } : Jvm.MethodName) method_2_code (1 : Nat) (Option.some Jvm.ClassFile.FieldType.int), Jvm.Cond.code ({ cls := "com/example/vigilant_mailbox/vigilantmailbox/engine/Choices", name := "choose", desc := "(I)I" } : Jvm.MethodName) prog_17_method_2_code (2 : Nat) (Option.some Jvm.ClassFile.FieldType.int), Jvm.Cond.code ({ cls := "java/lang/Math", name := "max", desc := "(II)I" } : Jvm.MethodName) jdk_29_method_65_code (2 : Nat) (Option.some Jvm.ClassFile.FieldType.int), Jvm.Cond.code ({ cls := "java/lang/Math", name := "min", desc := "(II)I" } : Jvm.MethodName) jdk_29_method_69_code (2 : Nat) (Option.some Jvm.ClassFile.FieldType.int)]
set_option maxRecDepth 65536 in
theorem codes_eq : words1.filter isCode = codes1 := rfl
theorem w_codes : ∀ c ∈ words1.filter isCode, c.before args0 about1 = true := by
  rw [codes_eq]
  intro c hc
  simp only [codes1, List.mem_cons, List.not_mem_nil, or_false] at hc
  rcases hc with rfl | rfl | rfl | rfl | rfl | rfl | rfl | rfl | rfl | rfl | rfl
  · exact w_c0
  · exact w_c1
  · exact w_c2
  · exact w_c3
  · exact w_c4
  · exact w_c5
  · exact w_c6
  · exact w_c7
  · exact w_c8
  · exact w_c9
  · exact w_c10
set_option maxRecDepth 65536 in
theorem w_t1 : (words1.take 24).all (fun c => isCode c || c.before args0 about1) = true := by decide +kernel
set_option maxRecDepth 65536 in
theorem w_t2 : ((words1.drop 24).take 24).all (fun c => isCode c || c.before args0 about1) = true := by decide +kernel
set_option maxRecDepth 65536 in
theorem w_t3 : ((words1.drop 24).drop 24).all (fun c => isCode c || c.before args0 about1) = true := by decide +kernel
theorem w_tables : (allAtoms (Jvm.Cond.code x code maxLocals ret :: tables_1)).before args0 about1 = true := by
  rw [allAtoms_all]
  show words1.all (fun c => c.before args0 about1) = true
  refine all_split ?_ w_codes
  rw [← List.take_append_drop 24 words1, List.all_append, w_t1, ← List.take_append_drop 24 (words1.drop 24), List.all_append, w_t2, w_t3]
  rfl
set_option maxRecDepth 65536 in
theorem w_case : (Jvm.Cond.and given_1 narrow_1).before args0 about1 = true := by decide +kernel
theorem w_applies : (headSpec (Jvm.Cond.code x code maxLocals ret :: tables_1) room_1).applies x e0.platform about1 = true :=
  (Spec.applies_iff w_frames).mpr ⟨w_running, w_runnable, w_alone, w_named, w_hears, w_ripe, w_room, w_tables⟩
theorem atStart : AtStart classFile x code maxLocals ret World_1 tables_1 room_1 Calls_1 rest_1 Pre_1 launch0 p0 e0 about1 theMethod args0 below0 :=
  ⟨lists_1, trivial, launch0.admits_env _ _ _, launch0.least_env, fairChoices_fair.cas, fairChoices_fair.clock, w_frames, w_args, w_heap, w_applies, trivial, trivial, w_case⟩
end start1
theorem witness_1 : WitnessClaimed_1 := ⟨start1.p0, start1.e0, start1.about1, start1.theMethod, start1.args0, start1.below0, start1.atStart⟩
end Jvm.Pilot.@@N@@
