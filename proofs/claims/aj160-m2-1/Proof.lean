import JvmDerived
import JvmDerived.Pilot.@@N@@Statement
import JvmDerived.Pilot.@@N@@Code
set_option linter.unusedVariables false
set_option linter.unusedSimpArgs false
namespace Jvm.Own
open Jvm Jvm.ClassFile Sem Op Lib Jvm.Free Jvm.Stand Jvm.LawKit Jvm.RoadKit
/-- where the run stands: nothing older than n0 is written, the heap is h -/
def Sd (p : Program) (l : Launch) (e : Env) (R : Room) (s : State) (m : MethodId) (args : Array Value) (below : List Frame) (meth : Method) (c : Code) (n0 : Nat) (T : State) (h : Heap) (cells slots : Nat) : Prop :=
  ∃ locs, Stand p l e R s m args below meth c T locs cells slots ∧ Fr n0 locs ∧ T.heap = h
/-- what a walk knows throughout -/
def Wk (p : Program) (l : Launch) (e : Env) (R : Room) (s : State) (m : MethodId) (args : Array Value) (below : List Frame) (meth : Method) (c : Code) (n0 : Nat) (Z : State) (own nm : String) (bc : ByteArray) (ml : Nat) (rt : Option FieldType) (Q : Option Value → Heap → Prop) (G : State → Prop) : Prop :=
  (∀ S S' : State, (∀ t, Steps p.tables e below S' t → Steps p.tables e below S t) → G S' → G S) ∧
  p.tables.exec = Jvm.exec ∧ c.code = bc ∧ c.maxLocals = ml ∧ Z.Warmed39 s.vm ∧ s.vm.findClass own = some m.cls ∧ meth.sig.returnType = rt ∧ meth.name = nm ∧
  (∀ (T : State) (h : Heap) (cells slots : Nat) (v : Option Value), Sd p l e R s m args below meth c n0 T h cells slots → cells ≤ R.cells → slots ≤ R.slots → (meth.sig.returnType = none → v = none) → Q v h →
    ∀ S : State, (∀ fs : List Frame, (∀ (f : JFrame) (acts : List Action), f.method = m → f.locked = none → f.entered = [] → (doReturn e (T.setTop f) acts v).1 = T.setFrames fs) → Steps p.tables e below S (T.setFrames fs)) → G S)
/-- a body's contract -/
abbrev Met (l : Launch) (Z : State) (x : MethodName) (bc : ByteArray) (ml : Nat) (rt : Option FieldType) (ws : List Jvm.Cond) (rm : Room) (av : Array Value) (h : Heap) (n0 : Nat) (Q : Option Value → Heap → Prop) : Prop :=
  MetFree l x (head1 (Jvm.Cond.code x bc ml rt :: ws) rm) (fun a U => a = av ∧ Z.Warmed39 U.vm ∧ U.heap = h) (fun _ _ _ _ _ => True) (fun _ U o U' => ∃ v L, o = .returned v ∧ (Q v U'.heap ∧ Fr n0 L) ∧ FrameEnd U o U' L rm.cells rm.slots)
def RI (P : Int32 → Heap → Prop) (v : Option Value) (h : Heap) : Prop := ∃ r, v = some (.int r) ∧ P r h
def RJ (P : Int64 → Heap → Prop) (v : Option Value) (h : Heap) : Prop := ∃ r, v = some (.long r) ∧ P r h
def RR (P : Value → Heap → Prop) (v : Option Value) (h : Heap) : Prop := ∃ r, v = some r ∧ P r h
def RV (P : Heap → Prop) (v : Option Value) (h : Heap) : Prop := v = none ∧ P h
section Law
variable {p : Program} {l : Launch} {e : Env} {R : Room} {s : State} {m : MethodId} {args : Array Value} {below : List Frame} {meth : Method} {c : Code} {n0 : Nat} {T : State} {h : Heap} {cells slots : Nat} {Z : State} {a0 : Array Value} {own nm : String} {bc : ByteArray} {ml : Nat} {rt : Option FieldType} {Q : Option Value → Heap → Prop} {G : State → Prop}
variable {pc : Nat} {ls : Array Slot} {st : List Value}
theorem nf_same {s : State} {a : Array Value} {C : String} {y y' : MethodName} (hs : (Cond.selects C y' y').before a s = true) (hi : (Cond.instanceMethod y').before a s = true) (hc : y'.cls = y.cls) : NotFace s y := fun r0 h0 => by
  obtain ⟨mk, methM, hn, -⟩ := Cond.instanceMethod_spec hi
  have h1 := findClass_of_methodNamed h0
  have h2 := findClass_of_methodNamed hn
  rw [hc] at h2
  have e : r0.cls = mk.cls := Option.some.inj (h1.symm.trans h2)
  rw [e]
  exact notFace_of_selects hs mk hn
theorem privB {p : Program} {l : Launch} {e : Env} {R : Room} {s : State} {m : MethodId} {args : Array Value} {below : List Frame} {meth : Method} {c : Code} {T : State} {locs : List Loc} {cells slots : Nat} (X : Stand p l e R s m args below meth c T locs cells slots) (hexec : p.tables.exec = Jvm.exec) {own : String} {index : Nat} {y : MethodName} {bytes : ByteArray} {maxL : Nat} {ret : Option FieldType}
    (hown : s.vm.findClass own = some m.cls) (hlink : (Cond.methodLink own index y).before args s = true) (hinst : (Cond.instanceMethod y).before args s = true) (hnf : NotFace s y)
    (hpriv : s.PrivateAt y) (hcode : (Cond.code y bytes maxL ret).before args s = true) (hy : y.cls ≠ "java/lang/invoke/MethodHandle" ∧ y.cls ≠ "java/lang/invoke/VarHandle")
    {W : Nat} {Pre : Free.Pt → Array Value → Prop} {Post : Free.Pt → Array Value → Option Value → Free.Pt → Prop} (hK : Free.Back l R p e below s args y 3 W Pre Post)
    {g : JFrame} (hg : g.method = m) (hsize : g.locals.size = c.maxLocals) {s₀ : State} (hcome : Steps p.tables e below s₀ (T.setTop g)) {a : Addr} {cell : Cell} (hcell : T.heap[a]? = some cell) (hobj : ∀ q, cell.vm ≠ .statics q)
    {argsL rest : List Value} (hlen : ∀ sig, parseMethodDescriptor y.desc = some sig → argsL.length = sig.parameters.length)
    (hstack : g.stack = argsL.reverse ++ .ref a :: rest) (hW : 2 * g.monitorRoom + (rest.map fun v => v.category).sum ≤ W) (hdg : decode c.code g.pc = .ok (.invokevirtual index, 3))
    (hpre : ∀ vm₁, s.WarmedH vm₁ → Pre ⟨T.setVm vm₁, locs, cells, slots⟩ (.ref a :: argsL).toArray) :
    ∃ (v : Option Value) (vm₁ : Vm) (B : Free.Pt), s.WarmedH vm₁ ∧ Stand p l e R s m args below meth c B.U B.locs B.cells B.slots ∧ Post ⟨T.setVm vm₁, locs, cells, slots⟩ (.ref a :: argsL).toArray v B ∧
      Steps p.tables e below s₀ (B.U.setTop { g with pc := g.pc + 3, stack := v.toList ++ rest }) := by
  obtain ⟨mk, methM, hnamed, hmethM, hstM, habM⟩ := Cond.instanceMethod_spec hinst
  obtain ⟨methM', cM, hmethM', -, -, -, -, -, -, hsigM⟩ := Cond.code_spec hnamed hcode
  cases hmethM.symm.trans hmethM'
  obtain ⟨kP, hkP, hkPi⟩ := hnf mk hnamed
  have hselP : selectMethod e.platform s.vm cell.cls mk = .method mk := selectMethod_private hmethM (hpriv mk methM hnamed hmethM)
  obtain ⟨vm₁, X₁, hstep₁⟩ := X.invokevirtual hexec hown hlink hnamed hmethM hstM hkP hkPi hy (a := a) (cell := cell) hcell hobj hselP hmethM habM hkP hkPi (g := g) hg (argsL := argsL) (rest := rest) (hlen _ hsigM) hstack hdg
  obtain ⟨v, B, X', hpost, hsteps⟩ := hK m meth c ⟨T.setVm vm₁, locs, cells, slots⟩ { g with stack := rest } (.invokevirtual index) mk (.ref a :: argsL).toArray X₁ hg hsize hdg hW (X₁.named hnamed) (hpre vm₁ X₁.warmed)
  exact ⟨v, vm₁, B, X₁.warmed, X', hpost, (hcome.trans (hstep₁ _ fun acts => by rw [doInvoke_state]; exact Steps.refl _)).trans hsteps⟩
theorem start {x : MethodName} {ws : List Jvm.Cond} {rm : Room} {av : Array Value} (hpl : plainFor x = true) (hef : ∀ m, entryFrame m av ml = mkF m 0 ls [])
    (body : ∀ (p : Program) (e : Env) (s : State) (m : MethodId) (below : List Frame) (meth : Method) (c : Code) (T : State) (G : State → Prop), Wk p l e rm s m av below meth c n0 Z x.cls x.name bc ml rt Q G → Sd p l e rm s m av below meth c n0 T h 0 0 → G (T.setTop (mkF m 0 ls []))) :
    Met l Z x bc ml rt ws rm av h n0 Q := by
  refine MetFree.of_bodySF hpl hisR ?_
  intro p e s m args below meth c s₁ Bd hml0 hP hK
  obtain ⟨rfl, hZ, hh⟩ := hP
  have X0 : Stand p l e rm s m args below meth c s₁ [] 0 0 := Stand.of_body Bd
  have e0 : s₁.heap = h := by rw [← hh, Bd.state]; rfl
  rw [hef m]
  refine body p e s m below meth c s₁ (fun S => ∃ s₂ o, Steps p.tables e below S s₂ ∧ s₂.status = .running ∧ Ended s₂ below o ∧ ∃ v L, o = .returned v ∧ (Q v s₂.heap ∧ Fr n0 L) ∧ FrameEnd s o s₂ L rm.cells rm.slots)
    ⟨fun S S' hs hg => ?_, Bd.exec, Bd.bytes, hml0, hZ, findClass_of_methodNamed Bd.named, Bd.returns, (name_of_methodNamed Bd.named Bd.method).1, ?_⟩ ⟨[], X0, Fr.nil n0, e0⟩
  · obtain ⟨s2, o, h1, h2⟩ := hg
    exact ⟨s2, o, hs _ h1, h2⟩
  · intro T h cells slots v ⟨locs, X, N, eT⟩ hc hl hv hQ S hS
    obtain ⟨fs, hr, hrun, hended, hW, hsame⟩ := X.leave (v := v) hv Bd.notSynchronized
    subst eT
    exact ⟨_, _, hS fs hr, hrun, hended, v, locs, rfl, ⟨hQ, N⟩, ⟨_, rfl⟩, hW, hsame.mono hc hl⟩
theorem Sd.mono {cells' slots' : Nat} (X : Sd p l e R s m args below meth c n0 T h cells slots) (hc : cells ≤ cells') (hl : slots ≤ slots') : Sd p l e R s m args below meth c n0 T h cells' slots' := by
  obtain ⟨locs, X, N, eT⟩ := X
  exact ⟨locs, { X with same := X.same.mono hc hl }, N, eT⟩

theorem aloadN (w : Wk p l e R s m args below meth c n0 Z own nm bc ml rt Q G) (X : Sd p l e R s m args below meth c n0 T h cells slots) {k : Fin 4} {v : Value} (hd : decode bc pc = .ok (.aload_n k, 1)) (pc' : Nat) (hp : pc + 1 = pc') (hl : ls[k.val]? = some (.val v)) (hv : v.isRef = true) (k : G (T.setTop (mkF m pc' ls (v :: st)))) : G (T.setTop (mkF m pc ls st)) := by
  obtain ⟨locs, Y, -, -⟩ := X
  subst hp
  exact w.1 _ _ (fun t q => XS.aloadN Y.here w.2.1 rfl (hb w.2.2.1 hd) hl hv q) k
theorem aload (w : Wk p l e R s m args below meth c n0 Z own nm bc ml rt Q G) (X : Sd p l e R s m args below meth c n0 T h cells slots) {k : Nat} {v : Value} (hd : decode bc pc = .ok (.aload k, 2)) (pc' : Nat) (hp : pc + 2 = pc') (hl : ls[k]? = some (.val v)) (hv : v.isRef = true) (k : G (T.setTop (mkF m pc' ls (v :: st)))) : G (T.setTop (mkF m pc ls st)) := by
  obtain ⟨locs, Y, -, -⟩ := X
  subst hp
  exact w.1 _ _ (fun t q => XS.aload Y.here w.2.1 rfl (hb w.2.2.1 hd) hl hv q) k
theorem iloadN (w : Wk p l e R s m args below meth c n0 Z own nm bc ml rt Q G) (X : Sd p l e R s m args below meth c n0 T h cells slots) {k : Fin 4} {v : Int32} (hd : decode bc pc = .ok (.iload_n k, 1)) (pc' : Nat) (hp : pc + 1 = pc') (hl : ls[k.val]? = some (.val (.int v))) (k : G (T.setTop (mkF m pc' ls (.int v :: st)))) : G (T.setTop (mkF m pc ls st)) := by
  obtain ⟨locs, Y, -, -⟩ := X
  subst hp
  exact w.1 _ _ (fun t q => XS.iloadN Y.here w.2.1 rfl (hb w.2.2.1 hd) hl q) k
theorem iload (w : Wk p l e R s m args below meth c n0 Z own nm bc ml rt Q G) (X : Sd p l e R s m args below meth c n0 T h cells slots) {k : Nat} {v : Int32} (hd : decode bc pc = .ok (.iload k, 2)) (pc' : Nat) (hp : pc + 2 = pc') (hl : ls[k]? = some (.val (.int v))) (k : G (T.setTop (mkF m pc' ls (.int v :: st)))) : G (T.setTop (mkF m pc ls st)) := by
  obtain ⟨locs, Y, -, -⟩ := X
  subst hp
  exact w.1 _ _ (fun t q => XS.iload Y.here w.2.1 rfl (hb w.2.2.1 hd) hl q) k
theorem lloadN (w : Wk p l e R s m args below meth c n0 Z own nm bc ml rt Q G) (X : Sd p l e R s m args below meth c n0 T h cells slots) {k : Fin 4} {v : Int64} (hd : decode bc pc = .ok (.lload_n k, 1)) (pc' : Nat) (hp : pc + 1 = pc') (hl : ls[k.val]? = some (.val (.long v))) (k : G (T.setTop (mkF m pc' ls (.long v :: st)))) : G (T.setTop (mkF m pc ls st)) := by
  obtain ⟨locs, Y, -, -⟩ := X
  subst hp
  exact w.1 _ _ (fun t q => XT.lloadN Y.here w.2.1 rfl (hb w.2.2.1 hd) hl q) k
theorem lload (w : Wk p l e R s m args below meth c n0 Z own nm bc ml rt Q G) (X : Sd p l e R s m args below meth c n0 T h cells slots) {k : Nat} {v : Int64} (hd : decode bc pc = .ok (.lload k, 2)) (pc' : Nat) (hp : pc + 2 = pc') (hl : ls[k]? = some (.val (.long v))) (k : G (T.setTop (mkF m pc' ls (.long v :: st)))) : G (T.setTop (mkF m pc ls st)) := by
  obtain ⟨locs, Y, -, -⟩ := X
  subst hp
  exact w.1 _ _ (fun t q => XT.lload Y.here w.2.1 rfl (hb w.2.2.1 hd) hl q) k
theorem istoreN (w : Wk p l e R s m args below meth c n0 Z own nm bc ml rt Q G) (X : Sd p l e R s m args below meth c n0 T h cells slots) {k : Fin 4} {x : Int32} (z : Int32) (hd : decode bc pc = .ok (.istore_n k, 1)) (pc' : Nat) (hp : pc + 1 = pc') (hz : z = x) (l' : Array Slot) (hl : storeLocals ls k.val (.int z) = some l') (k : G (T.setTop (mkF m pc' l' st))) : G (T.setTop (mkF m pc ls (.int x :: st))) := by
  obtain ⟨locs, Y, -, -⟩ := X
  subst hp
  subst hz
  exact w.1 _ _ (fun t q => XS.istoreN Y.here w.2.1 rfl (hb w.2.2.1 hd) rfl hl q) k
theorem istore (w : Wk p l e R s m args below meth c n0 Z own nm bc ml rt Q G) (X : Sd p l e R s m args below meth c n0 T h cells slots) {k : Nat} {x : Int32} (z : Int32) (hd : decode bc pc = .ok (.istore k, 2)) (pc' : Nat) (hp : pc + 2 = pc') (hz : z = x) (l' : Array Slot) (hl : storeLocals ls k (.int z) = some l') (k : G (T.setTop (mkF m pc' l' st))) : G (T.setTop (mkF m pc ls (.int x :: st))) := by
  obtain ⟨locs, Y, -, -⟩ := X
  subst hp
  subst hz
  exact w.1 _ _ (fun t q => XS.istore Y.here w.2.1 rfl (hb w.2.2.1 hd) rfl hl q) k
theorem lstoreN (w : Wk p l e R s m args below meth c n0 Z own nm bc ml rt Q G) (X : Sd p l e R s m args below meth c n0 T h cells slots) {k : Fin 4} {x : Int64} (z : Int64) (hd : decode bc pc = .ok (.lstore_n k, 1)) (pc' : Nat) (hp : pc + 1 = pc') (hz : z = x) (l' : Array Slot) (hl : storeLocals ls k.val (.long z) = some l') (k : G (T.setTop (mkF m pc' l' st))) : G (T.setTop (mkF m pc ls (.long x :: st))) := by
  obtain ⟨locs, Y, -, -⟩ := X
  subst hp
  subst hz
  exact w.1 _ _ (fun t q => XT.lstoreN Y.here w.2.1 rfl (hb w.2.2.1 hd) rfl hl q) k
theorem lstore (w : Wk p l e R s m args below meth c n0 Z own nm bc ml rt Q G) (X : Sd p l e R s m args below meth c n0 T h cells slots) {k : Nat} {x : Int64} (z : Int64) (hd : decode bc pc = .ok (.lstore k, 2)) (pc' : Nat) (hp : pc + 2 = pc') (hz : z = x) (l' : Array Slot) (hl : storeLocals ls k (.long z) = some l') (k : G (T.setTop (mkF m pc' l' st))) : G (T.setTop (mkF m pc ls (.long x :: st))) := by
  obtain ⟨locs, Y, -, -⟩ := X
  subst hp
  subst hz
  exact w.1 _ _ (fun t q => XT.lstore Y.here w.2.1 rfl (hb w.2.2.1 hd) rfl hl q) k
theorem astoreN (w : Wk p l e R s m args below meth c n0 Z own nm bc ml rt Q G) (X : Sd p l e R s m args below meth c n0 T h cells slots) {k : Fin 4} {x : Value} (hd : decode bc pc = .ok (.astore_n k, 1)) (pc' : Nat) (hp : pc + 1 = pc') (hv : x.isRef = true) (l' : Array Slot) (hl : storeLocals ls k.val x = some l') (k : G (T.setTop (mkF m pc' l' st))) : G (T.setTop (mkF m pc ls (x :: st))) := by
  obtain ⟨locs, Y, -, -⟩ := X
  subst hp
  exact w.1 _ _ (fun t q => XS.astoreN Y.here w.2.1 rfl (hb w.2.2.1 hd) rfl hv hl q) k
theorem astore (w : Wk p l e R s m args below meth c n0 Z own nm bc ml rt Q G) (X : Sd p l e R s m args below meth c n0 T h cells slots) {k : Nat} {x : Value} (hd : decode bc pc = .ok (.astore k, 2)) (pc' : Nat) (hp : pc + 2 = pc') (hv : x.isRef = true) (l' : Array Slot) (hl : storeLocals ls k x = some l') (k : G (T.setTop (mkF m pc' l' st))) : G (T.setTop (mkF m pc ls (x :: st))) := by
  obtain ⟨locs, Y, -, -⟩ := X
  subst hp
  exact w.1 _ _ (fun t q => XS.astore Y.here w.2.1 rfl (hb w.2.2.1 hd) rfl hv hl q) k
theorem iconst (w : Wk p l e R s m args below meth c n0 Z own nm bc ml rt Q G) (X : Sd p l e R s m args below meth c n0 T h cells slots) {i : Int} (v : Int32) (hd : decode bc pc = .ok (.iconst i, 1)) (pc' : Nat) (hp : pc + 1 = pc') (hv : Int32.ofInt i = v) (k : G (T.setTop (mkF m pc' ls (.int v :: st)))) : G (T.setTop (mkF m pc ls st)) := by
  obtain ⟨locs, Y, -, -⟩ := X
  subst hp
  subst hv
  exact w.1 _ _ (fun t q => XS.iconst Y.here w.2.1 rfl (hb w.2.2.1 hd) q) k
theorem bipush (w : Wk p l e R s m args below meth c n0 Z own nm bc ml rt Q G) (X : Sd p l e R s m args below meth c n0 T h cells slots) {i : Int} (v : Int32) (hd : decode bc pc = .ok (.bipush i, 2)) (pc' : Nat) (hp : pc + 2 = pc') (hv : (Int8.ofInt i).toInt32 = v) (k : G (T.setTop (mkF m pc' ls (.int v :: st)))) : G (T.setTop (mkF m pc ls st)) := by
  obtain ⟨locs, Y, -, -⟩ := X
  subst hp
  subst hv
  exact w.1 _ _ (fun t q => XS.bipush Y.here w.2.1 rfl (hb w.2.2.1 hd) q) k
theorem sipush (w : Wk p l e R s m args below meth c n0 Z own nm bc ml rt Q G) (X : Sd p l e R s m args below meth c n0 T h cells slots) {i : Int} (v : Int32) (hd : decode bc pc = .ok (.sipush i, 3)) (pc' : Nat) (hp : pc + 3 = pc') (hv : (Int16.ofInt i).toInt32 = v) (k : G (T.setTop (mkF m pc' ls (.int v :: st)))) : G (T.setTop (mkF m pc ls st)) := by
  obtain ⟨locs, Y, -, -⟩ := X
  subst hp
  subst hv
  exact w.1 _ _ (fun t q => XS.sipush Y.here w.2.1 rfl (hb w.2.2.1 hd) q) k
theorem lconst (w : Wk p l e R s m args below meth c n0 Z own nm bc ml rt Q G) (X : Sd p l e R s m args below meth c n0 T h cells slots) {i : Fin 2} (v : Int64) (hd : decode bc pc = .ok (.lconst i, 1)) (pc' : Nat) (hp : pc + 1 = pc') (hv : Int64.ofNat i = v) (k : G (T.setTop (mkF m pc' ls (.long v :: st)))) : G (T.setTop (mkF m pc ls st)) := by
  obtain ⟨locs, Y, -, -⟩ := X
  subst hp
  subst hv
  exact w.1 _ _ (fun t q => XS.lconst Y.here w.2.1 rfl (hb w.2.2.1 hd) q) k
theorem aconstNull (w : Wk p l e R s m args below meth c n0 Z own nm bc ml rt Q G) (X : Sd p l e R s m args below meth c n0 T h cells slots)  (hd : decode bc pc = .ok (.aconst_null, 1)) (pc' : Nat) (hp : pc + 1 = pc')  (k : G (T.setTop (mkF m pc' ls (.null :: st)))) : G (T.setTop (mkF m pc ls st)) := by
  obtain ⟨locs, Y, -, -⟩ := X
  subst hp
  exact w.1 _ _ (fun t q => XS.aconstNull Y.here w.2.1 rfl (hb w.2.2.1 hd) q) k
theorem iadd (w : Wk p l e R s m args below meth c n0 Z own nm bc ml rt Q G) (X : Sd p l e R s m args below meth c n0 T h cells slots) {x y : Int32} (z : Int32) (hd : decode bc pc = .ok (.iadd, 1)) (pc' : Nat) (hp : pc + 1 = pc') (hz : z = x + y) (k : G (T.setTop (mkF m pc' ls (.int z :: st)))) : G (T.setTop (mkF m pc ls (.int y :: .int x :: st))) := by
  obtain ⟨locs, Y, -, -⟩ := X
  subst hp
  subst hz
  exact w.1 _ _ (fun t q => XS.iadd Y.here w.2.1 rfl (hb w.2.2.1 hd) rfl q) k
theorem isub (w : Wk p l e R s m args below meth c n0 Z own nm bc ml rt Q G) (X : Sd p l e R s m args below meth c n0 T h cells slots) {x y : Int32} (z : Int32) (hd : decode bc pc = .ok (.isub, 1)) (pc' : Nat) (hp : pc + 1 = pc') (hz : z = x - y) (k : G (T.setTop (mkF m pc' ls (.int z :: st)))) : G (T.setTop (mkF m pc ls (.int y :: .int x :: st))) := by
  obtain ⟨locs, Y, -, -⟩ := X
  subst hp
  subst hz
  exact w.1 _ _ (fun t q => XS.isub Y.here w.2.1 rfl (hb w.2.2.1 hd) rfl q) k
theorem imul (w : Wk p l e R s m args below meth c n0 Z own nm bc ml rt Q G) (X : Sd p l e R s m args below meth c n0 T h cells slots) {x y : Int32} (z : Int32) (hd : decode bc pc = .ok (.imul, 1)) (pc' : Nat) (hp : pc + 1 = pc') (hz : z = x * y) (k : G (T.setTop (mkF m pc' ls (.int z :: st)))) : G (T.setTop (mkF m pc ls (.int y :: .int x :: st))) := by
  obtain ⟨locs, Y, -, -⟩ := X
  subst hp
  subst hz
  exact w.1 _ _ (fun t q => XS.imul Y.here w.2.1 rfl (hb w.2.2.1 hd) rfl q) k
theorem iand (w : Wk p l e R s m args below meth c n0 Z own nm bc ml rt Q G) (X : Sd p l e R s m args below meth c n0 T h cells slots) {x y : Int32} (z : Int32) (hd : decode bc pc = .ok (.iand, 1)) (pc' : Nat) (hp : pc + 1 = pc') (hz : z = x &&& y) (k : G (T.setTop (mkF m pc' ls (.int z :: st)))) : G (T.setTop (mkF m pc ls (.int y :: .int x :: st))) := by
  obtain ⟨locs, Y, -, -⟩ := X
  subst hp
  subst hz
  exact w.1 _ _ (fun t q => XS.iand Y.here w.2.1 rfl (hb w.2.2.1 hd) rfl q) k
theorem ior (w : Wk p l e R s m args below meth c n0 Z own nm bc ml rt Q G) (X : Sd p l e R s m args below meth c n0 T h cells slots) {x y : Int32} (z : Int32) (hd : decode bc pc = .ok (.ior, 1)) (pc' : Nat) (hp : pc + 1 = pc') (hz : z = x ||| y) (k : G (T.setTop (mkF m pc' ls (.int z :: st)))) : G (T.setTop (mkF m pc ls (.int y :: .int x :: st))) := by
  obtain ⟨locs, Y, -, -⟩ := X
  subst hp
  subst hz
  exact w.1 _ _ (fun t q => XS.ior Y.here w.2.1 rfl (hb w.2.2.1 hd) rfl q) k
theorem ixor (w : Wk p l e R s m args below meth c n0 Z own nm bc ml rt Q G) (X : Sd p l e R s m args below meth c n0 T h cells slots) {x y : Int32} (z : Int32) (hd : decode bc pc = .ok (.ixor, 1)) (pc' : Nat) (hp : pc + 1 = pc') (hz : z = x ^^^ y) (k : G (T.setTop (mkF m pc' ls (.int z :: st)))) : G (T.setTop (mkF m pc ls (.int y :: .int x :: st))) := by
  obtain ⟨locs, Y, -, -⟩ := X
  subst hp
  subst hz
  exact w.1 _ _ (fun t q => XS.ixor Y.here w.2.1 rfl (hb w.2.2.1 hd) rfl q) k
theorem ishl (w : Wk p l e R s m args below meth c n0 Z own nm bc ml rt Q G) (X : Sd p l e R s m args below meth c n0 T h cells slots) {x y : Int32} (z : Int32) (hd : decode bc pc = .ok (.ishl, 1)) (pc' : Nat) (hp : pc + 1 = pc') (hz : z = x <<< (y &&& 31)) (k : G (T.setTop (mkF m pc' ls (.int z :: st)))) : G (T.setTop (mkF m pc ls (.int y :: .int x :: st))) := by
  obtain ⟨locs, Y, -, -⟩ := X
  subst hp
  subst hz
  exact w.1 _ _ (fun t q => XS.ishl Y.here w.2.1 rfl (hb w.2.2.1 hd) rfl q) k
theorem ishr (w : Wk p l e R s m args below meth c n0 Z own nm bc ml rt Q G) (X : Sd p l e R s m args below meth c n0 T h cells slots) {x y : Int32} (z : Int32) (hd : decode bc pc = .ok (.ishr, 1)) (pc' : Nat) (hp : pc + 1 = pc') (hz : z = x >>> (y &&& 31)) (k : G (T.setTop (mkF m pc' ls (.int z :: st)))) : G (T.setTop (mkF m pc ls (.int y :: .int x :: st))) := by
  obtain ⟨locs, Y, -, -⟩ := X
  subst hp
  subst hz
  exact w.1 _ _ (fun t q => XS.ishr Y.here w.2.1 rfl (hb w.2.2.1 hd) rfl q) k
theorem iushr (w : Wk p l e R s m args below meth c n0 Z own nm bc ml rt Q G) (X : Sd p l e R s m args below meth c n0 T h cells slots) {x y : Int32} (z : Int32) (hd : decode bc pc = .ok (.iushr, 1)) (pc' : Nat) (hp : pc + 1 = pc') (hz : z = (x.toUInt32 >>> (y &&& 31).toUInt32).toInt32) (k : G (T.setTop (mkF m pc' ls (.int z :: st)))) : G (T.setTop (mkF m pc ls (.int y :: .int x :: st))) := by
  obtain ⟨locs, Y, -, -⟩ := X
  subst hp
  subst hz
  exact w.1 _ _ (fun t q => XS.iushr Y.here w.2.1 rfl (hb w.2.2.1 hd) rfl q) k
theorem irem (w : Wk p l e R s m args below meth c n0 Z own nm bc ml rt Q G) (X : Sd p l e R s m args below meth c n0 T h cells slots) {x y : Int32} (z : Int32) (hd : decode bc pc = .ok (.irem, 1)) (pc' : Nat) (hp : pc + 1 = pc') (hz : z = x % y) (hy : y ≠ 0) (k : G (T.setTop (mkF m pc' ls (.int z :: st)))) : G (T.setTop (mkF m pc ls (.int y :: .int x :: st))) := by
  obtain ⟨locs, Y, -, -⟩ := X
  subst hp
  subst hz
  exact w.1 _ _ (fun t q => Jvm.RoadKit.iremM Y w.2.1 rfl (hb w.2.2.1 hd) rfl hy q) k
theorem idiv (w : Wk p l e R s m args below meth c n0 Z own nm bc ml rt Q G) (X : Sd p l e R s m args below meth c n0 T h cells slots) {x y : Int32} (z : Int32) (hd : decode bc pc = .ok (.idiv, 1)) (pc' : Nat) (hp : pc + 1 = pc') (hz : z = x / y) (hy : y ≠ 0) (k : G (T.setTop (mkF m pc' ls (.int z :: st)))) : G (T.setTop (mkF m pc ls (.int y :: .int x :: st))) := by
  obtain ⟨locs, Y, -, -⟩ := X
  subst hp
  subst hz
  exact w.1 _ _ (fun t q => XS.idiv Y.here w.2.1 rfl (hb w.2.2.1 hd) rfl hy q) k
theorem ineg (w : Wk p l e R s m args below meth c n0 Z own nm bc ml rt Q G) (X : Sd p l e R s m args below meth c n0 T h cells slots) {x : Int32} (z : Int32) (hd : decode bc pc = .ok (.ineg, 1)) (pc' : Nat) (hp : pc + 1 = pc') (hz : z = -x) (k : G (T.setTop (mkF m pc' ls (.int z :: st)))) : G (T.setTop (mkF m pc ls (.int x :: st))) := by
  obtain ⟨locs, Y, -, -⟩ := X
  subst hp
  subst hz
  exact w.1 _ _ (fun t q => XS.ineg Y.here w.2.1 rfl (hb w.2.2.1 hd) rfl q) k
theorem ladd (w : Wk p l e R s m args below meth c n0 Z own nm bc ml rt Q G) (X : Sd p l e R s m args below meth c n0 T h cells slots) {x y : Int64} (z : Int64) (hd : decode bc pc = .ok (.ladd, 1)) (pc' : Nat) (hp : pc + 1 = pc') (hz : z = x + y) (k : G (T.setTop (mkF m pc' ls (.long z :: st)))) : G (T.setTop (mkF m pc ls (.long y :: .long x :: st))) := by
  obtain ⟨locs, Y, -, -⟩ := X
  subst hp
  subst hz
  exact w.1 _ _ (fun t q => XS.ladd Y.here w.2.1 rfl (hb w.2.2.1 hd) rfl q) k
theorem lsub (w : Wk p l e R s m args below meth c n0 Z own nm bc ml rt Q G) (X : Sd p l e R s m args below meth c n0 T h cells slots) {x y : Int64} (z : Int64) (hd : decode bc pc = .ok (.lsub, 1)) (pc' : Nat) (hp : pc + 1 = pc') (hz : z = x - y) (k : G (T.setTop (mkF m pc' ls (.long z :: st)))) : G (T.setTop (mkF m pc ls (.long y :: .long x :: st))) := by
  obtain ⟨locs, Y, -, -⟩ := X
  subst hp
  subst hz
  exact w.1 _ _ (fun t q => XS.lsub Y.here w.2.1 rfl (hb w.2.2.1 hd) rfl q) k
theorem lmul (w : Wk p l e R s m args below meth c n0 Z own nm bc ml rt Q G) (X : Sd p l e R s m args below meth c n0 T h cells slots) {x y : Int64} (z : Int64) (hd : decode bc pc = .ok (.lmul, 1)) (pc' : Nat) (hp : pc + 1 = pc') (hz : z = x * y) (k : G (T.setTop (mkF m pc' ls (.long z :: st)))) : G (T.setTop (mkF m pc ls (.long y :: .long x :: st))) := by
  obtain ⟨locs, Y, -, -⟩ := X
  subst hp
  subst hz
  exact w.1 _ _ (fun t q => XS.lmul Y.here w.2.1 rfl (hb w.2.2.1 hd) rfl q) k
theorem land (w : Wk p l e R s m args below meth c n0 Z own nm bc ml rt Q G) (X : Sd p l e R s m args below meth c n0 T h cells slots) {x y : Int64} (z : Int64) (hd : decode bc pc = .ok (.land, 1)) (pc' : Nat) (hp : pc + 1 = pc') (hz : z = x &&& y) (k : G (T.setTop (mkF m pc' ls (.long z :: st)))) : G (T.setTop (mkF m pc ls (.long y :: .long x :: st))) := by
  obtain ⟨locs, Y, -, -⟩ := X
  subst hp
  subst hz
  exact w.1 _ _ (fun t q => XS.land Y.here w.2.1 rfl (hb w.2.2.1 hd) rfl q) k
theorem lor (w : Wk p l e R s m args below meth c n0 Z own nm bc ml rt Q G) (X : Sd p l e R s m args below meth c n0 T h cells slots) {x y : Int64} (z : Int64) (hd : decode bc pc = .ok (.lor, 1)) (pc' : Nat) (hp : pc + 1 = pc') (hz : z = x ||| y) (k : G (T.setTop (mkF m pc' ls (.long z :: st)))) : G (T.setTop (mkF m pc ls (.long y :: .long x :: st))) := by
  obtain ⟨locs, Y, -, -⟩ := X
  subst hp
  subst hz
  exact w.1 _ _ (fun t q => XS.lor Y.here w.2.1 rfl (hb w.2.2.1 hd) rfl q) k
theorem lxor (w : Wk p l e R s m args below meth c n0 Z own nm bc ml rt Q G) (X : Sd p l e R s m args below meth c n0 T h cells slots) {x y : Int64} (z : Int64) (hd : decode bc pc = .ok (.lxor, 1)) (pc' : Nat) (hp : pc + 1 = pc') (hz : z = x ^^^ y) (k : G (T.setTop (mkF m pc' ls (.long z :: st)))) : G (T.setTop (mkF m pc ls (.long y :: .long x :: st))) := by
  obtain ⟨locs, Y, -, -⟩ := X
  subst hp
  subst hz
  exact w.1 _ _ (fun t q => XS.lxor Y.here w.2.1 rfl (hb w.2.2.1 hd) rfl q) k
theorem lshl (w : Wk p l e R s m args below meth c n0 Z own nm bc ml rt Q G) (X : Sd p l e R s m args below meth c n0 T h cells slots) {x : Int64} {y : Int32} (z : Int64) (hd : decode bc pc = .ok (.lshl, 1)) (pc' : Nat) (hp : pc + 1 = pc') (hz : z = x <<< (y &&& 0x3f).toInt64) (k : G (T.setTop (mkF m pc' ls (.long z :: st)))) : G (T.setTop (mkF m pc ls (.int y :: .long x :: st))) := by
  obtain ⟨locs, Y, -, -⟩ := X
  subst hp
  subst hz
  exact w.1 _ _ (fun t q => XS.lshl Y.here w.2.1 rfl (hb w.2.2.1 hd) rfl q) k
theorem lshr (w : Wk p l e R s m args below meth c n0 Z own nm bc ml rt Q G) (X : Sd p l e R s m args below meth c n0 T h cells slots) {x : Int64} {y : Int32} (z : Int64) (hd : decode bc pc = .ok (.lshr, 1)) (pc' : Nat) (hp : pc + 1 = pc') (hz : z = x >>> (y &&& 0x3f).toInt64) (k : G (T.setTop (mkF m pc' ls (.long z :: st)))) : G (T.setTop (mkF m pc ls (.int y :: .long x :: st))) := by
  obtain ⟨locs, Y, -, -⟩ := X
  subst hp
  subst hz
  exact w.1 _ _ (fun t q => XS.lshr Y.here w.2.1 rfl (hb w.2.2.1 hd) rfl q) k
theorem lushr (w : Wk p l e R s m args below meth c n0 Z own nm bc ml rt Q G) (X : Sd p l e R s m args below meth c n0 T h cells slots) {x : Int64} {y : Int32} (z : Int64) (hd : decode bc pc = .ok (.lushr, 1)) (pc' : Nat) (hp : pc + 1 = pc') (hz : z = (x.toUInt64 >>> (y &&& 0x3f).toInt64.toUInt64).toInt64) (k : G (T.setTop (mkF m pc' ls (.long z :: st)))) : G (T.setTop (mkF m pc ls (.int y :: .long x :: st))) := by
  obtain ⟨locs, Y, -, -⟩ := X
  subst hp
  subst hz
  exact w.1 _ _ (fun t q => XS.lushr Y.here w.2.1 rfl (hb w.2.2.1 hd) rfl q) k
theorem i2b (w : Wk p l e R s m args below meth c n0 Z own nm bc ml rt Q G) (X : Sd p l e R s m args below meth c n0 T h cells slots) {x : Int32} (z : Int32) (hd : decode bc pc = .ok (.i2b, 1)) (pc' : Nat) (hp : pc + 1 = pc') (hz : z = x.toInt8.toInt32) (k : G (T.setTop (mkF m pc' ls (.int z :: st)))) : G (T.setTop (mkF m pc ls (.int x :: st))) := by
  obtain ⟨locs, Y, -, -⟩ := X
  subst hp
  subst hz
  exact w.1 _ _ (fun t q => XS.i2b Y.here w.2.1 rfl (hb w.2.2.1 hd) rfl q) k
theorem i2c (w : Wk p l e R s m args below meth c n0 Z own nm bc ml rt Q G) (X : Sd p l e R s m args below meth c n0 T h cells slots) {x : Int32} (z : Int32) (hd : decode bc pc = .ok (.i2c, 1)) (pc' : Nat) (hp : pc + 1 = pc') (hz : z = x.toUInt32.toUInt16.toUInt32.toInt32) (k : G (T.setTop (mkF m pc' ls (.int z :: st)))) : G (T.setTop (mkF m pc ls (.int x :: st))) := by
  obtain ⟨locs, Y, -, -⟩ := X
  subst hp
  subst hz
  exact w.1 _ _ (fun t q => XS.i2c Y.here w.2.1 rfl (hb w.2.2.1 hd) rfl q) k
theorem i2s (w : Wk p l e R s m args below meth c n0 Z own nm bc ml rt Q G) (X : Sd p l e R s m args below meth c n0 T h cells slots) {x : Int32} (z : Int32) (hd : decode bc pc = .ok (.i2s, 1)) (pc' : Nat) (hp : pc + 1 = pc') (hz : z = x.toInt16.toInt32) (k : G (T.setTop (mkF m pc' ls (.int z :: st)))) : G (T.setTop (mkF m pc ls (.int x :: st))) := by
  obtain ⟨locs, Y, -, -⟩ := X
  subst hp
  subst hz
  exact w.1 _ _ (fun t q => XS.i2s Y.here w.2.1 rfl (hb w.2.2.1 hd) rfl q) k
theorem l2i (w : Wk p l e R s m args below meth c n0 Z own nm bc ml rt Q G) (X : Sd p l e R s m args below meth c n0 T h cells slots) {x : Int64} (z : Int32) (hd : decode bc pc = .ok (.l2i, 1)) (pc' : Nat) (hp : pc + 1 = pc') (hz : z = x.toInt32) (k : G (T.setTop (mkF m pc' ls (.int z :: st)))) : G (T.setTop (mkF m pc ls (.long x :: st))) := by
  obtain ⟨locs, Y, -, -⟩ := X
  subst hp
  subst hz
  exact w.1 _ _ (fun t q => XS.l2i Y.here w.2.1 rfl (hb w.2.2.1 hd) rfl q) k
theorem i2l (w : Wk p l e R s m args below meth c n0 Z own nm bc ml rt Q G) (X : Sd p l e R s m args below meth c n0 T h cells slots) {x : Int32} (z : Int64) (hd : decode bc pc = .ok (.i2l, 1)) (pc' : Nat) (hp : pc + 1 = pc') (hz : z = x.toInt64) (k : G (T.setTop (mkF m pc' ls (.long z :: st)))) : G (T.setTop (mkF m pc ls (.int x :: st))) := by
  obtain ⟨locs, Y, -, -⟩ := X
  subst hp
  subst hz
  exact w.1 _ _ (fun t q => XS.i2l Y.here w.2.1 rfl (hb w.2.2.1 hd) rfl q) k
theorem lcmp (w : Wk p l e R s m args below meth c n0 Z own nm bc ml rt Q G) (X : Sd p l e R s m args below meth c n0 T h cells slots) {x y : Int64} (z : Int32) (hd : decode bc pc = .ok (.lcmp, 1)) (pc' : Nat) (hp : pc + 1 = pc') (hz : z = lcmpW x y) (k : G (T.setTop (mkF m pc' ls (.int z :: st)))) : G (T.setTop (mkF m pc ls (.long y :: .long x :: st))) := by
  obtain ⟨locs, Y, -, -⟩ := X
  subst hp
  subst hz
  exact w.1 _ _ (fun t q => XS.lcmp Y.here w.2.1 rfl (hb w.2.2.1 hd) rfl q) k
theorem dup (w : Wk p l e R s m args below meth c n0 Z own nm bc ml rt Q G) (X : Sd p l e R s m args below meth c n0 T h cells slots) {x : Value} (hd : decode bc pc = .ok (.dup, 1)) (pc' : Nat) (hp : pc + 1 = pc') (hx : x.category = 1) (k : G (T.setTop (mkF m pc' ls (x :: x :: st)))) : G (T.setTop (mkF m pc ls (x :: st))) := by
  obtain ⟨locs, Y, -, -⟩ := X
  subst hp
  exact w.1 _ _ (fun t q => XS.dup Y.here w.2.1 rfl (hb w.2.2.1 hd) rfl hx q) k
theorem dupX1 (w : Wk p l e R s m args below meth c n0 Z own nm bc ml rt Q G) (X : Sd p l e R s m args below meth c n0 T h cells slots) {x y : Value} (hd : decode bc pc = .ok (.dup_x1, 1)) (pc' : Nat) (hp : pc + 1 = pc') (hx : x.category = 1) (hy : y.category = 1) (k : G (T.setTop (mkF m pc' ls (x :: y :: x :: st)))) : G (T.setTop (mkF m pc ls (x :: y :: st))) := by
  obtain ⟨locs, Y, -, -⟩ := X
  subst hp
  exact w.1 _ _ (fun t q => XS.dupX1 Y.here w.2.1 rfl (hb w.2.2.1 hd) rfl hx hy q) k
theorem dup2 (w : Wk p l e R s m args below meth c n0 Z own nm bc ml rt Q G) (X : Sd p l e R s m args below meth c n0 T h cells slots) {x y : Value} (hd : decode bc pc = .ok (.dup2, 1)) (pc' : Nat) (hp : pc + 1 = pc') (hx : x.category = 1) (hy : y.category = 1) (k : G (T.setTop (mkF m pc' ls (x :: y :: x :: y :: st)))) : G (T.setTop (mkF m pc ls (x :: y :: st))) := by
  obtain ⟨locs, Y, -, -⟩ := X
  subst hp
  exact w.1 _ _ (fun t q => XT.dup2 Y.here w.2.1 rfl (hb w.2.2.1 hd) rfl hx hy q) k
theorem popV (w : Wk p l e R s m args below meth c n0 Z own nm bc ml rt Q G) (X : Sd p l e R s m args below meth c n0 T h cells slots) {x : Value} (hd : decode bc pc = .ok (.pop, 1)) (pc' : Nat) (hp : pc + 1 = pc') (hx : x.category = 1) (k : G (T.setTop (mkF m pc' ls st))) : G (T.setTop (mkF m pc ls (x :: st))) := by
  obtain ⟨locs, Y, -, -⟩ := X
  subst hp
  exact w.1 _ _ (fun t q => XS.pop Y.here w.2.1 rfl (hb w.2.2.1 hd) rfl hx q) k
theorem iinc (w : Wk p l e R s m args below meth c n0 Z own nm bc ml rt Q G) (X : Sd p l e R s m args below meth c n0 T h cells slots) {k : Nat} {i : Int} {x : Int32} (z : Int32) (hd : decode bc pc = .ok (.iinc k i, 3)) (pc' : Nat) (hp : pc + 3 = pc') (hl : ls[k]? = some (.val (.int x))) (hz : z = x + Int32.ofInt i) (l' : Array Slot) (hl' : storeLocals ls k (.int z) = some l') (k : G (T.setTop (mkF m pc' l' st))) : G (T.setTop (mkF m pc ls st)) := by
  obtain ⟨locs, Y, -, -⟩ := X
  subst hp
  subst hz
  exact w.1 _ _ (fun t q => XS.iinc Y.here w.2.1 rfl (hb w.2.2.1 hd) hl hl' q) k
theorem goto (w : Wk p l e R s m args below meth c n0 Z own nm bc ml rt Q G) (X : Sd p l e R s m args below meth c n0 T h cells slots) {o : Int} (hd : decode bc pc = .ok (.goto o, 3)) (pc' : Nat) (ho : 0 ≤ (pc : Int) + o) (hp : ((pc : Int) + o).toNat = pc') (k : G (T.setTop (mkF m pc' ls st))) : G (T.setTop (mkF m pc ls st)) := by
  obtain ⟨locs, Y, -, -⟩ := X
  exact w.1 _ _ (fun t q => XS.goto Y.here w.2.1 rfl (pc0 := pc) (pc' := pc') rfl (hb w.2.2.1 hd) ho hp q) k
theorem ldcI (w : Wk p l e R s m args below meth c n0 Z own nm bc ml rt Q G) (X : Sd p l e R s m args below meth c n0 T h cells slots) {i : Nat} {v : Int32} (wc : (Cond.constant own i v).before a0 Z = true) (hd : decode bc pc = .ok (.ldc i, 2)) (pc' : Nat) (hp : pc + 2 = pc') (k : G (T.setTop (mkF m pc' ls (.int v :: st)))) : G (T.setTop (mkF m pc ls st)) := by
  obtain ⟨locs, Y, -, -⟩ := X
  subst hp
  exact w.1 _ _ (Y.ldcInt w.2.1 w.2.2.2.2.2.1 (mvT w.2.2.2.2.1 wc) (g := mkF m pc ls st) rfl (hb w.2.2.1 hd)) k
theorem ldcwI (w : Wk p l e R s m args below meth c n0 Z own nm bc ml rt Q G) (X : Sd p l e R s m args below meth c n0 T h cells slots) {i : Nat} {v : Int32} (wc : (Cond.constant own i v).before a0 Z = true) (hd : decode bc pc = .ok (.ldc_w i, 3)) (pc' : Nat) (hp : pc + 3 = pc') (k : G (T.setTop (mkF m pc' ls (.int v :: st)))) : G (T.setTop (mkF m pc ls st)) := by
  obtain ⟨locs, Y, -, -⟩ := X
  subst hp
  exact w.1 _ _ (Y.ldcwInt w.2.1 w.2.2.2.2.2.1 (mvT w.2.2.2.2.1 wc) (g := mkF m pc ls st) rfl (hb w.2.2.1 hd)) k
theorem ldc2J (w : Wk p l e R s m args below meth c n0 Z own nm bc ml rt Q G) (X : Sd p l e R s m args below meth c n0 T h cells slots) {i : Nat} {v : Int64} (wc : (Cond.constantLong own i v).before a0 Z = true) (hd : decode bc pc = .ok (.ldc2_w i, 3)) (pc' : Nat) (hp : pc + 3 = pc') (k : G (T.setTop (mkF m pc' ls (.long v :: st)))) : G (T.setTop (mkF m pc ls st)) := by
  obtain ⟨locs, Y, -, -⟩ := X
  subst hp
  exact w.1 _ _ (Y.ldc2Long w.2.1 w.2.2.2.2.2.1 (mvT w.2.2.2.2.1 wc) (g := mkF m pc ls st) rfl (hb w.2.2.1 hd)) k
theorem icmp_lt (w : Wk p l e R s m args below meth c n0 Z own nm bc ml rt Q G) (X : Sd p l e R s m args below meth c n0 T h cells slots) {x y : Int32} {o : Int} (hd : decode bc pc = .ok (.if_icmp .lt o, 3)) (pT pF : Nat) (ho : 0 ≤ (pc : Int) + o) (hp : ((pc : Int) + o).toNat = pT) (hq : pc + 3 = pF) (k1 : x < y → G (T.setTop (mkF m pT ls st))) (k2 : ¬ x < y → G (T.setTop (mkF m pF ls st))) : G (T.setTop (mkF m pc ls (.int y :: .int x :: st))) := by
  obtain ⟨locs, Y, -, -⟩ := X
  subst hq
  by_cases q : x < y
  · exact w.1 _ _ (fun t z => XS.icmpYes Y.here w.2.1 rfl (pc0 := pc) (pc' := pT) rfl (hb w.2.2.1 hd) rfl (tlt q).1 ho hp z) (k1 q)
  · exact w.1 _ _ (fun t z => XS.icmpNo Y.here w.2.1 rfl (hb w.2.2.1 hd) rfl (flt q).1 z) (k2 q)
theorem if_lt (w : Wk p l e R s m args below meth c n0 Z own nm bc ml rt Q G) (X : Sd p l e R s m args below meth c n0 T h cells slots) {x : Int32} {o : Int} (hd : decode bc pc = .ok (.ifCond .lt o, 3)) (pT pF : Nat) (ho : 0 ≤ (pc : Int) + o) (hp : ((pc : Int) + o).toNat = pT) (hq : pc + 3 = pF) (k1 : x < 0 → G (T.setTop (mkF m pT ls st))) (k2 : ¬ x < 0 → G (T.setTop (mkF m pF ls st))) : G (T.setTop (mkF m pc ls (.int x :: st))) := by
  obtain ⟨locs, Y, -, -⟩ := X
  subst hq
  by_cases q : x < 0
  · exact w.1 _ _ (fun t z => XS.ifYes Y.here w.2.1 rfl (pc0 := pc) (pc' := pT) rfl (hb w.2.2.1 hd) rfl ((if0 _ _).trans (tlt q).1) ho hp z) (k1 q)
  · exact w.1 _ _ (fun t z => XS.ifNo Y.here w.2.1 rfl (hb w.2.2.1 hd) rfl ((if0 _ _).trans (flt q).1) z) (k2 q)
theorem icmp_ge (w : Wk p l e R s m args below meth c n0 Z own nm bc ml rt Q G) (X : Sd p l e R s m args below meth c n0 T h cells slots) {x y : Int32} {o : Int} (hd : decode bc pc = .ok (.if_icmp .ge o, 3)) (pT pF : Nat) (ho : 0 ≤ (pc : Int) + o) (hp : ((pc : Int) + o).toNat = pT) (hq : pc + 3 = pF) (k1 : ¬ x < y → G (T.setTop (mkF m pT ls st))) (k2 : x < y → G (T.setTop (mkF m pF ls st))) : G (T.setTop (mkF m pc ls (.int y :: .int x :: st))) := by
  obtain ⟨locs, Y, -, -⟩ := X
  subst hq
  by_cases q : x < y
  · exact w.1 _ _ (fun t z => XS.icmpNo Y.here w.2.1 rfl (hb w.2.2.1 hd) rfl (tlt q).2.1 z) (k2 q)
  · exact w.1 _ _ (fun t z => XS.icmpYes Y.here w.2.1 rfl (pc0 := pc) (pc' := pT) rfl (hb w.2.2.1 hd) rfl (flt q).2.1 ho hp z) (k1 q)
theorem if_ge (w : Wk p l e R s m args below meth c n0 Z own nm bc ml rt Q G) (X : Sd p l e R s m args below meth c n0 T h cells slots) {x : Int32} {o : Int} (hd : decode bc pc = .ok (.ifCond .ge o, 3)) (pT pF : Nat) (ho : 0 ≤ (pc : Int) + o) (hp : ((pc : Int) + o).toNat = pT) (hq : pc + 3 = pF) (k1 : ¬ x < 0 → G (T.setTop (mkF m pT ls st))) (k2 : x < 0 → G (T.setTop (mkF m pF ls st))) : G (T.setTop (mkF m pc ls (.int x :: st))) := by
  obtain ⟨locs, Y, -, -⟩ := X
  subst hq
  by_cases q : x < 0
  · exact w.1 _ _ (fun t z => XS.ifNo Y.here w.2.1 rfl (hb w.2.2.1 hd) rfl ((if0 _ _).trans (tlt q).2.1) z) (k2 q)
  · exact w.1 _ _ (fun t z => XS.ifYes Y.here w.2.1 rfl (pc0 := pc) (pc' := pT) rfl (hb w.2.2.1 hd) rfl ((if0 _ _).trans (flt q).2.1) ho hp z) (k1 q)
theorem icmp_gt (w : Wk p l e R s m args below meth c n0 Z own nm bc ml rt Q G) (X : Sd p l e R s m args below meth c n0 T h cells slots) {x y : Int32} {o : Int} (hd : decode bc pc = .ok (.if_icmp .gt o, 3)) (pT pF : Nat) (ho : 0 ≤ (pc : Int) + o) (hp : ((pc : Int) + o).toNat = pT) (hq : pc + 3 = pF) (k1 : y < x → G (T.setTop (mkF m pT ls st))) (k2 : ¬ y < x → G (T.setTop (mkF m pF ls st))) : G (T.setTop (mkF m pc ls (.int y :: .int x :: st))) := by
  obtain ⟨locs, Y, -, -⟩ := X
  subst hq
  by_cases q : y < x
  · exact w.1 _ _ (fun t z => XS.icmpYes Y.here w.2.1 rfl (pc0 := pc) (pc' := pT) rfl (hb w.2.2.1 hd) rfl (tlt q).2.2.1 ho hp z) (k1 q)
  · exact w.1 _ _ (fun t z => XS.icmpNo Y.here w.2.1 rfl (hb w.2.2.1 hd) rfl (flt q).2.2.1 z) (k2 q)
theorem if_gt (w : Wk p l e R s m args below meth c n0 Z own nm bc ml rt Q G) (X : Sd p l e R s m args below meth c n0 T h cells slots) {x : Int32} {o : Int} (hd : decode bc pc = .ok (.ifCond .gt o, 3)) (pT pF : Nat) (ho : 0 ≤ (pc : Int) + o) (hp : ((pc : Int) + o).toNat = pT) (hq : pc + 3 = pF) (k1 : 0 < x → G (T.setTop (mkF m pT ls st))) (k2 : ¬ 0 < x → G (T.setTop (mkF m pF ls st))) : G (T.setTop (mkF m pc ls (.int x :: st))) := by
  obtain ⟨locs, Y, -, -⟩ := X
  subst hq
  by_cases q : 0 < x
  · exact w.1 _ _ (fun t z => XS.ifYes Y.here w.2.1 rfl (pc0 := pc) (pc' := pT) rfl (hb w.2.2.1 hd) rfl ((if0 _ _).trans (tlt q).2.2.1) ho hp z) (k1 q)
  · exact w.1 _ _ (fun t z => XS.ifNo Y.here w.2.1 rfl (hb w.2.2.1 hd) rfl ((if0 _ _).trans (flt q).2.2.1) z) (k2 q)
theorem icmp_le (w : Wk p l e R s m args below meth c n0 Z own nm bc ml rt Q G) (X : Sd p l e R s m args below meth c n0 T h cells slots) {x y : Int32} {o : Int} (hd : decode bc pc = .ok (.if_icmp .le o, 3)) (pT pF : Nat) (ho : 0 ≤ (pc : Int) + o) (hp : ((pc : Int) + o).toNat = pT) (hq : pc + 3 = pF) (k1 : ¬ y < x → G (T.setTop (mkF m pT ls st))) (k2 : y < x → G (T.setTop (mkF m pF ls st))) : G (T.setTop (mkF m pc ls (.int y :: .int x :: st))) := by
  obtain ⟨locs, Y, -, -⟩ := X
  subst hq
  by_cases q : y < x
  · exact w.1 _ _ (fun t z => XS.icmpNo Y.here w.2.1 rfl (hb w.2.2.1 hd) rfl (tlt q).2.2.2 z) (k2 q)
  · exact w.1 _ _ (fun t z => XS.icmpYes Y.here w.2.1 rfl (pc0 := pc) (pc' := pT) rfl (hb w.2.2.1 hd) rfl (flt q).2.2.2 ho hp z) (k1 q)
theorem if_le (w : Wk p l e R s m args below meth c n0 Z own nm bc ml rt Q G) (X : Sd p l e R s m args below meth c n0 T h cells slots) {x : Int32} {o : Int} (hd : decode bc pc = .ok (.ifCond .le o, 3)) (pT pF : Nat) (ho : 0 ≤ (pc : Int) + o) (hp : ((pc : Int) + o).toNat = pT) (hq : pc + 3 = pF) (k1 : ¬ 0 < x → G (T.setTop (mkF m pT ls st))) (k2 : 0 < x → G (T.setTop (mkF m pF ls st))) : G (T.setTop (mkF m pc ls (.int x :: st))) := by
  obtain ⟨locs, Y, -, -⟩ := X
  subst hq
  by_cases q : 0 < x
  · exact w.1 _ _ (fun t z => XS.ifNo Y.here w.2.1 rfl (hb w.2.2.1 hd) rfl ((if0 _ _).trans (tlt q).2.2.2) z) (k2 q)
  · exact w.1 _ _ (fun t z => XS.ifYes Y.here w.2.1 rfl (pc0 := pc) (pc' := pT) rfl (hb w.2.2.1 hd) rfl ((if0 _ _).trans (flt q).2.2.2) ho hp z) (k1 q)
theorem icmp_eq (w : Wk p l e R s m args below meth c n0 Z own nm bc ml rt Q G) (X : Sd p l e R s m args below meth c n0 T h cells slots) {x y : Int32} {o : Int} (hd : decode bc pc = .ok (.if_icmp .eq o, 3)) (pT pF : Nat) (ho : 0 ≤ (pc : Int) + o) (hp : ((pc : Int) + o).toNat = pT) (hq : pc + 3 = pF) (k1 : x = y → G (T.setTop (mkF m pT ls st))) (k2 : ¬ x = y → G (T.setTop (mkF m pF ls st))) : G (T.setTop (mkF m pc ls (.int y :: .int x :: st))) := by
  obtain ⟨locs, Y, -, -⟩ := X
  subst hq
  by_cases q : x = y
  · exact w.1 _ _ (fun t z => XS.icmpYes Y.here w.2.1 rfl (pc0 := pc) (pc' := pT) rfl (hb w.2.2.1 hd) rfl (teq q).1 ho hp z) (k1 q)
  · exact w.1 _ _ (fun t z => XS.icmpNo Y.here w.2.1 rfl (hb w.2.2.1 hd) rfl (feq q).1 z) (k2 q)
theorem if_eq (w : Wk p l e R s m args below meth c n0 Z own nm bc ml rt Q G) (X : Sd p l e R s m args below meth c n0 T h cells slots) {x : Int32} {o : Int} (hd : decode bc pc = .ok (.ifCond .eq o, 3)) (pT pF : Nat) (ho : 0 ≤ (pc : Int) + o) (hp : ((pc : Int) + o).toNat = pT) (hq : pc + 3 = pF) (k1 : x = 0 → G (T.setTop (mkF m pT ls st))) (k2 : ¬ x = 0 → G (T.setTop (mkF m pF ls st))) : G (T.setTop (mkF m pc ls (.int x :: st))) := by
  obtain ⟨locs, Y, -, -⟩ := X
  subst hq
  by_cases q : x = 0
  · exact w.1 _ _ (fun t z => XS.ifYes Y.here w.2.1 rfl (pc0 := pc) (pc' := pT) rfl (hb w.2.2.1 hd) rfl ((if0 _ _).trans (teq q).1) ho hp z) (k1 q)
  · exact w.1 _ _ (fun t z => XS.ifNo Y.here w.2.1 rfl (hb w.2.2.1 hd) rfl ((if0 _ _).trans (feq q).1) z) (k2 q)
theorem icmp_ne (w : Wk p l e R s m args below meth c n0 Z own nm bc ml rt Q G) (X : Sd p l e R s m args below meth c n0 T h cells slots) {x y : Int32} {o : Int} (hd : decode bc pc = .ok (.if_icmp .ne o, 3)) (pT pF : Nat) (ho : 0 ≤ (pc : Int) + o) (hp : ((pc : Int) + o).toNat = pT) (hq : pc + 3 = pF) (k1 : ¬ x = y → G (T.setTop (mkF m pT ls st))) (k2 : x = y → G (T.setTop (mkF m pF ls st))) : G (T.setTop (mkF m pc ls (.int y :: .int x :: st))) := by
  obtain ⟨locs, Y, -, -⟩ := X
  subst hq
  by_cases q : x = y
  · exact w.1 _ _ (fun t z => XS.icmpNo Y.here w.2.1 rfl (hb w.2.2.1 hd) rfl (teq q).2 z) (k2 q)
  · exact w.1 _ _ (fun t z => XS.icmpYes Y.here w.2.1 rfl (pc0 := pc) (pc' := pT) rfl (hb w.2.2.1 hd) rfl (feq q).2 ho hp z) (k1 q)
theorem if_ne (w : Wk p l e R s m args below meth c n0 Z own nm bc ml rt Q G) (X : Sd p l e R s m args below meth c n0 T h cells slots) {x : Int32} {o : Int} (hd : decode bc pc = .ok (.ifCond .ne o, 3)) (pT pF : Nat) (ho : 0 ≤ (pc : Int) + o) (hp : ((pc : Int) + o).toNat = pT) (hq : pc + 3 = pF) (k1 : ¬ x = 0 → G (T.setTop (mkF m pT ls st))) (k2 : x = 0 → G (T.setTop (mkF m pF ls st))) : G (T.setTop (mkF m pc ls (.int x :: st))) := by
  obtain ⟨locs, Y, -, -⟩ := X
  subst hq
  by_cases q : x = 0
  · exact w.1 _ _ (fun t z => XS.ifNo Y.here w.2.1 rfl (hb w.2.2.1 hd) rfl ((if0 _ _).trans (teq q).2) z) (k2 q)
  · exact w.1 _ _ (fun t z => XS.ifYes Y.here w.2.1 rfl (pc0 := pc) (pc' := pT) rfl (hb w.2.2.1 hd) rfl ((if0 _ _).trans (feq q).2) ho hp z) (k1 q)
theorem acmp_eq (w : Wk p l e R s m args below meth c n0 Z own nm bc ml rt Q G) (X : Sd p l e R s m args below meth c n0 T h cells slots) {x y : Value} (hx : x.isRef = true) (hy : y.isRef = true) {o : Int} (hd : decode bc pc = .ok (.if_acmp .eq o, 3)) (pT pF : Nat) (ho : 0 ≤ (pc : Int) + o) (hp : ((pc : Int) + o).toNat = pT) (hq : pc + 3 = pF) (k1 : x = y → G (T.setTop (mkF m pT ls st))) (k2 : ¬ x = y → G (T.setTop (mkF m pF ls st))) : G (T.setTop (mkF m pc ls (y :: x :: st))) := by
  obtain ⟨locs, Y, -, -⟩ := X
  subst hq
  by_cases q : x = y
  · exact w.1 _ _ (fun t z => Jvm.RoadKit.acmp (g := mkF m pc ls (y :: x :: st)) Y w.2.1 rfl hx hy (pc0 := pc) (pc' := pT) (same := true) rfl (hb w.2.2.1 hd) rfl (decide_eq_true q) ho (by simp [acV]; omega) z) (k1 q)
  · exact w.1 _ _ (fun t z => Jvm.RoadKit.acmp (g := mkF m pc ls (y :: x :: st)) Y w.2.1 rfl hx hy (pc0 := pc) (pc' := pc + 3) (same := false) rfl (hb w.2.2.1 hd) rfl (decide_eq_false q) ho (by simp [acV]) z) (k2 q)
theorem acmp_ne (w : Wk p l e R s m args below meth c n0 Z own nm bc ml rt Q G) (X : Sd p l e R s m args below meth c n0 T h cells slots) {x y : Value} (hx : x.isRef = true) (hy : y.isRef = true) {o : Int} (hd : decode bc pc = .ok (.if_acmp .ne o, 3)) (pT pF : Nat) (ho : 0 ≤ (pc : Int) + o) (hp : ((pc : Int) + o).toNat = pT) (hq : pc + 3 = pF) (k1 : ¬ x = y → G (T.setTop (mkF m pT ls st))) (k2 : x = y → G (T.setTop (mkF m pF ls st))) : G (T.setTop (mkF m pc ls (y :: x :: st))) := by
  obtain ⟨locs, Y, -, -⟩ := X
  subst hq
  by_cases q : x = y
  · exact w.1 _ _ (fun t z => Jvm.RoadKit.acmp (g := mkF m pc ls (y :: x :: st)) Y w.2.1 rfl hx hy (pc0 := pc) (pc' := pc + 3) (same := true) rfl (hb w.2.2.1 hd) rfl (decide_eq_true q) ho (by simp [acV]) z) (k2 q)
  · exact w.1 _ _ (fun t z => Jvm.RoadKit.acmp (g := mkF m pc ls (y :: x :: st)) Y w.2.1 rfl hx hy (pc0 := pc) (pc' := pT) (same := false) rfl (hb w.2.2.1 hd) rfl (decide_eq_false q) ho (by simp [acV]; omega) z) (k1 q)
theorem ifnull_ref (w : Wk p l e R s m args below meth c n0 Z own nm bc ml rt Q G) (X : Sd p l e R s m args below meth c n0 T h cells slots) {b : Addr} {o : Int} (hd : decode bc pc = .ok (.ifnull o, 3)) (pF : Nat) (hq : pc + 3 = pF) (k : G (T.setTop (mkF m pF ls st))) : G (T.setTop (mkF m pc ls (.ref b :: st))) := by
  obtain ⟨locs, Y, -, -⟩ := X
  subst hq
  exact w.1 _ _ (fun t z => XS.ifnullNo Y.here w.2.1 rfl (hb w.2.2.1 hd) rfl z) k
theorem ifnull_null (w : Wk p l e R s m args below meth c n0 Z own nm bc ml rt Q G) (X : Sd p l e R s m args below meth c n0 T h cells slots) {o : Int} (hd : decode bc pc = .ok (.ifnull o, 3)) (pT : Nat) (ho : 0 ≤ (pc : Int) + o) (hp : ((pc : Int) + o).toNat = pT) (k : G (T.setTop (mkF m pT ls st))) : G (T.setTop (mkF m pc ls (.null :: st))) := by
  obtain ⟨locs, Y, -, -⟩ := X
  exact w.1 _ _ (fun t z => XS.ifnullYes Y.here w.2.1 rfl (pc0 := pc) (pc' := pT) rfl (hb w.2.2.1 hd) rfl ho hp z) k
theorem ifnonnull_ref (w : Wk p l e R s m args below meth c n0 Z own nm bc ml rt Q G) (X : Sd p l e R s m args below meth c n0 T h cells slots) {b : Addr} {o : Int} (hd : decode bc pc = .ok (.ifnonnull o, 3)) (pT : Nat) (ho : 0 ≤ (pc : Int) + o) (hp : ((pc : Int) + o).toNat = pT) (k : G (T.setTop (mkF m pT ls st))) : G (T.setTop (mkF m pc ls (.ref b :: st))) := by
  obtain ⟨locs, Y, -, -⟩ := X
  exact w.1 _ _ (fun t z => XT.ifnonnullYes Y.here w.2.1 rfl (pc0 := pc) (pc' := pT) rfl (hb w.2.2.1 hd) rfl ho hp z) k
theorem ifnonnull_null (w : Wk p l e R s m args below meth c n0 Z own nm bc ml rt Q G) (X : Sd p l e R s m args below meth c n0 T h cells slots) {o : Int} (hd : decode bc pc = .ok (.ifnonnull o, 3)) (pF : Nat) (hq : pc + 3 = pF) (k : G (T.setTop (mkF m pF ls st))) : G (T.setTop (mkF m pc ls (.null :: st))) := by
  obtain ⟨locs, Y, -, -⟩ := X
  subst hq
  exact w.1 _ _ (fun t z => XT.ifnonnullNo Y.here w.2.1 rfl (hb w.2.2.1 hd) rfl z) k
theorem lswHit (w : Wk p l e R s m args below meth c n0 Z own nm bc ml rt Q G) (X : Sd p l e R s m args below meth c n0 T h cells slots) {i : Int32} {df : Int} {ps : Array (Int × Int)} {len : Nat} (hd : decode bc pc = .ok (.lookupswitch df ps, len)) (hs : (ps.toList.zip (ps.toList.drop 1)).all (fun (a, next) => a.1 < next.1) = true) {a off : Int} (pc' : Nat) (hf : ps.find? (·.1 == i.toInt) = some (a, off)) (ho : 0 ≤ (pc : Int) + off) (hp : ((pc : Int) + off).toNat = pc') (k : G (T.setTop (mkF m pc' ls st))) : G (T.setTop (mkF m pc ls (.int i :: st))) := by
  obtain ⟨locs, Y, -, -⟩ := X
  subst hp
  exact w.1 _ _ (fun t z => Y.lookupswitchHit w.2.1 (g := mkF m pc ls (.int i :: st)) rfl rfl (hb w.2.2.1 hd) hs hf ho t z) k
theorem lswMiss (w : Wk p l e R s m args below meth c n0 Z own nm bc ml rt Q G) (X : Sd p l e R s m args below meth c n0 T h cells slots) {i : Int32} {df : Int} {ps : Array (Int × Int)} {len : Nat} (hd : decode bc pc = .ok (.lookupswitch df ps, len)) (hs : (ps.toList.zip (ps.toList.drop 1)).all (fun (a, next) => a.1 < next.1) = true) (pc' : Nat) (hf : ps.find? (·.1 == i.toInt) = none) (ho : 0 ≤ (pc : Int) + df) (hp : ((pc : Int) + df).toNat = pc') (k : G (T.setTop (mkF m pc' ls st))) : G (T.setTop (mkF m pc ls (.int i :: st))) := by
  obtain ⟨locs, Y, -, -⟩ := X
  subst hp
  exact w.1 _ _ (fun t z => Y.lookupswitchMiss w.2.1 (g := mkF m pc ls (.int i :: st)) rfl rfl (hb w.2.2.1 hd) hs hf ho t z) k
theorem tswIn (w : Wk p l e R s m args below meth c n0 Z own nm bc ml rt Q G) (X : Sd p l e R s m args below meth c n0 T h cells slots) {i : Int32} {df lo hi : Int} {ofs : Array Int} {len : Nat} (hd : decode bc pc = .ok (.tableswitch df lo hi ofs, len)) (pc' : Nat) {off : Int} (hin : ¬ (i.toInt < lo ∨ i.toInt > hi)) (hoff : ofs[(i.toInt - lo).toNat]? = some off) (ho : 0 ≤ (pc : Int) + off) (hp : ((pc : Int) + off).toNat = pc') (k : G (T.setTop (mkF m pc' ls st))) : G (T.setTop (mkF m pc ls (.int i :: st))) := by
  obtain ⟨locs, Y, -, -⟩ := X
  exact w.1 _ _ (fun t z => XS.tswIn Y.here w.2.1 rfl (pc0 := pc) (pc' := pc') rfl (hb w.2.2.1 hd) rfl hin hoff ho hp z) k
theorem tswOut (w : Wk p l e R s m args below meth c n0 Z own nm bc ml rt Q G) (X : Sd p l e R s m args below meth c n0 T h cells slots) {i : Int32} {df lo hi : Int} {ofs : Array Int} {len : Nat} (hd : decode bc pc = .ok (.tableswitch df lo hi ofs, len)) (pc' : Nat) (hout : i.toInt < lo ∨ i.toInt > hi) (ho : 0 ≤ (pc : Int) + df) (hp : ((pc : Int) + df).toNat = pc') (k : G (T.setTop (mkF m pc' ls st))) : G (T.setTop (mkF m pc ls (.int i :: st))) := by
  obtain ⟨locs, Y, -, -⟩ := X
  exact w.1 _ _ (fun t z => XS.tswOut Y.here w.2.1 rfl (pc0 := pc) (pc' := pc') rfl (hb w.2.2.1 hd) rfl hout ho hp z) k
theorem retI (w : Wk p l e R s m args below meth c n0 Z own nm bc ml rt Q G) (X : Sd p l e R s m args below meth c n0 T h cells slots) {z : Int32} (hrt : rt = some .int) (hd : decode bc pc = .ok (.ireturn, 1)) (hc : cells ≤ R.cells) (hl : slots ≤ R.slots) (k : Q (some (.int z)) h) : G (T.setTop (mkF m pc ls (.int z :: st))) := by
  have hr : meth.sig.returnType = some .int := w.2.2.2.2.2.2.1.trans hrt
  refine w.2.2.2.2.2.2.2.2 T h cells slots (some (.int z)) X hc hl (fun q => by rw [hr] at q; cases q) k _ (fun fs hfs => ?_)
  obtain ⟨locs, Y, -, -⟩ := X
  exact retOut Y w.2.1 hr rfl (Or.inl ⟨rfl, Or.inl rfl, z, rfl⟩) (hb w.2.2.1 hd) hfs
theorem retN (w : Wk p l e R s m args below meth c n0 Z own nm bc ml rt Q G) (X : Sd p l e R s m args below meth c n0 T h cells slots) {z : Int32} {t : FieldType} (hrt : rt = some t) (ht : t = .boolean ∨ t = .byte ∨ t = .char ∨ t = .short) (hd : decode bc pc = .ok (.ireturn, 1)) (hc : cells ≤ R.cells) (hl : slots ≤ R.slots) (k : Q (some (.int (nar t z))) h) : G (T.setTop (mkF m pc ls (.int z :: st))) := by
  have hr : meth.sig.returnType = some t := w.2.2.2.2.2.2.1.trans hrt
  refine w.2.2.2.2.2.2.2.2 T h cells slots (some (.int (nar t z))) X hc hl (fun q => by rw [hr] at q; cases q) k _ (fun fs hfs => ?_)
  obtain ⟨locs, Y, -, -⟩ := X
  exact Jvm.RoadKit.retN Y w.2.1 hr ht (hb w.2.2.1 hd) hfs
theorem retJ (w : Wk p l e R s m args below meth c n0 Z own nm bc ml rt Q G) (X : Sd p l e R s m args below meth c n0 T h cells slots) {z : Int64} (hrt : rt = some .long) (hd : decode bc pc = .ok (.lreturn, 1)) (hc : cells ≤ R.cells) (hl : slots ≤ R.slots) (k : Q (some (.long z)) h) : G (T.setTop (mkF m pc ls (.long z :: st))) := by
  have hr : meth.sig.returnType = some .long := w.2.2.2.2.2.2.1.trans hrt
  refine w.2.2.2.2.2.2.2.2 T h cells slots (some (.long z)) X hc hl (fun q => by rw [hr] at q; cases q) k _ (fun fs hfs => ?_)
  obtain ⟨locs, Y, -, -⟩ := X
  exact retOut Y w.2.1 hr rfl (Or.inr (Or.inl ⟨rfl, rfl, z, rfl⟩)) (hb w.2.2.1 hd) hfs
theorem retA (w : Wk p l e R s m args below meth c n0 Z own nm bc ml rt Q G) (X : Sd p l e R s m args below meth c n0 T h cells slots) {z : Value} {t : FieldType} (hrt : rt = some t) (ht : t.isReference = true) (hz : z.isRef = true) (hd : decode bc pc = .ok (.areturn, 1)) (hc : cells ≤ R.cells) (hl : slots ≤ R.slots) (k : Q (some z) h) : G (T.setTop (mkF m pc ls (z :: st))) := by
  have hr : meth.sig.returnType = some t := w.2.2.2.2.2.2.1.trans hrt
  refine w.2.2.2.2.2.2.2.2 T h cells slots (some z) X hc hl (fun q => by rw [hr] at q; cases q) k _ (fun fs hfs => ?_)
  obtain ⟨locs, Y, -, -⟩ := X
  refine retOut Y w.2.1 hr ?_ (Or.inr (Or.inr (Or.inr (Or.inr ⟨rfl, ht, hz⟩)))) (hb w.2.2.1 hd) hfs
  rcases ref_cases hz with rfl | ⟨a, rfl⟩ <;> cases t <;> first | rfl | (cases ht; done)
theorem retV (w : Wk p l e R s m args below meth c n0 Z own nm bc ml rt Q G) (X : Sd p l e R s m args below meth c n0 T h cells slots) (hrt : rt = none) (hd : decode bc pc = .ok (.return_, 1)) (hc : cells ≤ R.cells) (hl : slots ≤ R.slots) (k : Q none h) : G (T.setTop (mkF m pc ls [])) := by
  have hr : meth.sig.returnType = none := w.2.2.2.2.2.2.1.trans hrt
  refine w.2.2.2.2.2.2.2.2 T h cells slots none X hc hl (fun _ => rfl) k _ (fun fs hfs => ?_)
  obtain ⟨locs, Y, -, -⟩ := X
  exact Y.returnOut w.2.1 hr (hb w.2.2.1 hd) hfs
theorem getfield (w : Wk p l e R s m args below meth c n0 Z own nm bc ml rt Q G) (X : Sd p l e R s m args below meth c n0 T h cells slots) {R0 O n d : String} {i : Nat} {a : Addr} {v : Value} (wl : (Cond.fieldLink own i R0 n d).before a0 Z = true) (via : Via Z R0 O n d) (F : Fld Z h a O n d v) (hd : decode bc pc = .ok (.getfield i, 3)) (pc' : Nat) (hp : pc + 3 = pc') (k : ∀ T' : State, Sd p l e R s m args below meth c n0 T' h cells slots → G (T'.setTop (mkF m pc' ls (v :: st)))) : G (T.setTop (mkF m pc ls (.ref a :: st))) := by
  obtain ⟨locs, Y, N, eT⟩ := X
  subst hp
  obtain ⟨T', Y', e', q⟩ := getF Y w.2.1 w.2.2.2.2.1 (host := "") w.2.2.2.2.2.1 (Or.inl wl) via eT F (g := mkF m pc ls (.ref a :: st)) rfl rfl (hb w.2.2.1 hd)
  exact w.1 _ _ q (k T' ⟨locs, Y', N, e'⟩)
theorem getfieldNest (w : Wk p l e R s m args below meth c n0 Z own nm bc ml rt Q G) (X : Sd p l e R s m args below meth c n0 T h cells slots) {R0 O n d host : String} {i : Nat} {a : Addr} {v : Value} (wl : (Cond.fieldLinkNest own i R0 n d host).before a0 Z = true) (via : Via Z R0 O n d) (F : Fld Z h a O n d v) (hd : decode bc pc = .ok (.getfield i, 3)) (pc' : Nat) (hp : pc + 3 = pc') (k : ∀ T' : State, Sd p l e R s m args below meth c n0 T' h cells slots → G (T'.setTop (mkF m pc' ls (v :: st)))) : G (T.setTop (mkF m pc ls (.ref a :: st))) := by
  obtain ⟨locs, Y, N, eT⟩ := X
  subst hp
  obtain ⟨T', Y', e', q⟩ := getF Y w.2.1 w.2.2.2.2.1 w.2.2.2.2.2.1 (Or.inr wl) via eT F (g := mkF m pc ls (.ref a :: st)) rfl rfl (hb w.2.2.1 hd)
  exact w.1 _ _ q (k T' ⟨locs, Y', N, e'⟩)
theorem getstatic (w : Wk p l e R s m args below meth c n0 Z own nm bc ml rt Q G) (X : Sd p l e R s m args below meth c n0 T h cells slots) {R0 O n d : String} {i : Nat} {v : Value} (wl : (Cond.fieldLink own i R0 n d).before a0 Z = true) (via : Via Z R0 O n d) (F : Sta Z h O n d v) (hd : decode bc pc = .ok (.getstatic i, 3)) (pc' : Nat) (hp : pc + 3 = pc') (k : ∀ T' : State, Sd p l e R s m args below meth c n0 T' h cells slots → G (T'.setTop (mkF m pc' ls (v :: st)))) : G (T.setTop (mkF m pc ls st)) := by
  obtain ⟨locs, Y, N, eT⟩ := X
  subst hp
  obtain ⟨T', Y', e', q⟩ := getS2 (host := "") Y w.2.1 w.2.2.2.2.1 w.2.2.2.2.2.1 (Or.inl wl) via eT F (g := mkF m pc ls st) rfl (hb w.2.2.1 hd)
  exact w.1 _ _ q (k T' ⟨locs, Y', N, e'⟩)
theorem getstaticNest (w : Wk p l e R s m args below meth c n0 Z own nm bc ml rt Q G) (X : Sd p l e R s m args below meth c n0 T h cells slots) {R0 O n d host : String} {i : Nat} {v : Value} (wl : (Cond.fieldLinkNest own i R0 n d host).before a0 Z = true) (via : Via Z R0 O n d) (F : Sta Z h O n d v) (hd : decode bc pc = .ok (.getstatic i, 3)) (pc' : Nat) (hp : pc + 3 = pc') (k : ∀ T' : State, Sd p l e R s m args below meth c n0 T' h cells slots → G (T'.setTop (mkF m pc' ls (v :: st)))) : G (T.setTop (mkF m pc ls st)) := by
  obtain ⟨locs, Y, N, eT⟩ := X
  subst hp
  obtain ⟨T', Y', e', q⟩ := getS2 Y w.2.1 w.2.2.2.2.1 w.2.2.2.2.2.1 (Or.inr wl) via eT F (g := mkF m pc ls st) rfl (hb w.2.2.1 hd)
  exact w.1 _ _ q (k T' ⟨locs, Y', N, e'⟩)
theorem checkcast (w : Wk p l e R s m args below meth c n0 Z own nm bc ml rt Q G) (X : Sd p l e R s m args below meth c n0 T h cells slots) {K : String} {i : Nat} {a : Addr} (wl : (Cond.classLink own i K).before a0 Z = true) (F : Ins Z h a K true) (hd : decode bc pc = .ok (.checkcast i, 3)) (pc' : Nat) (hp : pc + 3 = pc') (k : ∀ T' : State, Sd p l e R s m args below meth c n0 T' h cells slots → G (T'.setTop (mkF m pc' ls (.ref a :: st)))) : G (T.setTop (mkF m pc ls (.ref a :: st))) := by
  obtain ⟨locs, Y, N, eT⟩ := X
  subst hp
  obtain ⟨T', Y', e', q⟩ := castY Y w.2.1 w.2.2.2.2.1 w.2.2.2.2.2.1 wl eT F (g := mkF m pc ls (.ref a :: st)) rfl rfl (hb w.2.2.1 hd)
  exact w.1 _ _ q (k T' ⟨locs, Y', N, e'⟩)
theorem putfield (w : Wk p l e R s m args below meth c n0 Z own nm bc ml rt Q G) (X : Sd p l e R s m args below meth c n0 T h cells slots) {R0 O n d C : String} {i kk : Nat} {ty : FieldType} {a : Addr} {v old : Value} (wl : (Cond.fieldLink own i R0 n d).before a0 Z = true) (via : Via Z R0 O n d) (F : Fld Z h a O n d old) (E : Exa Z h a C) (L : (Cond.lays C O n d).before a0 Z = true ∨ ((Cond.laysFinal C O n d).before a0 Z = true ∧ own = O ∧ nm = "<init>")) (wi : (Cond.instantiable C kk).before a0 Z = true) (hty : parseFieldDescriptor d = some ty) (hn : narrow ty v = v) (hf : fits ty v = true) (ha : n0 ≤ a) (hd : decode bc pc = .ok (.putfield i, 3)) (pc' : Nat) (hp : pc + 3 = pc')
    (k : ∀ (T' : State) (h' : Heap), Sd p l e R s m args below meth c n0 T' h' cells slots → Wr h h' a (Jvm.RoadKit.slotOf Z O n d) v → G (T'.setTop (mkF m pc' ls st))) : G (T.setTop (mkF m pc ls (v :: .ref a :: st))) := by
  obtain ⟨locs, Y, N, eT⟩ := X
  subst hp
  obtain ⟨T', h', Y', e', W', q⟩ := putF Y w.2.1 w.2.2.2.2.1 (host := "") w.2.2.2.2.2.1 (Or.inl wl) via eT F E (L.imp id fun z => ⟨z.1, z.2.1, w.2.2.2.2.2.2.2.1.trans z.2.2⟩) wi hty hn hf (g := mkF m pc ls (v :: .ref a :: st)) rfl rfl (hb w.2.2.1 hd)
  exact w.1 _ _ q (k T' h' ⟨_, Y', Fr.snoc Y' N ha, e'⟩ W')
theorem putfieldN (w : Wk p l e R s m args below meth c n0 Z own nm bc ml rt Q G) (X : Sd p l e R s m args below meth c n0 T h cells slots) {R0 O n d C : String} {i kk : Nat} {ty : FieldType} {a : Addr} {v v' old : Value} (wl : (Cond.fieldLink own i R0 n d).before a0 Z = true) (via : Via Z R0 O n d) (F : Fld Z h a O n d old) (E : Exa Z h a C) (L : (Cond.lays C O n d).before a0 Z = true ∨ ((Cond.laysFinal C O n d).before a0 Z = true ∧ own = O ∧ nm = "<init>")) (wi : (Cond.instantiable C kk).before a0 Z = true) (hty : parseFieldDescriptor d = some ty) (hn : narrow ty v = v') (hf : fits ty v' = true) (ha : n0 ≤ a) (hd : decode bc pc = .ok (.putfield i, 3)) (pc' : Nat) (hp : pc + 3 = pc')
    (k : ∀ (T' : State) (h' : Heap), Sd p l e R s m args below meth c n0 T' h' cells slots → Wr h h' a (Jvm.RoadKit.slotOf Z O n d) v' → G (T'.setTop (mkF m pc' ls st))) : G (T.setTop (mkF m pc ls (v :: .ref a :: st))) := by
  obtain ⟨locs, Y, N, eT⟩ := X
  subst hp
  obtain ⟨T', h', Y', e', W', q⟩ := putFN Y w.2.1 w.2.2.2.2.1 w.2.2.2.2.2.1 wl via eT F E (L.imp id fun z => ⟨z.1, z.2.1, w.2.2.2.2.2.2.2.1.trans z.2.2⟩) wi hty hn hf (g := mkF m pc ls (v :: .ref a :: st)) rfl rfl (hb w.2.2.1 hd)
  exact w.1 _ _ q (k T' h' ⟨_, Y', Fr.snoc Y' N ha, e'⟩ W')
theorem new (w : Wk p l e R s m args below meth c n0 Z own nm bc ml rt Q G) (X : Sd p l e R s m args below meth c n0 T h cells slots) {C : String} {i n : Nat} (wl : (Cond.classLink own i C).before a0 Z = true) (wi : (Cond.instantiable C n).before a0 Z = true) (wz : (Cond.initialized C).before a0 Z = true) (hd : decode bc pc = .ok (.new i, 3)) (pc' : Nat) (hp : pc + 3 = pc') (hc : cells + 1 ≤ R.cells) (hl : slots + n ≤ R.slots)
    (k : ∀ (T' : State) (h' : Heap) (a : Addr), Sd p l e R s m args below meth c n0 T' h' (cells + 1) (slots + n) → a = h.size → Ext h h' → Exa Z h' a C → (∀ {O nm d : String} {ty : FieldType}, Laid Z a0 C O nm d → parseFieldDescriptor d = some ty → Fld Z h' a O nm d (defaultValue ty)) → G (T'.setTop (mkF m pc' ls (.ref a :: st)))) : G (T.setTop (mkF m pc ls st)) := by
  obtain ⟨locs, Y, N, eT⟩ := X
  subst hp
  obtain ⟨T', h', Y', e', E', A', D', -, q⟩ := newO Y w.2.1 w.2.2.2.2.1 w.2.2.2.2.2.1 wl wi wz eT (g := mkF m pc ls st) rfl (hb w.2.2.1 hd) hc hl
  exact w.1 _ _ q (k T' h' _ ⟨locs, Y', N, e'⟩ rfl E' A' D')
theorem newarr (w : Wk p l e R s m args below meth c n0 Z own nm bc ml rt Q G) (X : Sd p l e R s m args below meth c n0 T h cells slots) {aty : ArrayType} {n : Int32} (wa : (Cond.arrayClass (newarray.typeOf aty)).before a0 Z = true) (hd : decode bc pc = .ok (.newarray aty, 2)) (pc' : Nat) (hp : pc + 2 = pc') (hn : ¬ n < 0) (cap : Nat) (hcap : n.toNatClampNeg ≤ cap) (hb' : cap * 8 ≤ 536870912) (hc : cells + 1 ≤ R.cells) (hl : slots + cap ≤ R.slots)
    (k : ∀ (T' : State) (h' : Heap) (a : Addr) (cA : ClassId), Sd p l e R s m args below meth c n0 T' h' (cells + 1) (slots + cap) → a = h.size → Ext h h' → Arr Z h' a (newA cA (newarray.typeOf aty) n) (newarray.typeOf aty) → G (T'.setTop (mkF m pc' ls (.ref a :: st)))) : G (T.setTop (mkF m pc ls (.int n :: st))) := by
  obtain ⟨locs, Y, N, eT⟩ := X
  subst hp
  obtain ⟨T', h', cA, Y', e', E', A', q⟩ := newP Y w.2.1 w.2.2.2.2.1 wa eT (g := mkF m pc ls (.int n :: st)) rfl (hb w.2.2.1 hd) rfl hn hcap hb' hc hl
  exact w.1 _ _ q (k T' h' _ cA ⟨locs, Y', N, e'⟩ rfl E' A')
theorem anewO (w : Wk p l e R s m args below meth c n0 Z own nm bc ml rt Q G) (X : Sd p l e R s m args below meth c n0 T h cells slots) {C : String} {i : Nat} {n : Int32} (w1 : (Cond.classLink own i C).before a0 Z = true) (w2 : (Cond.arrayOver (.object C)).before a0 Z = true) (hd : decode bc pc = .ok (.anewarray i, 3)) (pc' : Nat) (hp : pc + 3 = pc') (hn : ¬ n < 0) (cap : Nat) (hcap : n.toNatClampNeg ≤ cap) (hb' : cap * 8 ≤ 536870912) (hc : cells + 1 ≤ R.cells) (hl : slots + cap ≤ R.slots)
    (k : ∀ (T' : State) (h' : Heap) (a : Addr) (cA : ClassId), Sd p l e R s m args below meth c n0 T' h' (cells + 1) (slots + cap) → a = h.size → Ext h h' → Arr Z h' a (newA cA (.object C) n) (.object C) ∧ Ovr Z cA C → G (T'.setTop (mkF m pc' ls (.ref a :: st)))) : G (T.setTop (mkF m pc ls (.int n :: st))) := by
  obtain ⟨locs, Y, N, eT⟩ := X
  subst hp
  obtain ⟨T', h', cA, Y', e', E', A', O', q⟩ := newR Y w.2.1 w.2.2.2.2.1 w.2.2.2.2.2.1 w1 w2 eT (g := mkF m pc ls (.int n :: st)) rfl (hb w.2.2.1 hd) rfl hn hcap hb' hc hl
  exact w.1 _ _ q (k T' h' _ cA ⟨locs, Y', N, e'⟩ rfl E' ⟨A', O'⟩)
theorem anewA (w : Wk p l e R s m args below meth c n0 Z own nm bc ml rt Q G) (X : Sd p l e R s m args below meth c n0 T h cells slots) {C : String} {ty : FieldType} {i : Nat} {n : Int32} (hC : (FieldType.array ty).toString = C) (w1 : (Cond.classLink own i C).before a0 Z = true) (w2 : (Cond.arrayOver (.array ty)).before a0 Z = true) (hd : decode bc pc = .ok (.anewarray i, 3)) (pc' : Nat) (hp : pc + 3 = pc') (hn : ¬ n < 0) (cap : Nat) (hcap : n.toNatClampNeg ≤ cap) (hb' : cap * 8 ≤ 536870912) (hc : cells + 1 ≤ R.cells) (hl : slots + cap ≤ R.slots)
    (k : ∀ (T' : State) (h' : Heap) (a : Addr) (cA : ClassId), Sd p l e R s m args below meth c n0 T' h' (cells + 1) (slots + cap) → a = h.size → Ext h h' → Arr Z h' a (newA cA (.array ty) n) (.array ty) ∧ OvrA Z cA ty C → G (T'.setTop (mkF m pc' ls (.ref a :: st)))) : G (T.setTop (mkF m pc ls (.int n :: st))) := by
  obtain ⟨locs, Y, N, eT⟩ := X
  subst hp
  obtain ⟨T', h', cA, Y', e', E', A', -, O', q⟩ := newRA Y w.2.1 w.2.2.2.2.1 w.2.2.2.2.2.1 hC w1 w2 eT (g := mkF m pc ls (.int n :: st)) rfl (hb w.2.2.1 hd) rfl hn hcap hb' hc hl rfl
  exact w.1 _ _ q (k T' h' _ cA ⟨locs, Y', N, e'⟩ rfl E' ⟨A', O'⟩)
theorem initObj (w : Wk p l e R s m args below meth c n0 Z own nm bc ml rt Q G) (X : Sd p l e R s m args below meth c n0 T h cells slots) {i : Nat} {a : Addr} (w1 : (Cond.methodLink own i Lib.objectInit).before a0 Z = true) (w2 : (Cond.instanceMethod Lib.objectInit).before a0 Z = true) (w3 : (Cond.code Lib.objectInit ⟨#[0xb1]⟩ 1 none).before a0 Z = true) (hd : decode bc pc = .ok (.invokespecial i, 3)) (pc' : Nat) (hp : pc + 3 = pc') (hsz : ls.size = ml) (hf : 1 ≤ R.frames) (Wd : Nat) (hW : (st.map fun v => v.category).sum ≤ Wd) (hl : Wd + 12 ≤ R.locals)
    (k : ∀ T' : State, Sd p l e R s m args below meth c n0 T' h cells slots → G (T'.setTop (mkF m pc' ls st))) : G (T.setTop (mkF m pc ls (.ref a :: st))) := by
  obtain ⟨locs, Y, N, eT⟩ := X
  subst hp
  obtain ⟨T', Y', e', q⟩ := initO Y w.2.1 w.2.2.2.2.1 w.2.2.2.2.2.1 w1 w2 w3 eT (g := mkF m pc ls (.ref a :: st)) rfl (hsz.trans w.2.2.2.1.symm) rfl (hb w.2.2.1 hd) hf (W := Wd) (by show 2 * 0 + _ ≤ _; omega) hl
  exact w.1 _ _ q (k T' ⟨locs, Y', N, e'⟩)
theorem callS (w : Wk p l e R s m args below meth c n0 Z own nm bc ml rt Q G) (X : Sd p l e R s m args below meth c n0 T h cells slots) {y : MethodName} {ybc : ByteArray} {yml : Nat} {yrt : Option FieldType} {rm : Room} {i : Nat} {sk : List Value} {Qy : Option Value → Heap → Prop} (av : List Value) (w1 : (Cond.methodLink own i y).before a0 Z = true) (w2 : (Cond.static y).before a0 Z = true) (w3 : (Cond.initialized y.cls).before a0 Z = true) (w4 : (Cond.code y ybc yml yrt).before a0 Z = true) (hy : y.cls ≠ "java/lang/invoke/MethodHandle" ∧ y.cls ≠ "java/lang/invoke/VarHandle") (hM : Met l Z y ybc yml yrt [] rm av.toArray h n0 Qy) (hd : decode bc pc = .ok (.invokestatic i, 3)) (pc' : Nat) (hp : pc + 3 = pc') (Wd : Nat) (hfr : rm.frames + 1 ≤ R.frames) (hlo : Wd + (yml + 11) + rm.locals ≤ R.locals) (hlen : ∀ sig, parseMethodDescriptor y.desc = some sig → av.length = sig.parameters.length) (hst : sk = av.reverse ++ st) (hW : (st.map fun v => v.category).sum ≤ Wd) (hsz : ls.size = ml) (hc : cells + rm.cells ≤ R.cells) (hs : slots + rm.slots ≤ R.slots) (k : ∀ (v : Option Value) (T' : State) (h' : Heap), Sd p l e R s m args below meth c n0 T' h' (cells + rm.cells) (slots + rm.slots) → Qy v h' → G (T'.setTop (mkF m pc' ls (v.toList ++ st)))) : G (T.setTop (mkF m pc ls sk)) := by
  obtain ⟨locs, Y, N, eT⟩ := X
  subst hp hst
  have hZ := w.2.2.2.2.1
  obtain ⟨v, _, ⟨T', L', k', n'⟩, -, Y', ⟨Lc, ⟨hQ, NL⟩, l1, y1, z1⟩, q⟩ := Jvm.LawKit.callS Y w.2.1 (y := y) w.2.2.2.2.2.1 (mvT hZ w1) (mvT hZ w2) (mvT hZ w3) (mvT hZ w4) hy (backOf (W := Wd) (Q := fun v h' L => Qy v h' ∧ Fr n0 L) hM hZ w4 w3 hfr hlo) (g := mkF m pc ls (av.reverse ++ st)) rfl (hsz.trans w.2.2.2.1.symm) (argsL := av) (rest := st) hlen rfl (by show 2 * 0 + _ ≤ _; omega) (hb w.2.2.1 hd) (fun _ _ => ⟨rfl, eT, hc, hs⟩)
  dsimp only [Pt.U, Pt.locs, Pt.cells, Pt.slots] at Y' l1 y1 z1 q hQ
  subst l1 y1 z1
  exact w.1 _ _ q (k v T' _ ⟨_, Y', Fr.app N NL, rfl⟩ hQ)
theorem callN (w : Wk p l e R s m args below meth c n0 Z own nm bc ml rt Q G) (X : Sd p l e R s m args below meth c n0 T h cells slots) {y : MethodName} {ybc : ByteArray} {yml : Nat} {rm : Room} {i : Nat} {sk : List Value} {Qy : Option Value → Heap → Prop} {a : Addr} (av : List Value) (w1 : (Cond.methodLink own i y).before a0 Z = true) (w2 : (Cond.instanceMethod y).before a0 Z = true) (w3 : (Cond.initialized y.cls).before a0 Z = true) (w4 : (Cond.code y ybc yml none).before a0 Z = true) (hi : y.name = "<init>") (hy : y.cls ≠ "java/lang/invoke/MethodHandle" ∧ y.cls ≠ "java/lang/invoke/VarHandle") (hM : Met l Z y ybc yml none [] rm (.ref a :: av).toArray h n0 Qy) (hd : decode bc pc = .ok (.invokespecial i, 3)) (pc' : Nat) (hp : pc + 3 = pc') (Wd : Nat) (hfr : rm.frames + 1 ≤ R.frames) (hlo : Wd + (yml + 11) + rm.locals ≤ R.locals) (hlen : ∀ sig, parseMethodDescriptor y.desc = some sig → av.length = sig.parameters.length) (hst : sk = av.reverse ++ .ref a :: st) (hW : (st.map fun v => v.category).sum ≤ Wd) (hsz : ls.size = ml) (hc : cells + rm.cells ≤ R.cells) (hs : slots + rm.slots ≤ R.slots) (k : ∀ (v : Option Value) (T' : State) (h' : Heap), Sd p l e R s m args below meth c n0 T' h' (cells + rm.cells) (slots + rm.slots) → Qy v h' → G (T'.setTop (mkF m pc' ls (v.toList ++ st)))) : G (T.setTop (mkF m pc ls sk)) := by
  obtain ⟨locs, Y, N, eT⟩ := X
  subst hp hst
  have hZ := w.2.2.2.2.1
  obtain ⟨v, _, ⟨T', L', k', n'⟩, -, Y', ⟨Lc, ⟨hQ, NL⟩, l1, y1, z1⟩, q⟩ := Y.specialBack w.2.1 (y := y) hi w.2.2.2.2.2.1 (mvT hZ w1) (mvT hZ w2) (mvT hZ w4) hy (backOf (W := Wd) (Q := fun v h' L => Qy v h' ∧ Fr n0 L) hM hZ w4 w3 hfr hlo) (g := mkF m pc ls (av.reverse ++ .ref a :: st)) rfl (hsz.trans w.2.2.2.1.symm) (Steps.refl _) (a := a) (argsL := av) (rest := st) hlen rfl (by show 2 * 0 + _ ≤ _; omega) (hb w.2.2.1 hd) (fun _ _ => ⟨rfl, eT, hc, hs⟩)
  dsimp only [Pt.U, Pt.locs, Pt.cells, Pt.slots] at Y' l1 y1 z1 q hQ
  subst l1 y1 z1
  exact w.1 _ _ (fun t z => q.trans z) (k v T' _ ⟨_, Y', Fr.app N NL, rfl⟩ hQ)
theorem callV (w : Wk p l e R s m args below meth c n0 Z own nm bc ml rt Q G) (X : Sd p l e R s m args below meth c n0 T h cells slots) {y z : MethodName} {ybc : ByteArray} {yml : Nat} {yrt : Option FieldType} {rm : Room} {i : Nat} {sk : List Value} {Qy : Option Value → Heap → Prop} {C : String} {a : Addr} (av : List Value) (w1 : (Cond.methodLink own i y).before a0 Z = true) (w2 : (Cond.declares y).before a0 Z = true) (hnf : NotFace s y) (w5 : (Cond.selects C y z).before a0 Z = true) (w6 : (Cond.instanceMethod z).before a0 Z = true) (w3 : (Cond.initialized z.cls).before a0 Z = true) (w4 : (Cond.code z ybc yml yrt).before a0 Z = true) (hy : y.cls ≠ "java/lang/invoke/MethodHandle" ∧ y.cls ≠ "java/lang/invoke/VarHandle") (E : Exa Z h a C) (hM : Met l Z z ybc yml yrt [] rm (.ref a :: av).toArray h n0 Qy) (hd : decode bc pc = .ok (.invokevirtual i, 3)) (pc' : Nat) (hp : pc + 3 = pc') (Wd : Nat) (hfr : rm.frames + 1 ≤ R.frames) (hlo : Wd + (yml + 11) + rm.locals ≤ R.locals) (hlen : ∀ sig, parseMethodDescriptor y.desc = some sig → av.length = sig.parameters.length) (hst : sk = av.reverse ++ .ref a :: st) (hW : (st.map fun v => v.category).sum ≤ Wd) (hsz : ls.size = ml) (hc : cells + rm.cells ≤ R.cells) (hs : slots + rm.slots ≤ R.slots) (k : ∀ (v : Option Value) (T' : State) (h' : Heap), Sd p l e R s m args below meth c n0 T' h' (cells + rm.cells) (slots + rm.slots) → Qy v h' → G (T'.setTop (mkF m pc' ls (v.toList ++ st)))) : G (T.setTop (mkF m pc ls sk)) := by
  obtain ⟨locs, Y, N, eT⟩ := X
  subst hp hst
  have hZ := w.2.2.2.2.1
  obtain ⟨cq, kq, qa, qb, qc⟩ := isOf hZ eT E
  obtain ⟨v, _, ⟨T', L', k', n'⟩, -, Y', ⟨Lc, ⟨hQ, NL⟩, l1, y1, z1⟩, q⟩ := Y.virtualBack w.2.1 (y := y) (z := z) w.2.2.2.2.2.1 (mvT hZ w1) (mvT hZ w2) hnf (mvT hZ w5) (mvT hZ w6) hy (backOf (W := Wd) (Q := fun v h' L => Qy v h' ∧ Fr n0 L) hM hZ w4 w3 hfr hlo) qa qc (g := mkF m pc ls (av.reverse ++ .ref a :: st)) rfl (hsz.trans w.2.2.2.1.symm) (Steps.refl _) (argsL := av) (rest := st) hlen rfl (by show 2 * 0 + _ ≤ _; omega) (hb w.2.2.1 hd) (fun _ _ => ⟨rfl, eT, hc, hs⟩)
  dsimp only [Pt.U, Pt.locs, Pt.cells, Pt.slots] at Y' l1 y1 z1 q hQ
  subst l1 y1 z1
  exact w.1 _ _ (fun t z => q.trans z) (k v T' _ ⟨_, Y', Fr.app N NL, rfl⟩ hQ)
theorem callP (w : Wk p l e R s m args below meth c n0 Z own nm bc ml rt Q G) (X : Sd p l e R s m args below meth c n0 T h cells slots) {y : MethodName} {ybc : ByteArray} {yml : Nat} {yrt : Option FieldType} {rm : Room} {i : Nat} {sk : List Value} {Qy : Option Value → Heap → Prop} {a : Addr} (av : List Value) (w1 : (Cond.methodLink own i y).before a0 Z = true) (w6 : (Cond.instanceMethod y).before a0 Z = true) (hnf : NotFace s y) (w7 : (Cond.privateMethod y).before a0 Z = true) (w3 : (Cond.initialized y.cls).before a0 Z = true) (w4 : (Cond.code y ybc yml yrt).before a0 Z = true) (hy : y.cls ≠ "java/lang/invoke/MethodHandle" ∧ y.cls ≠ "java/lang/invoke/VarHandle") {C : String} (E : Exa Z h a C) (hM : Met l Z y ybc yml yrt [] rm (.ref a :: av).toArray h n0 Qy) (hd : decode bc pc = .ok (.invokevirtual i, 3)) (pc' : Nat) (hp : pc + 3 = pc') (Wd : Nat) (hfr : rm.frames + 1 ≤ R.frames) (hlo : Wd + (yml + 11) + rm.locals ≤ R.locals) (hlen : ∀ sig, parseMethodDescriptor y.desc = some sig → av.length = sig.parameters.length) (hst : sk = av.reverse ++ .ref a :: st) (hW : (st.map fun v => v.category).sum ≤ Wd) (hsz : ls.size = ml) (hc : cells + rm.cells ≤ R.cells) (hs : slots + rm.slots ≤ R.slots) (k : ∀ (v : Option Value) (T' : State) (h' : Heap), Sd p l e R s m args below meth c n0 T' h' (cells + rm.cells) (slots + rm.slots) → Qy v h' → G (T'.setTop (mkF m pc' ls (v.toList ++ st)))) : G (T.setTop (mkF m pc ls sk)) := by
  obtain ⟨locs, Y, N, eT⟩ := X
  subst hp hst
  have hZ := w.2.2.2.2.1
  obtain ⟨cq, qa, qc⟩ := E.cell
  obtain ⟨v, _, ⟨T', L', k', n'⟩, -, Y', ⟨Lc, ⟨hQ, NL⟩, l1, y1, z1⟩, q⟩ := privB Y w.2.1 (y := y) w.2.2.2.2.2.1 (mvT hZ w1) (mvT hZ w6) hnf (Cond.privateMethod_at (mvP hZ w7 (args := #[]))) (mvT hZ w4) hy (backOf (W := Wd) (Q := fun v h' L => Qy v h' ∧ Fr n0 L) hM hZ w4 w3 hfr hlo) (g := mkF m pc ls (av.reverse ++ .ref a :: st)) rfl (hsz.trans w.2.2.2.1.symm) (Steps.refl _) (a := a) (by rw [eT]; exact qa) qc (argsL := av) (rest := st) hlen rfl (by show 2 * 0 + _ ≤ _; omega) (hb w.2.2.1 hd) (fun _ _ => ⟨rfl, eT, hc, hs⟩)
  dsimp only [Pt.U, Pt.locs, Pt.cells, Pt.slots] at Y' l1 y1 z1 q hQ
  subst l1 y1 z1
  exact w.1 _ _ (fun t z => q.trans z) (k v T' _ ⟨_, Y', Fr.app N NL, rfl⟩ hQ)
theorem callSI (w : Wk p l e R s m args below meth c n0 Z own nm bc ml rt Q G) (X : Sd p l e R s m args below meth c n0 T h cells slots) {y : MethodName} {ybc : ByteArray} {yml : Nat} {yrt : Option FieldType} {rm : Room} {i : Nat} {sk : List Value} {P : Int32 → Heap → Prop}  (av : List Value) (w1 : (Cond.methodLink own i y).before a0 Z = true) (w2 : (Cond.static y).before a0 Z = true) (w3 : (Cond.initialized y.cls).before a0 Z = true) (w4 : (Cond.code y ybc yml yrt).before a0 Z = true) (hy : y.cls ≠ "java/lang/invoke/MethodHandle" ∧ y.cls ≠ "java/lang/invoke/VarHandle") (hM : Met l Z y ybc yml yrt [] rm av.toArray h n0 (RI P)) (hd : decode bc pc = .ok (.invokestatic i, 3)) (pc' : Nat) (hp : pc + 3 = pc') (Wd : Nat) (hfr : rm.frames + 1 ≤ R.frames) (hlo : Wd + (yml + 11) + rm.locals ≤ R.locals) (hlen : ∀ sig, parseMethodDescriptor y.desc = some sig → av.length = sig.parameters.length) (hst : sk = av.reverse ++ st) (hW : (st.map fun v => v.category).sum ≤ Wd) (hsz : ls.size = ml) (hc : cells + rm.cells ≤ R.cells) (hs : slots + rm.slots ≤ R.slots) (k : ∀ (r : Int32) (T' : State) (h' : Heap), Sd p l e R s m args below meth c n0 T' h' (cells + rm.cells) (slots + rm.slots) → P r h' → G (T'.setTop (mkF m pc' ls (.int r :: st)))) : G (T.setTop (mkF m pc ls sk)) := by
  refine callS w X av w1 w2 w3 w4 hy hM hd pc' hp Wd hfr hlo hlen hst hW hsz hc hs (fun v T' h' Y hq => ?_)
  obtain ⟨r, rfl, hr⟩ := hq
  exact k r T' h' Y hr
theorem callSPI (w : Wk p l e R s m args below meth c n0 Z own nm bc ml rt Q G) (X : Sd p l e R s m args below meth c n0 T h cells slots) {y : MethodName} {ybc : ByteArray} {yml : Nat} {yrt : Option FieldType} {rm : Room} {i : Nat} {sk : List Value} {P : Int32 → Prop}  (av : List Value) (w1 : (Cond.methodLink own i y).before a0 Z = true) (w2 : (Cond.static y).before a0 Z = true) (w3 : (Cond.initialized y.cls).before a0 Z = true) (w4 : (Cond.code y ybc yml yrt).before a0 Z = true) (hy : y.cls ≠ "java/lang/invoke/MethodHandle" ∧ y.cls ≠ "java/lang/invoke/VarHandle") (hM : Met l Z y ybc yml yrt [] rm av.toArray h n0 (RI fun r h' => h' = h ∧ P r)) (hd : decode bc pc = .ok (.invokestatic i, 3)) (pc' : Nat) (hp : pc + 3 = pc') (Wd : Nat) (hfr : rm.frames + 1 ≤ R.frames) (hlo : Wd + (yml + 11) + rm.locals ≤ R.locals) (hlen : ∀ sig, parseMethodDescriptor y.desc = some sig → av.length = sig.parameters.length) (hst : sk = av.reverse ++ st) (hW : (st.map fun v => v.category).sum ≤ Wd) (hsz : ls.size = ml) (hc : cells + rm.cells ≤ R.cells) (hs : slots + rm.slots ≤ R.slots) (k : ∀ (r : Int32) (T' : State), Sd p l e R s m args below meth c n0 T' h (cells + rm.cells) (slots + rm.slots) → P r → G (T'.setTop (mkF m pc' ls (.int r :: st)))) : G (T.setTop (mkF m pc ls sk)) := by
  refine callSI w X av w1 w2 w3 w4 hy hM hd pc' hp Wd hfr hlo hlen hst hW hsz hc hs (fun r T' h' Y hq => ?_)
  obtain ⟨q, hr⟩ := hq
  subst q
  exact k r T' Y hr
theorem callSJ (w : Wk p l e R s m args below meth c n0 Z own nm bc ml rt Q G) (X : Sd p l e R s m args below meth c n0 T h cells slots) {y : MethodName} {ybc : ByteArray} {yml : Nat} {yrt : Option FieldType} {rm : Room} {i : Nat} {sk : List Value} {P : Int64 → Heap → Prop}  (av : List Value) (w1 : (Cond.methodLink own i y).before a0 Z = true) (w2 : (Cond.static y).before a0 Z = true) (w3 : (Cond.initialized y.cls).before a0 Z = true) (w4 : (Cond.code y ybc yml yrt).before a0 Z = true) (hy : y.cls ≠ "java/lang/invoke/MethodHandle" ∧ y.cls ≠ "java/lang/invoke/VarHandle") (hM : Met l Z y ybc yml yrt [] rm av.toArray h n0 (RJ P)) (hd : decode bc pc = .ok (.invokestatic i, 3)) (pc' : Nat) (hp : pc + 3 = pc') (Wd : Nat) (hfr : rm.frames + 1 ≤ R.frames) (hlo : Wd + (yml + 11) + rm.locals ≤ R.locals) (hlen : ∀ sig, parseMethodDescriptor y.desc = some sig → av.length = sig.parameters.length) (hst : sk = av.reverse ++ st) (hW : (st.map fun v => v.category).sum ≤ Wd) (hsz : ls.size = ml) (hc : cells + rm.cells ≤ R.cells) (hs : slots + rm.slots ≤ R.slots) (k : ∀ (r : Int64) (T' : State) (h' : Heap), Sd p l e R s m args below meth c n0 T' h' (cells + rm.cells) (slots + rm.slots) → P r h' → G (T'.setTop (mkF m pc' ls (.long r :: st)))) : G (T.setTop (mkF m pc ls sk)) := by
  refine callS w X av w1 w2 w3 w4 hy hM hd pc' hp Wd hfr hlo hlen hst hW hsz hc hs (fun v T' h' Y hq => ?_)
  obtain ⟨r, rfl, hr⟩ := hq
  exact k r T' h' Y hr
theorem callSPJ (w : Wk p l e R s m args below meth c n0 Z own nm bc ml rt Q G) (X : Sd p l e R s m args below meth c n0 T h cells slots) {y : MethodName} {ybc : ByteArray} {yml : Nat} {yrt : Option FieldType} {rm : Room} {i : Nat} {sk : List Value} {P : Int64 → Prop}  (av : List Value) (w1 : (Cond.methodLink own i y).before a0 Z = true) (w2 : (Cond.static y).before a0 Z = true) (w3 : (Cond.initialized y.cls).before a0 Z = true) (w4 : (Cond.code y ybc yml yrt).before a0 Z = true) (hy : y.cls ≠ "java/lang/invoke/MethodHandle" ∧ y.cls ≠ "java/lang/invoke/VarHandle") (hM : Met l Z y ybc yml yrt [] rm av.toArray h n0 (RJ fun r h' => h' = h ∧ P r)) (hd : decode bc pc = .ok (.invokestatic i, 3)) (pc' : Nat) (hp : pc + 3 = pc') (Wd : Nat) (hfr : rm.frames + 1 ≤ R.frames) (hlo : Wd + (yml + 11) + rm.locals ≤ R.locals) (hlen : ∀ sig, parseMethodDescriptor y.desc = some sig → av.length = sig.parameters.length) (hst : sk = av.reverse ++ st) (hW : (st.map fun v => v.category).sum ≤ Wd) (hsz : ls.size = ml) (hc : cells + rm.cells ≤ R.cells) (hs : slots + rm.slots ≤ R.slots) (k : ∀ (r : Int64) (T' : State), Sd p l e R s m args below meth c n0 T' h (cells + rm.cells) (slots + rm.slots) → P r → G (T'.setTop (mkF m pc' ls (.long r :: st)))) : G (T.setTop (mkF m pc ls sk)) := by
  refine callSJ w X av w1 w2 w3 w4 hy hM hd pc' hp Wd hfr hlo hlen hst hW hsz hc hs (fun r T' h' Y hq => ?_)
  obtain ⟨q, hr⟩ := hq
  subst q
  exact k r T' Y hr
theorem callSR (w : Wk p l e R s m args below meth c n0 Z own nm bc ml rt Q G) (X : Sd p l e R s m args below meth c n0 T h cells slots) {y : MethodName} {ybc : ByteArray} {yml : Nat} {yrt : Option FieldType} {rm : Room} {i : Nat} {sk : List Value} {P : Value → Heap → Prop}  (av : List Value) (w1 : (Cond.methodLink own i y).before a0 Z = true) (w2 : (Cond.static y).before a0 Z = true) (w3 : (Cond.initialized y.cls).before a0 Z = true) (w4 : (Cond.code y ybc yml yrt).before a0 Z = true) (hy : y.cls ≠ "java/lang/invoke/MethodHandle" ∧ y.cls ≠ "java/lang/invoke/VarHandle") (hM : Met l Z y ybc yml yrt [] rm av.toArray h n0 (RR P)) (hd : decode bc pc = .ok (.invokestatic i, 3)) (pc' : Nat) (hp : pc + 3 = pc') (Wd : Nat) (hfr : rm.frames + 1 ≤ R.frames) (hlo : Wd + (yml + 11) + rm.locals ≤ R.locals) (hlen : ∀ sig, parseMethodDescriptor y.desc = some sig → av.length = sig.parameters.length) (hst : sk = av.reverse ++ st) (hW : (st.map fun v => v.category).sum ≤ Wd) (hsz : ls.size = ml) (hc : cells + rm.cells ≤ R.cells) (hs : slots + rm.slots ≤ R.slots) (k : ∀ (r : Value) (T' : State) (h' : Heap), Sd p l e R s m args below meth c n0 T' h' (cells + rm.cells) (slots + rm.slots) → P r h' → G (T'.setTop (mkF m pc' ls (r :: st)))) : G (T.setTop (mkF m pc ls sk)) := by
  refine callS w X av w1 w2 w3 w4 hy hM hd pc' hp Wd hfr hlo hlen hst hW hsz hc hs (fun v T' h' Y hq => ?_)
  obtain ⟨r, rfl, hr⟩ := hq
  exact k r T' h' Y hr
theorem callSPR (w : Wk p l e R s m args below meth c n0 Z own nm bc ml rt Q G) (X : Sd p l e R s m args below meth c n0 T h cells slots) {y : MethodName} {ybc : ByteArray} {yml : Nat} {yrt : Option FieldType} {rm : Room} {i : Nat} {sk : List Value} {P : Value → Prop}  (av : List Value) (w1 : (Cond.methodLink own i y).before a0 Z = true) (w2 : (Cond.static y).before a0 Z = true) (w3 : (Cond.initialized y.cls).before a0 Z = true) (w4 : (Cond.code y ybc yml yrt).before a0 Z = true) (hy : y.cls ≠ "java/lang/invoke/MethodHandle" ∧ y.cls ≠ "java/lang/invoke/VarHandle") (hM : Met l Z y ybc yml yrt [] rm av.toArray h n0 (RR fun r h' => h' = h ∧ P r)) (hd : decode bc pc = .ok (.invokestatic i, 3)) (pc' : Nat) (hp : pc + 3 = pc') (Wd : Nat) (hfr : rm.frames + 1 ≤ R.frames) (hlo : Wd + (yml + 11) + rm.locals ≤ R.locals) (hlen : ∀ sig, parseMethodDescriptor y.desc = some sig → av.length = sig.parameters.length) (hst : sk = av.reverse ++ st) (hW : (st.map fun v => v.category).sum ≤ Wd) (hsz : ls.size = ml) (hc : cells + rm.cells ≤ R.cells) (hs : slots + rm.slots ≤ R.slots) (k : ∀ (r : Value) (T' : State), Sd p l e R s m args below meth c n0 T' h (cells + rm.cells) (slots + rm.slots) → P r → G (T'.setTop (mkF m pc' ls (r :: st)))) : G (T.setTop (mkF m pc ls sk)) := by
  refine callSR w X av w1 w2 w3 w4 hy hM hd pc' hp Wd hfr hlo hlen hst hW hsz hc hs (fun r T' h' Y hq => ?_)
  obtain ⟨q, hr⟩ := hq
  subst q
  exact k r T' Y hr
theorem callSV (w : Wk p l e R s m args below meth c n0 Z own nm bc ml rt Q G) (X : Sd p l e R s m args below meth c n0 T h cells slots) {y : MethodName} {ybc : ByteArray} {yml : Nat} {yrt : Option FieldType} {rm : Room} {i : Nat} {sk : List Value} {P : Heap → Prop}  (av : List Value) (w1 : (Cond.methodLink own i y).before a0 Z = true) (w2 : (Cond.static y).before a0 Z = true) (w3 : (Cond.initialized y.cls).before a0 Z = true) (w4 : (Cond.code y ybc yml yrt).before a0 Z = true) (hy : y.cls ≠ "java/lang/invoke/MethodHandle" ∧ y.cls ≠ "java/lang/invoke/VarHandle") (hM : Met l Z y ybc yml yrt [] rm av.toArray h n0 (RV P)) (hd : decode bc pc = .ok (.invokestatic i, 3)) (pc' : Nat) (hp : pc + 3 = pc') (Wd : Nat) (hfr : rm.frames + 1 ≤ R.frames) (hlo : Wd + (yml + 11) + rm.locals ≤ R.locals) (hlen : ∀ sig, parseMethodDescriptor y.desc = some sig → av.length = sig.parameters.length) (hst : sk = av.reverse ++ st) (hW : (st.map fun v => v.category).sum ≤ Wd) (hsz : ls.size = ml) (hc : cells + rm.cells ≤ R.cells) (hs : slots + rm.slots ≤ R.slots) (k : ∀  (T' : State) (h' : Heap), Sd p l e R s m args below meth c n0 T' h' (cells + rm.cells) (slots + rm.slots) → P h' → G (T'.setTop (mkF m pc' ls (st)))) : G (T.setTop (mkF m pc ls sk)) := by
  refine callS w X av w1 w2 w3 w4 hy hM hd pc' hp Wd hfr hlo hlen hst hW hsz hc hs (fun v T' h' Y hq => ?_)
  obtain ⟨rfl, hr⟩ := hq
  exact k T' h' Y hr
theorem callSPV (w : Wk p l e R s m args below meth c n0 Z own nm bc ml rt Q G) (X : Sd p l e R s m args below meth c n0 T h cells slots) {y : MethodName} {ybc : ByteArray} {yml : Nat} {yrt : Option FieldType} {rm : Room} {i : Nat} {sk : List Value}  (av : List Value) (w1 : (Cond.methodLink own i y).before a0 Z = true) (w2 : (Cond.static y).before a0 Z = true) (w3 : (Cond.initialized y.cls).before a0 Z = true) (w4 : (Cond.code y ybc yml yrt).before a0 Z = true) (hy : y.cls ≠ "java/lang/invoke/MethodHandle" ∧ y.cls ≠ "java/lang/invoke/VarHandle") (hM : Met l Z y ybc yml yrt [] rm av.toArray h n0 (RV fun h' => h' = h)) (hd : decode bc pc = .ok (.invokestatic i, 3)) (pc' : Nat) (hp : pc + 3 = pc') (Wd : Nat) (hfr : rm.frames + 1 ≤ R.frames) (hlo : Wd + (yml + 11) + rm.locals ≤ R.locals) (hlen : ∀ sig, parseMethodDescriptor y.desc = some sig → av.length = sig.parameters.length) (hst : sk = av.reverse ++ st) (hW : (st.map fun v => v.category).sum ≤ Wd) (hsz : ls.size = ml) (hc : cells + rm.cells ≤ R.cells) (hs : slots + rm.slots ≤ R.slots) (k : ∀ (T' : State), Sd p l e R s m args below meth c n0 T' h (cells + rm.cells) (slots + rm.slots) → G (T'.setTop (mkF m pc' ls st))) : G (T.setTop (mkF m pc ls sk)) := by
  refine callSV w X av w1 w2 w3 w4 hy hM hd pc' hp Wd hfr hlo hlen hst hW hsz hc hs (fun T' h' Y hq => ?_)
  subst hq
  exact k T' Y
theorem callNV (w : Wk p l e R s m args below meth c n0 Z own nm bc ml rt Q G) (X : Sd p l e R s m args below meth c n0 T h cells slots) {y : MethodName} {ybc : ByteArray} {yml : Nat} {rm : Room} {i : Nat} {sk : List Value} {P : Heap → Prop} {a : Addr} (av : List Value) (w1 : (Cond.methodLink own i y).before a0 Z = true) (w2 : (Cond.instanceMethod y).before a0 Z = true) (w3 : (Cond.initialized y.cls).before a0 Z = true) (w4 : (Cond.code y ybc yml none).before a0 Z = true) (hi : y.name = "<init>") (hy : y.cls ≠ "java/lang/invoke/MethodHandle" ∧ y.cls ≠ "java/lang/invoke/VarHandle") (hM : Met l Z y ybc yml none [] rm (.ref a :: av).toArray h n0 (RV P)) (hd : decode bc pc = .ok (.invokespecial i, 3)) (pc' : Nat) (hp : pc + 3 = pc') (Wd : Nat) (hfr : rm.frames + 1 ≤ R.frames) (hlo : Wd + (yml + 11) + rm.locals ≤ R.locals) (hlen : ∀ sig, parseMethodDescriptor y.desc = some sig → av.length = sig.parameters.length) (hst : sk = av.reverse ++ .ref a :: st) (hW : (st.map fun v => v.category).sum ≤ Wd) (hsz : ls.size = ml) (hc : cells + rm.cells ≤ R.cells) (hs : slots + rm.slots ≤ R.slots) (k : ∀  (T' : State) (h' : Heap), Sd p l e R s m args below meth c n0 T' h' (cells + rm.cells) (slots + rm.slots) → P h' → G (T'.setTop (mkF m pc' ls (st)))) : G (T.setTop (mkF m pc ls sk)) := by
  refine callN w X av w1 w2 w3 w4 hi hy hM hd pc' hp Wd hfr hlo hlen hst hW hsz hc hs (fun v T' h' Y hq => ?_)
  obtain ⟨rfl, hr⟩ := hq
  exact k T' h' Y hr
theorem callNPV (w : Wk p l e R s m args below meth c n0 Z own nm bc ml rt Q G) (X : Sd p l e R s m args below meth c n0 T h cells slots) {y : MethodName} {ybc : ByteArray} {yml : Nat} {rm : Room} {i : Nat} {sk : List Value} {a : Addr} (av : List Value) (w1 : (Cond.methodLink own i y).before a0 Z = true) (w2 : (Cond.instanceMethod y).before a0 Z = true) (w3 : (Cond.initialized y.cls).before a0 Z = true) (w4 : (Cond.code y ybc yml none).before a0 Z = true) (hi : y.name = "<init>") (hy : y.cls ≠ "java/lang/invoke/MethodHandle" ∧ y.cls ≠ "java/lang/invoke/VarHandle") (hM : Met l Z y ybc yml none [] rm (.ref a :: av).toArray h n0 (RV fun h' => h' = h)) (hd : decode bc pc = .ok (.invokespecial i, 3)) (pc' : Nat) (hp : pc + 3 = pc') (Wd : Nat) (hfr : rm.frames + 1 ≤ R.frames) (hlo : Wd + (yml + 11) + rm.locals ≤ R.locals) (hlen : ∀ sig, parseMethodDescriptor y.desc = some sig → av.length = sig.parameters.length) (hst : sk = av.reverse ++ .ref a :: st) (hW : (st.map fun v => v.category).sum ≤ Wd) (hsz : ls.size = ml) (hc : cells + rm.cells ≤ R.cells) (hs : slots + rm.slots ≤ R.slots) (k : ∀ (T' : State), Sd p l e R s m args below meth c n0 T' h (cells + rm.cells) (slots + rm.slots) → G (T'.setTop (mkF m pc' ls st))) : G (T.setTop (mkF m pc ls sk)) := by
  refine callNV w X av w1 w2 w3 w4 hi hy hM hd pc' hp Wd hfr hlo hlen hst hW hsz hc hs (fun T' h' Y hq => ?_)
  subst hq
  exact k T' Y
theorem callVI (w : Wk p l e R s m args below meth c n0 Z own nm bc ml rt Q G) (X : Sd p l e R s m args below meth c n0 T h cells slots) {y z : MethodName} {ybc : ByteArray} {yml : Nat} {yrt : Option FieldType} {rm : Room} {i : Nat} {sk : List Value} {P : Int32 → Heap → Prop} {a : Addr} {C : String} (av : List Value) (w1 : (Cond.methodLink own i y).before a0 Z = true) (w2 : (Cond.declares y).before a0 Z = true) (hnf : NotFace s y) (w5 : (Cond.selects C y z).before a0 Z = true) (w6 : (Cond.instanceMethod z).before a0 Z = true) (w3 : (Cond.initialized z.cls).before a0 Z = true) (w4 : (Cond.code z ybc yml yrt).before a0 Z = true) (hy : y.cls ≠ "java/lang/invoke/MethodHandle" ∧ y.cls ≠ "java/lang/invoke/VarHandle") (E : Exa Z h a C) (hM : Met l Z z ybc yml yrt [] rm (.ref a :: av).toArray h n0 (RI P)) (hd : decode bc pc = .ok (.invokevirtual i, 3)) (pc' : Nat) (hp : pc + 3 = pc') (Wd : Nat) (hfr : rm.frames + 1 ≤ R.frames) (hlo : Wd + (yml + 11) + rm.locals ≤ R.locals) (hlen : ∀ sig, parseMethodDescriptor y.desc = some sig → av.length = sig.parameters.length) (hst : sk = av.reverse ++ .ref a :: st) (hW : (st.map fun v => v.category).sum ≤ Wd) (hsz : ls.size = ml) (hc : cells + rm.cells ≤ R.cells) (hs : slots + rm.slots ≤ R.slots) (k : ∀ (r : Int32) (T' : State) (h' : Heap), Sd p l e R s m args below meth c n0 T' h' (cells + rm.cells) (slots + rm.slots) → P r h' → G (T'.setTop (mkF m pc' ls (.int r :: st)))) : G (T.setTop (mkF m pc ls sk)) := by
  refine callV w X av w1 w2 hnf w5 w6 w3 w4 hy E hM hd pc' hp Wd hfr hlo hlen hst hW hsz hc hs (fun v T' h' Y hq => ?_)
  obtain ⟨r, rfl, hr⟩ := hq
  exact k r T' h' Y hr
theorem callVPI (w : Wk p l e R s m args below meth c n0 Z own nm bc ml rt Q G) (X : Sd p l e R s m args below meth c n0 T h cells slots) {y z : MethodName} {ybc : ByteArray} {yml : Nat} {yrt : Option FieldType} {rm : Room} {i : Nat} {sk : List Value} {P : Int32 → Prop} {a : Addr} {C : String} (av : List Value) (w1 : (Cond.methodLink own i y).before a0 Z = true) (w2 : (Cond.declares y).before a0 Z = true) (hnf : NotFace s y) (w5 : (Cond.selects C y z).before a0 Z = true) (w6 : (Cond.instanceMethod z).before a0 Z = true) (w3 : (Cond.initialized z.cls).before a0 Z = true) (w4 : (Cond.code z ybc yml yrt).before a0 Z = true) (hy : y.cls ≠ "java/lang/invoke/MethodHandle" ∧ y.cls ≠ "java/lang/invoke/VarHandle") (E : Exa Z h a C) (hM : Met l Z z ybc yml yrt [] rm (.ref a :: av).toArray h n0 (RI fun r h' => h' = h ∧ P r)) (hd : decode bc pc = .ok (.invokevirtual i, 3)) (pc' : Nat) (hp : pc + 3 = pc') (Wd : Nat) (hfr : rm.frames + 1 ≤ R.frames) (hlo : Wd + (yml + 11) + rm.locals ≤ R.locals) (hlen : ∀ sig, parseMethodDescriptor y.desc = some sig → av.length = sig.parameters.length) (hst : sk = av.reverse ++ .ref a :: st) (hW : (st.map fun v => v.category).sum ≤ Wd) (hsz : ls.size = ml) (hc : cells + rm.cells ≤ R.cells) (hs : slots + rm.slots ≤ R.slots) (k : ∀ (r : Int32) (T' : State), Sd p l e R s m args below meth c n0 T' h (cells + rm.cells) (slots + rm.slots) → P r → G (T'.setTop (mkF m pc' ls (.int r :: st)))) : G (T.setTop (mkF m pc ls sk)) := by
  refine callVI w X av w1 w2 hnf w5 w6 w3 w4 hy E hM hd pc' hp Wd hfr hlo hlen hst hW hsz hc hs (fun r T' h' Y hq => ?_)
  obtain ⟨q, hr⟩ := hq
  subst q
  exact k r T' Y hr
theorem callVJ (w : Wk p l e R s m args below meth c n0 Z own nm bc ml rt Q G) (X : Sd p l e R s m args below meth c n0 T h cells slots) {y z : MethodName} {ybc : ByteArray} {yml : Nat} {yrt : Option FieldType} {rm : Room} {i : Nat} {sk : List Value} {P : Int64 → Heap → Prop} {a : Addr} {C : String} (av : List Value) (w1 : (Cond.methodLink own i y).before a0 Z = true) (w2 : (Cond.declares y).before a0 Z = true) (hnf : NotFace s y) (w5 : (Cond.selects C y z).before a0 Z = true) (w6 : (Cond.instanceMethod z).before a0 Z = true) (w3 : (Cond.initialized z.cls).before a0 Z = true) (w4 : (Cond.code z ybc yml yrt).before a0 Z = true) (hy : y.cls ≠ "java/lang/invoke/MethodHandle" ∧ y.cls ≠ "java/lang/invoke/VarHandle") (E : Exa Z h a C) (hM : Met l Z z ybc yml yrt [] rm (.ref a :: av).toArray h n0 (RJ P)) (hd : decode bc pc = .ok (.invokevirtual i, 3)) (pc' : Nat) (hp : pc + 3 = pc') (Wd : Nat) (hfr : rm.frames + 1 ≤ R.frames) (hlo : Wd + (yml + 11) + rm.locals ≤ R.locals) (hlen : ∀ sig, parseMethodDescriptor y.desc = some sig → av.length = sig.parameters.length) (hst : sk = av.reverse ++ .ref a :: st) (hW : (st.map fun v => v.category).sum ≤ Wd) (hsz : ls.size = ml) (hc : cells + rm.cells ≤ R.cells) (hs : slots + rm.slots ≤ R.slots) (k : ∀ (r : Int64) (T' : State) (h' : Heap), Sd p l e R s m args below meth c n0 T' h' (cells + rm.cells) (slots + rm.slots) → P r h' → G (T'.setTop (mkF m pc' ls (.long r :: st)))) : G (T.setTop (mkF m pc ls sk)) := by
  refine callV w X av w1 w2 hnf w5 w6 w3 w4 hy E hM hd pc' hp Wd hfr hlo hlen hst hW hsz hc hs (fun v T' h' Y hq => ?_)
  obtain ⟨r, rfl, hr⟩ := hq
  exact k r T' h' Y hr
theorem callVPJ (w : Wk p l e R s m args below meth c n0 Z own nm bc ml rt Q G) (X : Sd p l e R s m args below meth c n0 T h cells slots) {y z : MethodName} {ybc : ByteArray} {yml : Nat} {yrt : Option FieldType} {rm : Room} {i : Nat} {sk : List Value} {P : Int64 → Prop} {a : Addr} {C : String} (av : List Value) (w1 : (Cond.methodLink own i y).before a0 Z = true) (w2 : (Cond.declares y).before a0 Z = true) (hnf : NotFace s y) (w5 : (Cond.selects C y z).before a0 Z = true) (w6 : (Cond.instanceMethod z).before a0 Z = true) (w3 : (Cond.initialized z.cls).before a0 Z = true) (w4 : (Cond.code z ybc yml yrt).before a0 Z = true) (hy : y.cls ≠ "java/lang/invoke/MethodHandle" ∧ y.cls ≠ "java/lang/invoke/VarHandle") (E : Exa Z h a C) (hM : Met l Z z ybc yml yrt [] rm (.ref a :: av).toArray h n0 (RJ fun r h' => h' = h ∧ P r)) (hd : decode bc pc = .ok (.invokevirtual i, 3)) (pc' : Nat) (hp : pc + 3 = pc') (Wd : Nat) (hfr : rm.frames + 1 ≤ R.frames) (hlo : Wd + (yml + 11) + rm.locals ≤ R.locals) (hlen : ∀ sig, parseMethodDescriptor y.desc = some sig → av.length = sig.parameters.length) (hst : sk = av.reverse ++ .ref a :: st) (hW : (st.map fun v => v.category).sum ≤ Wd) (hsz : ls.size = ml) (hc : cells + rm.cells ≤ R.cells) (hs : slots + rm.slots ≤ R.slots) (k : ∀ (r : Int64) (T' : State), Sd p l e R s m args below meth c n0 T' h (cells + rm.cells) (slots + rm.slots) → P r → G (T'.setTop (mkF m pc' ls (.long r :: st)))) : G (T.setTop (mkF m pc ls sk)) := by
  refine callVJ w X av w1 w2 hnf w5 w6 w3 w4 hy E hM hd pc' hp Wd hfr hlo hlen hst hW hsz hc hs (fun r T' h' Y hq => ?_)
  obtain ⟨q, hr⟩ := hq
  subst q
  exact k r T' Y hr
theorem callVR (w : Wk p l e R s m args below meth c n0 Z own nm bc ml rt Q G) (X : Sd p l e R s m args below meth c n0 T h cells slots) {y z : MethodName} {ybc : ByteArray} {yml : Nat} {yrt : Option FieldType} {rm : Room} {i : Nat} {sk : List Value} {P : Value → Heap → Prop} {a : Addr} {C : String} (av : List Value) (w1 : (Cond.methodLink own i y).before a0 Z = true) (w2 : (Cond.declares y).before a0 Z = true) (hnf : NotFace s y) (w5 : (Cond.selects C y z).before a0 Z = true) (w6 : (Cond.instanceMethod z).before a0 Z = true) (w3 : (Cond.initialized z.cls).before a0 Z = true) (w4 : (Cond.code z ybc yml yrt).before a0 Z = true) (hy : y.cls ≠ "java/lang/invoke/MethodHandle" ∧ y.cls ≠ "java/lang/invoke/VarHandle") (E : Exa Z h a C) (hM : Met l Z z ybc yml yrt [] rm (.ref a :: av).toArray h n0 (RR P)) (hd : decode bc pc = .ok (.invokevirtual i, 3)) (pc' : Nat) (hp : pc + 3 = pc') (Wd : Nat) (hfr : rm.frames + 1 ≤ R.frames) (hlo : Wd + (yml + 11) + rm.locals ≤ R.locals) (hlen : ∀ sig, parseMethodDescriptor y.desc = some sig → av.length = sig.parameters.length) (hst : sk = av.reverse ++ .ref a :: st) (hW : (st.map fun v => v.category).sum ≤ Wd) (hsz : ls.size = ml) (hc : cells + rm.cells ≤ R.cells) (hs : slots + rm.slots ≤ R.slots) (k : ∀ (r : Value) (T' : State) (h' : Heap), Sd p l e R s m args below meth c n0 T' h' (cells + rm.cells) (slots + rm.slots) → P r h' → G (T'.setTop (mkF m pc' ls (r :: st)))) : G (T.setTop (mkF m pc ls sk)) := by
  refine callV w X av w1 w2 hnf w5 w6 w3 w4 hy E hM hd pc' hp Wd hfr hlo hlen hst hW hsz hc hs (fun v T' h' Y hq => ?_)
  obtain ⟨r, rfl, hr⟩ := hq
  exact k r T' h' Y hr
theorem callVPR (w : Wk p l e R s m args below meth c n0 Z own nm bc ml rt Q G) (X : Sd p l e R s m args below meth c n0 T h cells slots) {y z : MethodName} {ybc : ByteArray} {yml : Nat} {yrt : Option FieldType} {rm : Room} {i : Nat} {sk : List Value} {P : Value → Prop} {a : Addr} {C : String} (av : List Value) (w1 : (Cond.methodLink own i y).before a0 Z = true) (w2 : (Cond.declares y).before a0 Z = true) (hnf : NotFace s y) (w5 : (Cond.selects C y z).before a0 Z = true) (w6 : (Cond.instanceMethod z).before a0 Z = true) (w3 : (Cond.initialized z.cls).before a0 Z = true) (w4 : (Cond.code z ybc yml yrt).before a0 Z = true) (hy : y.cls ≠ "java/lang/invoke/MethodHandle" ∧ y.cls ≠ "java/lang/invoke/VarHandle") (E : Exa Z h a C) (hM : Met l Z z ybc yml yrt [] rm (.ref a :: av).toArray h n0 (RR fun r h' => h' = h ∧ P r)) (hd : decode bc pc = .ok (.invokevirtual i, 3)) (pc' : Nat) (hp : pc + 3 = pc') (Wd : Nat) (hfr : rm.frames + 1 ≤ R.frames) (hlo : Wd + (yml + 11) + rm.locals ≤ R.locals) (hlen : ∀ sig, parseMethodDescriptor y.desc = some sig → av.length = sig.parameters.length) (hst : sk = av.reverse ++ .ref a :: st) (hW : (st.map fun v => v.category).sum ≤ Wd) (hsz : ls.size = ml) (hc : cells + rm.cells ≤ R.cells) (hs : slots + rm.slots ≤ R.slots) (k : ∀ (r : Value) (T' : State), Sd p l e R s m args below meth c n0 T' h (cells + rm.cells) (slots + rm.slots) → P r → G (T'.setTop (mkF m pc' ls (r :: st)))) : G (T.setTop (mkF m pc ls sk)) := by
  refine callVR w X av w1 w2 hnf w5 w6 w3 w4 hy E hM hd pc' hp Wd hfr hlo hlen hst hW hsz hc hs (fun r T' h' Y hq => ?_)
  obtain ⟨q, hr⟩ := hq
  subst q
  exact k r T' Y hr
theorem callVV (w : Wk p l e R s m args below meth c n0 Z own nm bc ml rt Q G) (X : Sd p l e R s m args below meth c n0 T h cells slots) {y z : MethodName} {ybc : ByteArray} {yml : Nat} {yrt : Option FieldType} {rm : Room} {i : Nat} {sk : List Value} {P : Heap → Prop} {a : Addr} {C : String} (av : List Value) (w1 : (Cond.methodLink own i y).before a0 Z = true) (w2 : (Cond.declares y).before a0 Z = true) (hnf : NotFace s y) (w5 : (Cond.selects C y z).before a0 Z = true) (w6 : (Cond.instanceMethod z).before a0 Z = true) (w3 : (Cond.initialized z.cls).before a0 Z = true) (w4 : (Cond.code z ybc yml yrt).before a0 Z = true) (hy : y.cls ≠ "java/lang/invoke/MethodHandle" ∧ y.cls ≠ "java/lang/invoke/VarHandle") (E : Exa Z h a C) (hM : Met l Z z ybc yml yrt [] rm (.ref a :: av).toArray h n0 (RV P)) (hd : decode bc pc = .ok (.invokevirtual i, 3)) (pc' : Nat) (hp : pc + 3 = pc') (Wd : Nat) (hfr : rm.frames + 1 ≤ R.frames) (hlo : Wd + (yml + 11) + rm.locals ≤ R.locals) (hlen : ∀ sig, parseMethodDescriptor y.desc = some sig → av.length = sig.parameters.length) (hst : sk = av.reverse ++ .ref a :: st) (hW : (st.map fun v => v.category).sum ≤ Wd) (hsz : ls.size = ml) (hc : cells + rm.cells ≤ R.cells) (hs : slots + rm.slots ≤ R.slots) (k : ∀  (T' : State) (h' : Heap), Sd p l e R s m args below meth c n0 T' h' (cells + rm.cells) (slots + rm.slots) → P h' → G (T'.setTop (mkF m pc' ls (st)))) : G (T.setTop (mkF m pc ls sk)) := by
  refine callV w X av w1 w2 hnf w5 w6 w3 w4 hy E hM hd pc' hp Wd hfr hlo hlen hst hW hsz hc hs (fun v T' h' Y hq => ?_)
  obtain ⟨rfl, hr⟩ := hq
  exact k T' h' Y hr
theorem callVPV (w : Wk p l e R s m args below meth c n0 Z own nm bc ml rt Q G) (X : Sd p l e R s m args below meth c n0 T h cells slots) {y z : MethodName} {ybc : ByteArray} {yml : Nat} {yrt : Option FieldType} {rm : Room} {i : Nat} {sk : List Value} {a : Addr} {C : String} (av : List Value) (w1 : (Cond.methodLink own i y).before a0 Z = true) (w2 : (Cond.declares y).before a0 Z = true) (hnf : NotFace s y) (w5 : (Cond.selects C y z).before a0 Z = true) (w6 : (Cond.instanceMethod z).before a0 Z = true) (w3 : (Cond.initialized z.cls).before a0 Z = true) (w4 : (Cond.code z ybc yml yrt).before a0 Z = true) (hy : y.cls ≠ "java/lang/invoke/MethodHandle" ∧ y.cls ≠ "java/lang/invoke/VarHandle") (E : Exa Z h a C) (hM : Met l Z z ybc yml yrt [] rm (.ref a :: av).toArray h n0 (RV fun h' => h' = h)) (hd : decode bc pc = .ok (.invokevirtual i, 3)) (pc' : Nat) (hp : pc + 3 = pc') (Wd : Nat) (hfr : rm.frames + 1 ≤ R.frames) (hlo : Wd + (yml + 11) + rm.locals ≤ R.locals) (hlen : ∀ sig, parseMethodDescriptor y.desc = some sig → av.length = sig.parameters.length) (hst : sk = av.reverse ++ .ref a :: st) (hW : (st.map fun v => v.category).sum ≤ Wd) (hsz : ls.size = ml) (hc : cells + rm.cells ≤ R.cells) (hs : slots + rm.slots ≤ R.slots) (k : ∀ (T' : State), Sd p l e R s m args below meth c n0 T' h (cells + rm.cells) (slots + rm.slots) → G (T'.setTop (mkF m pc' ls st))) : G (T.setTop (mkF m pc ls sk)) := by
  refine callVV w X av w1 w2 hnf w5 w6 w3 w4 hy E hM hd pc' hp Wd hfr hlo hlen hst hW hsz hc hs (fun T' h' Y hq => ?_)
  subst hq
  exact k T' Y
theorem callPI (w : Wk p l e R s m args below meth c n0 Z own nm bc ml rt Q G) (X : Sd p l e R s m args below meth c n0 T h cells slots) {y : MethodName} {ybc : ByteArray} {yml : Nat} {yrt : Option FieldType} {rm : Room} {i : Nat} {sk : List Value} {P : Int32 → Heap → Prop} {a : Addr} {C : String} (av : List Value) (w1 : (Cond.methodLink own i y).before a0 Z = true) (w6 : (Cond.instanceMethod y).before a0 Z = true) (hnf : NotFace s y) (w7 : (Cond.privateMethod y).before a0 Z = true) (w3 : (Cond.initialized y.cls).before a0 Z = true) (w4 : (Cond.code y ybc yml yrt).before a0 Z = true) (hy : y.cls ≠ "java/lang/invoke/MethodHandle" ∧ y.cls ≠ "java/lang/invoke/VarHandle") (E : Exa Z h a C) (hM : Met l Z y ybc yml yrt [] rm (.ref a :: av).toArray h n0 (RI P)) (hd : decode bc pc = .ok (.invokevirtual i, 3)) (pc' : Nat) (hp : pc + 3 = pc') (Wd : Nat) (hfr : rm.frames + 1 ≤ R.frames) (hlo : Wd + (yml + 11) + rm.locals ≤ R.locals) (hlen : ∀ sig, parseMethodDescriptor y.desc = some sig → av.length = sig.parameters.length) (hst : sk = av.reverse ++ .ref a :: st) (hW : (st.map fun v => v.category).sum ≤ Wd) (hsz : ls.size = ml) (hc : cells + rm.cells ≤ R.cells) (hs : slots + rm.slots ≤ R.slots) (k : ∀ (r : Int32) (T' : State) (h' : Heap), Sd p l e R s m args below meth c n0 T' h' (cells + rm.cells) (slots + rm.slots) → P r h' → G (T'.setTop (mkF m pc' ls (.int r :: st)))) : G (T.setTop (mkF m pc ls sk)) := by
  refine callP w X av w1 w6 hnf w7 w3 w4 hy E hM hd pc' hp Wd hfr hlo hlen hst hW hsz hc hs (fun v T' h' Y hq => ?_)
  obtain ⟨r, rfl, hr⟩ := hq
  exact k r T' h' Y hr
theorem callPPI (w : Wk p l e R s m args below meth c n0 Z own nm bc ml rt Q G) (X : Sd p l e R s m args below meth c n0 T h cells slots) {y : MethodName} {ybc : ByteArray} {yml : Nat} {yrt : Option FieldType} {rm : Room} {i : Nat} {sk : List Value} {P : Int32 → Prop} {a : Addr} {C : String} (av : List Value) (w1 : (Cond.methodLink own i y).before a0 Z = true) (w6 : (Cond.instanceMethod y).before a0 Z = true) (hnf : NotFace s y) (w7 : (Cond.privateMethod y).before a0 Z = true) (w3 : (Cond.initialized y.cls).before a0 Z = true) (w4 : (Cond.code y ybc yml yrt).before a0 Z = true) (hy : y.cls ≠ "java/lang/invoke/MethodHandle" ∧ y.cls ≠ "java/lang/invoke/VarHandle") (E : Exa Z h a C) (hM : Met l Z y ybc yml yrt [] rm (.ref a :: av).toArray h n0 (RI fun r h' => h' = h ∧ P r)) (hd : decode bc pc = .ok (.invokevirtual i, 3)) (pc' : Nat) (hp : pc + 3 = pc') (Wd : Nat) (hfr : rm.frames + 1 ≤ R.frames) (hlo : Wd + (yml + 11) + rm.locals ≤ R.locals) (hlen : ∀ sig, parseMethodDescriptor y.desc = some sig → av.length = sig.parameters.length) (hst : sk = av.reverse ++ .ref a :: st) (hW : (st.map fun v => v.category).sum ≤ Wd) (hsz : ls.size = ml) (hc : cells + rm.cells ≤ R.cells) (hs : slots + rm.slots ≤ R.slots) (k : ∀ (r : Int32) (T' : State), Sd p l e R s m args below meth c n0 T' h (cells + rm.cells) (slots + rm.slots) → P r → G (T'.setTop (mkF m pc' ls (.int r :: st)))) : G (T.setTop (mkF m pc ls sk)) := by
  refine callPI w X av w1 w6 hnf w7 w3 w4 hy E hM hd pc' hp Wd hfr hlo hlen hst hW hsz hc hs (fun r T' h' Y hq => ?_)
  obtain ⟨q, hr⟩ := hq
  subst q
  exact k r T' Y hr
theorem callPJ (w : Wk p l e R s m args below meth c n0 Z own nm bc ml rt Q G) (X : Sd p l e R s m args below meth c n0 T h cells slots) {y : MethodName} {ybc : ByteArray} {yml : Nat} {yrt : Option FieldType} {rm : Room} {i : Nat} {sk : List Value} {P : Int64 → Heap → Prop} {a : Addr} {C : String} (av : List Value) (w1 : (Cond.methodLink own i y).before a0 Z = true) (w6 : (Cond.instanceMethod y).before a0 Z = true) (hnf : NotFace s y) (w7 : (Cond.privateMethod y).before a0 Z = true) (w3 : (Cond.initialized y.cls).before a0 Z = true) (w4 : (Cond.code y ybc yml yrt).before a0 Z = true) (hy : y.cls ≠ "java/lang/invoke/MethodHandle" ∧ y.cls ≠ "java/lang/invoke/VarHandle") (E : Exa Z h a C) (hM : Met l Z y ybc yml yrt [] rm (.ref a :: av).toArray h n0 (RJ P)) (hd : decode bc pc = .ok (.invokevirtual i, 3)) (pc' : Nat) (hp : pc + 3 = pc') (Wd : Nat) (hfr : rm.frames + 1 ≤ R.frames) (hlo : Wd + (yml + 11) + rm.locals ≤ R.locals) (hlen : ∀ sig, parseMethodDescriptor y.desc = some sig → av.length = sig.parameters.length) (hst : sk = av.reverse ++ .ref a :: st) (hW : (st.map fun v => v.category).sum ≤ Wd) (hsz : ls.size = ml) (hc : cells + rm.cells ≤ R.cells) (hs : slots + rm.slots ≤ R.slots) (k : ∀ (r : Int64) (T' : State) (h' : Heap), Sd p l e R s m args below meth c n0 T' h' (cells + rm.cells) (slots + rm.slots) → P r h' → G (T'.setTop (mkF m pc' ls (.long r :: st)))) : G (T.setTop (mkF m pc ls sk)) := by
  refine callP w X av w1 w6 hnf w7 w3 w4 hy E hM hd pc' hp Wd hfr hlo hlen hst hW hsz hc hs (fun v T' h' Y hq => ?_)
  obtain ⟨r, rfl, hr⟩ := hq
  exact k r T' h' Y hr
theorem callPPJ (w : Wk p l e R s m args below meth c n0 Z own nm bc ml rt Q G) (X : Sd p l e R s m args below meth c n0 T h cells slots) {y : MethodName} {ybc : ByteArray} {yml : Nat} {yrt : Option FieldType} {rm : Room} {i : Nat} {sk : List Value} {P : Int64 → Prop} {a : Addr} {C : String} (av : List Value) (w1 : (Cond.methodLink own i y).before a0 Z = true) (w6 : (Cond.instanceMethod y).before a0 Z = true) (hnf : NotFace s y) (w7 : (Cond.privateMethod y).before a0 Z = true) (w3 : (Cond.initialized y.cls).before a0 Z = true) (w4 : (Cond.code y ybc yml yrt).before a0 Z = true) (hy : y.cls ≠ "java/lang/invoke/MethodHandle" ∧ y.cls ≠ "java/lang/invoke/VarHandle") (E : Exa Z h a C) (hM : Met l Z y ybc yml yrt [] rm (.ref a :: av).toArray h n0 (RJ fun r h' => h' = h ∧ P r)) (hd : decode bc pc = .ok (.invokevirtual i, 3)) (pc' : Nat) (hp : pc + 3 = pc') (Wd : Nat) (hfr : rm.frames + 1 ≤ R.frames) (hlo : Wd + (yml + 11) + rm.locals ≤ R.locals) (hlen : ∀ sig, parseMethodDescriptor y.desc = some sig → av.length = sig.parameters.length) (hst : sk = av.reverse ++ .ref a :: st) (hW : (st.map fun v => v.category).sum ≤ Wd) (hsz : ls.size = ml) (hc : cells + rm.cells ≤ R.cells) (hs : slots + rm.slots ≤ R.slots) (k : ∀ (r : Int64) (T' : State), Sd p l e R s m args below meth c n0 T' h (cells + rm.cells) (slots + rm.slots) → P r → G (T'.setTop (mkF m pc' ls (.long r :: st)))) : G (T.setTop (mkF m pc ls sk)) := by
  refine callPJ w X av w1 w6 hnf w7 w3 w4 hy E hM hd pc' hp Wd hfr hlo hlen hst hW hsz hc hs (fun r T' h' Y hq => ?_)
  obtain ⟨q, hr⟩ := hq
  subst q
  exact k r T' Y hr
theorem callPR (w : Wk p l e R s m args below meth c n0 Z own nm bc ml rt Q G) (X : Sd p l e R s m args below meth c n0 T h cells slots) {y : MethodName} {ybc : ByteArray} {yml : Nat} {yrt : Option FieldType} {rm : Room} {i : Nat} {sk : List Value} {P : Value → Heap → Prop} {a : Addr} {C : String} (av : List Value) (w1 : (Cond.methodLink own i y).before a0 Z = true) (w6 : (Cond.instanceMethod y).before a0 Z = true) (hnf : NotFace s y) (w7 : (Cond.privateMethod y).before a0 Z = true) (w3 : (Cond.initialized y.cls).before a0 Z = true) (w4 : (Cond.code y ybc yml yrt).before a0 Z = true) (hy : y.cls ≠ "java/lang/invoke/MethodHandle" ∧ y.cls ≠ "java/lang/invoke/VarHandle") (E : Exa Z h a C) (hM : Met l Z y ybc yml yrt [] rm (.ref a :: av).toArray h n0 (RR P)) (hd : decode bc pc = .ok (.invokevirtual i, 3)) (pc' : Nat) (hp : pc + 3 = pc') (Wd : Nat) (hfr : rm.frames + 1 ≤ R.frames) (hlo : Wd + (yml + 11) + rm.locals ≤ R.locals) (hlen : ∀ sig, parseMethodDescriptor y.desc = some sig → av.length = sig.parameters.length) (hst : sk = av.reverse ++ .ref a :: st) (hW : (st.map fun v => v.category).sum ≤ Wd) (hsz : ls.size = ml) (hc : cells + rm.cells ≤ R.cells) (hs : slots + rm.slots ≤ R.slots) (k : ∀ (r : Value) (T' : State) (h' : Heap), Sd p l e R s m args below meth c n0 T' h' (cells + rm.cells) (slots + rm.slots) → P r h' → G (T'.setTop (mkF m pc' ls (r :: st)))) : G (T.setTop (mkF m pc ls sk)) := by
  refine callP w X av w1 w6 hnf w7 w3 w4 hy E hM hd pc' hp Wd hfr hlo hlen hst hW hsz hc hs (fun v T' h' Y hq => ?_)
  obtain ⟨r, rfl, hr⟩ := hq
  exact k r T' h' Y hr
theorem callPPR (w : Wk p l e R s m args below meth c n0 Z own nm bc ml rt Q G) (X : Sd p l e R s m args below meth c n0 T h cells slots) {y : MethodName} {ybc : ByteArray} {yml : Nat} {yrt : Option FieldType} {rm : Room} {i : Nat} {sk : List Value} {P : Value → Prop} {a : Addr} {C : String} (av : List Value) (w1 : (Cond.methodLink own i y).before a0 Z = true) (w6 : (Cond.instanceMethod y).before a0 Z = true) (hnf : NotFace s y) (w7 : (Cond.privateMethod y).before a0 Z = true) (w3 : (Cond.initialized y.cls).before a0 Z = true) (w4 : (Cond.code y ybc yml yrt).before a0 Z = true) (hy : y.cls ≠ "java/lang/invoke/MethodHandle" ∧ y.cls ≠ "java/lang/invoke/VarHandle") (E : Exa Z h a C) (hM : Met l Z y ybc yml yrt [] rm (.ref a :: av).toArray h n0 (RR fun r h' => h' = h ∧ P r)) (hd : decode bc pc = .ok (.invokevirtual i, 3)) (pc' : Nat) (hp : pc + 3 = pc') (Wd : Nat) (hfr : rm.frames + 1 ≤ R.frames) (hlo : Wd + (yml + 11) + rm.locals ≤ R.locals) (hlen : ∀ sig, parseMethodDescriptor y.desc = some sig → av.length = sig.parameters.length) (hst : sk = av.reverse ++ .ref a :: st) (hW : (st.map fun v => v.category).sum ≤ Wd) (hsz : ls.size = ml) (hc : cells + rm.cells ≤ R.cells) (hs : slots + rm.slots ≤ R.slots) (k : ∀ (r : Value) (T' : State), Sd p l e R s m args below meth c n0 T' h (cells + rm.cells) (slots + rm.slots) → P r → G (T'.setTop (mkF m pc' ls (r :: st)))) : G (T.setTop (mkF m pc ls sk)) := by
  refine callPR w X av w1 w6 hnf w7 w3 w4 hy E hM hd pc' hp Wd hfr hlo hlen hst hW hsz hc hs (fun r T' h' Y hq => ?_)
  obtain ⟨q, hr⟩ := hq
  subst q
  exact k r T' Y hr
theorem callPV (w : Wk p l e R s m args below meth c n0 Z own nm bc ml rt Q G) (X : Sd p l e R s m args below meth c n0 T h cells slots) {y : MethodName} {ybc : ByteArray} {yml : Nat} {yrt : Option FieldType} {rm : Room} {i : Nat} {sk : List Value} {P : Heap → Prop} {a : Addr} {C : String} (av : List Value) (w1 : (Cond.methodLink own i y).before a0 Z = true) (w6 : (Cond.instanceMethod y).before a0 Z = true) (hnf : NotFace s y) (w7 : (Cond.privateMethod y).before a0 Z = true) (w3 : (Cond.initialized y.cls).before a0 Z = true) (w4 : (Cond.code y ybc yml yrt).before a0 Z = true) (hy : y.cls ≠ "java/lang/invoke/MethodHandle" ∧ y.cls ≠ "java/lang/invoke/VarHandle") (E : Exa Z h a C) (hM : Met l Z y ybc yml yrt [] rm (.ref a :: av).toArray h n0 (RV P)) (hd : decode bc pc = .ok (.invokevirtual i, 3)) (pc' : Nat) (hp : pc + 3 = pc') (Wd : Nat) (hfr : rm.frames + 1 ≤ R.frames) (hlo : Wd + (yml + 11) + rm.locals ≤ R.locals) (hlen : ∀ sig, parseMethodDescriptor y.desc = some sig → av.length = sig.parameters.length) (hst : sk = av.reverse ++ .ref a :: st) (hW : (st.map fun v => v.category).sum ≤ Wd) (hsz : ls.size = ml) (hc : cells + rm.cells ≤ R.cells) (hs : slots + rm.slots ≤ R.slots) (k : ∀  (T' : State) (h' : Heap), Sd p l e R s m args below meth c n0 T' h' (cells + rm.cells) (slots + rm.slots) → P h' → G (T'.setTop (mkF m pc' ls (st)))) : G (T.setTop (mkF m pc ls sk)) := by
  refine callP w X av w1 w6 hnf w7 w3 w4 hy E hM hd pc' hp Wd hfr hlo hlen hst hW hsz hc hs (fun v T' h' Y hq => ?_)
  obtain ⟨rfl, hr⟩ := hq
  exact k T' h' Y hr
theorem callPPV (w : Wk p l e R s m args below meth c n0 Z own nm bc ml rt Q G) (X : Sd p l e R s m args below meth c n0 T h cells slots) {y : MethodName} {ybc : ByteArray} {yml : Nat} {yrt : Option FieldType} {rm : Room} {i : Nat} {sk : List Value} {a : Addr} {C : String} (av : List Value) (w1 : (Cond.methodLink own i y).before a0 Z = true) (w6 : (Cond.instanceMethod y).before a0 Z = true) (hnf : NotFace s y) (w7 : (Cond.privateMethod y).before a0 Z = true) (w3 : (Cond.initialized y.cls).before a0 Z = true) (w4 : (Cond.code y ybc yml yrt).before a0 Z = true) (hy : y.cls ≠ "java/lang/invoke/MethodHandle" ∧ y.cls ≠ "java/lang/invoke/VarHandle") (E : Exa Z h a C) (hM : Met l Z y ybc yml yrt [] rm (.ref a :: av).toArray h n0 (RV fun h' => h' = h)) (hd : decode bc pc = .ok (.invokevirtual i, 3)) (pc' : Nat) (hp : pc + 3 = pc') (Wd : Nat) (hfr : rm.frames + 1 ≤ R.frames) (hlo : Wd + (yml + 11) + rm.locals ≤ R.locals) (hlen : ∀ sig, parseMethodDescriptor y.desc = some sig → av.length = sig.parameters.length) (hst : sk = av.reverse ++ .ref a :: st) (hW : (st.map fun v => v.category).sum ≤ Wd) (hsz : ls.size = ml) (hc : cells + rm.cells ≤ R.cells) (hs : slots + rm.slots ≤ R.slots) (k : ∀ (T' : State), Sd p l e R s m args below meth c n0 T' h (cells + rm.cells) (slots + rm.slots) → G (T'.setTop (mkF m pc' ls st))) : G (T.setTop (mkF m pc ls sk)) := by
  refine callPV w X av w1 w6 hnf w7 w3 w4 hy E hM hd pc' hp Wd hfr hlo hlen hst hW hsz hc hs (fun T' h' Y hq => ?_)
  subst hq
  exact k T' Y
end Law
/-! numbers, for omega -/
theorem b32 (x : Int32) : -2147483648 ≤ x.toInt ∧ x.toInt < 2147483648 := ⟨Int32.le_toInt x, Int32.toInt_lt x⟩
theorem b64 (x : Int64) : -9223372036854775808 ≤ x.toInt ∧ x.toInt < 9223372036854775808 := ⟨Int64.le_toInt x, Int64.toInt_lt x⟩
theorem k_mulR (x y : Int32) (d : Int) (hy : y.toInt = d) : ((x * y).toInt - (x.toInt * d)) % 4294967296 = 0 := by have := c_imul x y; rwa [hy] at this
theorem k_mulL (x y : Int32) (d : Int) (hx : x.toInt = d) : ((x * y).toInt - (d * y.toInt)) % 4294967296 = 0 := by have := c_imul x y; rwa [hx] at this
theorem k_mask (x m : Int32) (k : Nat) (P : Int) (hk : k ≤ 31) (hm : m.toBitVec.toNat = 2 ^ k - 1) (hP : ((2 ^ k : Nat) : Int) = P) : (x &&& m).toInt = x.toInt % P := by rw [c_mask x m k hk hm, hP]
theorem k_maskL (m x : Int32) (k : Nat) (P : Int) (hk : k ≤ 31) (hm : m.toBitVec.toNat = 2 ^ k - 1) (hP : ((2 ^ k : Nat) : Int) = P) : (m &&& x).toInt = x.toInt % P := by rw [Int32.and_comm, c_mask x m k hk hm, hP]
theorem k_mask64 (x m : Int64) (k : Nat) (P : Int) (hk : k ≤ 63) (hm : m.toBitVec.toNat = 2 ^ k - 1) (hP : ((2 ^ k : Nat) : Int) = P) : (x &&& m).toInt = x.toInt % P := by rw [c_maskL x m k hk hm, hP]
theorem k_or_and (x p q r : Int32) (h : p ||| q = r) : (x &&& p) ||| (x &&& q) = x &&& r := by
  subst h
  apply Int32.toBitVec_inj.mp
  simp only [Int32.toBitVec_or, Int32.toBitVec_and]
  apply BitVec.eq_of_getLsbD_eq
  intro i hi
  simp only [BitVec.getLsbD_or, BitVec.getLsbD_and]
  cases x.toBitVec.getLsbD i <;> simp
theorem k_field (x p q r : Int32) (k j : Nat) (P J : Int) (hpq : p ||| q = r) (h0 : p &&& q = 0) (hk : k ≤ 31) (hq : q.toBitVec.toNat = 2 ^ k - 1) (hP : ((2 ^ k : Nat) : Int) = P) (hj : j ≤ 31) (hr : r.toBitVec.toNat = 2 ^ j - 1) (hJ : ((2 ^ j : Nat) : Int) = J) (hp0 : 0 ≤ p.toInt) (hJ2 : J ≤ 1073741824) (hP1 : 1 ≤ P) (hPJ : P ≤ J) : (x &&& p).toInt = x.toInt % J - x.toInt % P := by
  have e1 : (x &&& p) &&& q = 0 := by rw [Int32.and_assoc, h0, Int32.and_zero]
  have e2 := k_mask (x &&& p) q k P hk hq hP
  rw [e1] at e2
  have e3 := k_or_and x p q r hpq
  have e4 := k_mask x q k P hk hq hP
  have e5 := k_mask x r j J hj hr hJ
  have e6 := c_or (x &&& p) (x &&& q) k hk P hP.symm
  rw [e3, e4, e5] at e6
  have e7 := c_and x p hp0
  have e8 : (0 : Int32).toInt = 0 := rfl
  rw [e8] at e2
  have m1 := Int.emod_nonneg x.toInt (show P ≠ 0 by omega)
  have m2 := Int.emod_lt_of_pos x.toInt (show (0 : Int) < P by omega)
  have m3 := Int.emod_nonneg x.toInt (show J ≠ 0 by omega)
  have m4 := Int.emod_lt_of_pos x.toInt (show (0 : Int) < J by omega)
  have e9 := e6 e2.symm m1 m2
  have b := b32 (x &&& p)
  omega
theorem k_shr (x q : Int32) (k : Nat) (P : Int) (hk : q.toBitVec.toNat % 32 = k) (hP : ((2 ^ k : Nat) : Int) = P) : (x >>> (q &&& 31)).toInt = x.toInt / P := by rw [c_ishr x q k hk, hP]
theorem k_shl (x q : Int32) (k : Nat) (P : Int) (hk : q.toBitVec.toNat % 32 = k) (hP : ((2 ^ k : Nat) : Int) = P) : ((x <<< (q &&& 31)).toInt - x.toInt * P) % 4294967296 = 0 := by have := c_ishl x q k hk; rwa [hP] at this
theorem k_ushr (x q : Int32) (k : Nat) (P : Int) (hk : q.toBitVec.toNat % 32 = k) (h0 : 0 < k) (hP : ((2 ^ k : Nat) : Int) = P) : ((x.toUInt32 >>> (q &&& 31).toUInt32).toInt32).toInt = (x.toInt % 4294967296) / P := by rw [c_iushr x q k hk h0, hP]

theorem nar_b (x : Int32) : nar .byte x.toInt8.toInt32 = x.toInt8.toInt32 := by simp [nar]
theorem lsw_eq {x v : Int32} {k : Int} (hv : v.toInt = k) (q : k = x.toInt) : x = v := Int32.toInt_inj.mp (by omega)
/-- an array of ints, bytes or chars with these elements -/
def PA (Z : State) (h : Heap) (a : Addr) (ty : FieldType) (bs : List Int32) : Prop :=
  ∃ c : Cell, Arr Z h a c ty ∧ c.slots.size = bs.length ∧ bs.length < 2147483648 ∧ (∀ i, i < bs.length → c.slots[i]? = some (.int (bs.getD i 0))) ∧ ∀ x ∈ bs, fits ty (.int x) = true
section Arrays
variable {p : Program} {l : Launch} {e : Env} {R : Room} {s : State} {m : MethodId} {args : Array Value} {below : List Frame} {meth : Method} {c : Code} {n0 : Nat} {T : State} {h h' : Heap} {cells slots : Nat} {Z : State} {a0 : Array Value} {own nm : String} {bc : ByteArray} {ml : Nat} {rt : Option FieldType} {Q : Option Value → Heap → Prop} {G : State → Prop}
variable {pc : Nat} {ls : Array Slot} {st : List Value} {a b : Addr} {ty : FieldType} {bs : List Int32} {j : Int32} {v : Value} {sl : Nat} {ws : List Addr}
theorem PA.lt (F : PA Z h a ty bs) : a < h.size := by obtain ⟨c, A, -⟩ := F; exact A.lt
theorem PA.ext (F : PA Z h a ty bs) (E : Ext h h') : PA Z h' a ty bs := by obtain ⟨c, A, r⟩ := F; exact ⟨c, A.ext E, r⟩
theorem PA.other (F : PA Z h b ty bs) (W : Wr h h' a sl v) (q : b ≠ a) : PA Z h' b ty bs := by obtain ⟨c, A, r⟩ := F; exact ⟨c, A.other W q, r⟩
theorem PA.keep (F : PA Z h a ty bs) (K : Keep h h' ws) (q : a ∉ ws) : PA Z h' a ty bs := by obtain ⟨c, A, r⟩ := F; exact ⟨c, ⟨K.2.1 a c A.1 q, A.2⟩, r⟩
theorem PA.fit (F : PA Z h a ty bs) : ∀ x ∈ bs, fits ty (.int x) = true := by obtain ⟨c, A, r⟩ := F; exact r.2.2.2
theorem PA.len (F : PA Z h a ty bs) : bs.length < 2147483648 := by obtain ⟨c, A, r⟩ := F; exact r.2.1
theorem clampI {j : Int32} (h : ¬ j < 0) : (j.toNatClampNeg : Int) = j.toInt := by
  rw [Int32.lt_iff_toInt_lt] at h
  have e0 : (0 : Int32).toInt = 0 := rfl
  simp only [Int32.toNatClampNeg]; omega
theorem PA.new {cA : ClassId} {n : Int32} (ty : FieldType) (hty : defaultValue ty = .int 0) (hf : fits ty (.int 0) = true) (k : Nat) (A : Arr Z h a (newA cA ty n) ty) (hn : n.toNatClampNeg = k) : PA Z h a ty (List.replicate k 0) := by
  refine ⟨_, A, by rw [sz_new, hn, List.length_replicate], ?_, fun i hi => ?_, fun x hx => ?_⟩
  · rw [List.length_replicate, ← hn]; have := Int32.toInt_lt n; simp only [Int32.toNatClampNeg]; omega
  · rw [List.length_replicate] at hi
    simp [newA, hn, hi, hty, List.getD_eq_getElem?_getD]
  · rw [List.eq_of_mem_replicate hx]; exact hf
theorem PA.ofL {cl : Cell} {n : Int32} (A : Arr Z h a cl ty) (hs : cl.slots.size < 2 ^ 31) (hn : cl.slots.size.toInt32 = n) (hz : n.toNatClampNeg = bs.length) (hz0 : ¬ n < 0) (H : HasL cl 0 (bs.map Value.int)) (hf : ∀ x ∈ bs, fits ty (.int x) = true) : PA Z h a ty bs := by
  have S : cl.slots.size = n.toNatClampNeg := by rw [← hn]; simp only [Int32.toNatClampNeg, len_toInt hs]; rfl
  refine ⟨cl, A, S.trans hz, by omega, fun i hi => ?_, hf⟩
  have := HasL.at (dv := .int 0) (bs.map Value.int) 0 H i (by rw [List.length_map]; exact hi)
  rw [Nat.zero_add] at this
  rw [this]
  simp [List.getD_eq_getElem?_getD, List.getElem?_map, List.getElem?_eq_getElem hi]
theorem PA.inb {c : Cell} (hlen : c.slots.size = bs.length) (h1 : ¬ j < 0) (h2 : j.toNatClampNeg < bs.length) : ¬ (j < 0 ∨ c.slots.size ≤ j.toNatClampNeg) := fun q => q.elim h1 fun z => absurd h2 (Nat.not_lt.mpr (hlen ▸ z))

theorem iaload (w : Wk p l e R s m args below meth c n0 Z own nm bc ml rt Q G) (X : Sd p l e R s m args below meth c n0 T h cells slots) (F : PA Z h a .int bs) (h1 : ¬ j < 0) (i : Nat) (hi : j.toNatClampNeg = i) (h2 : i < bs.length) (hd : decode bc pc = .ok (.iaload, 1)) (pc' : Nat) (hp : pc + 1 = pc') (z : Int32) (hz : z = bs.getD i 0) (k : G (T.setTop (mkF m pc' ls (.int z :: st)))) : G (T.setTop (mkF m pc ls (.int j :: .ref a :: st))) := by
  obtain ⟨locs, Y, N, eT⟩ := X
  subst hp hz hi
  obtain ⟨cl, A, hl, -, hg, -⟩ := F
  exact w.1 _ _ (fun t q => Y.iaload w.2.1 (j := j) (v := .int (bs.getD j.toNatClampNeg 0)) (by rw [eT]; exact A.1) (State.isArrayOf_alike w.2.2.2.2.1.alike A.2.1) A.2.2 (PA.inb hl h1 h2) (hg _ h2) (g := mkF m pc ls (.int j :: .ref a :: st)) rfl rfl (hb w.2.2.1 hd) t q) k
theorem baload (w : Wk p l e R s m args below meth c n0 Z own nm bc ml rt Q G) (X : Sd p l e R s m args below meth c n0 T h cells slots) (F : PA Z h a .byte bs) (h1 : ¬ j < 0) (i : Nat) (hi : j.toNatClampNeg = i) (h2 : i < bs.length) (hd : decode bc pc = .ok (.baload, 1)) (pc' : Nat) (hp : pc + 1 = pc') (z : Int32) (hz : z = bs.getD i 0) (k : G (T.setTop (mkF m pc' ls (.int z :: st)))) : G (T.setTop (mkF m pc ls (.int j :: .ref a :: st))) := by
  obtain ⟨locs, Y, N, eT⟩ := X
  subst hp hz hi
  obtain ⟨cl, A, hl, -, hg, -⟩ := F
  exact w.1 _ _ (fun t q => Y.baloadBytes w.2.1 (j := j) (v := .int (bs.getD j.toNatClampNeg 0)) (by rw [eT]; exact A.1) (State.isArrayOf_alike w.2.2.2.2.1.alike A.2.1) A.2.2 (PA.inb hl h1 h2) (hg _ h2) (g := mkF m pc ls (.int j :: .ref a :: st)) rfl rfl (hb w.2.2.1 hd) t q) k
theorem caload (w : Wk p l e R s m args below meth c n0 Z own nm bc ml rt Q G) (X : Sd p l e R s m args below meth c n0 T h cells slots) (F : PA Z h a .char bs) (h1 : ¬ j < 0) (i : Nat) (hi : j.toNatClampNeg = i) (h2 : i < bs.length) (hd : decode bc pc = .ok (.caload, 1)) (pc' : Nat) (hp : pc + 1 = pc') (z : Int32) (hz : z = bs.getD i 0) (k : G (T.setTop (mkF m pc' ls (.int z :: st)))) : G (T.setTop (mkF m pc ls (.int j :: .ref a :: st))) := by
  obtain ⟨locs, Y, N, eT⟩ := X
  subst hp hz hi
  obtain ⟨cl, A, hl, -, hg, -⟩ := F
  exact w.1 _ _ (fun t q => Y.caload w.2.1 (j := j) (v := .int (bs.getD j.toNatClampNeg 0)) (by rw [eT]; exact A.1) (State.isArrayOf_alike w.2.2.2.2.1.alike A.2.1) A.2.2 (PA.inb hl h1 h2) (hg _ h2) (g := mkF m pc ls (.int j :: .ref a :: st)) rfl rfl (hb w.2.2.1 hd) t q) k
theorem zaload (w : Wk p l e R s m args below meth c n0 Z own nm bc ml rt Q G) (X : Sd p l e R s m args below meth c n0 T h cells slots) (F : PA Z h a .boolean bs) (h1 : ¬ j < 0) (i : Nat) (hi : j.toNatClampNeg = i) (h2 : i < bs.length) (hd : decode bc pc = .ok (.baload, 1)) (pc' : Nat) (hp : pc + 1 = pc') (z : Int32) (hz : z = bs.getD i 0) (k : G (T.setTop (mkF m pc' ls (.int z :: st)))) : G (T.setTop (mkF m pc ls (.int j :: .ref a :: st))) := by
  obtain ⟨locs, Y, N, eT⟩ := X
  subst hp hz hi
  obtain ⟨cl, A, hl, -, hg, -⟩ := F
  exact w.1 _ _ (fun t q => Y.baloadBooleans w.2.1 (j := j) (v := .int (bs.getD j.toNatClampNeg 0)) (by rw [eT]; exact A.1) (State.isArrayOf_alike w.2.2.2.2.1.alike A.2.1) A.2.2 (PA.inb hl h1 h2) (hg _ h2) (g := mkF m pc ls (.int j :: .ref a :: st)) rfl rfl (hb w.2.2.1 hd) t q) k
theorem iastore (w : Wk p l e R s m args below meth c n0 Z own nm bc ml rt Q G) (X : Sd p l e R s m args below meth c n0 T h cells slots) {x : Int32} (F : PA Z h a .int bs) (h1 : ¬ j < 0) (i : Nat) (hi : j.toNatClampNeg = i) (h2 : i < bs.length) (ha : n0 ≤ a) (hd : decode bc pc = .ok (.iastore, 1)) (pc' : Nat) (hp : pc + 1 = pc') (z : Int32) (hz : z = x)
    (k : ∀ (T' : State) (h' : Heap), Sd p l e R s m args below meth c n0 T' h' cells slots → Wr h h' a i (.int z) → PA Z h' a .int (bs.set i z) → G (T'.setTop (mkF m pc' ls st))) : G (T.setTop (mkF m pc ls (.int x :: .int j :: .ref a :: st))) := by
  obtain ⟨locs, Y, N, eT⟩ := X
  subst hp hz hi
  obtain ⟨cl, A, hl, hl2, hg, hf⟩ := F
  obtain ⟨T', h', Y', e', W', q⟩ := stI Y w.2.1 w.2.2.2.2.1 eT A (j := j) (PA.inb hl h1 h2) (g := mkF m pc ls (.int z :: .int j :: .ref a :: st)) rfl rfl (hb w.2.2.1 hd)
  refine w.1 _ _ q (k T' h' ⟨_, Y', Fr.snoc Y' N ha, e'⟩ W' ⟨_, A.same W', by rw [sz_set, List.length_set]; exact hl, by rw [List.length_set]; exact hl2, fun i hi => ?_, fun y hy => ?_⟩)
  · rw [List.length_set] at hi
    by_cases u : j.toNatClampNeg = i
    · subst u; simp [Cell.setSlot, hl, hi, List.getD_eq_getElem?_getD]
    · have := hg i hi
      simp only [Cell.setSlot, List.getD_eq_getElem?_getD] at this ⊢
      rw [Array.getElem?_setIfInBounds_ne u, List.getElem?_set_ne u]; exact this
  · rcases List.mem_or_eq_of_mem_set hy with y1 | rfl
    · exact hf y y1
    · exact rfl
theorem bastore (w : Wk p l e R s m args below meth c n0 Z own nm bc ml rt Q G) (X : Sd p l e R s m args below meth c n0 T h cells slots) {x : Int32} (F : PA Z h a .byte bs) (h1 : ¬ j < 0) (i : Nat) (hi : j.toNatClampNeg = i) (h2 : i < bs.length) (ha : n0 ≤ a) (hd : decode bc pc = .ok (.bastore, 1)) (pc' : Nat) (hp : pc + 1 = pc') (z : Int32) (hz : z = (nar .byte x))
    (k : ∀ (T' : State) (h' : Heap), Sd p l e R s m args below meth c n0 T' h' cells slots → Wr h h' a i (.int z) → PA Z h' a .byte (bs.set i z) → G (T'.setTop (mkF m pc' ls st))) : G (T.setTop (mkF m pc ls (.int x :: .int j :: .ref a :: st))) := by
  obtain ⟨locs, Y, N, eT⟩ := X
  subst hp hz hi
  obtain ⟨cl, A, hl, hl2, hg, hf⟩ := F
  obtain ⟨T', h', Y', e', W', q⟩ := stB Y w.2.1 w.2.2.2.2.1 eT A (j := j) (PA.inb hl h1 h2) (g := mkF m pc ls (.int x :: .int j :: .ref a :: st)) rfl rfl (hb w.2.2.1 hd)
  refine w.1 _ _ q (k T' h' ⟨_, Y', Fr.snoc Y' N ha, e'⟩ W' ⟨_, A.same W', by rw [sz_set, List.length_set]; exact hl, by rw [List.length_set]; exact hl2, fun i hi => ?_, fun y hy => ?_⟩)
  · rw [List.length_set] at hi
    by_cases u : j.toNatClampNeg = i
    · subst u; simp [Cell.setSlot, hl, hi, List.getD_eq_getElem?_getD]
    · have := hg i hi
      simp only [Cell.setSlot, List.getD_eq_getElem?_getD] at this ⊢
      rw [Array.getElem?_setIfInBounds_ne u, List.getElem?_set_ne u]; exact this
  · rcases List.mem_or_eq_of_mem_set hy with y1 | rfl
    · exact hf y y1
    · exact (fits_nar_byte x)
theorem castore (w : Wk p l e R s m args below meth c n0 Z own nm bc ml rt Q G) (X : Sd p l e R s m args below meth c n0 T h cells slots) {x : Int32} (F : PA Z h a .char bs) (h1 : ¬ j < 0) (i : Nat) (hi : j.toNatClampNeg = i) (h2 : i < bs.length) (ha : n0 ≤ a) (hd : decode bc pc = .ok (.castore, 1)) (pc' : Nat) (hp : pc + 1 = pc') (z : Int32) (hz : z = (nar .char x))
    (k : ∀ (T' : State) (h' : Heap), Sd p l e R s m args below meth c n0 T' h' cells slots → Wr h h' a i (.int z) → PA Z h' a .char (bs.set i z) → G (T'.setTop (mkF m pc' ls st))) : G (T.setTop (mkF m pc ls (.int x :: .int j :: .ref a :: st))) := by
  obtain ⟨locs, Y, N, eT⟩ := X
  subst hp hz hi
  obtain ⟨cl, A, hl, hl2, hg, hf⟩ := F
  obtain ⟨T', h', Y', e', W', q⟩ := stC Y w.2.1 w.2.2.2.2.1 eT A (j := j) (PA.inb hl h1 h2) (g := mkF m pc ls (.int x :: .int j :: .ref a :: st)) rfl rfl (hb w.2.2.1 hd)
  refine w.1 _ _ q (k T' h' ⟨_, Y', Fr.snoc Y' N ha, e'⟩ W' ⟨_, A.same W', by rw [sz_set, List.length_set]; exact hl, by rw [List.length_set]; exact hl2, fun i hi => ?_, fun y hy => ?_⟩)
  · rw [List.length_set] at hi
    by_cases u : j.toNatClampNeg = i
    · subst u; simp [Cell.setSlot, hl, hi, List.getD_eq_getElem?_getD]
    · have := hg i hi
      simp only [Cell.setSlot, List.getD_eq_getElem?_getD] at this ⊢
      rw [Array.getElem?_setIfInBounds_ne u, List.getElem?_set_ne u]; exact this
  · rcases List.mem_or_eq_of_mem_set hy with y1 | rfl
    · exact hf y y1
    · exact (fits_nar_char x)
theorem zastore (w : Wk p l e R s m args below meth c n0 Z own nm bc ml rt Q G) (X : Sd p l e R s m args below meth c n0 T h cells slots) {x : Int32} (F : PA Z h a .boolean bs) (h1 : ¬ j < 0) (i : Nat) (hi : j.toNatClampNeg = i) (h2 : i < bs.length) (ha : n0 ≤ a) (hd : decode bc pc = .ok (.bastore, 1)) (pc' : Nat) (hp : pc + 1 = pc') (z : Int32) (hz : z = (nar .boolean x))
    (k : ∀ (T' : State) (h' : Heap), Sd p l e R s m args below meth c n0 T' h' cells slots → Wr h h' a i (.int z) → PA Z h' a .boolean (bs.set i z) → G (T'.setTop (mkF m pc' ls st))) : G (T.setTop (mkF m pc ls (.int x :: .int j :: .ref a :: st))) := by
  obtain ⟨locs, Y, N, eT⟩ := X
  subst hp hz hi
  obtain ⟨cl, A, hl, hl2, hg, hf⟩ := F
  obtain ⟨T', h', Y', e', W', q⟩ := stZ Y w.2.1 w.2.2.2.2.1 eT A (j := j) (PA.inb hl h1 h2) (g := mkF m pc ls (.int x :: .int j :: .ref a :: st)) rfl rfl (hb w.2.2.1 hd)
  refine w.1 _ _ q (k T' h' ⟨_, Y', Fr.snoc Y' N ha, e'⟩ W' ⟨_, A.same W', by rw [sz_set, List.length_set]; exact hl, by rw [List.length_set]; exact hl2, fun i hi => ?_, fun y hy => ?_⟩)
  · rw [List.length_set] at hi
    by_cases u : j.toNatClampNeg = i
    · subst u; simp [Cell.setSlot, hl, hi, List.getD_eq_getElem?_getD]
    · have := hg i hi
      simp only [Cell.setSlot, List.getD_eq_getElem?_getD] at this ⊢
      rw [Array.getElem?_setIfInBounds_ne u, List.getElem?_set_ne u]; exact this
  · rcases List.mem_or_eq_of_mem_set hy with y1 | rfl
    · exact hf y y1
    · exact (fits_nar_bool x)
theorem arraylength (w : Wk p l e R s m args below meth c n0 Z own nm bc ml rt Q G) (X : Sd p l e R s m args below meth c n0 T h cells slots) (F : PA Z h a ty bs) (hd : decode bc pc = .ok (.arraylength, 1)) (pc' : Nat) (hp : pc + 1 = pc') (z : Int32) (hz : z = Int32.ofNat bs.length) (k : G (T.setTop (mkF m pc' ls (.int z :: st)))) : G (T.setTop (mkF m pc ls (.ref a :: st))) := by
  obtain ⟨locs, Y, N, eT⟩ := X
  subst hp hz
  obtain ⟨cl, A, hl, -, -⟩ := F
  refine w.1 _ _ (fun t q => Y.arraylength w.2.1 (by rw [eT]; exact A.1) (State.isArrayOf_alike w.2.2.2.2.1.alike A.2.1) (g := mkF m pc ls (.ref a :: st)) rfl rfl (hb w.2.2.1 hd) t ?_) k
  rw [hl]; exact q
end Arrays
/-- an array of longs whose elements are known -/
def PJ (Z : State) (h : Heap) (a : Addr) (bs : List Int64) : Prop :=
  ∃ c : Cell, Arr Z h a c .long ∧ c.slots.size = bs.length ∧ ∀ i, i < bs.length → c.slots[i]? = some (.long (bs.getD i 0))
/-- an array of one reference -/
def RA (Z : State) (h : Heap) (a x : Addr) : Prop := ∃ (c : Cell) (ty : FieldType), Arr Z h a c ty ∧ ty.isReference = true ∧ c.slots.size = 1 ∧ c.slots[0]? = some (.ref x)
section Arrays2
variable {p : Program} {l : Launch} {e : Env} {R : Room} {s : State} {m : MethodId} {args : Array Value} {below : List Frame} {meth : Method} {c : Code} {n0 : Nat} {T : State} {h h' : Heap} {cells slots : Nat} {Z : State} {a0 : Array Value} {own nm : String} {bc : ByteArray} {ml : Nat} {rt : Option FieldType} {Q : Option Value → Heap → Prop} {G : State → Prop}
variable {pc : Nat} {ls : Array Slot} {st : List Value} {a b x : Addr} {ty : FieldType} {bs : List Int64} {j : Int32} {v : Value} {sl : Nat} {ws : List Addr}
theorem PJ.lt (F : PJ Z h a bs) : a < h.size := by obtain ⟨c, A, -⟩ := F; exact A.lt
theorem PJ.ext (F : PJ Z h a bs) (E : Ext h h') : PJ Z h' a bs := by obtain ⟨c, A, r⟩ := F; exact ⟨c, A.ext E, r⟩
theorem PJ.other (F : PJ Z h b bs) (W : Wr h h' a sl v) (q : b ≠ a) : PJ Z h' b bs := by obtain ⟨c, A, r⟩ := F; exact ⟨c, A.other W q, r⟩
theorem PJ.keep (F : PJ Z h a bs) (K : Keep h h' ws) (q : a ∉ ws) : PJ Z h' a bs := by obtain ⟨c, A, r⟩ := F; exact ⟨c, ⟨K.2.1 a c A.1 q, A.2⟩, r⟩
theorem PJ.new {cA : ClassId} {n : Int32} (k : Nat) (A : Arr Z h a (newA cA .long n) .long) (hn : n.toNatClampNeg = k) : PJ Z h a (List.replicate k 0) := by
  refine ⟨_, A, by rw [sz_new, hn, List.length_replicate], fun i hi => ?_⟩
  rw [List.length_replicate] at hi
  simp [newA, hn, hi, defaultValue, List.getD_eq_getElem?_getD]
theorem RA.lt (F : RA Z h a x) : a < h.size := by obtain ⟨c, ty, A, -⟩ := F; exact A.lt
theorem RA.ext (F : RA Z h a x) (E : Ext h h') : RA Z h' a x := by obtain ⟨c, ty, A, r⟩ := F; exact ⟨c, ty, A.ext E, r⟩
theorem RA.other (F : RA Z h b x) (W : Wr h h' a sl v) (q : b ≠ a) : RA Z h' b x := by obtain ⟨c, ty, A, r⟩ := F; exact ⟨c, ty, A.other W q, r⟩
theorem RA.keep (F : RA Z h a x) (K : Keep h h' ws) (q : a ∉ ws) : RA Z h' a x := by obtain ⟨c, ty, A, r⟩ := F; exact ⟨c, ty, ⟨K.2.1 a c A.1 q, A.2⟩, r⟩
theorem PJ.inb {c : Cell} (hlen : c.slots.size = bs.length) (h1 : ¬ j < 0) (h2 : j.toNatClampNeg < bs.length) : ¬ (j < 0 ∨ c.slots.size ≤ j.toNatClampNeg) := fun q => q.elim h1 fun z => absurd h2 (Nat.not_lt.mpr (hlen ▸ z))
theorem laload (w : Wk p l e R s m args below meth c n0 Z own nm bc ml rt Q G) (X : Sd p l e R s m args below meth c n0 T h cells slots) (F : PJ Z h a bs) (h1 : ¬ j < 0) (i : Nat) (hi : j.toNatClampNeg = i) (h2 : i < bs.length) (hd : decode bc pc = .ok (.laload, 1)) (pc' : Nat) (hp : pc + 1 = pc') (z : Int64) (hz : z = bs.getD i 0) (k : G (T.setTop (mkF m pc' ls (.long z :: st)))) : G (T.setTop (mkF m pc ls (.int j :: .ref a :: st))) := by
  obtain ⟨locs, Y, N, eT⟩ := X
  subst hp hz hi
  obtain ⟨cl, A, hl, hg⟩ := F
  exact w.1 _ _ (fun t q => Y.laload w.2.1 (j := j) (v := .long (bs.getD j.toNatClampNeg 0)) (by rw [eT]; exact A.1) (State.isArrayOf_alike w.2.2.2.2.1.alike A.2.1) A.2.2 (PJ.inb hl h1 h2) (hg _ h2) (g := mkF m pc ls (.int j :: .ref a :: st)) rfl rfl (hb w.2.2.1 hd) t q) k
theorem lastore (w : Wk p l e R s m args below meth c n0 Z own nm bc ml rt Q G) (X : Sd p l e R s m args below meth c n0 T h cells slots) {z : Int64} (F : PJ Z h a bs) (h1 : ¬ j < 0) (i : Nat) (hi : j.toNatClampNeg = i) (h2 : i < bs.length) (ha : n0 ≤ a) (hd : decode bc pc = .ok (.lastore, 1)) (pc' : Nat) (hp : pc + 1 = pc')
    (k : ∀ (T' : State) (h' : Heap), Sd p l e R s m args below meth c n0 T' h' cells slots → Wr h h' a i (.long z) → PJ Z h' a (bs.set i z) → G (T'.setTop (mkF m pc' ls st))) : G (T.setTop (mkF m pc ls (.long z :: .int j :: .ref a :: st))) := by
  obtain ⟨locs, Y, N, eT⟩ := X
  subst hp hi
  obtain ⟨cl, A, hl, hg⟩ := F
  obtain ⟨T', h', Y', e', W', q⟩ := stJ Y w.2.1 w.2.2.2.2.1 eT A (j := j) (PJ.inb hl h1 h2) (g := mkF m pc ls (.long z :: .int j :: .ref a :: st)) rfl rfl (hb w.2.2.1 hd)
  refine w.1 _ _ q (k T' h' ⟨_, Y', Fr.snoc Y' N ha, e'⟩ W' ⟨_, A.same W', by rw [sz_set, List.length_set]; exact hl, fun i hi => ?_⟩)
  rw [List.length_set] at hi
  by_cases u : j.toNatClampNeg = i
  · subst u; simp [Cell.setSlot, hl, hi, List.getD_eq_getElem?_getD]
  · have := hg i hi
    simp only [Cell.setSlot, List.getD_eq_getElem?_getD] at this ⊢
    rw [Array.getElem?_setIfInBounds_ne u, List.getElem?_set_ne u]; exact this
theorem aaload0 (w : Wk p l e R s m args below meth c n0 Z own nm bc ml rt Q G) (X : Sd p l e R s m args below meth c n0 T h cells slots) (F : RA Z h a x) (hj : j = 0) (hd : decode bc pc = .ok (.aaload, 1)) (pc' : Nat) (hp : pc + 1 = pc') (k : G (T.setTop (mkF m pc' ls (.ref x :: st)))) : G (T.setTop (mkF m pc ls (.int j :: .ref a :: st))) := by
  obtain ⟨locs, Y, N, eT⟩ := X
  subst hp hj
  obtain ⟨cl, ty, A, hr, hl, hg⟩ := F
  exact w.1 _ _ (fun t q => Y.aaload w.2.1 (j := 0) (v := .ref x) (by rw [eT]; exact A.1) (State.isArrayOf_alike w.2.2.2.2.1.alike A.2.1) hr A.2.2 (by rw [hl]; decide) hg (g := mkF m pc ls (.int 0 :: .ref a :: st)) rfl rfl (hb w.2.2.1 hd) t q) k
theorem multi1 (w : Wk p l e R s m args below meth c n0 Z own nm bc ml rt Q G) (X : Sd p l e R s m args below meth c n0 T h cells slots) {C ad : String} {ty : FieldType} {i : Nat} {n kk : Int32} (hC : (FieldType.array ty).toString = C) (had : "[" ++ C = ad) (w1 : (Cond.classLink own i ad).before a0 Z = true) (w2 : (Cond.arrayOver (.array ty)).before a0 Z = true) (w3 : (Cond.arrayClass ty).before a0 Z = true) (hd : decode bc pc = .ok (.multianewarray i 2, 4)) (pc' : Nat) (hp : pc + 4 = pc') (hn : n = 1) (hk : ¬ kk < 0) (cap : Nat) (hcap : kk.toNatClampNeg ≤ cap) (hb' : cap * 8 ≤ 536870912) (hdf : fits ty (defaultValue ty) = true) (hdd : (defaultValue ty).isDefault = true) (hc : cells + 2 ≤ R.cells) (hl : slots + (1 + cap) ≤ R.slots)
    (k : ∀ (T' : State) (h' : Heap) (a x : Addr) (cA : ClassId), Sd p l e R s m args below meth c n0 T' h' (cells + 2) (slots + (1 + cap)) → a = h.size → x = h.size + 1 → Ext h h' → RA Z h' a x → Arr Z h' x (newA cA ty kk) ty → G (T'.setTop (mkF m pc' ls (.ref a :: st)))) : G (T.setTop (mkF m pc ls (.int kk :: .int n :: st))) := by
  obtain ⟨locs, Y, N, eT⟩ := X
  subst hp hn
  obtain ⟨T', h', cA, comp, Y', e', E', A', -, -, F', q⟩ := gridM Y w.2.1 w.2.2.2.2.1 w.2.2.2.2.2.1 hC had w1 w2 w3 eT (g := mkF m pc ls (.int kk :: .int 1 :: st)) rfl (hb w.2.2.1 hd) rfl (by decide) hk (xs := [h.size + 1]) (N := 1) rfl rfl hcap hb' (by decide) hdf hdd hc (by omega)
  refine w.1 _ _ q (k T' h' _ _ comp ⟨locs, Y'.more (Nat.le_refl _) (by omega), N, e'⟩ rfl rfl E' ?_ (F' 0 _ rfl).1)
  obtain ⟨c, A, -, S, -, H, -⟩ := A'
  have S' : c.slots.size = 1 := S
  exact ⟨c, _, A, rfl, S', by rw [H 0 (by omega)]; rfl⟩
theorem acopyI (w : Wk p l e R s m args below meth c n0 Z own nm bc ml rt Q G) (X : Sd p l e R s m args below meth c n0 T h cells slots) {i : Nat} {as bs : List Int32} {sp dp nn : Int32} (w1 : (Cond.methodLink own i Jvm.Stand.acN).before a0 Z = true) (w2 : (Cond.native Jvm.Stand.acN).before a0 Z = true) (w3 : (Cond.static Jvm.Stand.acN).before a0 Z = true) (w4 : (Cond.initialized "java/lang/System").before a0 Z = true)
    (A : PA Z h a .int as) (B : PA Z h b .int bs) (h1 : ¬ sp < 0) (h2 : ¬ dp < 0) (h3 : ¬ nn < 0) (h4 : sp.toNatClampNeg + nn.toNatClampNeg ≤ as.length) (h5 : dp.toNatClampNeg + nn.toNatClampNeg ≤ bs.length) (ge : n0 ≤ b) (hd : decode bc pc = .ok (.invokestatic i, 3)) (pc' : Nat) (hp : pc + 3 = pc') (hsz : ls.size = ml) (hf : 1 ≤ R.frames) (Wd : Nat) (hW : (st.map fun v => v.category).sum ≤ Wd) (hlo : Wd + (nativeFrameWords "java/lang/System" "arraycopy" 5 + 11) ≤ R.locals)
    (k : ∀ (T' : State) (h' : Heap) (bs' : List Int32), Sd p l e R s m args below meth c n0 T' h' cells slots → Keep h h' [b] → PA Z h' b .int bs' → bs'.length = bs.length → G (T'.setTop (mkF m pc' ls st))) : G (T.setTop (mkF m pc ls (.int nn :: .int dp :: .ref b :: .int sp :: .ref a :: st))) := by
  obtain ⟨locs, Y, N, eT⟩ := X
  subst hp
  have gd : ∀ (l : List Int32) (i : Nat), (l.map Value.int).getD i (.int 0) = .int (l.getD i 0) := fun l i => by
    simp only [List.getD_eq_getElem?_getD, List.getElem?_map]; cases l[i]? <;> rfl
  have mk : ∀ {x : Addr} {l : List Int32}, PA Z h x .int l → ∃ kc, Arv Z h x kc .int (Int32.ofNat l.length) (l.map Value.int) (.int 0) ∧ (Int32.ofNat l.length).toNatClampNeg = l.length := fun {x l} F => by
    obtain ⟨c, A, hl, hb2, hg, -⟩ := F
    have e : (Int32.ofNat l.length).toInt = l.length := Int32.toInt_ofNat_of_lt (by omega)
    have e2 : (Int32.ofNat l.length).toNatClampNeg = l.length := by simp only [Int32.toNatClampNeg, e]; rfl
    refine ⟨c.cls, ⟨c, A, rfl, by rw [e2, hl], by rw [Int32.lt_iff_toInt_lt, e]; have : (0 : Int32).toInt = 0 := rfl; omega, fun i hi => by rw [gd]; exact hg i (by omega), fun i _ => by rw [gd]; rfl⟩, e2⟩
  obtain ⟨ka, FA, ea⟩ := mk A
  obtain ⟨kb, FB, eb⟩ := mk B
  obtain ⟨T', h', L, Y', e', N', K', B', q⟩ := cpA Y w.2.1 w.2.2.2.2.1 w.2.2.2.2.2.1 w1 w2 w3 w4 eT FA FB (Or.inl ⟨rfl, rfl⟩) h1 h2 h3 (by rw [ea]; exact h4) (by rw [eb]; exact h5) (us := ((List.range nn.toNatClampNeg).map fun i => as.getD (sp.toNatClampNeg + i) 0).map Value.int) (by rw [List.map_map]; exact List.map_congr_left fun i _ => (gd as _).symm) (by rw [List.length_map]; exact h5) N ge (g := mkF m pc ls (.int nn :: .int dp :: .ref b :: .int sp :: .ref a :: st)) rfl (hsz.trans w.2.2.2.1.symm) rfl (hb w.2.2.1 hd) hf (W := Wd) (by show 2 * 0 + _ ≤ _; omega) hlo
  have hlen : (bs.take dp.toNatClampNeg ++ ((List.range nn.toNatClampNeg).map fun i => as.getD (sp.toNatClampNeg + i) 0) ++ bs.drop (dp.toNatClampNeg + nn.toNatClampNeg)).length = bs.length := by
    simp only [List.length_append, List.length_take, List.length_map, List.length_range, List.length_drop]; omega
  refine w.1 _ _ q (k T' h' _ ⟨L, Y', N', e'⟩ K' ?_ hlen)
  rw [← List.map_take, ← List.map_drop, ← List.map_append, ← List.map_append] at B'
  obtain ⟨c, A2, -, S, -, H, -⟩ := B'
  rw [eb] at S
  have hb3 := B.len
  exact ⟨c, A2, by rw [S, hlen], by rw [hlen]; exact hb3, fun i hi => by rw [H i (by rw [hlen] at hi; omega), gd], fun x _ => rfl⟩
end Arrays2
end Jvm.Own
namespace Jvm.Pilot.@@N@@
open Jvm Jvm.ClassFile Sem Op Lib Jvm.Free Jvm.Stand Jvm.LawKit Jvm.RoadKit Jvm.Own Bundle Jvm.Pilot.@@N@@.Jvm.D
/-- the object of sends at o -/
def own_ob (Z : State) (h : Heap) (o ck ch cn rl fc fs lc la rv : Addr) (ck0 len rc tot : Int32) (tl x0 x1 : Int64) (c0 c1 f0 f1 y0 y1 q0 q1 z0 z1 v0 v1 : Int32) : Prop :=
  Exa Z h o "com/example/vigilant_mailbox/vigilantmailbox/engine/Sends" ∧ Fld Z h o "com/example/vigilant_mailbox/vigilantmailbox/engine/Sends" "chunks" "[[I" (.ref ck) ∧ Fld Z h o "com/example/vigilant_mailbox/vigilantmailbox/engine/Sends" "counts" "[I" (.ref cn) ∧ Fld Z h o "com/example/vigilant_mailbox/vigilantmailbox/engine/Sends" "rowLengths" "[J" (.ref rl) ∧ Fld Z h o "com/example/vigilant_mailbox/vigilantmailbox/engine/Sends" "firstChunks" "[I" (.ref fc) ∧ Fld Z h o "com/example/vigilant_mailbox/vigilantmailbox/engine/Sends" "firsts" "[I" (.ref fs) ∧ Fld Z h o "com/example/vigilant_mailbox/vigilantmailbox/engine/Sends" "lastChunks" "[I" (.ref lc) ∧ Fld Z h o "com/example/vigilant_mailbox/vigilantmailbox/engine/Sends" "lasts" "[I" (.ref la) ∧ Fld Z h o "com/example/vigilant_mailbox/vigilantmailbox/engine/Sends" "receivers" "[I" (.ref rv) ∧ Fld Z h o "com/example/vigilant_mailbox/vigilantmailbox/engine/Sends" "chunk" "I" (.int ck0) ∧ Fld Z h o "com/example/vigilant_mailbox/vigilantmailbox/engine/Sends" "length" "I" (.int len) ∧ Fld Z h o "com/example/vigilant_mailbox/vigilantmailbox/engine/Sends" "receiverCount" "I" (.int rc) ∧ Fld Z h o "com/example/vigilant_mailbox/vigilantmailbox/engine/Sends" "total" "I" (.int tot) ∧ Fld Z h o "com/example/vigilant_mailbox/vigilantmailbox/engine/Sends" "rowLength" "J" (.long tl) ∧ RA Z h ck ch ∧ PJ Z h rl [x0, x1] ∧ PA Z h cn .int [c0, c1] ∧ PA Z h fc .int [f0, f1] ∧ PA Z h fs .int [y0, y1] ∧ PA Z h lc .int [q0, q1] ∧ PA Z h la .int [z0, z1] ∧ PA Z h rv .int [v0, v1] ∧ ∃ bs : List Int32, PA Z h ch .int bs ∧ bs.length = 4096
def own_ne (o ck ch cn rl fc fs lc la rv : Addr) : Prop := o ≠ ck ∧ o ≠ ch ∧ o ≠ cn ∧ o ≠ rl ∧ o ≠ fc ∧ o ≠ fs ∧ o ≠ lc ∧ o ≠ la ∧ o ≠ rv ∧ ck ≠ ch ∧ ck ≠ cn ∧ ck ≠ rl ∧ ck ≠ fc ∧ ck ≠ fs ∧ ck ≠ lc ∧ ck ≠ la ∧ ck ≠ rv ∧ ch ≠ cn ∧ ch ≠ rl ∧ ch ≠ fc ∧ ch ≠ fs ∧ ch ≠ lc ∧ ch ≠ la ∧ ch ≠ rv ∧ cn ≠ rl ∧ cn ≠ fc ∧ cn ≠ fs ∧ cn ≠ lc ∧ cn ≠ la ∧ cn ≠ rv ∧ rl ≠ fc ∧ rl ≠ fs ∧ rl ≠ lc ∧ rl ≠ la ∧ rl ≠ rv ∧ fc ≠ fs ∧ fc ≠ lc ∧ fc ≠ la ∧ fc ≠ rv ∧ fs ≠ lc ∧ fs ≠ la ∧ fs ≠ rv ∧ lc ≠ la ∧ lc ≠ rv ∧ la ≠ rv
def own_ge (n0 : Nat) (o ck ch cn rl fc fs lc la rv : Addr) : Prop := n0 ≤ o ∧ n0 ≤ ck ∧ n0 ≤ ch ∧ n0 ≤ cn ∧ n0 ≤ rl ∧ n0 ≤ fc ∧ n0 ≤ fs ∧ n0 ≤ lc ∧ n0 ≤ la ∧ n0 ≤ rv
def own_rl (x : Int64) (w : Int32) : Int64 := x + ((2 : Int32) + w).toInt64
theorem own_cap {len r w : Int32} (hr : r = ((4 : Int64) + w.toInt64).toInt32) (hw : 0 ≤ w.toInt ∧ w.toInt ≤ 3) (hl : 0 ≤ len.toInt ∧ len.toInt ≤ 7) : r.toInt = 4 + w.toInt ∧ (len + r).toInt = len.toInt + 4 + w.toInt := by
  subst hr
  have a1 := c_i2l w
  have a2 := c_ladd 4 w.toInt64
  have a3 := b64 (4 + w.toInt64)
  have a4 := c_l2i (4 + w.toInt64)
  have a5 := b32 (4 + w.toInt64).toInt32
  have a6 := c_iadd len (4 + w.toInt64).toInt32
  have a7 := b32 (len + (4 + w.toInt64).toInt32)
  have e : (4 : Int64).toInt = 4 := rfl
  omega
theorem own_le {x : Int32} (h : x.toInt ≤ 4096) : ¬ (4096 : Int32) < x := by
  rw [Int32.lt_iff_toInt_lt]
  have e : (4096 : Int32).toInt = 4096 := rfl
  omega
theorem own_nn {x : Int32} (h : 0 ≤ x.toInt) : ¬ x < 0 := by
  rw [Int32.lt_iff_toInt_lt]
  have e : (0 : Int32).toInt = 0 := rfl
  omega
theorem own_cl {x : Int32} {k : Int} (h0 : 0 ≤ x.toInt) (h : x.toInt ≤ k) : (x.toNatClampNeg : Int) ≤ k := by simp only [Int32.toNatClampNeg]; omega
theorem own_ix {len k : Int32} (hl : 0 ≤ len.toInt ∧ len.toInt ≤ 7) (hk : 0 ≤ k.toInt ∧ k.toInt ≤ 4) : ¬ (len + k) < 0 ∧ (len + k).toNatClampNeg ≤ 11 := by
  have a1 := c_iadd len k
  have a2 := b32 (len + k)
  have a3 : (len + k).toInt = len.toInt + k.toInt := by omega
  refine ⟨own_nn (by omega), ?_⟩
  have := own_cl (x := len + k) (k := 11) (by omega) (by omega)
  omega
theorem own_lc {x : Int64} (h : x.toInt ≤ 7) (q : (0 : Int32) < lcmpW x 2147483639) : False := by
  have a := c_lcmp x 2147483639
  have e : (2147483639 : Int64).toInt = 2147483639 := rfl
  have e0 : (0 : Int32).toInt = 0 := rfl
  rw [Int32.lt_iff_toInt_lt] at q
  omega
theorem own_x7 {w : Int32} (hw : 0 ≤ w.toInt ∧ w.toInt ≤ 3) : ((4 : Int64) + w.toInt64).toInt ≤ 7 := by
  have a1 := c_i2l w
  have a2 := c_ladd 4 w.toInt64
  have a3 := b64 (4 + w.toInt64)
  have e : (4 : Int64).toInt = 4 := rfl
  omega
theorem own_m3 (x : Int32) : 0 ≤ (x &&& (3 : Int32)).toInt ∧ (x &&& (3 : Int32)).toInt ≤ 3 := by
  have := k_mask x 3 2 4 (by decide) (by decide) (by decide)
  omega
theorem own_m1 (x : Int32) : (x &&& (1 : Int32)) = 0 ∨ (x &&& (1 : Int32)) = 1 := by
  have := k_mask x 1 1 2 (by decide) (by decide) (by decide)
  simp only [← Int32.toInt_inj, Int32.reduceToInt]
  omega
theorem own_f1 (w : Int32) : lcmpW (own_rl 0 w) ((2 : Int32) + w).toInt64 = 0 := by
  have e : own_rl 0 w = ((2 : Int32) + w).toInt64 := Int64.zero_add _
  have a := (c_lcmp (own_rl 0 w) ((2 : Int32) + w).toInt64).2.1 (by rw [e])
  exact Int32.toInt_inj.mp a
theorem own_f2 {w v : Int32} (hw : 0 ≤ w.toInt ∧ w.toInt ≤ 3) (hv : 0 ≤ v.toInt ∧ v.toInt ≤ 3) : lcmpW (own_rl (own_rl 0 w) v) ((4 : Int32) + w + v).toInt64 = 0 := by
  apply Int32.toInt_inj.mp
  refine (c_lcmp (own_rl (own_rl 0 w) v) ((4 : Int32) + w + v).toInt64).2.1 ?_
  have e : own_rl 0 w = ((2 : Int32) + w).toInt64 := Int64.zero_add _
  unfold own_rl at e ⊢
  rw [e]
  have a1 := c_i2l ((2 : Int32) + w)
  have a2 := c_i2l ((2 : Int32) + v)
  have a3 := c_i2l ((4 : Int32) + w + v)
  have a4 := c_ladd ((2 : Int32) + w).toInt64 ((2 : Int32) + v).toInt64
  have a5 := b64 (((2 : Int32) + w).toInt64 + ((2 : Int32) + v).toInt64)
  have a6 := c_iadd 2 w
  have a7 := b32 (2 + w)
  have a8 := c_iadd 2 v
  have a9 := b32 (2 + v)
  have b1 := c_iadd 4 w
  have b2 := b32 (4 + w)
  have b3 := c_iadd (4 + w) v
  have b4 := b32 (4 + w + v)
  have e2 : (2 : Int32).toInt = 2 := rfl
  have e4 : (4 : Int32).toInt = 4 := rfl
  omega
theorem own_b47 {r w : Int32} (hr : r = ((4 : Int64) + w.toInt64).toInt32) (hw : 0 ≤ w.toInt ∧ w.toInt ≤ 3) : 0 ≤ ((0 : Int32) + r).toInt ∧ ((0 : Int32) + r).toInt ≤ 7 := by
  have := own_cap (len := 0) hr hw (by decide)
  have e : (0 : Int32).toInt = 0 := rfl
  omega
theorem wd0 {a0 : Array Value} {Z : State} (hw : ∀ d ∈ tables_1, d.before a0 Z = true) : ((Jvm.Cond.arrayClass Jvm.ClassFile.FieldType.int)).before a0 Z = true := hw _ (List.mem_of_getElem? (i := 0) rfl)
theorem wd1 {a0 : Array Value} {Z : State} (hw : ∀ d ∈ tables_1, d.before a0 Z = true) : ((Jvm.Cond.classLink "com/example/vigilant_mailbox/vigilantmailbox/engine/SendsClearPinLaw" (7 : Nat) "com/example/vigilant_mailbox/vigilantmailbox/engine/Sends")).before a0 Z = true := hw _ (List.mem_of_getElem? (i := 1) rfl)
theorem wd2 {a0 : Array Value} {Z : State} (hw : ∀ d ∈ tables_1, d.before a0 Z = true) : ((Jvm.Cond.instantiable "com/example/vigilant_mailbox/vigilantmailbox/engine/Sends" (14 : Nat))).before a0 Z = true := hw _ (List.mem_of_getElem? (i := 2) rfl)
theorem wd3 {a0 : Array Value} {Z : State} (hw : ∀ d ∈ tables_1, d.before a0 Z = true) : ((Jvm.Cond.initialized "com/example/vigilant_mailbox/vigilantmailbox/engine/Sends")).before a0 Z = true := hw _ (List.mem_of_getElem? (i := 3) rfl)
theorem wd4 {a0 : Array Value} {Z : State} (hw : ∀ d ∈ tables_1, d.before a0 Z = true) : ((Jvm.Cond.methodLink "com/example/vigilant_mailbox/vigilantmailbox/engine/SendsClearPinLaw" (9 : Nat) ({ cls := "com/example/vigilant_mailbox/vigilantmailbox/engine/Sends", name := "<init>", desc := "(I)V" } : Jvm.MethodName))).before a0 Z = true := hw _ (List.mem_of_getElem? (i := 4) rfl)
theorem wd5 {a0 : Array Value} {Z : State} (hw : ∀ d ∈ tables_1, d.before a0 Z = true) : ((Jvm.Cond.instanceMethod ({ cls := "com/example/vigilant_mailbox/vigilantmailbox/engine/Sends", name := "<init>", desc := "(I)V" } : Jvm.MethodName))).before a0 Z = true := hw _ (List.mem_of_getElem? (i := 5) rfl)
theorem wd6 {a0 : Array Value} {Z : State} (hw : ∀ d ∈ tables_1, d.before a0 Z = true) : ((Jvm.Cond.code ({ cls := "com/example/vigilant_mailbox/vigilantmailbox/engine/Sends", name := "<init>", desc := "(I)V" } : Jvm.MethodName) prog_37_method_1_code (2 : Nat) (Option.none : Option Jvm.ClassFile.FieldType))).before a0 Z = true := hw _ (List.mem_of_getElem? (i := 6) rfl)
theorem wd7 {a0 : Array Value} {Z : State} (hw : ∀ d ∈ tables_1, d.before a0 Z = true) : ((Jvm.Cond.methodLink "com/example/vigilant_mailbox/vigilantmailbox/engine/Sends" (1 : Nat) ({ cls := "java/lang/Object", name := "<init>", desc := "()V" } : Jvm.MethodName))).before a0 Z = true := hw _ (List.mem_of_getElem? (i := 7) rfl)
theorem wd8 {a0 : Array Value} {Z : State} (hw : ∀ d ∈ tables_1, d.before a0 Z = true) : ((Jvm.Cond.instanceMethod ({ cls := "java/lang/Object", name := "<init>", desc := "()V" } : Jvm.MethodName))).before a0 Z = true := hw _ (List.mem_of_getElem? (i := 8) rfl)
theorem wd9 {a0 : Array Value} {Z : State} (hw : ∀ d ∈ tables_1, d.before a0 Z = true) : ((Jvm.Cond.code ({ cls := "java/lang/Object", name := "<init>", desc := "()V" } : Jvm.MethodName) object_method_1_code (1 : Nat) (Option.none : Option Jvm.ClassFile.FieldType))).before a0 Z = true := hw _ (List.mem_of_getElem? (i := 9) rfl)
theorem wd10 {a0 : Array Value} {Z : State} (hw : ∀ d ∈ tables_1, d.before a0 Z = true) : ((Jvm.Cond.classLink "com/example/vigilant_mailbox/vigilantmailbox/engine/Sends" (9 : Nat) "[[I")).before a0 Z = true := hw _ (List.mem_of_getElem? (i := 10) rfl)
theorem wd11 {a0 : Array Value} {Z : State} (hw : ∀ d ∈ tables_1, d.before a0 Z = true) : ((Jvm.Cond.arrayOver (Jvm.ClassFile.FieldType.array Jvm.ClassFile.FieldType.int))).before a0 Z = true := hw _ (List.mem_of_getElem? (i := 11) rfl)
theorem wd12 {a0 : Array Value} {Z : State} (hw : ∀ d ∈ tables_1, d.before a0 Z = true) : ((Jvm.Cond.fieldLink "com/example/vigilant_mailbox/vigilantmailbox/engine/Sends" (11 : Nat) "com/example/vigilant_mailbox/vigilantmailbox/engine/Sends" "chunks" "[[I")).before a0 Z = true := hw _ (List.mem_of_getElem? (i := 12) rfl)
theorem wd13 {a0 : Array Value} {Z : State} (hw : ∀ d ∈ tables_1, d.before a0 Z = true) : ((Jvm.Cond.lays "com/example/vigilant_mailbox/vigilantmailbox/engine/Sends" "com/example/vigilant_mailbox/vigilantmailbox/engine/Sends" "chunks" "[[I")).before a0 Z = true := hw _ (List.mem_of_getElem? (i := 13) rfl)
theorem wd14 {a0 : Array Value} {Z : State} (hw : ∀ d ∈ tables_1, d.before a0 Z = true) : ((Jvm.Cond.constantLong "com/example/vigilant_mailbox/vigilantmailbox/engine/Sends" (14 : Nat) (4096 : Int64))).before a0 Z = true := hw _ (List.mem_of_getElem? (i := 14) rfl)
theorem wd15 {a0 : Array Value} {Z : State} (hw : ∀ d ∈ tables_1, d.before a0 Z = true) : ((Jvm.Cond.fieldLink "com/example/vigilant_mailbox/vigilantmailbox/engine/Sends" (16 : Nat) "com/example/vigilant_mailbox/vigilantmailbox/engine/Sends" "chunkValues" "J")).before a0 Z = true := hw _ (List.mem_of_getElem? (i := 15) rfl)
theorem wd16 {a0 : Array Value} {Z : State} (hw : ∀ d ∈ tables_1, d.before a0 Z = true) : ((Jvm.Cond.lays "com/example/vigilant_mailbox/vigilantmailbox/engine/Sends" "com/example/vigilant_mailbox/vigilantmailbox/engine/Sends" "chunkValues" "J")).before a0 Z = true := hw _ (List.mem_of_getElem? (i := 16) rfl)
theorem wd17 {a0 : Array Value} {Z : State} (hw : ∀ d ∈ tables_1, d.before a0 Z = true) : ((Jvm.Cond.fieldLink "com/example/vigilant_mailbox/vigilantmailbox/engine/Sends" (20 : Nat) "com/example/vigilant_mailbox/vigilantmailbox/engine/Sends" "counts" "[I")).before a0 Z = true := hw _ (List.mem_of_getElem? (i := 17) rfl)
theorem wd18 {a0 : Array Value} {Z : State} (hw : ∀ d ∈ tables_1, d.before a0 Z = true) : ((Jvm.Cond.laysFinal "com/example/vigilant_mailbox/vigilantmailbox/engine/Sends" "com/example/vigilant_mailbox/vigilantmailbox/engine/Sends" "counts" "[I")).before a0 Z = true := hw _ (List.mem_of_getElem? (i := 18) rfl)
theorem wd19 {a0 : Array Value} {Z : State} (hw : ∀ d ∈ tables_1, d.before a0 Z = true) : ((Jvm.Cond.arrayClass Jvm.ClassFile.FieldType.long)).before a0 Z = true := hw _ (List.mem_of_getElem? (i := 19) rfl)
theorem wd20 {a0 : Array Value} {Z : State} (hw : ∀ d ∈ tables_1, d.before a0 Z = true) : ((Jvm.Cond.fieldLink "com/example/vigilant_mailbox/vigilantmailbox/engine/Sends" (24 : Nat) "com/example/vigilant_mailbox/vigilantmailbox/engine/Sends" "rowLengths" "[J")).before a0 Z = true := hw _ (List.mem_of_getElem? (i := 20) rfl)
theorem wd21 {a0 : Array Value} {Z : State} (hw : ∀ d ∈ tables_1, d.before a0 Z = true) : ((Jvm.Cond.laysFinal "com/example/vigilant_mailbox/vigilantmailbox/engine/Sends" "com/example/vigilant_mailbox/vigilantmailbox/engine/Sends" "rowLengths" "[J")).before a0 Z = true := hw _ (List.mem_of_getElem? (i := 21) rfl)
theorem wd22 {a0 : Array Value} {Z : State} (hw : ∀ d ∈ tables_1, d.before a0 Z = true) : ((Jvm.Cond.fieldLink "com/example/vigilant_mailbox/vigilantmailbox/engine/Sends" (28 : Nat) "com/example/vigilant_mailbox/vigilantmailbox/engine/Sends" "firstChunks" "[I")).before a0 Z = true := hw _ (List.mem_of_getElem? (i := 22) rfl)
theorem wd23 {a0 : Array Value} {Z : State} (hw : ∀ d ∈ tables_1, d.before a0 Z = true) : ((Jvm.Cond.laysFinal "com/example/vigilant_mailbox/vigilantmailbox/engine/Sends" "com/example/vigilant_mailbox/vigilantmailbox/engine/Sends" "firstChunks" "[I")).before a0 Z = true := hw _ (List.mem_of_getElem? (i := 23) rfl)
theorem wd24 {a0 : Array Value} {Z : State} (hw : ∀ d ∈ tables_1, d.before a0 Z = true) : ((Jvm.Cond.fieldLink "com/example/vigilant_mailbox/vigilantmailbox/engine/Sends" (31 : Nat) "com/example/vigilant_mailbox/vigilantmailbox/engine/Sends" "firsts" "[I")).before a0 Z = true := hw _ (List.mem_of_getElem? (i := 24) rfl)
theorem wd25 {a0 : Array Value} {Z : State} (hw : ∀ d ∈ tables_1, d.before a0 Z = true) : ((Jvm.Cond.laysFinal "com/example/vigilant_mailbox/vigilantmailbox/engine/Sends" "com/example/vigilant_mailbox/vigilantmailbox/engine/Sends" "firsts" "[I")).before a0 Z = true := hw _ (List.mem_of_getElem? (i := 25) rfl)
theorem wd26 {a0 : Array Value} {Z : State} (hw : ∀ d ∈ tables_1, d.before a0 Z = true) : ((Jvm.Cond.fieldLink "com/example/vigilant_mailbox/vigilantmailbox/engine/Sends" (34 : Nat) "com/example/vigilant_mailbox/vigilantmailbox/engine/Sends" "lastChunks" "[I")).before a0 Z = true := hw _ (List.mem_of_getElem? (i := 26) rfl)
theorem wd27 {a0 : Array Value} {Z : State} (hw : ∀ d ∈ tables_1, d.before a0 Z = true) : ((Jvm.Cond.laysFinal "com/example/vigilant_mailbox/vigilantmailbox/engine/Sends" "com/example/vigilant_mailbox/vigilantmailbox/engine/Sends" "lastChunks" "[I")).before a0 Z = true := hw _ (List.mem_of_getElem? (i := 27) rfl)
theorem wd28 {a0 : Array Value} {Z : State} (hw : ∀ d ∈ tables_1, d.before a0 Z = true) : ((Jvm.Cond.fieldLink "com/example/vigilant_mailbox/vigilantmailbox/engine/Sends" (37 : Nat) "com/example/vigilant_mailbox/vigilantmailbox/engine/Sends" "lasts" "[I")).before a0 Z = true := hw _ (List.mem_of_getElem? (i := 28) rfl)
theorem wd29 {a0 : Array Value} {Z : State} (hw : ∀ d ∈ tables_1, d.before a0 Z = true) : ((Jvm.Cond.laysFinal "com/example/vigilant_mailbox/vigilantmailbox/engine/Sends" "com/example/vigilant_mailbox/vigilantmailbox/engine/Sends" "lasts" "[I")).before a0 Z = true := hw _ (List.mem_of_getElem? (i := 29) rfl)
theorem wd30 {a0 : Array Value} {Z : State} (hw : ∀ d ∈ tables_1, d.before a0 Z = true) : ((Jvm.Cond.fieldLink "com/example/vigilant_mailbox/vigilantmailbox/engine/Sends" (40 : Nat) "com/example/vigilant_mailbox/vigilantmailbox/engine/Sends" "receivers" "[I")).before a0 Z = true := hw _ (List.mem_of_getElem? (i := 30) rfl)
theorem wd31 {a0 : Array Value} {Z : State} (hw : ∀ d ∈ tables_1, d.before a0 Z = true) : ((Jvm.Cond.laysFinal "com/example/vigilant_mailbox/vigilantmailbox/engine/Sends" "com/example/vigilant_mailbox/vigilantmailbox/engine/Sends" "receivers" "[I")).before a0 Z = true := hw _ (List.mem_of_getElem? (i := 31) rfl)
theorem wd32 {a0 : Array Value} {Z : State} (hw : ∀ d ∈ tables_1, d.before a0 Z = true) : ((Jvm.Cond.methodLink "com/example/vigilant_mailbox/vigilantmailbox/engine/SendsClearPinLaw" (12 : Nat) ({ cls := "com/example/vigilant_mailbox/vigilantmailbox/engine/Sends", name := "add", desc := "(II[III)V" } : Jvm.MethodName))).before a0 Z = true := hw _ (List.mem_of_getElem? (i := 32) rfl)
theorem wd33 {a0 : Array Value} {Z : State} (hw : ∀ d ∈ tables_1, d.before a0 Z = true) : ((Jvm.Cond.declares ({ cls := "com/example/vigilant_mailbox/vigilantmailbox/engine/Sends", name := "add", desc := "(II[III)V" } : Jvm.MethodName))).before a0 Z = true := hw _ (List.mem_of_getElem? (i := 33) rfl)
theorem wd34 {a0 : Array Value} {Z : State} (hw : ∀ d ∈ tables_1, d.before a0 Z = true) : ((Jvm.Cond.instanceMethod ({ cls := "com/example/vigilant_mailbox/vigilantmailbox/engine/Sends", name := "add", desc := "(II[III)V" } : Jvm.MethodName))).before a0 Z = true := hw _ (List.mem_of_getElem? (i := 34) rfl)
theorem wd35 {a0 : Array Value} {Z : State} (hw : ∀ d ∈ tables_1, d.before a0 Z = true) : ((Jvm.Cond.selects "com/example/vigilant_mailbox/vigilantmailbox/engine/Sends" ({ cls := "com/example/vigilant_mailbox/vigilantmailbox/engine/Sends", name := "add", desc := "(II[III)V" } : Jvm.MethodName) ({ cls := "com/example/vigilant_mailbox/vigilantmailbox/engine/Sends", name := "add", desc := "(II[III)V" } : Jvm.MethodName))).before a0 Z = true := hw _ (List.mem_of_getElem? (i := 35) rfl)
theorem wd36 {a0 : Array Value} {Z : State} (hw : ∀ d ∈ tables_1, d.before a0 Z = true) : ((Jvm.Cond.code ({ cls := "com/example/vigilant_mailbox/vigilantmailbox/engine/Sends", name := "add", desc := "(II[III)V" } : Jvm.MethodName) prog_37_method_8_code (8 : Nat) (Option.none : Option Jvm.ClassFile.FieldType))).before a0 Z = true := hw _ (List.mem_of_getElem? (i := 36) rfl)
theorem wd37 {a0 : Array Value} {Z : State} (hw : ∀ d ∈ tables_1, d.before a0 Z = true) : ((Jvm.Cond.constantLong "com/example/vigilant_mailbox/vigilantmailbox/engine/Sends" (59 : Nat) (4 : Int64))).before a0 Z = true := hw _ (List.mem_of_getElem? (i := 37) rfl)
theorem wd38 {a0 : Array Value} {Z : State} (hw : ∀ d ∈ tables_1, d.before a0 Z = true) : ((Jvm.Cond.methodLink "com/example/vigilant_mailbox/vigilantmailbox/engine/Sends" (61 : Nat) ({ cls := "com/example/vigilant_mailbox/vigilantmailbox/engine/Capacity", name := "checked", desc := "(J)I" } : Jvm.MethodName))).before a0 Z = true := hw _ (List.mem_of_getElem? (i := 38) rfl)
theorem wd39 {a0 : Array Value} {Z : State} (hw : ∀ d ∈ tables_1, d.before a0 Z = true) : ((Jvm.Cond.static ({ cls := "com/example/vigilant_mailbox/vigilantmailbox/engine/Capacity", name := "checked", desc := "(J)I" } : Jvm.MethodName))).before a0 Z = true := hw _ (List.mem_of_getElem? (i := 39) rfl)
theorem wd40 {a0 : Array Value} {Z : State} (hw : ∀ d ∈ tables_1, d.before a0 Z = true) : ((Jvm.Cond.initialized "com/example/vigilant_mailbox/vigilantmailbox/engine/Capacity")).before a0 Z = true := hw _ (List.mem_of_getElem? (i := 40) rfl)
theorem wd41 {a0 : Array Value} {Z : State} (hw : ∀ d ∈ tables_1, d.before a0 Z = true) : ((Jvm.Cond.code ({ cls := "com/example/vigilant_mailbox/vigilantmailbox/engine/Capacity", name := "checked", desc := "(J)I" } : Jvm.MethodName) prog_16_method_2_code (2 : Nat) (Option.some Jvm.ClassFile.FieldType.int))).before a0 Z = true := hw _ (List.mem_of_getElem? (i := 41) rfl)
theorem wd42 {a0 : Array Value} {Z : State} (hw : ∀ d ∈ tables_1, d.before a0 Z = true) : ((Jvm.Cond.constantLong "com/example/vigilant_mailbox/vigilantmailbox/engine/Capacity" (11 : Nat) (2147483639 : Int64))).before a0 Z = true := hw _ (List.mem_of_getElem? (i := 42) rfl)
theorem wd43 {a0 : Array Value} {Z : State} (hw : ∀ d ∈ tables_1, d.before a0 Z = true) : ((Jvm.Cond.fieldLink "com/example/vigilant_mailbox/vigilantmailbox/engine/Sends" (50 : Nat) "com/example/vigilant_mailbox/vigilantmailbox/engine/Sends" "length" "I")).before a0 Z = true := hw _ (List.mem_of_getElem? (i := 43) rfl)
theorem wd44 {a0 : Array Value} {Z : State} (hw : ∀ d ∈ tables_1, d.before a0 Z = true) : ((Jvm.Cond.lays "com/example/vigilant_mailbox/vigilantmailbox/engine/Sends" "com/example/vigilant_mailbox/vigilantmailbox/engine/Sends" "length" "I")).before a0 Z = true := hw _ (List.mem_of_getElem? (i := 44) rfl)
theorem wd45 {a0 : Array Value} {Z : State} (hw : ∀ d ∈ tables_1, d.before a0 Z = true) : ((Jvm.Cond.fieldLink "com/example/vigilant_mailbox/vigilantmailbox/engine/Sends" (47 : Nat) "com/example/vigilant_mailbox/vigilantmailbox/engine/Sends" "chunk" "I")).before a0 Z = true := hw _ (List.mem_of_getElem? (i := 45) rfl)
theorem wd46 {a0 : Array Value} {Z : State} (hw : ∀ d ∈ tables_1, d.before a0 Z = true) : ((Jvm.Cond.lays "com/example/vigilant_mailbox/vigilantmailbox/engine/Sends" "com/example/vigilant_mailbox/vigilantmailbox/engine/Sends" "chunk" "I")).before a0 Z = true := hw _ (List.mem_of_getElem? (i := 46) rfl)
theorem wd47 {a0 : Array Value} {Z : State} (hw : ∀ d ∈ tables_1, d.before a0 Z = true) : ((Jvm.Cond.fieldLink "com/example/vigilant_mailbox/vigilantmailbox/engine/Sends" (43 : Nat) "com/example/vigilant_mailbox/vigilantmailbox/engine/Sends" "receiverCount" "I")).before a0 Z = true := hw _ (List.mem_of_getElem? (i := 47) rfl)
theorem wd48 {a0 : Array Value} {Z : State} (hw : ∀ d ∈ tables_1, d.before a0 Z = true) : ((Jvm.Cond.lays "com/example/vigilant_mailbox/vigilantmailbox/engine/Sends" "com/example/vigilant_mailbox/vigilantmailbox/engine/Sends" "receiverCount" "I")).before a0 Z = true := hw _ (List.mem_of_getElem? (i := 48) rfl)
theorem wd49 {a0 : Array Value} {Z : State} (hw : ∀ d ∈ tables_1, d.before a0 Z = true) : ((Jvm.Cond.methodLink "com/example/vigilant_mailbox/vigilantmailbox/engine/Sends" (71 : Nat) ({ cls := "java/lang/System", name := "arraycopy", desc := "(Ljava/lang/Object;ILjava/lang/Object;II)V" } : Jvm.MethodName))).before a0 Z = true := hw _ (List.mem_of_getElem? (i := 49) rfl)
theorem wd50 {a0 : Array Value} {Z : State} (hw : ∀ d ∈ tables_1, d.before a0 Z = true) : ((Jvm.Cond.static ({ cls := "java/lang/System", name := "arraycopy", desc := "(Ljava/lang/Object;ILjava/lang/Object;II)V" } : Jvm.MethodName))).before a0 Z = true := hw _ (List.mem_of_getElem? (i := 50) rfl)
theorem wd51 {a0 : Array Value} {Z : State} (hw : ∀ d ∈ tables_1, d.before a0 Z = true) : ((Jvm.Cond.initialized "java/lang/System")).before a0 Z = true := hw _ (List.mem_of_getElem? (i := 51) rfl)
theorem wd52 {a0 : Array Value} {Z : State} (hw : ∀ d ∈ tables_1, d.before a0 Z = true) : ((Jvm.Cond.native ({ cls := "java/lang/System", name := "arraycopy", desc := "(Ljava/lang/Object;ILjava/lang/Object;II)V" } : Jvm.MethodName))).before a0 Z = true := hw _ (List.mem_of_getElem? (i := 52) rfl)
theorem wd53 {a0 : Array Value} {Z : State} (hw : ∀ d ∈ tables_1, d.before a0 Z = true) : ((Jvm.Cond.fieldLink "com/example/vigilant_mailbox/vigilantmailbox/engine/Sends" (53 : Nat) "com/example/vigilant_mailbox/vigilantmailbox/engine/Sends" "total" "I")).before a0 Z = true := hw _ (List.mem_of_getElem? (i := 53) rfl)
theorem wd54 {a0 : Array Value} {Z : State} (hw : ∀ d ∈ tables_1, d.before a0 Z = true) : ((Jvm.Cond.lays "com/example/vigilant_mailbox/vigilantmailbox/engine/Sends" "com/example/vigilant_mailbox/vigilantmailbox/engine/Sends" "total" "I")).before a0 Z = true := hw _ (List.mem_of_getElem? (i := 54) rfl)
theorem wd55 {a0 : Array Value} {Z : State} (hw : ∀ d ∈ tables_1, d.before a0 Z = true) : ((Jvm.Cond.fieldLink "com/example/vigilant_mailbox/vigilantmailbox/engine/Sends" (56 : Nat) "com/example/vigilant_mailbox/vigilantmailbox/engine/Sends" "rowLength" "J")).before a0 Z = true := hw _ (List.mem_of_getElem? (i := 55) rfl)
theorem wd56 {a0 : Array Value} {Z : State} (hw : ∀ d ∈ tables_1, d.before a0 Z = true) : ((Jvm.Cond.lays "com/example/vigilant_mailbox/vigilantmailbox/engine/Sends" "com/example/vigilant_mailbox/vigilantmailbox/engine/Sends" "rowLength" "J")).before a0 Z = true := hw _ (List.mem_of_getElem? (i := 56) rfl)
theorem wd57 {a0 : Array Value} {Z : State} (hw : ∀ d ∈ tables_1, d.before a0 Z = true) : ((Jvm.Cond.methodLink "com/example/vigilant_mailbox/vigilantmailbox/engine/SendsClearPinLaw" (16 : Nat) ({ cls := "com/example/vigilant_mailbox/vigilantmailbox/engine/Sends", name := "clear", desc := "()V" } : Jvm.MethodName))).before a0 Z = true := hw _ (List.mem_of_getElem? (i := 57) rfl)
theorem wd58 {a0 : Array Value} {Z : State} (hw : ∀ d ∈ tables_1, d.before a0 Z = true) : ((Jvm.Cond.declares ({ cls := "com/example/vigilant_mailbox/vigilantmailbox/engine/Sends", name := "clear", desc := "()V" } : Jvm.MethodName))).before a0 Z = true := hw _ (List.mem_of_getElem? (i := 58) rfl)
theorem wd59 {a0 : Array Value} {Z : State} (hw : ∀ d ∈ tables_1, d.before a0 Z = true) : ((Jvm.Cond.instanceMethod ({ cls := "com/example/vigilant_mailbox/vigilantmailbox/engine/Sends", name := "clear", desc := "()V" } : Jvm.MethodName))).before a0 Z = true := hw _ (List.mem_of_getElem? (i := 59) rfl)
theorem wd60 {a0 : Array Value} {Z : State} (hw : ∀ d ∈ tables_1, d.before a0 Z = true) : ((Jvm.Cond.selects "com/example/vigilant_mailbox/vigilantmailbox/engine/Sends" ({ cls := "com/example/vigilant_mailbox/vigilantmailbox/engine/Sends", name := "clear", desc := "()V" } : Jvm.MethodName) ({ cls := "com/example/vigilant_mailbox/vigilantmailbox/engine/Sends", name := "clear", desc := "()V" } : Jvm.MethodName))).before a0 Z = true := hw _ (List.mem_of_getElem? (i := 60) rfl)
theorem wd61 {a0 : Array Value} {Z : State} (hw : ∀ d ∈ tables_1, d.before a0 Z = true) : ((Jvm.Cond.code ({ cls := "com/example/vigilant_mailbox/vigilantmailbox/engine/Sends", name := "clear", desc := "()V" } : Jvm.MethodName) prog_37_method_2_code (2 : Nat) (Option.none : Option Jvm.ClassFile.FieldType))).before a0 Z = true := hw _ (List.mem_of_getElem? (i := 61) rfl)
theorem wd62 {a0 : Array Value} {Z : State} (hw : ∀ d ∈ tables_1, d.before a0 Z = true) : ((Jvm.Cond.methodLink "com/example/vigilant_mailbox/vigilantmailbox/engine/SendsClearPinLaw" (19 : Nat) ({ cls := "com/example/vigilant_mailbox/vigilantmailbox/engine/Sends", name := "count", desc := "(I)I" } : Jvm.MethodName))).before a0 Z = true := hw _ (List.mem_of_getElem? (i := 62) rfl)
theorem wd63 {a0 : Array Value} {Z : State} (hw : ∀ d ∈ tables_1, d.before a0 Z = true) : ((Jvm.Cond.declares ({ cls := "com/example/vigilant_mailbox/vigilantmailbox/engine/Sends", name := "count", desc := "(I)I" } : Jvm.MethodName))).before a0 Z = true := hw _ (List.mem_of_getElem? (i := 63) rfl)
theorem wd64 {a0 : Array Value} {Z : State} (hw : ∀ d ∈ tables_1, d.before a0 Z = true) : ((Jvm.Cond.instanceMethod ({ cls := "com/example/vigilant_mailbox/vigilantmailbox/engine/Sends", name := "count", desc := "(I)I" } : Jvm.MethodName))).before a0 Z = true := hw _ (List.mem_of_getElem? (i := 64) rfl)
theorem wd65 {a0 : Array Value} {Z : State} (hw : ∀ d ∈ tables_1, d.before a0 Z = true) : ((Jvm.Cond.selects "com/example/vigilant_mailbox/vigilantmailbox/engine/Sends" ({ cls := "com/example/vigilant_mailbox/vigilantmailbox/engine/Sends", name := "count", desc := "(I)I" } : Jvm.MethodName) ({ cls := "com/example/vigilant_mailbox/vigilantmailbox/engine/Sends", name := "count", desc := "(I)I" } : Jvm.MethodName))).before a0 Z = true := hw _ (List.mem_of_getElem? (i := 65) rfl)
theorem wd66 {a0 : Array Value} {Z : State} (hw : ∀ d ∈ tables_1, d.before a0 Z = true) : ((Jvm.Cond.code ({ cls := "com/example/vigilant_mailbox/vigilantmailbox/engine/Sends", name := "count", desc := "(I)I" } : Jvm.MethodName) prog_37_method_3_code (2 : Nat) (Option.some Jvm.ClassFile.FieldType.int))).before a0 Z = true := hw _ (List.mem_of_getElem? (i := 66) rfl)
theorem wd67 {a0 : Array Value} {Z : State} (hw : ∀ d ∈ tables_1, d.before a0 Z = true) : ((Jvm.Cond.methodLink "com/example/vigilant_mailbox/vigilantmailbox/engine/SendsClearPinLaw" (23 : Nat) ({ cls := "com/example/vigilant_mailbox/vigilantmailbox/engine/Sends", name := "rowLength", desc := "(I)J" } : Jvm.MethodName))).before a0 Z = true := hw _ (List.mem_of_getElem? (i := 67) rfl)
theorem wd68 {a0 : Array Value} {Z : State} (hw : ∀ d ∈ tables_1, d.before a0 Z = true) : ((Jvm.Cond.declares ({ cls := "com/example/vigilant_mailbox/vigilantmailbox/engine/Sends", name := "rowLength", desc := "(I)J" } : Jvm.MethodName))).before a0 Z = true := hw _ (List.mem_of_getElem? (i := 68) rfl)
theorem wd69 {a0 : Array Value} {Z : State} (hw : ∀ d ∈ tables_1, d.before a0 Z = true) : ((Jvm.Cond.instanceMethod ({ cls := "com/example/vigilant_mailbox/vigilantmailbox/engine/Sends", name := "rowLength", desc := "(I)J" } : Jvm.MethodName))).before a0 Z = true := hw _ (List.mem_of_getElem? (i := 69) rfl)
theorem wd70 {a0 : Array Value} {Z : State} (hw : ∀ d ∈ tables_1, d.before a0 Z = true) : ((Jvm.Cond.selects "com/example/vigilant_mailbox/vigilantmailbox/engine/Sends" ({ cls := "com/example/vigilant_mailbox/vigilantmailbox/engine/Sends", name := "rowLength", desc := "(I)J" } : Jvm.MethodName) ({ cls := "com/example/vigilant_mailbox/vigilantmailbox/engine/Sends", name := "rowLength", desc := "(I)J" } : Jvm.MethodName))).before a0 Z = true := hw _ (List.mem_of_getElem? (i := 70) rfl)
theorem wd71 {a0 : Array Value} {Z : State} (hw : ∀ d ∈ tables_1, d.before a0 Z = true) : ((Jvm.Cond.code ({ cls := "com/example/vigilant_mailbox/vigilantmailbox/engine/Sends", name := "rowLength", desc := "(I)J" } : Jvm.MethodName) prog_37_method_7_code (2 : Nat) (Option.some Jvm.ClassFile.FieldType.long))).before a0 Z = true := hw _ (List.mem_of_getElem? (i := 71) rfl)
theorem wd72 {a0 : Array Value} {Z : State} (hw : ∀ d ∈ tables_1, d.before a0 Z = true) : ((Jvm.Cond.methodLink "com/example/vigilant_mailbox/vigilantmailbox/engine/SendsClearPinLaw" (27 : Nat) ({ cls := "com/example/vigilant_mailbox/vigilantmailbox/engine/Sends", name := "total", desc := "()I" } : Jvm.MethodName))).before a0 Z = true := hw _ (List.mem_of_getElem? (i := 72) rfl)
theorem wd73 {a0 : Array Value} {Z : State} (hw : ∀ d ∈ tables_1, d.before a0 Z = true) : ((Jvm.Cond.declares ({ cls := "com/example/vigilant_mailbox/vigilantmailbox/engine/Sends", name := "total", desc := "()I" } : Jvm.MethodName))).before a0 Z = true := hw _ (List.mem_of_getElem? (i := 73) rfl)
theorem wd74 {a0 : Array Value} {Z : State} (hw : ∀ d ∈ tables_1, d.before a0 Z = true) : ((Jvm.Cond.instanceMethod ({ cls := "com/example/vigilant_mailbox/vigilantmailbox/engine/Sends", name := "total", desc := "()I" } : Jvm.MethodName))).before a0 Z = true := hw _ (List.mem_of_getElem? (i := 74) rfl)
theorem wd75 {a0 : Array Value} {Z : State} (hw : ∀ d ∈ tables_1, d.before a0 Z = true) : ((Jvm.Cond.selects "com/example/vigilant_mailbox/vigilantmailbox/engine/Sends" ({ cls := "com/example/vigilant_mailbox/vigilantmailbox/engine/Sends", name := "total", desc := "()I" } : Jvm.MethodName) ({ cls := "com/example/vigilant_mailbox/vigilantmailbox/engine/Sends", name := "total", desc := "()I" } : Jvm.MethodName))).before a0 Z = true := hw _ (List.mem_of_getElem? (i := 75) rfl)
theorem wd76 {a0 : Array Value} {Z : State} (hw : ∀ d ∈ tables_1, d.before a0 Z = true) : ((Jvm.Cond.code ({ cls := "com/example/vigilant_mailbox/vigilantmailbox/engine/Sends", name := "total", desc := "()I" } : Jvm.MethodName) prog_37_method_4_code (1 : Nat) (Option.some Jvm.ClassFile.FieldType.int))).before a0 Z = true := hw _ (List.mem_of_getElem? (i := 76) rfl)
theorem wd77 {a0 : Array Value} {Z : State} (hw : ∀ d ∈ tables_1, d.before a0 Z = true) : ((Jvm.Cond.methodLink "com/example/vigilant_mailbox/vigilantmailbox/engine/SendsClearPinLaw" (31 : Nat) ({ cls := "com/example/vigilant_mailbox/vigilantmailbox/engine/Sends", name := "rowLength", desc := "()J" } : Jvm.MethodName))).before a0 Z = true := hw _ (List.mem_of_getElem? (i := 77) rfl)
theorem wd78 {a0 : Array Value} {Z : State} (hw : ∀ d ∈ tables_1, d.before a0 Z = true) : ((Jvm.Cond.declares ({ cls := "com/example/vigilant_mailbox/vigilantmailbox/engine/Sends", name := "rowLength", desc := "()J" } : Jvm.MethodName))).before a0 Z = true := hw _ (List.mem_of_getElem? (i := 78) rfl)
theorem wd79 {a0 : Array Value} {Z : State} (hw : ∀ d ∈ tables_1, d.before a0 Z = true) : ((Jvm.Cond.instanceMethod ({ cls := "com/example/vigilant_mailbox/vigilantmailbox/engine/Sends", name := "rowLength", desc := "()J" } : Jvm.MethodName))).before a0 Z = true := hw _ (List.mem_of_getElem? (i := 79) rfl)
theorem wd80 {a0 : Array Value} {Z : State} (hw : ∀ d ∈ tables_1, d.before a0 Z = true) : ((Jvm.Cond.selects "com/example/vigilant_mailbox/vigilantmailbox/engine/Sends" ({ cls := "com/example/vigilant_mailbox/vigilantmailbox/engine/Sends", name := "rowLength", desc := "()J" } : Jvm.MethodName) ({ cls := "com/example/vigilant_mailbox/vigilantmailbox/engine/Sends", name := "rowLength", desc := "()J" } : Jvm.MethodName))).before a0 Z = true := hw _ (List.mem_of_getElem? (i := 80) rfl)
theorem wd81 {a0 : Array Value} {Z : State} (hw : ∀ d ∈ tables_1, d.before a0 Z = true) : ((Jvm.Cond.code ({ cls := "com/example/vigilant_mailbox/vigilantmailbox/engine/Sends", name := "rowLength", desc := "()J" } : Jvm.MethodName) prog_37_method_6_code (1 : Nat) (Option.some Jvm.ClassFile.FieldType.long))).before a0 Z = true := hw _ (List.mem_of_getElem? (i := 81) rfl)
theorem pd0 : parseMethodDescriptor "(J)I" = some ⟨[.long], some .int⟩ := by decide +kernel
theorem pd1 : parseMethodDescriptor "(I)V" = some ⟨[.int], none⟩ := by decide +kernel
theorem pd2 : parseMethodDescriptor "(II[III)V" = some ⟨[.int, .int, (.array .int), .int, .int], none⟩ := by decide +kernel
theorem pd3 : parseMethodDescriptor "()V" = some ⟨[], none⟩ := by decide +kernel
theorem pd4 : parseMethodDescriptor "(I)I" = some ⟨[.int], some .int⟩ := by decide +kernel
theorem pd5 : parseMethodDescriptor "(I)J" = some ⟨[.int], some .long⟩ := by decide +kernel
theorem pd6 : parseMethodDescriptor "()I" = some ⟨[], some .int⟩ := by decide +kernel
theorem pd7 : parseMethodDescriptor "()J" = some ⟨[], some .long⟩ := by decide +kernel
theorem d4_0 : decode prog_16_method_2_code 0 = .ok (.lload_n 0, 1) := by decide +kernel
theorem d4_1 : decode prog_16_method_2_code 1 = .ok (.ldc2_w 11, 3) := by decide +kernel
theorem d4_4 : decode prog_16_method_2_code 4 = .ok (.lcmp, 1) := by decide +kernel
theorem d4_5 : decode prog_16_method_2_code 5 = .ok (.ifCond .le 17, 3) := by decide +kernel
theorem d4_22 : decode prog_16_method_2_code 22 = .ok (.lload_n 0, 1) := by decide +kernel
theorem d4_23 : decode prog_16_method_2_code 23 = .ok (.l2i, 1) := by decide +kernel
theorem d4_24 : decode prog_16_method_2_code 24 = .ok (.ireturn, 1) := by decide +kernel
theorem pn4 : plainName "com/example/vigilant_mailbox/vigilantmailbox/engine/Capacity" = true := by first | (simp [plainName, overriddenIn]; done) | decide +kernel
set_option maxRecDepth 65536 in
set_option maxHeartbeats 40000000 in
theorem rm_cc {l : Launch} {Z : State} {a0 : Array Value} (hw : ∀ d ∈ tables_1, d.before a0 Z = true) (xx : Int64) (h : Heap) (n0 : Nat) (zn : n0 ≤ h.size) (hx : xx.toInt ≤ 7) :
    Met l Z (⟨"com/example/vigilant_mailbox/vigilantmailbox/engine/Capacity", "checked", "(J)I"⟩ : MethodName) prog_16_method_2_code 2 (some .int) [] ({ frames := 0, cells := 0, slots := 0, locals := 0 } : Room) #[(.long xx)] h n0 (RI fun r h' => h' = h ∧ r = xx.toInt32) := by
  refine start (ls := #[.val (.long xx), .second]) (plainFor_of_name pn4) (fun m => by first | (simp [entryFrame, mkF, argsToLocals, Value.category]; done) | rfl) ?_
  intro p e s m below meth c T G w X
  refine lloadN w X d4_0 1 rfl rfl ?_
  refine ldc2J w X (wd42 hw) d4_1 4 rfl ?_
  refine lcmp w X (lcmpW xx (2147483639 : Int64)) d4_4 5 rfl rfl ?_
  refine if_le w X d4_5 22 8 (by decide) (by decide) rfl (fun hc5_1 => ?_) (fun q => False.elim (by exact own_lc hx q))
  refine lloadN w X d4_22 23 rfl rfl ?_
  refine l2i w X (xx.toInt32) d4_23 24 rfl rfl ?_
  refine retI w X rfl d4_24 (by decide) (by decide) ?_
  exact ⟨_, rfl, rfl, rfl⟩
theorem d1_0 : decode prog_37_method_1_code 0 = .ok (.aload_n 0, 1) := by decide +kernel
theorem d1_1 : decode prog_37_method_1_code 1 = .ok (.invokespecial 1, 3) := by decide +kernel
theorem d1_4 : decode prog_37_method_1_code 4 = .ok (.aload_n 0, 1) := by decide +kernel
theorem d1_5 : decode prog_37_method_1_code 5 = .ok (.iconst 1, 1) := by decide +kernel
theorem d1_6 : decode prog_37_method_1_code 6 = .ok (.sipush 4096, 3) := by decide +kernel
theorem d1_9 : decode prog_37_method_1_code 9 = .ok (.multianewarray 9 2, 4) := by decide +kernel
theorem d1_13 : decode prog_37_method_1_code 13 = .ok (.putfield 11, 3) := by decide +kernel
theorem d1_16 : decode prog_37_method_1_code 16 = .ok (.aload_n 0, 1) := by decide +kernel
theorem d1_17 : decode prog_37_method_1_code 17 = .ok (.ldc2_w 14, 3) := by decide +kernel
theorem d1_20 : decode prog_37_method_1_code 20 = .ok (.putfield 16, 3) := by decide +kernel
theorem d1_23 : decode prog_37_method_1_code 23 = .ok (.aload_n 0, 1) := by decide +kernel
theorem d1_24 : decode prog_37_method_1_code 24 = .ok (.iload_n 1, 1) := by decide +kernel
theorem d1_25 : decode prog_37_method_1_code 25 = .ok (.newarray .int, 2) := by decide +kernel
theorem d1_27 : decode prog_37_method_1_code 27 = .ok (.putfield 20, 3) := by decide +kernel
theorem d1_30 : decode prog_37_method_1_code 30 = .ok (.aload_n 0, 1) := by decide +kernel
theorem d1_31 : decode prog_37_method_1_code 31 = .ok (.iload_n 1, 1) := by decide +kernel
theorem d1_32 : decode prog_37_method_1_code 32 = .ok (.newarray .long, 2) := by decide +kernel
theorem d1_34 : decode prog_37_method_1_code 34 = .ok (.putfield 24, 3) := by decide +kernel
theorem d1_37 : decode prog_37_method_1_code 37 = .ok (.aload_n 0, 1) := by decide +kernel
theorem d1_38 : decode prog_37_method_1_code 38 = .ok (.iload_n 1, 1) := by decide +kernel
theorem d1_39 : decode prog_37_method_1_code 39 = .ok (.newarray .int, 2) := by decide +kernel
theorem d1_41 : decode prog_37_method_1_code 41 = .ok (.putfield 28, 3) := by decide +kernel
theorem d1_44 : decode prog_37_method_1_code 44 = .ok (.aload_n 0, 1) := by decide +kernel
theorem d1_45 : decode prog_37_method_1_code 45 = .ok (.iload_n 1, 1) := by decide +kernel
theorem d1_46 : decode prog_37_method_1_code 46 = .ok (.newarray .int, 2) := by decide +kernel
theorem d1_48 : decode prog_37_method_1_code 48 = .ok (.putfield 31, 3) := by decide +kernel
theorem d1_51 : decode prog_37_method_1_code 51 = .ok (.aload_n 0, 1) := by decide +kernel
theorem d1_52 : decode prog_37_method_1_code 52 = .ok (.iload_n 1, 1) := by decide +kernel
theorem d1_53 : decode prog_37_method_1_code 53 = .ok (.newarray .int, 2) := by decide +kernel
theorem d1_55 : decode prog_37_method_1_code 55 = .ok (.putfield 34, 3) := by decide +kernel
theorem d1_58 : decode prog_37_method_1_code 58 = .ok (.aload_n 0, 1) := by decide +kernel
theorem d1_59 : decode prog_37_method_1_code 59 = .ok (.iload_n 1, 1) := by decide +kernel
theorem d1_60 : decode prog_37_method_1_code 60 = .ok (.newarray .int, 2) := by decide +kernel
theorem d1_62 : decode prog_37_method_1_code 62 = .ok (.putfield 37, 3) := by decide +kernel
theorem d1_65 : decode prog_37_method_1_code 65 = .ok (.aload_n 0, 1) := by decide +kernel
theorem d1_66 : decode prog_37_method_1_code 66 = .ok (.iload_n 1, 1) := by decide +kernel
theorem d1_67 : decode prog_37_method_1_code 67 = .ok (.newarray .int, 2) := by decide +kernel
theorem d1_69 : decode prog_37_method_1_code 69 = .ok (.putfield 40, 3) := by decide +kernel
theorem d1_72 : decode prog_37_method_1_code 72 = .ok (.return_, 1) := by decide +kernel
theorem pn1 : plainName "com/example/vigilant_mailbox/vigilantmailbox/engine/Sends" = true := by first | (simp [plainName, overriddenIn]; done) | decide +kernel
set_option maxRecDepth 65536 in
set_option maxHeartbeats 40000000 in
theorem rm_in {l : Launch} {Z : State} {a0 : Array Value} (hw : ∀ d ∈ tables_1, d.before a0 Z = true) (o : Addr) (h : Heap) (n0 : Nat) (zn : n0 ≤ h.size) (g_o : n0 ≤ o) (E_o : Exa Z h o "com/example/vigilant_mailbox/vigilantmailbox/engine/Sends") (F_chunks_o : Fld Z h o "com/example/vigilant_mailbox/vigilantmailbox/engine/Sends" "chunks" "[[I" .null) (F_counts_o : Fld Z h o "com/example/vigilant_mailbox/vigilantmailbox/engine/Sends" "counts" "[I" .null) (F_rowLengths_o : Fld Z h o "com/example/vigilant_mailbox/vigilantmailbox/engine/Sends" "rowLengths" "[J" .null) (F_firstChunks_o : Fld Z h o "com/example/vigilant_mailbox/vigilantmailbox/engine/Sends" "firstChunks" "[I" .null) (F_firsts_o : Fld Z h o "com/example/vigilant_mailbox/vigilantmailbox/engine/Sends" "firsts" "[I" .null) (F_lastChunks_o : Fld Z h o "com/example/vigilant_mailbox/vigilantmailbox/engine/Sends" "lastChunks" "[I" .null) (F_lasts_o : Fld Z h o "com/example/vigilant_mailbox/vigilantmailbox/engine/Sends" "lasts" "[I" .null) (F_receivers_o : Fld Z h o "com/example/vigilant_mailbox/vigilantmailbox/engine/Sends" "receivers" "[I" .null) (F_chunk_o : Fld Z h o "com/example/vigilant_mailbox/vigilantmailbox/engine/Sends" "chunk" "I" (.int (0 : Int32))) (F_length_o : Fld Z h o "com/example/vigilant_mailbox/vigilantmailbox/engine/Sends" "length" "I" (.int (0 : Int32))) (F_receiverCount_o : Fld Z h o "com/example/vigilant_mailbox/vigilantmailbox/engine/Sends" "receiverCount" "I" (.int (0 : Int32))) (F_total_o : Fld Z h o "com/example/vigilant_mailbox/vigilantmailbox/engine/Sends" "total" "I" (.int (0 : Int32))) (F_rowLength_o : Fld Z h o "com/example/vigilant_mailbox/vigilantmailbox/engine/Sends" "rowLength" "J" (.long (0 : Int64))) (F_chunkValues_o : Fld Z h o "com/example/vigilant_mailbox/vigilantmailbox/engine/Sends" "chunkValues" "J" (.long (0 : Int64))) :
    Met l Z (⟨"com/example/vigilant_mailbox/vigilantmailbox/engine/Sends", "<init>", "(I)V"⟩ : MethodName) prog_37_method_1_code 2 none [] ({ frames := 1, cells := 9, slots := 4111, locals := 12 } : Room) #[(.ref o), (.int (2 : Int32))] h n0 (RV fun h' => ∃ ck ch cn rl fc fs lc la rv : Addr, Keep h h' [o] ∧ own_ob Z h' o ck ch cn rl fc fs lc la rv (0 : Int32) (0 : Int32) (0 : Int32) (0 : Int32) (0 : Int64) (0 : Int64) (0 : Int64) (0 : Int32) (0 : Int32) (0 : Int32) (0 : Int32) (0 : Int32) (0 : Int32) (0 : Int32) (0 : Int32) (0 : Int32) (0 : Int32) (0 : Int32) (0 : Int32) ∧ own_ne o ck ch cn rl fc fs lc la rv ∧ own_ge n0 o ck ch cn rl fc fs lc la rv ∧ (h.size ≤ ck ∧ h.size ≤ ch ∧ h.size ≤ cn ∧ h.size ≤ rl ∧ h.size ≤ fc ∧ h.size ≤ fs ∧ h.size ≤ lc ∧ h.size ≤ la ∧ h.size ≤ rv)) := by
  refine start (ls := #[.val (.ref o), .val (.int (2 : Int32))]) (plainFor_of_name pn1) (fun m => by first | (simp [entryFrame, mkF, argsToLocals, Value.category]; done) | rfl) ?_
  intro p e s m below meth c T G w X
  have K := Keep.refl h [o]
  refine aloadN w X d1_0 1 rfl rfl rfl ?_
  refine initObj w X (wd7 hw) (wd8 hw) (wd9 hw) d1_1 4 rfl rfl (by decide) 0 (Nat.le_of_eq rfl) (by decide) (fun T X => ?_)
  refine aloadN w X d1_4 5 rfl rfl rfl ?_
  refine iconst w X (1 : Int32) d1_5 6 rfl rfl ?_
  refine sipush w X (4096 : Int32) d1_6 9 rfl rfl ?_
  refine multi1 (ty := .int) w X (C := "[I") (by decide) (by decide) (wd10 hw) (wd11 hw) (wd0 hw) d1_9 13 rfl rfl (by decide) 4096 (by decide) (by decide) rfl rfl (by decide) (by decide) (fun T h1 b2 b3 cA X hnb2 hnb3 E RA_ A => ?_)
  have ne_o_b2 : o ≠ b2 := fun q => absurd (q ▸ E_o.lt) (by rw [hnb2]; exact Nat.lt_irrefl _)
  have g_b2 : n0 ≤ b2 := by rw [hnb2]; exact zn
  have sz_b2 : h.size ≤ b2 := by rw [hnb2]; exact K.1
  have ne_o_b3 : o ≠ b3 := fun q => absurd (q ▸ E_o.lt) (by rw [hnb3]; exact Nat.not_lt.mpr (Nat.le_succ _))
  have ne_b2_b3 : b2 ≠ b3 := by rw [hnb2, hnb3]; exact Nat.ne_of_lt (Nat.lt_succ_self _)
  have g_b3 : n0 ≤ b3 := by rw [hnb3]; exact Nat.le_succ_of_le zn
  have sz_b3 : h.size ≤ b3 := by rw [hnb3]; exact Nat.le_succ_of_le K.1
  have zn : n0 ≤ h1.size := Nat.le_trans zn E.1
  have K := K.ext E
  have E_o := E_o.ext E
  have F_chunks_o := F_chunks_o.ext E
  have F_counts_o := F_counts_o.ext E
  have F_rowLengths_o := F_rowLengths_o.ext E
  have F_firstChunks_o := F_firstChunks_o.ext E
  have F_firsts_o := F_firsts_o.ext E
  have F_lastChunks_o := F_lastChunks_o.ext E
  have F_lasts_o := F_lasts_o.ext E
  have F_receivers_o := F_receivers_o.ext E
  have F_chunk_o := F_chunk_o.ext E
  have F_length_o := F_length_o.ext E
  have F_receiverCount_o := F_receiverCount_o.ext E
  have F_total_o := F_total_o.ext E
  have F_rowLength_o := F_rowLength_o.ext E
  have F_chunkValues_o := F_chunkValues_o.ext E
  have R_b2 := RA_
  have V_b3 : PA Z h1 b3 .int (List.replicate 4096 (0 : Int32)) := PA.new .int rfl rfl 4096 A (by decide)
  refine putfield w X (wd12 hw) Via.refl F_chunks_o E_o (Or.inl (wd13 hw)) (wd2 hw) (ty := (.array (.array .int))) (by decide) rfl rfl g_o d1_13 16 rfl (fun T h4 X W => ?_)
  have zn : n0 ≤ h4.size := W.size ▸ zn
  have K := K.wr W (Or.inl (List.mem_of_getElem? (i := 0) rfl))
  have E_o := E_o.wr W
  have F_chunks_o := F_chunks_o.same W
  have F_counts_o := F_counts_o.other W (Or.inr (slot_ne (Or.inr (wd18 hw)) (Or.inl (wd13 hw)) (by decide) (t := (.array .int)) (t' := (.array (.array .int))) (by decide) (by decide)))
  have F_rowLengths_o := F_rowLengths_o.other W (Or.inr (slot_ne (Or.inr (wd21 hw)) (Or.inl (wd13 hw)) (by decide) (t := (.array .long)) (t' := (.array (.array .int))) (by decide) (by decide)))
  have F_firstChunks_o := F_firstChunks_o.other W (Or.inr (slot_ne (Or.inr (wd23 hw)) (Or.inl (wd13 hw)) (by decide) (t := (.array .int)) (t' := (.array (.array .int))) (by decide) (by decide)))
  have F_firsts_o := F_firsts_o.other W (Or.inr (slot_ne (Or.inr (wd25 hw)) (Or.inl (wd13 hw)) (by decide) (t := (.array .int)) (t' := (.array (.array .int))) (by decide) (by decide)))
  have F_lastChunks_o := F_lastChunks_o.other W (Or.inr (slot_ne (Or.inr (wd27 hw)) (Or.inl (wd13 hw)) (by decide) (t := (.array .int)) (t' := (.array (.array .int))) (by decide) (by decide)))
  have F_lasts_o := F_lasts_o.other W (Or.inr (slot_ne (Or.inr (wd29 hw)) (Or.inl (wd13 hw)) (by decide) (t := (.array .int)) (t' := (.array (.array .int))) (by decide) (by decide)))
  have F_receivers_o := F_receivers_o.other W (Or.inr (slot_ne (Or.inr (wd31 hw)) (Or.inl (wd13 hw)) (by decide) (t := (.array .int)) (t' := (.array (.array .int))) (by decide) (by decide)))
  have F_chunk_o := F_chunk_o.other W (Or.inr (slot_ne (Or.inl (wd46 hw)) (Or.inl (wd13 hw)) (by decide) (t := .int) (t' := (.array (.array .int))) (by decide) (by decide)))
  have F_length_o := F_length_o.other W (Or.inr (slot_ne (Or.inl (wd44 hw)) (Or.inl (wd13 hw)) (by decide) (t := .int) (t' := (.array (.array .int))) (by decide) (by decide)))
  have F_receiverCount_o := F_receiverCount_o.other W (Or.inr (slot_ne (Or.inl (wd48 hw)) (Or.inl (wd13 hw)) (by decide) (t := .int) (t' := (.array (.array .int))) (by decide) (by decide)))
  have F_total_o := F_total_o.other W (Or.inr (slot_ne (Or.inl (wd54 hw)) (Or.inl (wd13 hw)) (by decide) (t := .int) (t' := (.array (.array .int))) (by decide) (by decide)))
  have F_rowLength_o := F_rowLength_o.other W (Or.inr (slot_ne (Or.inl (wd56 hw)) (Or.inl (wd13 hw)) (by decide) (t := .long) (t' := (.array (.array .int))) (by decide) (by decide)))
  have F_chunkValues_o := F_chunkValues_o.other W (Or.inr (slot_ne (Or.inl (wd16 hw)) (Or.inl (wd13 hw)) (by decide) (t := .long) (t' := (.array (.array .int))) (by decide) (by decide)))
  have R_b2 := R_b2.other W (Ne.symm ne_o_b2)
  have V_b3 := V_b3.other W (Ne.symm ne_o_b3)
  refine aloadN w X d1_16 17 rfl rfl rfl ?_
  refine ldc2J w X (wd14 hw) d1_17 20 rfl ?_
  refine putfield w X (wd15 hw) Via.refl F_chunkValues_o E_o (Or.inl (wd16 hw)) (wd2 hw) (ty := .long) (by decide) rfl rfl g_o d1_20 23 rfl (fun T h5 X W => ?_)
  have zn : n0 ≤ h5.size := W.size ▸ zn
  have K := K.wr W (Or.inl (List.mem_of_getElem? (i := 0) rfl))
  have E_o := E_o.wr W
  have F_chunks_o := F_chunks_o.other W (Or.inr (slot_ne (Or.inl (wd13 hw)) (Or.inl (wd16 hw)) (by decide) (t := (.array (.array .int))) (t' := .long) (by decide) (by decide)))
  have F_counts_o := F_counts_o.other W (Or.inr (slot_ne (Or.inr (wd18 hw)) (Or.inl (wd16 hw)) (by decide) (t := (.array .int)) (t' := .long) (by decide) (by decide)))
  have F_rowLengths_o := F_rowLengths_o.other W (Or.inr (slot_ne (Or.inr (wd21 hw)) (Or.inl (wd16 hw)) (by decide) (t := (.array .long)) (t' := .long) (by decide) (by decide)))
  have F_firstChunks_o := F_firstChunks_o.other W (Or.inr (slot_ne (Or.inr (wd23 hw)) (Or.inl (wd16 hw)) (by decide) (t := (.array .int)) (t' := .long) (by decide) (by decide)))
  have F_firsts_o := F_firsts_o.other W (Or.inr (slot_ne (Or.inr (wd25 hw)) (Or.inl (wd16 hw)) (by decide) (t := (.array .int)) (t' := .long) (by decide) (by decide)))
  have F_lastChunks_o := F_lastChunks_o.other W (Or.inr (slot_ne (Or.inr (wd27 hw)) (Or.inl (wd16 hw)) (by decide) (t := (.array .int)) (t' := .long) (by decide) (by decide)))
  have F_lasts_o := F_lasts_o.other W (Or.inr (slot_ne (Or.inr (wd29 hw)) (Or.inl (wd16 hw)) (by decide) (t := (.array .int)) (t' := .long) (by decide) (by decide)))
  have F_receivers_o := F_receivers_o.other W (Or.inr (slot_ne (Or.inr (wd31 hw)) (Or.inl (wd16 hw)) (by decide) (t := (.array .int)) (t' := .long) (by decide) (by decide)))
  have F_chunk_o := F_chunk_o.other W (Or.inr (slot_ne (Or.inl (wd46 hw)) (Or.inl (wd16 hw)) (by decide) (t := .int) (t' := .long) (by decide) (by decide)))
  have F_length_o := F_length_o.other W (Or.inr (slot_ne (Or.inl (wd44 hw)) (Or.inl (wd16 hw)) (by decide) (t := .int) (t' := .long) (by decide) (by decide)))
  have F_receiverCount_o := F_receiverCount_o.other W (Or.inr (slot_ne (Or.inl (wd48 hw)) (Or.inl (wd16 hw)) (by decide) (t := .int) (t' := .long) (by decide) (by decide)))
  have F_total_o := F_total_o.other W (Or.inr (slot_ne (Or.inl (wd54 hw)) (Or.inl (wd16 hw)) (by decide) (t := .int) (t' := .long) (by decide) (by decide)))
  have F_rowLength_o := F_rowLength_o.other W (Or.inr (slot_ne (Or.inl (wd56 hw)) (Or.inl (wd16 hw)) (by decide) (t := .long) (t' := .long) (by decide) (by decide)))
  have F_chunkValues_o := F_chunkValues_o.same W
  have R_b2 := R_b2.other W (Ne.symm ne_o_b2)
  have V_b3 := V_b3.other W (Ne.symm ne_o_b3)
  refine aloadN w X d1_23 24 rfl rfl rfl ?_
  refine iloadN w X d1_24 25 rfl rfl ?_
  refine newarr (aty := .int) w X (wd0 hw) d1_25 27 rfl (by decide) 2 (by decide) (by decide) (by decide) (by decide) (fun T h6 b7 cA X hnb7 E A => ?_)
  have ne_o_b7 : o ≠ b7 := fun q => absurd (q ▸ E_o.lt) (by rw [hnb7]; exact Nat.lt_irrefl _)
  have ne_b2_b7 : b2 ≠ b7 := fun q => absurd (q ▸ R_b2.lt) (by rw [hnb7]; exact Nat.lt_irrefl _)
  have ne_b3_b7 : b3 ≠ b7 := fun q => absurd (q ▸ V_b3.lt) (by rw [hnb7]; exact Nat.lt_irrefl _)
  have g_b7 : n0 ≤ b7 := by rw [hnb7]; exact zn
  have sz_b7 : h.size ≤ b7 := by rw [hnb7]; exact K.1
  have zn : n0 ≤ h6.size := Nat.le_trans zn E.1
  have K := K.ext E
  have E_o := E_o.ext E
  have F_chunks_o := F_chunks_o.ext E
  have F_counts_o := F_counts_o.ext E
  have F_rowLengths_o := F_rowLengths_o.ext E
  have F_firstChunks_o := F_firstChunks_o.ext E
  have F_firsts_o := F_firsts_o.ext E
  have F_lastChunks_o := F_lastChunks_o.ext E
  have F_lasts_o := F_lasts_o.ext E
  have F_receivers_o := F_receivers_o.ext E
  have F_chunk_o := F_chunk_o.ext E
  have F_length_o := F_length_o.ext E
  have F_receiverCount_o := F_receiverCount_o.ext E
  have F_total_o := F_total_o.ext E
  have F_rowLength_o := F_rowLength_o.ext E
  have F_chunkValues_o := F_chunkValues_o.ext E
  have R_b2 := R_b2.ext E
  have V_b3 := V_b3.ext E
  have V_b7 : PA Z h6 b7 .int [(0 : Int32), (0 : Int32)] := PA.new .int rfl rfl 2 A (by decide)
  refine putfield w X (wd17 hw) Via.refl F_counts_o E_o (Or.inr ⟨(wd18 hw), rfl, rfl⟩) (wd2 hw) (ty := (.array .int)) (by decide) rfl rfl g_o d1_27 30 rfl (fun T h8 X W => ?_)
  have zn : n0 ≤ h8.size := W.size ▸ zn
  have K := K.wr W (Or.inl (List.mem_of_getElem? (i := 0) rfl))
  have E_o := E_o.wr W
  have F_chunks_o := F_chunks_o.other W (Or.inr (slot_ne (Or.inl (wd13 hw)) (Or.inr (wd18 hw)) (by decide) (t := (.array (.array .int))) (t' := (.array .int)) (by decide) (by decide)))
  have F_counts_o := F_counts_o.same W
  have F_rowLengths_o := F_rowLengths_o.other W (Or.inr (slot_ne (Or.inr (wd21 hw)) (Or.inr (wd18 hw)) (by decide) (t := (.array .long)) (t' := (.array .int)) (by decide) (by decide)))
  have F_firstChunks_o := F_firstChunks_o.other W (Or.inr (slot_ne (Or.inr (wd23 hw)) (Or.inr (wd18 hw)) (by decide) (t := (.array .int)) (t' := (.array .int)) (by decide) (by decide)))
  have F_firsts_o := F_firsts_o.other W (Or.inr (slot_ne (Or.inr (wd25 hw)) (Or.inr (wd18 hw)) (by decide) (t := (.array .int)) (t' := (.array .int)) (by decide) (by decide)))
  have F_lastChunks_o := F_lastChunks_o.other W (Or.inr (slot_ne (Or.inr (wd27 hw)) (Or.inr (wd18 hw)) (by decide) (t := (.array .int)) (t' := (.array .int)) (by decide) (by decide)))
  have F_lasts_o := F_lasts_o.other W (Or.inr (slot_ne (Or.inr (wd29 hw)) (Or.inr (wd18 hw)) (by decide) (t := (.array .int)) (t' := (.array .int)) (by decide) (by decide)))
  have F_receivers_o := F_receivers_o.other W (Or.inr (slot_ne (Or.inr (wd31 hw)) (Or.inr (wd18 hw)) (by decide) (t := (.array .int)) (t' := (.array .int)) (by decide) (by decide)))
  have F_chunk_o := F_chunk_o.other W (Or.inr (slot_ne (Or.inl (wd46 hw)) (Or.inr (wd18 hw)) (by decide) (t := .int) (t' := (.array .int)) (by decide) (by decide)))
  have F_length_o := F_length_o.other W (Or.inr (slot_ne (Or.inl (wd44 hw)) (Or.inr (wd18 hw)) (by decide) (t := .int) (t' := (.array .int)) (by decide) (by decide)))
  have F_receiverCount_o := F_receiverCount_o.other W (Or.inr (slot_ne (Or.inl (wd48 hw)) (Or.inr (wd18 hw)) (by decide) (t := .int) (t' := (.array .int)) (by decide) (by decide)))
  have F_total_o := F_total_o.other W (Or.inr (slot_ne (Or.inl (wd54 hw)) (Or.inr (wd18 hw)) (by decide) (t := .int) (t' := (.array .int)) (by decide) (by decide)))
  have F_rowLength_o := F_rowLength_o.other W (Or.inr (slot_ne (Or.inl (wd56 hw)) (Or.inr (wd18 hw)) (by decide) (t := .long) (t' := (.array .int)) (by decide) (by decide)))
  have F_chunkValues_o := F_chunkValues_o.other W (Or.inr (slot_ne (Or.inl (wd16 hw)) (Or.inr (wd18 hw)) (by decide) (t := .long) (t' := (.array .int)) (by decide) (by decide)))
  have R_b2 := R_b2.other W (Ne.symm ne_o_b2)
  have V_b3 := V_b3.other W (Ne.symm ne_o_b3)
  have V_b7 := V_b7.other W (Ne.symm ne_o_b7)
  refine aloadN w X d1_30 31 rfl rfl rfl ?_
  refine iloadN w X d1_31 32 rfl rfl ?_
  refine newarr (aty := .long) w X (wd19 hw) d1_32 34 rfl (by decide) 2 (by decide) (by decide) (by decide) (by decide) (fun T h9 b10 cA X hnb10 E A => ?_)
  have ne_o_b10 : o ≠ b10 := fun q => absurd (q ▸ E_o.lt) (by rw [hnb10]; exact Nat.lt_irrefl _)
  have ne_b2_b10 : b2 ≠ b10 := fun q => absurd (q ▸ R_b2.lt) (by rw [hnb10]; exact Nat.lt_irrefl _)
  have ne_b3_b10 : b3 ≠ b10 := fun q => absurd (q ▸ V_b3.lt) (by rw [hnb10]; exact Nat.lt_irrefl _)
  have ne_b7_b10 : b7 ≠ b10 := fun q => absurd (q ▸ V_b7.lt) (by rw [hnb10]; exact Nat.lt_irrefl _)
  have g_b10 : n0 ≤ b10 := by rw [hnb10]; exact zn
  have sz_b10 : h.size ≤ b10 := by rw [hnb10]; exact K.1
  have zn : n0 ≤ h9.size := Nat.le_trans zn E.1
  have K := K.ext E
  have E_o := E_o.ext E
  have F_chunks_o := F_chunks_o.ext E
  have F_counts_o := F_counts_o.ext E
  have F_rowLengths_o := F_rowLengths_o.ext E
  have F_firstChunks_o := F_firstChunks_o.ext E
  have F_firsts_o := F_firsts_o.ext E
  have F_lastChunks_o := F_lastChunks_o.ext E
  have F_lasts_o := F_lasts_o.ext E
  have F_receivers_o := F_receivers_o.ext E
  have F_chunk_o := F_chunk_o.ext E
  have F_length_o := F_length_o.ext E
  have F_receiverCount_o := F_receiverCount_o.ext E
  have F_total_o := F_total_o.ext E
  have F_rowLength_o := F_rowLength_o.ext E
  have F_chunkValues_o := F_chunkValues_o.ext E
  have R_b2 := R_b2.ext E
  have V_b3 := V_b3.ext E
  have V_b7 := V_b7.ext E
  have V_b10 : PJ Z h9 b10 [(0 : Int64), (0 : Int64)] := PJ.new 2 A (by decide)
  refine putfield w X (wd20 hw) Via.refl F_rowLengths_o E_o (Or.inr ⟨(wd21 hw), rfl, rfl⟩) (wd2 hw) (ty := (.array .long)) (by decide) rfl rfl g_o d1_34 37 rfl (fun T h11 X W => ?_)
  have zn : n0 ≤ h11.size := W.size ▸ zn
  have K := K.wr W (Or.inl (List.mem_of_getElem? (i := 0) rfl))
  have E_o := E_o.wr W
  have F_chunks_o := F_chunks_o.other W (Or.inr (slot_ne (Or.inl (wd13 hw)) (Or.inr (wd21 hw)) (by decide) (t := (.array (.array .int))) (t' := (.array .long)) (by decide) (by decide)))
  have F_counts_o := F_counts_o.other W (Or.inr (slot_ne (Or.inr (wd18 hw)) (Or.inr (wd21 hw)) (by decide) (t := (.array .int)) (t' := (.array .long)) (by decide) (by decide)))
  have F_rowLengths_o := F_rowLengths_o.same W
  have F_firstChunks_o := F_firstChunks_o.other W (Or.inr (slot_ne (Or.inr (wd23 hw)) (Or.inr (wd21 hw)) (by decide) (t := (.array .int)) (t' := (.array .long)) (by decide) (by decide)))
  have F_firsts_o := F_firsts_o.other W (Or.inr (slot_ne (Or.inr (wd25 hw)) (Or.inr (wd21 hw)) (by decide) (t := (.array .int)) (t' := (.array .long)) (by decide) (by decide)))
  have F_lastChunks_o := F_lastChunks_o.other W (Or.inr (slot_ne (Or.inr (wd27 hw)) (Or.inr (wd21 hw)) (by decide) (t := (.array .int)) (t' := (.array .long)) (by decide) (by decide)))
  have F_lasts_o := F_lasts_o.other W (Or.inr (slot_ne (Or.inr (wd29 hw)) (Or.inr (wd21 hw)) (by decide) (t := (.array .int)) (t' := (.array .long)) (by decide) (by decide)))
  have F_receivers_o := F_receivers_o.other W (Or.inr (slot_ne (Or.inr (wd31 hw)) (Or.inr (wd21 hw)) (by decide) (t := (.array .int)) (t' := (.array .long)) (by decide) (by decide)))
  have F_chunk_o := F_chunk_o.other W (Or.inr (slot_ne (Or.inl (wd46 hw)) (Or.inr (wd21 hw)) (by decide) (t := .int) (t' := (.array .long)) (by decide) (by decide)))
  have F_length_o := F_length_o.other W (Or.inr (slot_ne (Or.inl (wd44 hw)) (Or.inr (wd21 hw)) (by decide) (t := .int) (t' := (.array .long)) (by decide) (by decide)))
  have F_receiverCount_o := F_receiverCount_o.other W (Or.inr (slot_ne (Or.inl (wd48 hw)) (Or.inr (wd21 hw)) (by decide) (t := .int) (t' := (.array .long)) (by decide) (by decide)))
  have F_total_o := F_total_o.other W (Or.inr (slot_ne (Or.inl (wd54 hw)) (Or.inr (wd21 hw)) (by decide) (t := .int) (t' := (.array .long)) (by decide) (by decide)))
  have F_rowLength_o := F_rowLength_o.other W (Or.inr (slot_ne (Or.inl (wd56 hw)) (Or.inr (wd21 hw)) (by decide) (t := .long) (t' := (.array .long)) (by decide) (by decide)))
  have F_chunkValues_o := F_chunkValues_o.other W (Or.inr (slot_ne (Or.inl (wd16 hw)) (Or.inr (wd21 hw)) (by decide) (t := .long) (t' := (.array .long)) (by decide) (by decide)))
  have R_b2 := R_b2.other W (Ne.symm ne_o_b2)
  have V_b3 := V_b3.other W (Ne.symm ne_o_b3)
  have V_b7 := V_b7.other W (Ne.symm ne_o_b7)
  have V_b10 := V_b10.other W (Ne.symm ne_o_b10)
  refine aloadN w X d1_37 38 rfl rfl rfl ?_
  refine iloadN w X d1_38 39 rfl rfl ?_
  refine newarr (aty := .int) w X (wd0 hw) d1_39 41 rfl (by decide) 2 (by decide) (by decide) (by decide) (by decide) (fun T h12 b13 cA X hnb13 E A => ?_)
  have ne_o_b13 : o ≠ b13 := fun q => absurd (q ▸ E_o.lt) (by rw [hnb13]; exact Nat.lt_irrefl _)
  have ne_b2_b13 : b2 ≠ b13 := fun q => absurd (q ▸ R_b2.lt) (by rw [hnb13]; exact Nat.lt_irrefl _)
  have ne_b3_b13 : b3 ≠ b13 := fun q => absurd (q ▸ V_b3.lt) (by rw [hnb13]; exact Nat.lt_irrefl _)
  have ne_b7_b13 : b7 ≠ b13 := fun q => absurd (q ▸ V_b7.lt) (by rw [hnb13]; exact Nat.lt_irrefl _)
  have ne_b10_b13 : b10 ≠ b13 := fun q => absurd (q ▸ V_b10.lt) (by rw [hnb13]; exact Nat.lt_irrefl _)
  have g_b13 : n0 ≤ b13 := by rw [hnb13]; exact zn
  have sz_b13 : h.size ≤ b13 := by rw [hnb13]; exact K.1
  have zn : n0 ≤ h12.size := Nat.le_trans zn E.1
  have K := K.ext E
  have E_o := E_o.ext E
  have F_chunks_o := F_chunks_o.ext E
  have F_counts_o := F_counts_o.ext E
  have F_rowLengths_o := F_rowLengths_o.ext E
  have F_firstChunks_o := F_firstChunks_o.ext E
  have F_firsts_o := F_firsts_o.ext E
  have F_lastChunks_o := F_lastChunks_o.ext E
  have F_lasts_o := F_lasts_o.ext E
  have F_receivers_o := F_receivers_o.ext E
  have F_chunk_o := F_chunk_o.ext E
  have F_length_o := F_length_o.ext E
  have F_receiverCount_o := F_receiverCount_o.ext E
  have F_total_o := F_total_o.ext E
  have F_rowLength_o := F_rowLength_o.ext E
  have F_chunkValues_o := F_chunkValues_o.ext E
  have R_b2 := R_b2.ext E
  have V_b3 := V_b3.ext E
  have V_b7 := V_b7.ext E
  have V_b10 := V_b10.ext E
  have V_b13 : PA Z h12 b13 .int [(0 : Int32), (0 : Int32)] := PA.new .int rfl rfl 2 A (by decide)
  refine putfield w X (wd22 hw) Via.refl F_firstChunks_o E_o (Or.inr ⟨(wd23 hw), rfl, rfl⟩) (wd2 hw) (ty := (.array .int)) (by decide) rfl rfl g_o d1_41 44 rfl (fun T h14 X W => ?_)
  have zn : n0 ≤ h14.size := W.size ▸ zn
  have K := K.wr W (Or.inl (List.mem_of_getElem? (i := 0) rfl))
  have E_o := E_o.wr W
  have F_chunks_o := F_chunks_o.other W (Or.inr (slot_ne (Or.inl (wd13 hw)) (Or.inr (wd23 hw)) (by decide) (t := (.array (.array .int))) (t' := (.array .int)) (by decide) (by decide)))
  have F_counts_o := F_counts_o.other W (Or.inr (slot_ne (Or.inr (wd18 hw)) (Or.inr (wd23 hw)) (by decide) (t := (.array .int)) (t' := (.array .int)) (by decide) (by decide)))
  have F_rowLengths_o := F_rowLengths_o.other W (Or.inr (slot_ne (Or.inr (wd21 hw)) (Or.inr (wd23 hw)) (by decide) (t := (.array .long)) (t' := (.array .int)) (by decide) (by decide)))
  have F_firstChunks_o := F_firstChunks_o.same W
  have F_firsts_o := F_firsts_o.other W (Or.inr (slot_ne (Or.inr (wd25 hw)) (Or.inr (wd23 hw)) (by decide) (t := (.array .int)) (t' := (.array .int)) (by decide) (by decide)))
  have F_lastChunks_o := F_lastChunks_o.other W (Or.inr (slot_ne (Or.inr (wd27 hw)) (Or.inr (wd23 hw)) (by decide) (t := (.array .int)) (t' := (.array .int)) (by decide) (by decide)))
  have F_lasts_o := F_lasts_o.other W (Or.inr (slot_ne (Or.inr (wd29 hw)) (Or.inr (wd23 hw)) (by decide) (t := (.array .int)) (t' := (.array .int)) (by decide) (by decide)))
  have F_receivers_o := F_receivers_o.other W (Or.inr (slot_ne (Or.inr (wd31 hw)) (Or.inr (wd23 hw)) (by decide) (t := (.array .int)) (t' := (.array .int)) (by decide) (by decide)))
  have F_chunk_o := F_chunk_o.other W (Or.inr (slot_ne (Or.inl (wd46 hw)) (Or.inr (wd23 hw)) (by decide) (t := .int) (t' := (.array .int)) (by decide) (by decide)))
  have F_length_o := F_length_o.other W (Or.inr (slot_ne (Or.inl (wd44 hw)) (Or.inr (wd23 hw)) (by decide) (t := .int) (t' := (.array .int)) (by decide) (by decide)))
  have F_receiverCount_o := F_receiverCount_o.other W (Or.inr (slot_ne (Or.inl (wd48 hw)) (Or.inr (wd23 hw)) (by decide) (t := .int) (t' := (.array .int)) (by decide) (by decide)))
  have F_total_o := F_total_o.other W (Or.inr (slot_ne (Or.inl (wd54 hw)) (Or.inr (wd23 hw)) (by decide) (t := .int) (t' := (.array .int)) (by decide) (by decide)))
  have F_rowLength_o := F_rowLength_o.other W (Or.inr (slot_ne (Or.inl (wd56 hw)) (Or.inr (wd23 hw)) (by decide) (t := .long) (t' := (.array .int)) (by decide) (by decide)))
  have F_chunkValues_o := F_chunkValues_o.other W (Or.inr (slot_ne (Or.inl (wd16 hw)) (Or.inr (wd23 hw)) (by decide) (t := .long) (t' := (.array .int)) (by decide) (by decide)))
  have R_b2 := R_b2.other W (Ne.symm ne_o_b2)
  have V_b3 := V_b3.other W (Ne.symm ne_o_b3)
  have V_b7 := V_b7.other W (Ne.symm ne_o_b7)
  have V_b10 := V_b10.other W (Ne.symm ne_o_b10)
  have V_b13 := V_b13.other W (Ne.symm ne_o_b13)
  refine aloadN w X d1_44 45 rfl rfl rfl ?_
  refine iloadN w X d1_45 46 rfl rfl ?_
  refine newarr (aty := .int) w X (wd0 hw) d1_46 48 rfl (by decide) 2 (by decide) (by decide) (by decide) (by decide) (fun T h15 b16 cA X hnb16 E A => ?_)
  have ne_o_b16 : o ≠ b16 := fun q => absurd (q ▸ E_o.lt) (by rw [hnb16]; exact Nat.lt_irrefl _)
  have ne_b2_b16 : b2 ≠ b16 := fun q => absurd (q ▸ R_b2.lt) (by rw [hnb16]; exact Nat.lt_irrefl _)
  have ne_b3_b16 : b3 ≠ b16 := fun q => absurd (q ▸ V_b3.lt) (by rw [hnb16]; exact Nat.lt_irrefl _)
  have ne_b7_b16 : b7 ≠ b16 := fun q => absurd (q ▸ V_b7.lt) (by rw [hnb16]; exact Nat.lt_irrefl _)
  have ne_b10_b16 : b10 ≠ b16 := fun q => absurd (q ▸ V_b10.lt) (by rw [hnb16]; exact Nat.lt_irrefl _)
  have ne_b13_b16 : b13 ≠ b16 := fun q => absurd (q ▸ V_b13.lt) (by rw [hnb16]; exact Nat.lt_irrefl _)
  have g_b16 : n0 ≤ b16 := by rw [hnb16]; exact zn
  have sz_b16 : h.size ≤ b16 := by rw [hnb16]; exact K.1
  have zn : n0 ≤ h15.size := Nat.le_trans zn E.1
  have K := K.ext E
  have E_o := E_o.ext E
  have F_chunks_o := F_chunks_o.ext E
  have F_counts_o := F_counts_o.ext E
  have F_rowLengths_o := F_rowLengths_o.ext E
  have F_firstChunks_o := F_firstChunks_o.ext E
  have F_firsts_o := F_firsts_o.ext E
  have F_lastChunks_o := F_lastChunks_o.ext E
  have F_lasts_o := F_lasts_o.ext E
  have F_receivers_o := F_receivers_o.ext E
  have F_chunk_o := F_chunk_o.ext E
  have F_length_o := F_length_o.ext E
  have F_receiverCount_o := F_receiverCount_o.ext E
  have F_total_o := F_total_o.ext E
  have F_rowLength_o := F_rowLength_o.ext E
  have F_chunkValues_o := F_chunkValues_o.ext E
  have R_b2 := R_b2.ext E
  have V_b3 := V_b3.ext E
  have V_b7 := V_b7.ext E
  have V_b10 := V_b10.ext E
  have V_b13 := V_b13.ext E
  have V_b16 : PA Z h15 b16 .int [(0 : Int32), (0 : Int32)] := PA.new .int rfl rfl 2 A (by decide)
  refine putfield w X (wd24 hw) Via.refl F_firsts_o E_o (Or.inr ⟨(wd25 hw), rfl, rfl⟩) (wd2 hw) (ty := (.array .int)) (by decide) rfl rfl g_o d1_48 51 rfl (fun T h17 X W => ?_)
  have zn : n0 ≤ h17.size := W.size ▸ zn
  have K := K.wr W (Or.inl (List.mem_of_getElem? (i := 0) rfl))
  have E_o := E_o.wr W
  have F_chunks_o := F_chunks_o.other W (Or.inr (slot_ne (Or.inl (wd13 hw)) (Or.inr (wd25 hw)) (by decide) (t := (.array (.array .int))) (t' := (.array .int)) (by decide) (by decide)))
  have F_counts_o := F_counts_o.other W (Or.inr (slot_ne (Or.inr (wd18 hw)) (Or.inr (wd25 hw)) (by decide) (t := (.array .int)) (t' := (.array .int)) (by decide) (by decide)))
  have F_rowLengths_o := F_rowLengths_o.other W (Or.inr (slot_ne (Or.inr (wd21 hw)) (Or.inr (wd25 hw)) (by decide) (t := (.array .long)) (t' := (.array .int)) (by decide) (by decide)))
  have F_firstChunks_o := F_firstChunks_o.other W (Or.inr (slot_ne (Or.inr (wd23 hw)) (Or.inr (wd25 hw)) (by decide) (t := (.array .int)) (t' := (.array .int)) (by decide) (by decide)))
  have F_firsts_o := F_firsts_o.same W
  have F_lastChunks_o := F_lastChunks_o.other W (Or.inr (slot_ne (Or.inr (wd27 hw)) (Or.inr (wd25 hw)) (by decide) (t := (.array .int)) (t' := (.array .int)) (by decide) (by decide)))
  have F_lasts_o := F_lasts_o.other W (Or.inr (slot_ne (Or.inr (wd29 hw)) (Or.inr (wd25 hw)) (by decide) (t := (.array .int)) (t' := (.array .int)) (by decide) (by decide)))
  have F_receivers_o := F_receivers_o.other W (Or.inr (slot_ne (Or.inr (wd31 hw)) (Or.inr (wd25 hw)) (by decide) (t := (.array .int)) (t' := (.array .int)) (by decide) (by decide)))
  have F_chunk_o := F_chunk_o.other W (Or.inr (slot_ne (Or.inl (wd46 hw)) (Or.inr (wd25 hw)) (by decide) (t := .int) (t' := (.array .int)) (by decide) (by decide)))
  have F_length_o := F_length_o.other W (Or.inr (slot_ne (Or.inl (wd44 hw)) (Or.inr (wd25 hw)) (by decide) (t := .int) (t' := (.array .int)) (by decide) (by decide)))
  have F_receiverCount_o := F_receiverCount_o.other W (Or.inr (slot_ne (Or.inl (wd48 hw)) (Or.inr (wd25 hw)) (by decide) (t := .int) (t' := (.array .int)) (by decide) (by decide)))
  have F_total_o := F_total_o.other W (Or.inr (slot_ne (Or.inl (wd54 hw)) (Or.inr (wd25 hw)) (by decide) (t := .int) (t' := (.array .int)) (by decide) (by decide)))
  have F_rowLength_o := F_rowLength_o.other W (Or.inr (slot_ne (Or.inl (wd56 hw)) (Or.inr (wd25 hw)) (by decide) (t := .long) (t' := (.array .int)) (by decide) (by decide)))
  have F_chunkValues_o := F_chunkValues_o.other W (Or.inr (slot_ne (Or.inl (wd16 hw)) (Or.inr (wd25 hw)) (by decide) (t := .long) (t' := (.array .int)) (by decide) (by decide)))
  have R_b2 := R_b2.other W (Ne.symm ne_o_b2)
  have V_b3 := V_b3.other W (Ne.symm ne_o_b3)
  have V_b7 := V_b7.other W (Ne.symm ne_o_b7)
  have V_b10 := V_b10.other W (Ne.symm ne_o_b10)
  have V_b13 := V_b13.other W (Ne.symm ne_o_b13)
  have V_b16 := V_b16.other W (Ne.symm ne_o_b16)
  refine aloadN w X d1_51 52 rfl rfl rfl ?_
  refine iloadN w X d1_52 53 rfl rfl ?_
  refine newarr (aty := .int) w X (wd0 hw) d1_53 55 rfl (by decide) 2 (by decide) (by decide) (by decide) (by decide) (fun T h18 b19 cA X hnb19 E A => ?_)
  have ne_o_b19 : o ≠ b19 := fun q => absurd (q ▸ E_o.lt) (by rw [hnb19]; exact Nat.lt_irrefl _)
  have ne_b2_b19 : b2 ≠ b19 := fun q => absurd (q ▸ R_b2.lt) (by rw [hnb19]; exact Nat.lt_irrefl _)
  have ne_b3_b19 : b3 ≠ b19 := fun q => absurd (q ▸ V_b3.lt) (by rw [hnb19]; exact Nat.lt_irrefl _)
  have ne_b7_b19 : b7 ≠ b19 := fun q => absurd (q ▸ V_b7.lt) (by rw [hnb19]; exact Nat.lt_irrefl _)
  have ne_b10_b19 : b10 ≠ b19 := fun q => absurd (q ▸ V_b10.lt) (by rw [hnb19]; exact Nat.lt_irrefl _)
  have ne_b13_b19 : b13 ≠ b19 := fun q => absurd (q ▸ V_b13.lt) (by rw [hnb19]; exact Nat.lt_irrefl _)
  have ne_b16_b19 : b16 ≠ b19 := fun q => absurd (q ▸ V_b16.lt) (by rw [hnb19]; exact Nat.lt_irrefl _)
  have g_b19 : n0 ≤ b19 := by rw [hnb19]; exact zn
  have sz_b19 : h.size ≤ b19 := by rw [hnb19]; exact K.1
  have zn : n0 ≤ h18.size := Nat.le_trans zn E.1
  have K := K.ext E
  have E_o := E_o.ext E
  have F_chunks_o := F_chunks_o.ext E
  have F_counts_o := F_counts_o.ext E
  have F_rowLengths_o := F_rowLengths_o.ext E
  have F_firstChunks_o := F_firstChunks_o.ext E
  have F_firsts_o := F_firsts_o.ext E
  have F_lastChunks_o := F_lastChunks_o.ext E
  have F_lasts_o := F_lasts_o.ext E
  have F_receivers_o := F_receivers_o.ext E
  have F_chunk_o := F_chunk_o.ext E
  have F_length_o := F_length_o.ext E
  have F_receiverCount_o := F_receiverCount_o.ext E
  have F_total_o := F_total_o.ext E
  have F_rowLength_o := F_rowLength_o.ext E
  have F_chunkValues_o := F_chunkValues_o.ext E
  have R_b2 := R_b2.ext E
  have V_b3 := V_b3.ext E
  have V_b7 := V_b7.ext E
  have V_b10 := V_b10.ext E
  have V_b13 := V_b13.ext E
  have V_b16 := V_b16.ext E
  have V_b19 : PA Z h18 b19 .int [(0 : Int32), (0 : Int32)] := PA.new .int rfl rfl 2 A (by decide)
  refine putfield w X (wd26 hw) Via.refl F_lastChunks_o E_o (Or.inr ⟨(wd27 hw), rfl, rfl⟩) (wd2 hw) (ty := (.array .int)) (by decide) rfl rfl g_o d1_55 58 rfl (fun T h20 X W => ?_)
  have zn : n0 ≤ h20.size := W.size ▸ zn
  have K := K.wr W (Or.inl (List.mem_of_getElem? (i := 0) rfl))
  have E_o := E_o.wr W
  have F_chunks_o := F_chunks_o.other W (Or.inr (slot_ne (Or.inl (wd13 hw)) (Or.inr (wd27 hw)) (by decide) (t := (.array (.array .int))) (t' := (.array .int)) (by decide) (by decide)))
  have F_counts_o := F_counts_o.other W (Or.inr (slot_ne (Or.inr (wd18 hw)) (Or.inr (wd27 hw)) (by decide) (t := (.array .int)) (t' := (.array .int)) (by decide) (by decide)))
  have F_rowLengths_o := F_rowLengths_o.other W (Or.inr (slot_ne (Or.inr (wd21 hw)) (Or.inr (wd27 hw)) (by decide) (t := (.array .long)) (t' := (.array .int)) (by decide) (by decide)))
  have F_firstChunks_o := F_firstChunks_o.other W (Or.inr (slot_ne (Or.inr (wd23 hw)) (Or.inr (wd27 hw)) (by decide) (t := (.array .int)) (t' := (.array .int)) (by decide) (by decide)))
  have F_firsts_o := F_firsts_o.other W (Or.inr (slot_ne (Or.inr (wd25 hw)) (Or.inr (wd27 hw)) (by decide) (t := (.array .int)) (t' := (.array .int)) (by decide) (by decide)))
  have F_lastChunks_o := F_lastChunks_o.same W
  have F_lasts_o := F_lasts_o.other W (Or.inr (slot_ne (Or.inr (wd29 hw)) (Or.inr (wd27 hw)) (by decide) (t := (.array .int)) (t' := (.array .int)) (by decide) (by decide)))
  have F_receivers_o := F_receivers_o.other W (Or.inr (slot_ne (Or.inr (wd31 hw)) (Or.inr (wd27 hw)) (by decide) (t := (.array .int)) (t' := (.array .int)) (by decide) (by decide)))
  have F_chunk_o := F_chunk_o.other W (Or.inr (slot_ne (Or.inl (wd46 hw)) (Or.inr (wd27 hw)) (by decide) (t := .int) (t' := (.array .int)) (by decide) (by decide)))
  have F_length_o := F_length_o.other W (Or.inr (slot_ne (Or.inl (wd44 hw)) (Or.inr (wd27 hw)) (by decide) (t := .int) (t' := (.array .int)) (by decide) (by decide)))
  have F_receiverCount_o := F_receiverCount_o.other W (Or.inr (slot_ne (Or.inl (wd48 hw)) (Or.inr (wd27 hw)) (by decide) (t := .int) (t' := (.array .int)) (by decide) (by decide)))
  have F_total_o := F_total_o.other W (Or.inr (slot_ne (Or.inl (wd54 hw)) (Or.inr (wd27 hw)) (by decide) (t := .int) (t' := (.array .int)) (by decide) (by decide)))
  have F_rowLength_o := F_rowLength_o.other W (Or.inr (slot_ne (Or.inl (wd56 hw)) (Or.inr (wd27 hw)) (by decide) (t := .long) (t' := (.array .int)) (by decide) (by decide)))
  have F_chunkValues_o := F_chunkValues_o.other W (Or.inr (slot_ne (Or.inl (wd16 hw)) (Or.inr (wd27 hw)) (by decide) (t := .long) (t' := (.array .int)) (by decide) (by decide)))
  have R_b2 := R_b2.other W (Ne.symm ne_o_b2)
  have V_b3 := V_b3.other W (Ne.symm ne_o_b3)
  have V_b7 := V_b7.other W (Ne.symm ne_o_b7)
  have V_b10 := V_b10.other W (Ne.symm ne_o_b10)
  have V_b13 := V_b13.other W (Ne.symm ne_o_b13)
  have V_b16 := V_b16.other W (Ne.symm ne_o_b16)
  have V_b19 := V_b19.other W (Ne.symm ne_o_b19)
  refine aloadN w X d1_58 59 rfl rfl rfl ?_
  refine iloadN w X d1_59 60 rfl rfl ?_
  refine newarr (aty := .int) w X (wd0 hw) d1_60 62 rfl (by decide) 2 (by decide) (by decide) (by decide) (by decide) (fun T h21 b22 cA X hnb22 E A => ?_)
  have ne_o_b22 : o ≠ b22 := fun q => absurd (q ▸ E_o.lt) (by rw [hnb22]; exact Nat.lt_irrefl _)
  have ne_b2_b22 : b2 ≠ b22 := fun q => absurd (q ▸ R_b2.lt) (by rw [hnb22]; exact Nat.lt_irrefl _)
  have ne_b3_b22 : b3 ≠ b22 := fun q => absurd (q ▸ V_b3.lt) (by rw [hnb22]; exact Nat.lt_irrefl _)
  have ne_b7_b22 : b7 ≠ b22 := fun q => absurd (q ▸ V_b7.lt) (by rw [hnb22]; exact Nat.lt_irrefl _)
  have ne_b10_b22 : b10 ≠ b22 := fun q => absurd (q ▸ V_b10.lt) (by rw [hnb22]; exact Nat.lt_irrefl _)
  have ne_b13_b22 : b13 ≠ b22 := fun q => absurd (q ▸ V_b13.lt) (by rw [hnb22]; exact Nat.lt_irrefl _)
  have ne_b16_b22 : b16 ≠ b22 := fun q => absurd (q ▸ V_b16.lt) (by rw [hnb22]; exact Nat.lt_irrefl _)
  have ne_b19_b22 : b19 ≠ b22 := fun q => absurd (q ▸ V_b19.lt) (by rw [hnb22]; exact Nat.lt_irrefl _)
  have g_b22 : n0 ≤ b22 := by rw [hnb22]; exact zn
  have sz_b22 : h.size ≤ b22 := by rw [hnb22]; exact K.1
  have zn : n0 ≤ h21.size := Nat.le_trans zn E.1
  have K := K.ext E
  have E_o := E_o.ext E
  have F_chunks_o := F_chunks_o.ext E
  have F_counts_o := F_counts_o.ext E
  have F_rowLengths_o := F_rowLengths_o.ext E
  have F_firstChunks_o := F_firstChunks_o.ext E
  have F_firsts_o := F_firsts_o.ext E
  have F_lastChunks_o := F_lastChunks_o.ext E
  have F_lasts_o := F_lasts_o.ext E
  have F_receivers_o := F_receivers_o.ext E
  have F_chunk_o := F_chunk_o.ext E
  have F_length_o := F_length_o.ext E
  have F_receiverCount_o := F_receiverCount_o.ext E
  have F_total_o := F_total_o.ext E
  have F_rowLength_o := F_rowLength_o.ext E
  have F_chunkValues_o := F_chunkValues_o.ext E
  have R_b2 := R_b2.ext E
  have V_b3 := V_b3.ext E
  have V_b7 := V_b7.ext E
  have V_b10 := V_b10.ext E
  have V_b13 := V_b13.ext E
  have V_b16 := V_b16.ext E
  have V_b19 := V_b19.ext E
  have V_b22 : PA Z h21 b22 .int [(0 : Int32), (0 : Int32)] := PA.new .int rfl rfl 2 A (by decide)
  refine putfield w X (wd28 hw) Via.refl F_lasts_o E_o (Or.inr ⟨(wd29 hw), rfl, rfl⟩) (wd2 hw) (ty := (.array .int)) (by decide) rfl rfl g_o d1_62 65 rfl (fun T h23 X W => ?_)
  have zn : n0 ≤ h23.size := W.size ▸ zn
  have K := K.wr W (Or.inl (List.mem_of_getElem? (i := 0) rfl))
  have E_o := E_o.wr W
  have F_chunks_o := F_chunks_o.other W (Or.inr (slot_ne (Or.inl (wd13 hw)) (Or.inr (wd29 hw)) (by decide) (t := (.array (.array .int))) (t' := (.array .int)) (by decide) (by decide)))
  have F_counts_o := F_counts_o.other W (Or.inr (slot_ne (Or.inr (wd18 hw)) (Or.inr (wd29 hw)) (by decide) (t := (.array .int)) (t' := (.array .int)) (by decide) (by decide)))
  have F_rowLengths_o := F_rowLengths_o.other W (Or.inr (slot_ne (Or.inr (wd21 hw)) (Or.inr (wd29 hw)) (by decide) (t := (.array .long)) (t' := (.array .int)) (by decide) (by decide)))
  have F_firstChunks_o := F_firstChunks_o.other W (Or.inr (slot_ne (Or.inr (wd23 hw)) (Or.inr (wd29 hw)) (by decide) (t := (.array .int)) (t' := (.array .int)) (by decide) (by decide)))
  have F_firsts_o := F_firsts_o.other W (Or.inr (slot_ne (Or.inr (wd25 hw)) (Or.inr (wd29 hw)) (by decide) (t := (.array .int)) (t' := (.array .int)) (by decide) (by decide)))
  have F_lastChunks_o := F_lastChunks_o.other W (Or.inr (slot_ne (Or.inr (wd27 hw)) (Or.inr (wd29 hw)) (by decide) (t := (.array .int)) (t' := (.array .int)) (by decide) (by decide)))
  have F_lasts_o := F_lasts_o.same W
  have F_receivers_o := F_receivers_o.other W (Or.inr (slot_ne (Or.inr (wd31 hw)) (Or.inr (wd29 hw)) (by decide) (t := (.array .int)) (t' := (.array .int)) (by decide) (by decide)))
  have F_chunk_o := F_chunk_o.other W (Or.inr (slot_ne (Or.inl (wd46 hw)) (Or.inr (wd29 hw)) (by decide) (t := .int) (t' := (.array .int)) (by decide) (by decide)))
  have F_length_o := F_length_o.other W (Or.inr (slot_ne (Or.inl (wd44 hw)) (Or.inr (wd29 hw)) (by decide) (t := .int) (t' := (.array .int)) (by decide) (by decide)))
  have F_receiverCount_o := F_receiverCount_o.other W (Or.inr (slot_ne (Or.inl (wd48 hw)) (Or.inr (wd29 hw)) (by decide) (t := .int) (t' := (.array .int)) (by decide) (by decide)))
  have F_total_o := F_total_o.other W (Or.inr (slot_ne (Or.inl (wd54 hw)) (Or.inr (wd29 hw)) (by decide) (t := .int) (t' := (.array .int)) (by decide) (by decide)))
  have F_rowLength_o := F_rowLength_o.other W (Or.inr (slot_ne (Or.inl (wd56 hw)) (Or.inr (wd29 hw)) (by decide) (t := .long) (t' := (.array .int)) (by decide) (by decide)))
  have F_chunkValues_o := F_chunkValues_o.other W (Or.inr (slot_ne (Or.inl (wd16 hw)) (Or.inr (wd29 hw)) (by decide) (t := .long) (t' := (.array .int)) (by decide) (by decide)))
  have R_b2 := R_b2.other W (Ne.symm ne_o_b2)
  have V_b3 := V_b3.other W (Ne.symm ne_o_b3)
  have V_b7 := V_b7.other W (Ne.symm ne_o_b7)
  have V_b10 := V_b10.other W (Ne.symm ne_o_b10)
  have V_b13 := V_b13.other W (Ne.symm ne_o_b13)
  have V_b16 := V_b16.other W (Ne.symm ne_o_b16)
  have V_b19 := V_b19.other W (Ne.symm ne_o_b19)
  have V_b22 := V_b22.other W (Ne.symm ne_o_b22)
  refine aloadN w X d1_65 66 rfl rfl rfl ?_
  refine iloadN w X d1_66 67 rfl rfl ?_
  refine newarr (aty := .int) w X (wd0 hw) d1_67 69 rfl (by decide) 2 (by decide) (by decide) (by decide) (by decide) (fun T h24 b25 cA X hnb25 E A => ?_)
  have ne_o_b25 : o ≠ b25 := fun q => absurd (q ▸ E_o.lt) (by rw [hnb25]; exact Nat.lt_irrefl _)
  have ne_b2_b25 : b2 ≠ b25 := fun q => absurd (q ▸ R_b2.lt) (by rw [hnb25]; exact Nat.lt_irrefl _)
  have ne_b3_b25 : b3 ≠ b25 := fun q => absurd (q ▸ V_b3.lt) (by rw [hnb25]; exact Nat.lt_irrefl _)
  have ne_b7_b25 : b7 ≠ b25 := fun q => absurd (q ▸ V_b7.lt) (by rw [hnb25]; exact Nat.lt_irrefl _)
  have ne_b10_b25 : b10 ≠ b25 := fun q => absurd (q ▸ V_b10.lt) (by rw [hnb25]; exact Nat.lt_irrefl _)
  have ne_b13_b25 : b13 ≠ b25 := fun q => absurd (q ▸ V_b13.lt) (by rw [hnb25]; exact Nat.lt_irrefl _)
  have ne_b16_b25 : b16 ≠ b25 := fun q => absurd (q ▸ V_b16.lt) (by rw [hnb25]; exact Nat.lt_irrefl _)
  have ne_b19_b25 : b19 ≠ b25 := fun q => absurd (q ▸ V_b19.lt) (by rw [hnb25]; exact Nat.lt_irrefl _)
  have ne_b22_b25 : b22 ≠ b25 := fun q => absurd (q ▸ V_b22.lt) (by rw [hnb25]; exact Nat.lt_irrefl _)
  have g_b25 : n0 ≤ b25 := by rw [hnb25]; exact zn
  have sz_b25 : h.size ≤ b25 := by rw [hnb25]; exact K.1
  have zn : n0 ≤ h24.size := Nat.le_trans zn E.1
  have K := K.ext E
  have E_o := E_o.ext E
  have F_chunks_o := F_chunks_o.ext E
  have F_counts_o := F_counts_o.ext E
  have F_rowLengths_o := F_rowLengths_o.ext E
  have F_firstChunks_o := F_firstChunks_o.ext E
  have F_firsts_o := F_firsts_o.ext E
  have F_lastChunks_o := F_lastChunks_o.ext E
  have F_lasts_o := F_lasts_o.ext E
  have F_receivers_o := F_receivers_o.ext E
  have F_chunk_o := F_chunk_o.ext E
  have F_length_o := F_length_o.ext E
  have F_receiverCount_o := F_receiverCount_o.ext E
  have F_total_o := F_total_o.ext E
  have F_rowLength_o := F_rowLength_o.ext E
  have F_chunkValues_o := F_chunkValues_o.ext E
  have R_b2 := R_b2.ext E
  have V_b3 := V_b3.ext E
  have V_b7 := V_b7.ext E
  have V_b10 := V_b10.ext E
  have V_b13 := V_b13.ext E
  have V_b16 := V_b16.ext E
  have V_b19 := V_b19.ext E
  have V_b22 := V_b22.ext E
  have V_b25 : PA Z h24 b25 .int [(0 : Int32), (0 : Int32)] := PA.new .int rfl rfl 2 A (by decide)
  refine putfield w X (wd30 hw) Via.refl F_receivers_o E_o (Or.inr ⟨(wd31 hw), rfl, rfl⟩) (wd2 hw) (ty := (.array .int)) (by decide) rfl rfl g_o d1_69 72 rfl (fun T h26 X W => ?_)
  have zn : n0 ≤ h26.size := W.size ▸ zn
  have K := K.wr W (Or.inl (List.mem_of_getElem? (i := 0) rfl))
  have E_o := E_o.wr W
  have F_chunks_o := F_chunks_o.other W (Or.inr (slot_ne (Or.inl (wd13 hw)) (Or.inr (wd31 hw)) (by decide) (t := (.array (.array .int))) (t' := (.array .int)) (by decide) (by decide)))
  have F_counts_o := F_counts_o.other W (Or.inr (slot_ne (Or.inr (wd18 hw)) (Or.inr (wd31 hw)) (by decide) (t := (.array .int)) (t' := (.array .int)) (by decide) (by decide)))
  have F_rowLengths_o := F_rowLengths_o.other W (Or.inr (slot_ne (Or.inr (wd21 hw)) (Or.inr (wd31 hw)) (by decide) (t := (.array .long)) (t' := (.array .int)) (by decide) (by decide)))
  have F_firstChunks_o := F_firstChunks_o.other W (Or.inr (slot_ne (Or.inr (wd23 hw)) (Or.inr (wd31 hw)) (by decide) (t := (.array .int)) (t' := (.array .int)) (by decide) (by decide)))
  have F_firsts_o := F_firsts_o.other W (Or.inr (slot_ne (Or.inr (wd25 hw)) (Or.inr (wd31 hw)) (by decide) (t := (.array .int)) (t' := (.array .int)) (by decide) (by decide)))
  have F_lastChunks_o := F_lastChunks_o.other W (Or.inr (slot_ne (Or.inr (wd27 hw)) (Or.inr (wd31 hw)) (by decide) (t := (.array .int)) (t' := (.array .int)) (by decide) (by decide)))
  have F_lasts_o := F_lasts_o.other W (Or.inr (slot_ne (Or.inr (wd29 hw)) (Or.inr (wd31 hw)) (by decide) (t := (.array .int)) (t' := (.array .int)) (by decide) (by decide)))
  have F_receivers_o := F_receivers_o.same W
  have F_chunk_o := F_chunk_o.other W (Or.inr (slot_ne (Or.inl (wd46 hw)) (Or.inr (wd31 hw)) (by decide) (t := .int) (t' := (.array .int)) (by decide) (by decide)))
  have F_length_o := F_length_o.other W (Or.inr (slot_ne (Or.inl (wd44 hw)) (Or.inr (wd31 hw)) (by decide) (t := .int) (t' := (.array .int)) (by decide) (by decide)))
  have F_receiverCount_o := F_receiverCount_o.other W (Or.inr (slot_ne (Or.inl (wd48 hw)) (Or.inr (wd31 hw)) (by decide) (t := .int) (t' := (.array .int)) (by decide) (by decide)))
  have F_total_o := F_total_o.other W (Or.inr (slot_ne (Or.inl (wd54 hw)) (Or.inr (wd31 hw)) (by decide) (t := .int) (t' := (.array .int)) (by decide) (by decide)))
  have F_rowLength_o := F_rowLength_o.other W (Or.inr (slot_ne (Or.inl (wd56 hw)) (Or.inr (wd31 hw)) (by decide) (t := .long) (t' := (.array .int)) (by decide) (by decide)))
  have F_chunkValues_o := F_chunkValues_o.other W (Or.inr (slot_ne (Or.inl (wd16 hw)) (Or.inr (wd31 hw)) (by decide) (t := .long) (t' := (.array .int)) (by decide) (by decide)))
  have R_b2 := R_b2.other W (Ne.symm ne_o_b2)
  have V_b3 := V_b3.other W (Ne.symm ne_o_b3)
  have V_b7 := V_b7.other W (Ne.symm ne_o_b7)
  have V_b10 := V_b10.other W (Ne.symm ne_o_b10)
  have V_b13 := V_b13.other W (Ne.symm ne_o_b13)
  have V_b16 := V_b16.other W (Ne.symm ne_o_b16)
  have V_b19 := V_b19.other W (Ne.symm ne_o_b19)
  have V_b22 := V_b22.other W (Ne.symm ne_o_b22)
  have V_b25 := V_b25.other W (Ne.symm ne_o_b25)
  refine retV w X rfl d1_72 (by decide) (by decide) ?_
  exact ⟨rfl, b2, b3, b7, b10, b13, b16, b19, b22, b25, K, ⟨E_o, F_chunks_o, F_counts_o, F_rowLengths_o, F_firstChunks_o, F_firsts_o, F_lastChunks_o, F_lasts_o, F_receivers_o, F_chunk_o, F_length_o, F_receiverCount_o, F_total_o, F_rowLength_o, R_b2, V_b10, V_b7, V_b13, V_b16, V_b19, V_b22, V_b25, _, V_b3, List.length_replicate⟩, ⟨ne_o_b2, ne_o_b3, ne_o_b7, ne_o_b10, ne_o_b13, ne_o_b16, ne_o_b19, ne_o_b22, ne_o_b25, ne_b2_b3, ne_b2_b7, ne_b2_b10, ne_b2_b13, ne_b2_b16, ne_b2_b19, ne_b2_b22, ne_b2_b25, ne_b3_b7, ne_b3_b10, ne_b3_b13, ne_b3_b16, ne_b3_b19, ne_b3_b22, ne_b3_b25, ne_b7_b10, ne_b7_b13, ne_b7_b16, ne_b7_b19, ne_b7_b22, ne_b7_b25, ne_b10_b13, ne_b10_b16, ne_b10_b19, ne_b10_b22, ne_b10_b25, ne_b13_b16, ne_b13_b19, ne_b13_b22, ne_b13_b25, ne_b16_b19, ne_b16_b22, ne_b16_b25, ne_b19_b22, ne_b19_b25, ne_b22_b25⟩, ⟨g_o, g_b2, g_b3, g_b7, g_b10, g_b13, g_b16, g_b19, g_b22, g_b25⟩, ⟨sz_b2, sz_b3, sz_b7, sz_b10, sz_b13, sz_b16, sz_b19, sz_b22, sz_b25⟩⟩
theorem d3_0 : decode prog_37_method_8_code 0 = .ok (.ldc2_w 59, 3) := by decide +kernel
theorem d3_3 : decode prog_37_method_8_code 3 = .ok (.iload 5, 2) := by decide +kernel
theorem d3_5 : decode prog_37_method_8_code 5 = .ok (.i2l, 1) := by decide +kernel
theorem d3_6 : decode prog_37_method_8_code 6 = .ok (.ladd, 1) := by decide +kernel
theorem d3_7 : decode prog_37_method_8_code 7 = .ok (.invokestatic 61, 3) := by decide +kernel
theorem d3_10 : decode prog_37_method_8_code 10 = .ok (.istore 6, 2) := by decide +kernel
theorem d3_12 : decode prog_37_method_8_code 12 = .ok (.aload_n 0, 1) := by decide +kernel
theorem d3_13 : decode prog_37_method_8_code 13 = .ok (.getfield 50, 3) := by decide +kernel
theorem d3_16 : decode prog_37_method_8_code 16 = .ok (.iload 6, 2) := by decide +kernel
theorem d3_18 : decode prog_37_method_8_code 18 = .ok (.iadd, 1) := by decide +kernel
theorem d3_19 : decode prog_37_method_8_code 19 = .ok (.aload_n 0, 1) := by decide +kernel
theorem d3_20 : decode prog_37_method_8_code 20 = .ok (.getfield 11, 3) := by decide +kernel
theorem d3_23 : decode prog_37_method_8_code 23 = .ok (.aload_n 0, 1) := by decide +kernel
theorem d3_24 : decode prog_37_method_8_code 24 = .ok (.getfield 47, 3) := by decide +kernel
theorem d3_27 : decode prog_37_method_8_code 27 = .ok (.aaload, 1) := by decide +kernel
theorem d3_28 : decode prog_37_method_8_code 28 = .ok (.arraylength, 1) := by decide +kernel
theorem d3_29 : decode prog_37_method_8_code 29 = .ok (.if_icmp .le 9, 3) := by decide +kernel
theorem d3_38 : decode prog_37_method_8_code 38 = .ok (.aload_n 0, 1) := by decide +kernel
theorem d3_39 : decode prog_37_method_8_code 39 = .ok (.getfield 20, 3) := by decide +kernel
theorem d3_42 : decode prog_37_method_8_code 42 = .ok (.iload_n 1, 1) := by decide +kernel
theorem d3_43 : decode prog_37_method_8_code 43 = .ok (.iaload, 1) := by decide +kernel
theorem d3_44 : decode prog_37_method_8_code 44 = .ok (.ifCond .ne 46, 3) := by decide +kernel
theorem d3_47 : decode prog_37_method_8_code 47 = .ok (.aload_n 0, 1) := by decide +kernel
theorem d3_48 : decode prog_37_method_8_code 48 = .ok (.getfield 40, 3) := by decide +kernel
theorem d3_51 : decode prog_37_method_8_code 51 = .ok (.aload_n 0, 1) := by decide +kernel
theorem d3_52 : decode prog_37_method_8_code 52 = .ok (.getfield 43, 3) := by decide +kernel
theorem d3_55 : decode prog_37_method_8_code 55 = .ok (.iload_n 1, 1) := by decide +kernel
theorem d3_56 : decode prog_37_method_8_code 56 = .ok (.iastore, 1) := by decide +kernel
theorem d3_57 : decode prog_37_method_8_code 57 = .ok (.aload_n 0, 1) := by decide +kernel
theorem d3_58 : decode prog_37_method_8_code 58 = .ok (.dup, 1) := by decide +kernel
theorem d3_59 : decode prog_37_method_8_code 59 = .ok (.getfield 43, 3) := by decide +kernel
theorem d3_62 : decode prog_37_method_8_code 62 = .ok (.iconst 1, 1) := by decide +kernel
theorem d3_63 : decode prog_37_method_8_code 63 = .ok (.iadd, 1) := by decide +kernel
theorem d3_64 : decode prog_37_method_8_code 64 = .ok (.putfield 43, 3) := by decide +kernel
theorem d3_67 : decode prog_37_method_8_code 67 = .ok (.aload_n 0, 1) := by decide +kernel
theorem d3_68 : decode prog_37_method_8_code 68 = .ok (.getfield 28, 3) := by decide +kernel
theorem d3_71 : decode prog_37_method_8_code 71 = .ok (.iload_n 1, 1) := by decide +kernel
theorem d3_72 : decode prog_37_method_8_code 72 = .ok (.aload_n 0, 1) := by decide +kernel
theorem d3_73 : decode prog_37_method_8_code 73 = .ok (.getfield 47, 3) := by decide +kernel
theorem d3_76 : decode prog_37_method_8_code 76 = .ok (.iastore, 1) := by decide +kernel
theorem d3_77 : decode prog_37_method_8_code 77 = .ok (.aload_n 0, 1) := by decide +kernel
theorem d3_78 : decode prog_37_method_8_code 78 = .ok (.getfield 31, 3) := by decide +kernel
theorem d3_81 : decode prog_37_method_8_code 81 = .ok (.iload_n 1, 1) := by decide +kernel
theorem d3_82 : decode prog_37_method_8_code 82 = .ok (.aload_n 0, 1) := by decide +kernel
theorem d3_83 : decode prog_37_method_8_code 83 = .ok (.getfield 50, 3) := by decide +kernel
theorem d3_86 : decode prog_37_method_8_code 86 = .ok (.iastore, 1) := by decide +kernel
theorem d3_87 : decode prog_37_method_8_code 87 = .ok (.goto 49, 3) := by decide +kernel
theorem d3_136 : decode prog_37_method_8_code 136 = .ok (.aload_n 0, 1) := by decide +kernel
theorem d3_137 : decode prog_37_method_8_code 137 = .ok (.getfield 34, 3) := by decide +kernel
theorem d3_140 : decode prog_37_method_8_code 140 = .ok (.iload_n 1, 1) := by decide +kernel
theorem d3_141 : decode prog_37_method_8_code 141 = .ok (.aload_n 0, 1) := by decide +kernel
theorem d3_142 : decode prog_37_method_8_code 142 = .ok (.getfield 47, 3) := by decide +kernel
theorem d3_145 : decode prog_37_method_8_code 145 = .ok (.iastore, 1) := by decide +kernel
theorem d3_146 : decode prog_37_method_8_code 146 = .ok (.aload_n 0, 1) := by decide +kernel
theorem d3_147 : decode prog_37_method_8_code 147 = .ok (.getfield 37, 3) := by decide +kernel
theorem d3_150 : decode prog_37_method_8_code 150 = .ok (.iload_n 1, 1) := by decide +kernel
theorem d3_151 : decode prog_37_method_8_code 151 = .ok (.aload_n 0, 1) := by decide +kernel
theorem d3_152 : decode prog_37_method_8_code 152 = .ok (.getfield 50, 3) := by decide +kernel
theorem d3_155 : decode prog_37_method_8_code 155 = .ok (.iastore, 1) := by decide +kernel
theorem d3_156 : decode prog_37_method_8_code 156 = .ok (.aload_n 0, 1) := by decide +kernel
theorem d3_157 : decode prog_37_method_8_code 157 = .ok (.getfield 20, 3) := by decide +kernel
theorem d3_160 : decode prog_37_method_8_code 160 = .ok (.iload_n 1, 1) := by decide +kernel
theorem d3_161 : decode prog_37_method_8_code 161 = .ok (.dup2, 1) := by decide +kernel
theorem d3_162 : decode prog_37_method_8_code 162 = .ok (.iaload, 1) := by decide +kernel
theorem d3_163 : decode prog_37_method_8_code 163 = .ok (.iconst 1, 1) := by decide +kernel
theorem d3_164 : decode prog_37_method_8_code 164 = .ok (.iadd, 1) := by decide +kernel
theorem d3_165 : decode prog_37_method_8_code 165 = .ok (.iastore, 1) := by decide +kernel
theorem d3_166 : decode prog_37_method_8_code 166 = .ok (.aload_n 0, 1) := by decide +kernel
theorem d3_167 : decode prog_37_method_8_code 167 = .ok (.getfield 11, 3) := by decide +kernel
theorem d3_170 : decode prog_37_method_8_code 170 = .ok (.aload_n 0, 1) := by decide +kernel
theorem d3_171 : decode prog_37_method_8_code 171 = .ok (.getfield 47, 3) := by decide +kernel
theorem d3_174 : decode prog_37_method_8_code 174 = .ok (.aaload, 1) := by decide +kernel
theorem d3_175 : decode prog_37_method_8_code 175 = .ok (.astore 7, 2) := by decide +kernel
theorem d3_177 : decode prog_37_method_8_code 177 = .ok (.aload 7, 2) := by decide +kernel
theorem d3_179 : decode prog_37_method_8_code 179 = .ok (.aload_n 0, 1) := by decide +kernel
theorem d3_180 : decode prog_37_method_8_code 180 = .ok (.getfield 50, 3) := by decide +kernel
theorem d3_183 : decode prog_37_method_8_code 183 = .ok (.iconst 2, 1) := by decide +kernel
theorem d3_184 : decode prog_37_method_8_code 184 = .ok (.iadd, 1) := by decide +kernel
theorem d3_185 : decode prog_37_method_8_code 185 = .ok (.iload_n 2, 1) := by decide +kernel
theorem d3_186 : decode prog_37_method_8_code 186 = .ok (.iastore, 1) := by decide +kernel
theorem d3_187 : decode prog_37_method_8_code 187 = .ok (.aload 7, 2) := by decide +kernel
theorem d3_189 : decode prog_37_method_8_code 189 = .ok (.aload_n 0, 1) := by decide +kernel
theorem d3_190 : decode prog_37_method_8_code 190 = .ok (.getfield 50, 3) := by decide +kernel
theorem d3_193 : decode prog_37_method_8_code 193 = .ok (.iconst 3, 1) := by decide +kernel
theorem d3_194 : decode prog_37_method_8_code 194 = .ok (.iadd, 1) := by decide +kernel
theorem d3_195 : decode prog_37_method_8_code 195 = .ok (.iload 5, 2) := by decide +kernel
theorem d3_197 : decode prog_37_method_8_code 197 = .ok (.iastore, 1) := by decide +kernel
theorem d3_198 : decode prog_37_method_8_code 198 = .ok (.aload_n 3, 1) := by decide +kernel
theorem d3_199 : decode prog_37_method_8_code 199 = .ok (.iload 4, 2) := by decide +kernel
theorem d3_201 : decode prog_37_method_8_code 201 = .ok (.aload 7, 2) := by decide +kernel
theorem d3_203 : decode prog_37_method_8_code 203 = .ok (.aload_n 0, 1) := by decide +kernel
theorem d3_204 : decode prog_37_method_8_code 204 = .ok (.getfield 50, 3) := by decide +kernel
theorem d3_207 : decode prog_37_method_8_code 207 = .ok (.iconst 4, 1) := by decide +kernel
theorem d3_208 : decode prog_37_method_8_code 208 = .ok (.iadd, 1) := by decide +kernel
theorem d3_209 : decode prog_37_method_8_code 209 = .ok (.iload 5, 2) := by decide +kernel
theorem d3_211 : decode prog_37_method_8_code 211 = .ok (.invokestatic 71, 3) := by decide +kernel
theorem d3_214 : decode prog_37_method_8_code 214 = .ok (.aload_n 0, 1) := by decide +kernel
theorem d3_215 : decode prog_37_method_8_code 215 = .ok (.dup, 1) := by decide +kernel
theorem d3_216 : decode prog_37_method_8_code 216 = .ok (.getfield 50, 3) := by decide +kernel
theorem d3_219 : decode prog_37_method_8_code 219 = .ok (.iload 6, 2) := by decide +kernel
theorem d3_221 : decode prog_37_method_8_code 221 = .ok (.iadd, 1) := by decide +kernel
theorem d3_222 : decode prog_37_method_8_code 222 = .ok (.putfield 50, 3) := by decide +kernel
theorem d3_225 : decode prog_37_method_8_code 225 = .ok (.aload_n 0, 1) := by decide +kernel
theorem d3_226 : decode prog_37_method_8_code 226 = .ok (.dup, 1) := by decide +kernel
theorem d3_227 : decode prog_37_method_8_code 227 = .ok (.getfield 53, 3) := by decide +kernel
theorem d3_230 : decode prog_37_method_8_code 230 = .ok (.iconst 1, 1) := by decide +kernel
theorem d3_231 : decode prog_37_method_8_code 231 = .ok (.iadd, 1) := by decide +kernel
theorem d3_232 : decode prog_37_method_8_code 232 = .ok (.putfield 53, 3) := by decide +kernel
theorem d3_235 : decode prog_37_method_8_code 235 = .ok (.aload_n 0, 1) := by decide +kernel
theorem d3_236 : decode prog_37_method_8_code 236 = .ok (.getfield 24, 3) := by decide +kernel
theorem d3_239 : decode prog_37_method_8_code 239 = .ok (.iload_n 1, 1) := by decide +kernel
theorem d3_240 : decode prog_37_method_8_code 240 = .ok (.dup2, 1) := by decide +kernel
theorem d3_241 : decode prog_37_method_8_code 241 = .ok (.laload, 1) := by decide +kernel
theorem d3_242 : decode prog_37_method_8_code 242 = .ok (.iconst 2, 1) := by decide +kernel
theorem d3_243 : decode prog_37_method_8_code 243 = .ok (.iload 5, 2) := by decide +kernel
theorem d3_245 : decode prog_37_method_8_code 245 = .ok (.iadd, 1) := by decide +kernel
theorem d3_246 : decode prog_37_method_8_code 246 = .ok (.i2l, 1) := by decide +kernel
theorem d3_247 : decode prog_37_method_8_code 247 = .ok (.ladd, 1) := by decide +kernel
theorem d3_248 : decode prog_37_method_8_code 248 = .ok (.lastore, 1) := by decide +kernel
theorem d3_249 : decode prog_37_method_8_code 249 = .ok (.aload_n 0, 1) := by decide +kernel
theorem d3_250 : decode prog_37_method_8_code 250 = .ok (.dup, 1) := by decide +kernel
theorem d3_251 : decode prog_37_method_8_code 251 = .ok (.getfield 56, 3) := by decide +kernel
theorem d3_254 : decode prog_37_method_8_code 254 = .ok (.iconst 2, 1) := by decide +kernel
theorem d3_255 : decode prog_37_method_8_code 255 = .ok (.iload 5, 2) := by decide +kernel
theorem d3_257 : decode prog_37_method_8_code 257 = .ok (.iadd, 1) := by decide +kernel
theorem d3_258 : decode prog_37_method_8_code 258 = .ok (.i2l, 1) := by decide +kernel
theorem d3_259 : decode prog_37_method_8_code 259 = .ok (.ladd, 1) := by decide +kernel
theorem d3_260 : decode prog_37_method_8_code 260 = .ok (.putfield 56, 3) := by decide +kernel
theorem d3_263 : decode prog_37_method_8_code 263 = .ok (.return_, 1) := by decide +kernel
set_option maxRecDepth 65536 in
set_option maxHeartbeats 40000000 in
theorem rm_a1_0 {l : Launch} {Z : State} {a0 : Array Value} (hw : ∀ d ∈ tables_1, d.before a0 Z = true) (o ck ch cn rl fc fs lc la rv ar : Addr) (hd w5 a0 a1 a2 f0 f1 y0 y1 q0 q1 z0 z1 v0 v1 : Int32) (h : Heap) (n0 : Nat) (zn : n0 ≤ h.size) (OB : own_ob Z h o ck ch cn rl fc fs lc la rv (0 : Int32) (0 : Int32) (0 : Int32) (0 : Int32) (0 : Int64) (0 : Int64) (0 : Int64) (0 : Int32) (0 : Int32) f0 f1 y0 y1 q0 q1 z0 z1 v0 v1) (NE : own_ne o ck ch cn rl fc fs lc la rv) (GE : own_ge n0 o ck ch cn rl fc fs lc la rv) (V_ar : PA Z h ar .int [a0, a1, a2]) (NA : ar ≠ o ∧ ar ≠ ck ∧ ar ≠ ch ∧ ar ≠ cn ∧ ar ≠ rl ∧ ar ≠ fc ∧ ar ≠ fs ∧ ar ≠ lc ∧ ar ≠ la ∧ ar ≠ rv) (hw5 : 0 ≤ w5.toInt ∧ w5.toInt ≤ 3) :
    Met l Z (⟨"com/example/vigilant_mailbox/vigilantmailbox/engine/Sends", "add", "(II[III)V"⟩ : MethodName) prog_37_method_8_code 8 none [] ({ frames := 1, cells := 0, slots := 0, locals := 40 } : Room) #[(.ref o), (.int (0 : Int32)), (.int hd), (.ref ar), (.int (0 : Int32)), (.int w5)] h n0 (RV fun h' => Keep h h' [o, ch, cn, rl, fc, fs, lc, la, rv] ∧ ∃ len' : Int32, (0 ≤ len'.toInt ∧ len'.toInt ≤ 7) ∧ ∃ f0' f1' y0' y1' q1' z1' v1' : Int32, own_ob Z h' o ck ch cn rl fc fs lc la rv (0 : Int32) len' (1 : Int32) (1 : Int32) (own_rl (0 : Int64) w5) (own_rl (0 : Int64) w5) (0 : Int64) (1 : Int32) (0 : Int32) f0' f1' y0' y1' (0 : Int32) q1' (0 : Int32) z1' (0 : Int32) v1') := by
  refine start (ls := #[.val (.ref o), .val (.int (0 : Int32)), .val (.int hd), .val (.ref ar), .val (.int (0 : Int32)), .val (.int w5), .unset, .unset]) (plainFor_of_name pn1) (fun m => by first | (simp [entryFrame, mkF, argsToLocals, Value.category]; done) | rfl) ?_
  intro p e s m below meth c T G w X
  have K := Keep.refl h [o, ch, cn, rl, fc, fs, lc, la, rv]
  obtain ⟨E_o, F_chunks_o, F_counts_o, F_rowLengths_o, F_firstChunks_o, F_firsts_o, F_lastChunks_o, F_lasts_o, F_receivers_o, F_chunk_o, F_length_o, F_receiverCount_o, F_total_o, F_rowLength_o, R_ck, V_rl, V_cn, V_fc, V_fs, V_lc, V_la, V_rv, bs, V_ch, hbs⟩ := OB
  obtain ⟨ne_o_ck, ne_o_ch, ne_o_cn, ne_o_rl, ne_o_fc, ne_o_fs, ne_o_lc, ne_o_la, ne_o_rv, ne_ck_ch, ne_ck_cn, ne_ck_rl, ne_ck_fc, ne_ck_fs, ne_ck_lc, ne_ck_la, ne_ck_rv, ne_ch_cn, ne_ch_rl, ne_ch_fc, ne_ch_fs, ne_ch_lc, ne_ch_la, ne_ch_rv, ne_cn_rl, ne_cn_fc, ne_cn_fs, ne_cn_lc, ne_cn_la, ne_cn_rv, ne_rl_fc, ne_rl_fs, ne_rl_lc, ne_rl_la, ne_rl_rv, ne_fc_fs, ne_fc_lc, ne_fc_la, ne_fc_rv, ne_fs_lc, ne_fs_la, ne_fs_rv, ne_lc_la, ne_lc_rv, ne_la_rv⟩ := NE
  obtain ⟨g_o, g_ck, g_ch, g_cn, g_rl, g_fc, g_fs, g_lc, g_la, g_rv⟩ := GE
  obtain ⟨ne_ar_o, ne_ar_ck, ne_ar_ch, ne_ar_cn, ne_ar_rl, ne_ar_fc, ne_ar_fs, ne_ar_lc, ne_ar_la, ne_ar_rv⟩ := NA
  refine ldc2J w X (wd37 hw) d3_0 3 rfl ?_
  refine iload w X d3_3 5 rfl rfl ?_
  refine i2l w X (w5.toInt64) d3_5 6 rfl rfl ?_
  refine ladd w X ((4 : Int64) + (w5.toInt64)) d3_6 7 rfl rfl ?_
  refine callSPI w X [(.long ((4 : Int64) + (w5.toInt64)))] (wd38 hw) (wd39 hw) (wd40 hw) (wd41 hw) (by decide) (rm_cc hw ((4 : Int64) + (w5.toInt64)) h n0 zn (own_x7 hw5)) d3_7 10 rfl 0 (by decide) (by decide) (lenOf pd0 rfl) rfl (Nat.le_of_eq rfl) rfl (by decide) (by decide) (fun r1 T X hq => ?_)
  have hr1 := hq
  refine istore w X r1 d3_10 12 rfl rfl #[.val (.ref o), .val (.int (0 : Int32)), .val (.int hd), .val (.ref ar), .val (.int (0 : Int32)), .val (.int w5), .val (.int r1), .unset] rfl ?_
  refine aloadN w X d3_12 13 rfl rfl rfl ?_
  refine getfield w X (wd43 hw) Via.refl F_length_o d3_13 16 rfl (fun T X => ?_)
  refine iload w X d3_16 18 rfl rfl ?_
  refine iadd w X ((0 : Int32) + r1) d3_18 19 rfl rfl ?_
  refine aloadN w X d3_19 20 rfl rfl rfl ?_
  refine getfield w X (wd12 hw) Via.refl F_chunks_o d3_20 23 rfl (fun T X => ?_)
  refine aloadN w X d3_23 24 rfl rfl rfl ?_
  refine getfield w X (wd45 hw) Via.refl F_chunk_o d3_24 27 rfl (fun T X => ?_)
  refine aaload0 w X R_ck rfl d3_27 28 rfl ?_
  refine arraylength w X V_ch d3_28 29 rfl (4096 : Int32) (by rw [hbs]; rfl) ?_
  refine icmp_le w X d3_29 38 32 (by decide) (by decide) rfl (fun hc29_2 => ?_) (fun q => False.elim (by exact own_le (by have := own_cap (len := (0 : Int32)) hr1 hw5 (by decide); have := hw5.2; have h7 := (show (0 : Int32).toInt = 0 from rfl); omega) q))
  refine aloadN w X d3_38 39 rfl rfl rfl ?_
  refine getfield w X (wd17 hw) Via.refl F_counts_o d3_39 42 rfl (fun T X => ?_)
  refine iloadN w X d3_42 43 rfl rfl ?_
  refine iaload w X V_cn (by decide) 0 rfl (Nat.le_of_ble_eq_true rfl) d3_43 44 rfl (0 : Int32) rfl ?_
  refine if_ne w X d3_44 90 47 (by decide) (by decide) rfl (fun q => absurd q (by decide)) (fun hc44_3 => ?_)
  refine aloadN w X d3_47 48 rfl rfl rfl ?_
  refine getfield w X (wd30 hw) Via.refl F_receivers_o d3_48 51 rfl (fun T X => ?_)
  refine aloadN w X d3_51 52 rfl rfl rfl ?_
  refine getfield w X (wd47 hw) Via.refl F_receiverCount_o d3_52 55 rfl (fun T X => ?_)
  refine iloadN w X d3_55 56 rfl rfl ?_
  refine iastore w X V_rv (by decide) 0 rfl (Nat.le_of_ble_eq_true rfl) g_rv d3_56 57 rfl (0 : Int32) rfl (fun T h4 X W V_rv => ?_)
  have V_rv : PA Z h4 rv .int [(0 : Int32), v1] := V_rv
  have zn : n0 ≤ h4.size := W.size ▸ zn
  have E_o := E_o.wr W
  have F_chunks_o := F_chunks_o.other W (Or.inl ne_o_rv)
  have F_counts_o := F_counts_o.other W (Or.inl ne_o_rv)
  have F_rowLengths_o := F_rowLengths_o.other W (Or.inl ne_o_rv)
  have F_firstChunks_o := F_firstChunks_o.other W (Or.inl ne_o_rv)
  have F_firsts_o := F_firsts_o.other W (Or.inl ne_o_rv)
  have F_lastChunks_o := F_lastChunks_o.other W (Or.inl ne_o_rv)
  have F_lasts_o := F_lasts_o.other W (Or.inl ne_o_rv)
  have F_receivers_o := F_receivers_o.other W (Or.inl ne_o_rv)
  have F_chunk_o := F_chunk_o.other W (Or.inl ne_o_rv)
  have F_length_o := F_length_o.other W (Or.inl ne_o_rv)
  have F_receiverCount_o := F_receiverCount_o.other W (Or.inl ne_o_rv)
  have F_total_o := F_total_o.other W (Or.inl ne_o_rv)
  have F_rowLength_o := F_rowLength_o.other W (Or.inl ne_o_rv)
  have R_ck := R_ck.other W ne_ck_rv
  have V_rl := V_rl.other W ne_rl_rv
  have V_cn := V_cn.other W ne_cn_rv
  have V_fc := V_fc.other W ne_fc_rv
  have V_fs := V_fs.other W ne_fs_rv
  have V_lc := V_lc.other W ne_lc_rv
  have V_la := V_la.other W ne_la_rv
  have V_ch := V_ch.other W ne_ch_rv
  have K := K.wr W (Or.inl (List.mem_of_getElem? (i := 8) rfl))
  have V_ar := V_ar.other W ne_ar_rv
  refine aloadN w X d3_57 58 rfl rfl rfl ?_
  refine dup w X d3_58 59 rfl rfl ?_
  refine getfield w X (wd47 hw) Via.refl F_receiverCount_o d3_59 62 rfl (fun T X => ?_)
  refine iconst w X (1 : Int32) d3_62 63 rfl rfl ?_
  refine iadd w X (1 : Int32) d3_63 64 rfl (by decide) ?_
  refine putfield w X (wd47 hw) Via.refl F_receiverCount_o E_o (Or.inl (wd48 hw)) (wd2 hw) (ty := .int) (by decide) rfl rfl g_o d3_64 67 rfl (fun T h5 X W => ?_)
  have zn : n0 ≤ h5.size := W.size ▸ zn
  have E_o := E_o.wr W
  have F_chunks_o := F_chunks_o.other W (Or.inr (slot_ne (Or.inl (wd13 hw)) (Or.inl (wd48 hw)) (by decide) (t := (.array (.array .int))) (t' := .int) (by decide) (by decide)))
  have F_counts_o := F_counts_o.other W (Or.inr (slot_ne (Or.inr (wd18 hw)) (Or.inl (wd48 hw)) (by decide) (t := (.array .int)) (t' := .int) (by decide) (by decide)))
  have F_rowLengths_o := F_rowLengths_o.other W (Or.inr (slot_ne (Or.inr (wd21 hw)) (Or.inl (wd48 hw)) (by decide) (t := (.array .long)) (t' := .int) (by decide) (by decide)))
  have F_firstChunks_o := F_firstChunks_o.other W (Or.inr (slot_ne (Or.inr (wd23 hw)) (Or.inl (wd48 hw)) (by decide) (t := (.array .int)) (t' := .int) (by decide) (by decide)))
  have F_firsts_o := F_firsts_o.other W (Or.inr (slot_ne (Or.inr (wd25 hw)) (Or.inl (wd48 hw)) (by decide) (t := (.array .int)) (t' := .int) (by decide) (by decide)))
  have F_lastChunks_o := F_lastChunks_o.other W (Or.inr (slot_ne (Or.inr (wd27 hw)) (Or.inl (wd48 hw)) (by decide) (t := (.array .int)) (t' := .int) (by decide) (by decide)))
  have F_lasts_o := F_lasts_o.other W (Or.inr (slot_ne (Or.inr (wd29 hw)) (Or.inl (wd48 hw)) (by decide) (t := (.array .int)) (t' := .int) (by decide) (by decide)))
  have F_receivers_o := F_receivers_o.other W (Or.inr (slot_ne (Or.inr (wd31 hw)) (Or.inl (wd48 hw)) (by decide) (t := (.array .int)) (t' := .int) (by decide) (by decide)))
  have F_chunk_o := F_chunk_o.other W (Or.inr (slot_ne (Or.inl (wd46 hw)) (Or.inl (wd48 hw)) (by decide) (t := .int) (t' := .int) (by decide) (by decide)))
  have F_length_o := F_length_o.other W (Or.inr (slot_ne (Or.inl (wd44 hw)) (Or.inl (wd48 hw)) (by decide) (t := .int) (t' := .int) (by decide) (by decide)))
  have F_receiverCount_o := F_receiverCount_o.same W
  have F_total_o := F_total_o.other W (Or.inr (slot_ne (Or.inl (wd54 hw)) (Or.inl (wd48 hw)) (by decide) (t := .int) (t' := .int) (by decide) (by decide)))
  have F_rowLength_o := F_rowLength_o.other W (Or.inr (slot_ne (Or.inl (wd56 hw)) (Or.inl (wd48 hw)) (by decide) (t := .long) (t' := .int) (by decide) (by decide)))
  have R_ck := R_ck.other W (Ne.symm ne_o_ck)
  have V_rl := V_rl.other W (Ne.symm ne_o_rl)
  have V_cn := V_cn.other W (Ne.symm ne_o_cn)
  have V_fc := V_fc.other W (Ne.symm ne_o_fc)
  have V_fs := V_fs.other W (Ne.symm ne_o_fs)
  have V_lc := V_lc.other W (Ne.symm ne_o_lc)
  have V_la := V_la.other W (Ne.symm ne_o_la)
  have V_rv := V_rv.other W (Ne.symm ne_o_rv)
  have V_ch := V_ch.other W (Ne.symm ne_o_ch)
  have K := K.wr W (Or.inl (List.mem_of_getElem? (i := 0) rfl))
  have V_ar := V_ar.other W ne_ar_o
  refine aloadN w X d3_67 68 rfl rfl rfl ?_
  refine getfield w X (wd22 hw) Via.refl F_firstChunks_o d3_68 71 rfl (fun T X => ?_)
  refine iloadN w X d3_71 72 rfl rfl ?_
  refine aloadN w X d3_72 73 rfl rfl rfl ?_
  refine getfield w X (wd45 hw) Via.refl F_chunk_o d3_73 76 rfl (fun T X => ?_)
  refine iastore w X V_fc (by decide) 0 rfl (Nat.le_of_ble_eq_true rfl) g_fc d3_76 77 rfl (0 : Int32) rfl (fun T h6 X W V_fc => ?_)
  have V_fc : PA Z h6 fc .int [(0 : Int32), f1] := V_fc
  have zn : n0 ≤ h6.size := W.size ▸ zn
  have E_o := E_o.wr W
  have F_chunks_o := F_chunks_o.other W (Or.inl ne_o_fc)
  have F_counts_o := F_counts_o.other W (Or.inl ne_o_fc)
  have F_rowLengths_o := F_rowLengths_o.other W (Or.inl ne_o_fc)
  have F_firstChunks_o := F_firstChunks_o.other W (Or.inl ne_o_fc)
  have F_firsts_o := F_firsts_o.other W (Or.inl ne_o_fc)
  have F_lastChunks_o := F_lastChunks_o.other W (Or.inl ne_o_fc)
  have F_lasts_o := F_lasts_o.other W (Or.inl ne_o_fc)
  have F_receivers_o := F_receivers_o.other W (Or.inl ne_o_fc)
  have F_chunk_o := F_chunk_o.other W (Or.inl ne_o_fc)
  have F_length_o := F_length_o.other W (Or.inl ne_o_fc)
  have F_receiverCount_o := F_receiverCount_o.other W (Or.inl ne_o_fc)
  have F_total_o := F_total_o.other W (Or.inl ne_o_fc)
  have F_rowLength_o := F_rowLength_o.other W (Or.inl ne_o_fc)
  have R_ck := R_ck.other W ne_ck_fc
  have V_rl := V_rl.other W ne_rl_fc
  have V_cn := V_cn.other W ne_cn_fc
  have V_fs := V_fs.other W (Ne.symm ne_fc_fs)
  have V_lc := V_lc.other W (Ne.symm ne_fc_lc)
  have V_la := V_la.other W (Ne.symm ne_fc_la)
  have V_rv := V_rv.other W (Ne.symm ne_fc_rv)
  have V_ch := V_ch.other W ne_ch_fc
  have K := K.wr W (Or.inl (List.mem_of_getElem? (i := 4) rfl))
  have V_ar := V_ar.other W ne_ar_fc
  refine aloadN w X d3_77 78 rfl rfl rfl ?_
  refine getfield w X (wd24 hw) Via.refl F_firsts_o d3_78 81 rfl (fun T X => ?_)
  refine iloadN w X d3_81 82 rfl rfl ?_
  refine aloadN w X d3_82 83 rfl rfl rfl ?_
  refine getfield w X (wd43 hw) Via.refl F_length_o d3_83 86 rfl (fun T X => ?_)
  refine iastore w X V_fs (by decide) 0 rfl (Nat.le_of_ble_eq_true rfl) g_fs d3_86 87 rfl (0 : Int32) rfl (fun T h7 X W V_fs => ?_)
  have V_fs : PA Z h7 fs .int [(0 : Int32), y1] := V_fs
  have zn : n0 ≤ h7.size := W.size ▸ zn
  have E_o := E_o.wr W
  have F_chunks_o := F_chunks_o.other W (Or.inl ne_o_fs)
  have F_counts_o := F_counts_o.other W (Or.inl ne_o_fs)
  have F_rowLengths_o := F_rowLengths_o.other W (Or.inl ne_o_fs)
  have F_firstChunks_o := F_firstChunks_o.other W (Or.inl ne_o_fs)
  have F_firsts_o := F_firsts_o.other W (Or.inl ne_o_fs)
  have F_lastChunks_o := F_lastChunks_o.other W (Or.inl ne_o_fs)
  have F_lasts_o := F_lasts_o.other W (Or.inl ne_o_fs)
  have F_receivers_o := F_receivers_o.other W (Or.inl ne_o_fs)
  have F_chunk_o := F_chunk_o.other W (Or.inl ne_o_fs)
  have F_length_o := F_length_o.other W (Or.inl ne_o_fs)
  have F_receiverCount_o := F_receiverCount_o.other W (Or.inl ne_o_fs)
  have F_total_o := F_total_o.other W (Or.inl ne_o_fs)
  have F_rowLength_o := F_rowLength_o.other W (Or.inl ne_o_fs)
  have R_ck := R_ck.other W ne_ck_fs
  have V_rl := V_rl.other W ne_rl_fs
  have V_cn := V_cn.other W ne_cn_fs
  have V_fc := V_fc.other W ne_fc_fs
  have V_lc := V_lc.other W (Ne.symm ne_fs_lc)
  have V_la := V_la.other W (Ne.symm ne_fs_la)
  have V_rv := V_rv.other W (Ne.symm ne_fs_rv)
  have V_ch := V_ch.other W ne_ch_fs
  have K := K.wr W (Or.inl (List.mem_of_getElem? (i := 5) rfl))
  have V_ar := V_ar.other W ne_ar_fs
  refine goto w X d3_87 136 (by decide) (by decide) ?_
  refine aloadN w X d3_136 137 rfl rfl rfl ?_
  refine getfield w X (wd26 hw) Via.refl F_lastChunks_o d3_137 140 rfl (fun T X => ?_)
  refine iloadN w X d3_140 141 rfl rfl ?_
  refine aloadN w X d3_141 142 rfl rfl rfl ?_
  refine getfield w X (wd45 hw) Via.refl F_chunk_o d3_142 145 rfl (fun T X => ?_)
  refine iastore w X V_lc (by decide) 0 rfl (Nat.le_of_ble_eq_true rfl) g_lc d3_145 146 rfl (0 : Int32) rfl (fun T h8 X W V_lc => ?_)
  have V_lc : PA Z h8 lc .int [(0 : Int32), q1] := V_lc
  have zn : n0 ≤ h8.size := W.size ▸ zn
  have E_o := E_o.wr W
  have F_chunks_o := F_chunks_o.other W (Or.inl ne_o_lc)
  have F_counts_o := F_counts_o.other W (Or.inl ne_o_lc)
  have F_rowLengths_o := F_rowLengths_o.other W (Or.inl ne_o_lc)
  have F_firstChunks_o := F_firstChunks_o.other W (Or.inl ne_o_lc)
  have F_firsts_o := F_firsts_o.other W (Or.inl ne_o_lc)
  have F_lastChunks_o := F_lastChunks_o.other W (Or.inl ne_o_lc)
  have F_lasts_o := F_lasts_o.other W (Or.inl ne_o_lc)
  have F_receivers_o := F_receivers_o.other W (Or.inl ne_o_lc)
  have F_chunk_o := F_chunk_o.other W (Or.inl ne_o_lc)
  have F_length_o := F_length_o.other W (Or.inl ne_o_lc)
  have F_receiverCount_o := F_receiverCount_o.other W (Or.inl ne_o_lc)
  have F_total_o := F_total_o.other W (Or.inl ne_o_lc)
  have F_rowLength_o := F_rowLength_o.other W (Or.inl ne_o_lc)
  have R_ck := R_ck.other W ne_ck_lc
  have V_rl := V_rl.other W ne_rl_lc
  have V_cn := V_cn.other W ne_cn_lc
  have V_fc := V_fc.other W ne_fc_lc
  have V_fs := V_fs.other W ne_fs_lc
  have V_la := V_la.other W (Ne.symm ne_lc_la)
  have V_rv := V_rv.other W (Ne.symm ne_lc_rv)
  have V_ch := V_ch.other W ne_ch_lc
  have K := K.wr W (Or.inl (List.mem_of_getElem? (i := 6) rfl))
  have V_ar := V_ar.other W ne_ar_lc
  refine aloadN w X d3_146 147 rfl rfl rfl ?_
  refine getfield w X (wd28 hw) Via.refl F_lasts_o d3_147 150 rfl (fun T X => ?_)
  refine iloadN w X d3_150 151 rfl rfl ?_
  refine aloadN w X d3_151 152 rfl rfl rfl ?_
  refine getfield w X (wd43 hw) Via.refl F_length_o d3_152 155 rfl (fun T X => ?_)
  refine iastore w X V_la (by decide) 0 rfl (Nat.le_of_ble_eq_true rfl) g_la d3_155 156 rfl (0 : Int32) rfl (fun T h9 X W V_la => ?_)
  have V_la : PA Z h9 la .int [(0 : Int32), z1] := V_la
  have zn : n0 ≤ h9.size := W.size ▸ zn
  have E_o := E_o.wr W
  have F_chunks_o := F_chunks_o.other W (Or.inl ne_o_la)
  have F_counts_o := F_counts_o.other W (Or.inl ne_o_la)
  have F_rowLengths_o := F_rowLengths_o.other W (Or.inl ne_o_la)
  have F_firstChunks_o := F_firstChunks_o.other W (Or.inl ne_o_la)
  have F_firsts_o := F_firsts_o.other W (Or.inl ne_o_la)
  have F_lastChunks_o := F_lastChunks_o.other W (Or.inl ne_o_la)
  have F_lasts_o := F_lasts_o.other W (Or.inl ne_o_la)
  have F_receivers_o := F_receivers_o.other W (Or.inl ne_o_la)
  have F_chunk_o := F_chunk_o.other W (Or.inl ne_o_la)
  have F_length_o := F_length_o.other W (Or.inl ne_o_la)
  have F_receiverCount_o := F_receiverCount_o.other W (Or.inl ne_o_la)
  have F_total_o := F_total_o.other W (Or.inl ne_o_la)
  have F_rowLength_o := F_rowLength_o.other W (Or.inl ne_o_la)
  have R_ck := R_ck.other W ne_ck_la
  have V_rl := V_rl.other W ne_rl_la
  have V_cn := V_cn.other W ne_cn_la
  have V_fc := V_fc.other W ne_fc_la
  have V_fs := V_fs.other W ne_fs_la
  have V_lc := V_lc.other W ne_lc_la
  have V_rv := V_rv.other W (Ne.symm ne_la_rv)
  have V_ch := V_ch.other W ne_ch_la
  have K := K.wr W (Or.inl (List.mem_of_getElem? (i := 7) rfl))
  have V_ar := V_ar.other W ne_ar_la
  refine aloadN w X d3_156 157 rfl rfl rfl ?_
  refine getfield w X (wd17 hw) Via.refl F_counts_o d3_157 160 rfl (fun T X => ?_)
  refine iloadN w X d3_160 161 rfl rfl ?_
  refine dup2 w X d3_161 162 rfl rfl rfl ?_
  refine iaload w X V_cn (by decide) 0 rfl (Nat.le_of_ble_eq_true rfl) d3_162 163 rfl (0 : Int32) rfl ?_
  refine iconst w X (1 : Int32) d3_163 164 rfl rfl ?_
  refine iadd w X (1 : Int32) d3_164 165 rfl (by decide) ?_
  refine iastore w X V_cn (by decide) 0 rfl (Nat.le_of_ble_eq_true rfl) g_cn d3_165 166 rfl (1 : Int32) rfl (fun T h10 X W V_cn => ?_)
  have V_cn : PA Z h10 cn .int [(1 : Int32), (0 : Int32)] := V_cn
  have zn : n0 ≤ h10.size := W.size ▸ zn
  have E_o := E_o.wr W
  have F_chunks_o := F_chunks_o.other W (Or.inl ne_o_cn)
  have F_counts_o := F_counts_o.other W (Or.inl ne_o_cn)
  have F_rowLengths_o := F_rowLengths_o.other W (Or.inl ne_o_cn)
  have F_firstChunks_o := F_firstChunks_o.other W (Or.inl ne_o_cn)
  have F_firsts_o := F_firsts_o.other W (Or.inl ne_o_cn)
  have F_lastChunks_o := F_lastChunks_o.other W (Or.inl ne_o_cn)
  have F_lasts_o := F_lasts_o.other W (Or.inl ne_o_cn)
  have F_receivers_o := F_receivers_o.other W (Or.inl ne_o_cn)
  have F_chunk_o := F_chunk_o.other W (Or.inl ne_o_cn)
  have F_length_o := F_length_o.other W (Or.inl ne_o_cn)
  have F_receiverCount_o := F_receiverCount_o.other W (Or.inl ne_o_cn)
  have F_total_o := F_total_o.other W (Or.inl ne_o_cn)
  have F_rowLength_o := F_rowLength_o.other W (Or.inl ne_o_cn)
  have R_ck := R_ck.other W ne_ck_cn
  have V_rl := V_rl.other W (Ne.symm ne_cn_rl)
  have V_fc := V_fc.other W (Ne.symm ne_cn_fc)
  have V_fs := V_fs.other W (Ne.symm ne_cn_fs)
  have V_lc := V_lc.other W (Ne.symm ne_cn_lc)
  have V_la := V_la.other W (Ne.symm ne_cn_la)
  have V_rv := V_rv.other W (Ne.symm ne_cn_rv)
  have V_ch := V_ch.other W ne_ch_cn
  have K := K.wr W (Or.inl (List.mem_of_getElem? (i := 2) rfl))
  have V_ar := V_ar.other W ne_ar_cn
  refine aloadN w X d3_166 167 rfl rfl rfl ?_
  refine getfield w X (wd12 hw) Via.refl F_chunks_o d3_167 170 rfl (fun T X => ?_)
  refine aloadN w X d3_170 171 rfl rfl rfl ?_
  refine getfield w X (wd45 hw) Via.refl F_chunk_o d3_171 174 rfl (fun T X => ?_)
  refine aaload0 w X R_ck rfl d3_174 175 rfl ?_
  refine astore w X d3_175 177 rfl rfl #[.val (.ref o), .val (.int (0 : Int32)), .val (.int hd), .val (.ref ar), .val (.int (0 : Int32)), .val (.int w5), .val (.int r1), .val (.ref ch)] rfl ?_
  refine aload w X d3_177 179 rfl rfl rfl ?_
  refine aloadN w X d3_179 180 rfl rfl rfl ?_
  refine getfield w X (wd43 hw) Via.refl F_length_o d3_180 183 rfl (fun T X => ?_)
  refine iconst w X (2 : Int32) d3_183 184 rfl rfl ?_
  refine iadd w X (2 : Int32) d3_184 185 rfl (by decide) ?_
  refine iloadN w X d3_185 186 rfl rfl ?_
  refine iastore w X V_ch (by decide) 2 rfl (by rw [hbs]; decide) g_ch d3_186 187 rfl hd rfl (fun T h11 X W V_ch => ?_)
  have zn : n0 ≤ h11.size := W.size ▸ zn
  have E_o := E_o.wr W
  have F_chunks_o := F_chunks_o.other W (Or.inl ne_o_ch)
  have F_counts_o := F_counts_o.other W (Or.inl ne_o_ch)
  have F_rowLengths_o := F_rowLengths_o.other W (Or.inl ne_o_ch)
  have F_firstChunks_o := F_firstChunks_o.other W (Or.inl ne_o_ch)
  have F_firsts_o := F_firsts_o.other W (Or.inl ne_o_ch)
  have F_lastChunks_o := F_lastChunks_o.other W (Or.inl ne_o_ch)
  have F_lasts_o := F_lasts_o.other W (Or.inl ne_o_ch)
  have F_receivers_o := F_receivers_o.other W (Or.inl ne_o_ch)
  have F_chunk_o := F_chunk_o.other W (Or.inl ne_o_ch)
  have F_length_o := F_length_o.other W (Or.inl ne_o_ch)
  have F_receiverCount_o := F_receiverCount_o.other W (Or.inl ne_o_ch)
  have F_total_o := F_total_o.other W (Or.inl ne_o_ch)
  have F_rowLength_o := F_rowLength_o.other W (Or.inl ne_o_ch)
  have R_ck := R_ck.other W ne_ck_ch
  have V_rl := V_rl.other W (Ne.symm ne_ch_rl)
  have V_cn := V_cn.other W (Ne.symm ne_ch_cn)
  have V_fc := V_fc.other W (Ne.symm ne_ch_fc)
  have V_fs := V_fs.other W (Ne.symm ne_ch_fs)
  have V_lc := V_lc.other W (Ne.symm ne_ch_lc)
  have V_la := V_la.other W (Ne.symm ne_ch_la)
  have V_rv := V_rv.other W (Ne.symm ne_ch_rv)
  have K := K.wr W (Or.inl (List.mem_of_getElem? (i := 1) rfl))
  have V_ar := V_ar.other W ne_ar_ch
  obtain ⟨bs, V_ch, hbs⟩ : ∃ bs' : List Int32, PA Z h11 ch .int bs' ∧ bs'.length = 4096 := ⟨_, V_ch, by rw [List.length_set]; exact hbs⟩
  refine aload w X d3_187 189 rfl rfl rfl ?_
  refine aloadN w X d3_189 190 rfl rfl rfl ?_
  refine getfield w X (wd43 hw) Via.refl F_length_o d3_190 193 rfl (fun T X => ?_)
  refine iconst w X (3 : Int32) d3_193 194 rfl rfl ?_
  refine iadd w X (3 : Int32) d3_194 195 rfl (by decide) ?_
  refine iload w X d3_195 197 rfl rfl ?_
  refine iastore w X V_ch (by decide) 3 rfl (by rw [hbs]; decide) g_ch d3_197 198 rfl w5 rfl (fun T h12 X W V_ch => ?_)
  have zn : n0 ≤ h12.size := W.size ▸ zn
  have E_o := E_o.wr W
  have F_chunks_o := F_chunks_o.other W (Or.inl ne_o_ch)
  have F_counts_o := F_counts_o.other W (Or.inl ne_o_ch)
  have F_rowLengths_o := F_rowLengths_o.other W (Or.inl ne_o_ch)
  have F_firstChunks_o := F_firstChunks_o.other W (Or.inl ne_o_ch)
  have F_firsts_o := F_firsts_o.other W (Or.inl ne_o_ch)
  have F_lastChunks_o := F_lastChunks_o.other W (Or.inl ne_o_ch)
  have F_lasts_o := F_lasts_o.other W (Or.inl ne_o_ch)
  have F_receivers_o := F_receivers_o.other W (Or.inl ne_o_ch)
  have F_chunk_o := F_chunk_o.other W (Or.inl ne_o_ch)
  have F_length_o := F_length_o.other W (Or.inl ne_o_ch)
  have F_receiverCount_o := F_receiverCount_o.other W (Or.inl ne_o_ch)
  have F_total_o := F_total_o.other W (Or.inl ne_o_ch)
  have F_rowLength_o := F_rowLength_o.other W (Or.inl ne_o_ch)
  have R_ck := R_ck.other W ne_ck_ch
  have V_rl := V_rl.other W (Ne.symm ne_ch_rl)
  have V_cn := V_cn.other W (Ne.symm ne_ch_cn)
  have V_fc := V_fc.other W (Ne.symm ne_ch_fc)
  have V_fs := V_fs.other W (Ne.symm ne_ch_fs)
  have V_lc := V_lc.other W (Ne.symm ne_ch_lc)
  have V_la := V_la.other W (Ne.symm ne_ch_la)
  have V_rv := V_rv.other W (Ne.symm ne_ch_rv)
  have K := K.wr W (Or.inl (List.mem_of_getElem? (i := 1) rfl))
  have V_ar := V_ar.other W ne_ar_ch
  obtain ⟨bs, V_ch, hbs⟩ : ∃ bs' : List Int32, PA Z h12 ch .int bs' ∧ bs'.length = 4096 := ⟨_, V_ch, by rw [List.length_set]; exact hbs⟩
  refine aloadN w X d3_198 199 rfl rfl rfl ?_
  refine iload w X d3_199 201 rfl rfl ?_
  refine aload w X d3_201 203 rfl rfl rfl ?_
  refine aloadN w X d3_203 204 rfl rfl rfl ?_
  refine getfield w X (wd43 hw) Via.refl F_length_o d3_204 207 rfl (fun T X => ?_)
  refine iconst w X (4 : Int32) d3_207 208 rfl rfl ?_
  refine iadd w X (4 : Int32) d3_208 209 rfl (by decide) ?_
  refine iload w X d3_209 211 rfl rfl ?_
  have hcw := own_cl (x := w5) (k := 3) hw5.1 hw5.2
  refine acopyI w X (wd49 hw) (wd52 hw) (wd50 hw) (wd51 hw) V_ar V_ch (by decide) (by decide) (own_nn hw5.1) (by show 0 + _ ≤ 3; omega) (by rw [hbs]; show 4 + _ ≤ 4096; omega) g_ch d3_211 214 rfl rfl (by decide) 0 (Nat.le_of_eq rfl) (by decide) (fun T h13 bs2 X Kq V_ch hb2 => ?_)
  obtain ⟨bs, V_ch, hbs⟩ : ∃ bs' : List Int32, PA Z h13 ch .int bs' ∧ bs'.length = 4096 := ⟨_, V_ch, hb2.trans hbs⟩
  have zn : n0 ≤ h13.size := Nat.le_trans zn Kq.1
  have E_o := E_o.keep Kq
  have F_chunks_o := F_chunks_o.keep Kq (ninS ne_o_ch nin0)
  have F_counts_o := F_counts_o.keep Kq (ninS ne_o_ch nin0)
  have F_rowLengths_o := F_rowLengths_o.keep Kq (ninS ne_o_ch nin0)
  have F_firstChunks_o := F_firstChunks_o.keep Kq (ninS ne_o_ch nin0)
  have F_firsts_o := F_firsts_o.keep Kq (ninS ne_o_ch nin0)
  have F_lastChunks_o := F_lastChunks_o.keep Kq (ninS ne_o_ch nin0)
  have F_lasts_o := F_lasts_o.keep Kq (ninS ne_o_ch nin0)
  have F_receivers_o := F_receivers_o.keep Kq (ninS ne_o_ch nin0)
  have F_chunk_o := F_chunk_o.keep Kq (ninS ne_o_ch nin0)
  have F_length_o := F_length_o.keep Kq (ninS ne_o_ch nin0)
  have F_receiverCount_o := F_receiverCount_o.keep Kq (ninS ne_o_ch nin0)
  have F_total_o := F_total_o.keep Kq (ninS ne_o_ch nin0)
  have F_rowLength_o := F_rowLength_o.keep Kq (ninS ne_o_ch nin0)
  have R_ck := R_ck.keep Kq (ninS ne_ck_ch nin0)
  have V_rl := V_rl.keep Kq (ninS (Ne.symm ne_ch_rl) nin0)
  have V_cn := V_cn.keep Kq (ninS (Ne.symm ne_ch_cn) nin0)
  have V_fc := V_fc.keep Kq (ninS (Ne.symm ne_ch_fc) nin0)
  have V_fs := V_fs.keep Kq (ninS (Ne.symm ne_ch_fs) nin0)
  have V_lc := V_lc.keep Kq (ninS (Ne.symm ne_ch_lc) nin0)
  have V_la := V_la.keep Kq (ninS (Ne.symm ne_ch_la) nin0)
  have V_rv := V_rv.keep Kq (ninS (Ne.symm ne_ch_rv) nin0)
  have K := K.trans Kq (allS (Or.inl (List.mem_of_getElem? (i := 1) rfl)) all0)
  have V_ar := V_ar.keep Kq (ninS ne_ar_ch nin0)
  refine aloadN w X d3_214 215 rfl rfl rfl ?_
  refine dup w X d3_215 216 rfl rfl ?_
  refine getfield w X (wd43 hw) Via.refl F_length_o d3_216 219 rfl (fun T X => ?_)
  refine iload w X d3_219 221 rfl rfl ?_
  refine iadd w X ((0 : Int32) + r1) d3_221 222 rfl rfl ?_
  refine putfield w X (wd43 hw) Via.refl F_length_o E_o (Or.inl (wd44 hw)) (wd2 hw) (ty := .int) (by decide) rfl rfl g_o d3_222 225 rfl (fun T h14 X W => ?_)
  have zn : n0 ≤ h14.size := W.size ▸ zn
  have E_o := E_o.wr W
  have F_chunks_o := F_chunks_o.other W (Or.inr (slot_ne (Or.inl (wd13 hw)) (Or.inl (wd44 hw)) (by decide) (t := (.array (.array .int))) (t' := .int) (by decide) (by decide)))
  have F_counts_o := F_counts_o.other W (Or.inr (slot_ne (Or.inr (wd18 hw)) (Or.inl (wd44 hw)) (by decide) (t := (.array .int)) (t' := .int) (by decide) (by decide)))
  have F_rowLengths_o := F_rowLengths_o.other W (Or.inr (slot_ne (Or.inr (wd21 hw)) (Or.inl (wd44 hw)) (by decide) (t := (.array .long)) (t' := .int) (by decide) (by decide)))
  have F_firstChunks_o := F_firstChunks_o.other W (Or.inr (slot_ne (Or.inr (wd23 hw)) (Or.inl (wd44 hw)) (by decide) (t := (.array .int)) (t' := .int) (by decide) (by decide)))
  have F_firsts_o := F_firsts_o.other W (Or.inr (slot_ne (Or.inr (wd25 hw)) (Or.inl (wd44 hw)) (by decide) (t := (.array .int)) (t' := .int) (by decide) (by decide)))
  have F_lastChunks_o := F_lastChunks_o.other W (Or.inr (slot_ne (Or.inr (wd27 hw)) (Or.inl (wd44 hw)) (by decide) (t := (.array .int)) (t' := .int) (by decide) (by decide)))
  have F_lasts_o := F_lasts_o.other W (Or.inr (slot_ne (Or.inr (wd29 hw)) (Or.inl (wd44 hw)) (by decide) (t := (.array .int)) (t' := .int) (by decide) (by decide)))
  have F_receivers_o := F_receivers_o.other W (Or.inr (slot_ne (Or.inr (wd31 hw)) (Or.inl (wd44 hw)) (by decide) (t := (.array .int)) (t' := .int) (by decide) (by decide)))
  have F_chunk_o := F_chunk_o.other W (Or.inr (slot_ne (Or.inl (wd46 hw)) (Or.inl (wd44 hw)) (by decide) (t := .int) (t' := .int) (by decide) (by decide)))
  have F_length_o := F_length_o.same W
  have F_receiverCount_o := F_receiverCount_o.other W (Or.inr (slot_ne (Or.inl (wd48 hw)) (Or.inl (wd44 hw)) (by decide) (t := .int) (t' := .int) (by decide) (by decide)))
  have F_total_o := F_total_o.other W (Or.inr (slot_ne (Or.inl (wd54 hw)) (Or.inl (wd44 hw)) (by decide) (t := .int) (t' := .int) (by decide) (by decide)))
  have F_rowLength_o := F_rowLength_o.other W (Or.inr (slot_ne (Or.inl (wd56 hw)) (Or.inl (wd44 hw)) (by decide) (t := .long) (t' := .int) (by decide) (by decide)))
  have R_ck := R_ck.other W (Ne.symm ne_o_ck)
  have V_rl := V_rl.other W (Ne.symm ne_o_rl)
  have V_cn := V_cn.other W (Ne.symm ne_o_cn)
  have V_fc := V_fc.other W (Ne.symm ne_o_fc)
  have V_fs := V_fs.other W (Ne.symm ne_o_fs)
  have V_lc := V_lc.other W (Ne.symm ne_o_lc)
  have V_la := V_la.other W (Ne.symm ne_o_la)
  have V_rv := V_rv.other W (Ne.symm ne_o_rv)
  have K := K.wr W (Or.inl (List.mem_of_getElem? (i := 0) rfl))
  have V_ar := V_ar.other W ne_ar_o
  have V_ch := V_ch.other W (Ne.symm ne_o_ch)
  refine aloadN w X d3_225 226 rfl rfl rfl ?_
  refine dup w X d3_226 227 rfl rfl ?_
  refine getfield w X (wd53 hw) Via.refl F_total_o d3_227 230 rfl (fun T X => ?_)
  refine iconst w X (1 : Int32) d3_230 231 rfl rfl ?_
  refine iadd w X (1 : Int32) d3_231 232 rfl (by decide) ?_
  refine putfield w X (wd53 hw) Via.refl F_total_o E_o (Or.inl (wd54 hw)) (wd2 hw) (ty := .int) (by decide) rfl rfl g_o d3_232 235 rfl (fun T h15 X W => ?_)
  have zn : n0 ≤ h15.size := W.size ▸ zn
  have E_o := E_o.wr W
  have F_chunks_o := F_chunks_o.other W (Or.inr (slot_ne (Or.inl (wd13 hw)) (Or.inl (wd54 hw)) (by decide) (t := (.array (.array .int))) (t' := .int) (by decide) (by decide)))
  have F_counts_o := F_counts_o.other W (Or.inr (slot_ne (Or.inr (wd18 hw)) (Or.inl (wd54 hw)) (by decide) (t := (.array .int)) (t' := .int) (by decide) (by decide)))
  have F_rowLengths_o := F_rowLengths_o.other W (Or.inr (slot_ne (Or.inr (wd21 hw)) (Or.inl (wd54 hw)) (by decide) (t := (.array .long)) (t' := .int) (by decide) (by decide)))
  have F_firstChunks_o := F_firstChunks_o.other W (Or.inr (slot_ne (Or.inr (wd23 hw)) (Or.inl (wd54 hw)) (by decide) (t := (.array .int)) (t' := .int) (by decide) (by decide)))
  have F_firsts_o := F_firsts_o.other W (Or.inr (slot_ne (Or.inr (wd25 hw)) (Or.inl (wd54 hw)) (by decide) (t := (.array .int)) (t' := .int) (by decide) (by decide)))
  have F_lastChunks_o := F_lastChunks_o.other W (Or.inr (slot_ne (Or.inr (wd27 hw)) (Or.inl (wd54 hw)) (by decide) (t := (.array .int)) (t' := .int) (by decide) (by decide)))
  have F_lasts_o := F_lasts_o.other W (Or.inr (slot_ne (Or.inr (wd29 hw)) (Or.inl (wd54 hw)) (by decide) (t := (.array .int)) (t' := .int) (by decide) (by decide)))
  have F_receivers_o := F_receivers_o.other W (Or.inr (slot_ne (Or.inr (wd31 hw)) (Or.inl (wd54 hw)) (by decide) (t := (.array .int)) (t' := .int) (by decide) (by decide)))
  have F_chunk_o := F_chunk_o.other W (Or.inr (slot_ne (Or.inl (wd46 hw)) (Or.inl (wd54 hw)) (by decide) (t := .int) (t' := .int) (by decide) (by decide)))
  have F_length_o := F_length_o.other W (Or.inr (slot_ne (Or.inl (wd44 hw)) (Or.inl (wd54 hw)) (by decide) (t := .int) (t' := .int) (by decide) (by decide)))
  have F_receiverCount_o := F_receiverCount_o.other W (Or.inr (slot_ne (Or.inl (wd48 hw)) (Or.inl (wd54 hw)) (by decide) (t := .int) (t' := .int) (by decide) (by decide)))
  have F_total_o := F_total_o.same W
  have F_rowLength_o := F_rowLength_o.other W (Or.inr (slot_ne (Or.inl (wd56 hw)) (Or.inl (wd54 hw)) (by decide) (t := .long) (t' := .int) (by decide) (by decide)))
  have R_ck := R_ck.other W (Ne.symm ne_o_ck)
  have V_rl := V_rl.other W (Ne.symm ne_o_rl)
  have V_cn := V_cn.other W (Ne.symm ne_o_cn)
  have V_fc := V_fc.other W (Ne.symm ne_o_fc)
  have V_fs := V_fs.other W (Ne.symm ne_o_fs)
  have V_lc := V_lc.other W (Ne.symm ne_o_lc)
  have V_la := V_la.other W (Ne.symm ne_o_la)
  have V_rv := V_rv.other W (Ne.symm ne_o_rv)
  have K := K.wr W (Or.inl (List.mem_of_getElem? (i := 0) rfl))
  have V_ar := V_ar.other W ne_ar_o
  have V_ch := V_ch.other W (Ne.symm ne_o_ch)
  refine aloadN w X d3_235 236 rfl rfl rfl ?_
  refine getfield w X (wd20 hw) Via.refl F_rowLengths_o d3_236 239 rfl (fun T X => ?_)
  refine iloadN w X d3_239 240 rfl rfl ?_
  refine dup2 w X d3_240 241 rfl rfl rfl ?_
  refine laload w X V_rl (by decide) 0 rfl (Nat.le_of_ble_eq_true rfl) d3_241 242 rfl (0 : Int64) rfl ?_
  refine iconst w X (2 : Int32) d3_242 243 rfl rfl ?_
  refine iload w X d3_243 245 rfl rfl ?_
  refine iadd w X ((2 : Int32) + w5) d3_245 246 rfl rfl ?_
  refine i2l w X (((2 : Int32) + w5).toInt64) d3_246 247 rfl rfl ?_
  refine ladd w X ((0 : Int64) + (((2 : Int32) + w5).toInt64)) d3_247 248 rfl rfl ?_
  refine lastore w X V_rl (by decide) 0 rfl (Nat.le_of_ble_eq_true rfl) g_rl d3_248 249 rfl (fun T h16 X W V_rl => ?_)
  have V_rl : PJ Z h16 rl [((0 : Int64) + (((2 : Int32) + w5).toInt64)), (0 : Int64)] := V_rl
  have zn : n0 ≤ h16.size := W.size ▸ zn
  have E_o := E_o.wr W
  have F_chunks_o := F_chunks_o.other W (Or.inl ne_o_rl)
  have F_counts_o := F_counts_o.other W (Or.inl ne_o_rl)
  have F_rowLengths_o := F_rowLengths_o.other W (Or.inl ne_o_rl)
  have F_firstChunks_o := F_firstChunks_o.other W (Or.inl ne_o_rl)
  have F_firsts_o := F_firsts_o.other W (Or.inl ne_o_rl)
  have F_lastChunks_o := F_lastChunks_o.other W (Or.inl ne_o_rl)
  have F_lasts_o := F_lasts_o.other W (Or.inl ne_o_rl)
  have F_receivers_o := F_receivers_o.other W (Or.inl ne_o_rl)
  have F_chunk_o := F_chunk_o.other W (Or.inl ne_o_rl)
  have F_length_o := F_length_o.other W (Or.inl ne_o_rl)
  have F_receiverCount_o := F_receiverCount_o.other W (Or.inl ne_o_rl)
  have F_total_o := F_total_o.other W (Or.inl ne_o_rl)
  have F_rowLength_o := F_rowLength_o.other W (Or.inl ne_o_rl)
  have R_ck := R_ck.other W ne_ck_rl
  have V_cn := V_cn.other W ne_cn_rl
  have V_fc := V_fc.other W (Ne.symm ne_rl_fc)
  have V_fs := V_fs.other W (Ne.symm ne_rl_fs)
  have V_lc := V_lc.other W (Ne.symm ne_rl_lc)
  have V_la := V_la.other W (Ne.symm ne_rl_la)
  have V_rv := V_rv.other W (Ne.symm ne_rl_rv)
  have K := K.wr W (Or.inl (List.mem_of_getElem? (i := 3) rfl))
  have V_ar := V_ar.other W ne_ar_rl
  have V_ch := V_ch.other W ne_ch_rl
  refine aloadN w X d3_249 250 rfl rfl rfl ?_
  refine dup w X d3_250 251 rfl rfl ?_
  refine getfield w X (wd55 hw) Via.refl F_rowLength_o d3_251 254 rfl (fun T X => ?_)
  refine iconst w X (2 : Int32) d3_254 255 rfl rfl ?_
  refine iload w X d3_255 257 rfl rfl ?_
  refine iadd w X ((2 : Int32) + w5) d3_257 258 rfl rfl ?_
  refine i2l w X (((2 : Int32) + w5).toInt64) d3_258 259 rfl rfl ?_
  refine ladd w X ((0 : Int64) + (((2 : Int32) + w5).toInt64)) d3_259 260 rfl rfl ?_
  refine putfield w X (wd55 hw) Via.refl F_rowLength_o E_o (Or.inl (wd56 hw)) (wd2 hw) (ty := .long) (by decide) rfl rfl g_o d3_260 263 rfl (fun T h17 X W => ?_)
  have zn : n0 ≤ h17.size := W.size ▸ zn
  have E_o := E_o.wr W
  have F_chunks_o := F_chunks_o.other W (Or.inr (slot_ne (Or.inl (wd13 hw)) (Or.inl (wd56 hw)) (by decide) (t := (.array (.array .int))) (t' := .long) (by decide) (by decide)))
  have F_counts_o := F_counts_o.other W (Or.inr (slot_ne (Or.inr (wd18 hw)) (Or.inl (wd56 hw)) (by decide) (t := (.array .int)) (t' := .long) (by decide) (by decide)))
  have F_rowLengths_o := F_rowLengths_o.other W (Or.inr (slot_ne (Or.inr (wd21 hw)) (Or.inl (wd56 hw)) (by decide) (t := (.array .long)) (t' := .long) (by decide) (by decide)))
  have F_firstChunks_o := F_firstChunks_o.other W (Or.inr (slot_ne (Or.inr (wd23 hw)) (Or.inl (wd56 hw)) (by decide) (t := (.array .int)) (t' := .long) (by decide) (by decide)))
  have F_firsts_o := F_firsts_o.other W (Or.inr (slot_ne (Or.inr (wd25 hw)) (Or.inl (wd56 hw)) (by decide) (t := (.array .int)) (t' := .long) (by decide) (by decide)))
  have F_lastChunks_o := F_lastChunks_o.other W (Or.inr (slot_ne (Or.inr (wd27 hw)) (Or.inl (wd56 hw)) (by decide) (t := (.array .int)) (t' := .long) (by decide) (by decide)))
  have F_lasts_o := F_lasts_o.other W (Or.inr (slot_ne (Or.inr (wd29 hw)) (Or.inl (wd56 hw)) (by decide) (t := (.array .int)) (t' := .long) (by decide) (by decide)))
  have F_receivers_o := F_receivers_o.other W (Or.inr (slot_ne (Or.inr (wd31 hw)) (Or.inl (wd56 hw)) (by decide) (t := (.array .int)) (t' := .long) (by decide) (by decide)))
  have F_chunk_o := F_chunk_o.other W (Or.inr (slot_ne (Or.inl (wd46 hw)) (Or.inl (wd56 hw)) (by decide) (t := .int) (t' := .long) (by decide) (by decide)))
  have F_length_o := F_length_o.other W (Or.inr (slot_ne (Or.inl (wd44 hw)) (Or.inl (wd56 hw)) (by decide) (t := .int) (t' := .long) (by decide) (by decide)))
  have F_receiverCount_o := F_receiverCount_o.other W (Or.inr (slot_ne (Or.inl (wd48 hw)) (Or.inl (wd56 hw)) (by decide) (t := .int) (t' := .long) (by decide) (by decide)))
  have F_total_o := F_total_o.other W (Or.inr (slot_ne (Or.inl (wd54 hw)) (Or.inl (wd56 hw)) (by decide) (t := .int) (t' := .long) (by decide) (by decide)))
  have F_rowLength_o := F_rowLength_o.same W
  have R_ck := R_ck.other W (Ne.symm ne_o_ck)
  have V_rl := V_rl.other W (Ne.symm ne_o_rl)
  have V_cn := V_cn.other W (Ne.symm ne_o_cn)
  have V_fc := V_fc.other W (Ne.symm ne_o_fc)
  have V_fs := V_fs.other W (Ne.symm ne_o_fs)
  have V_lc := V_lc.other W (Ne.symm ne_o_lc)
  have V_la := V_la.other W (Ne.symm ne_o_la)
  have V_rv := V_rv.other W (Ne.symm ne_o_rv)
  have K := K.wr W (Or.inl (List.mem_of_getElem? (i := 0) rfl))
  have V_ar := V_ar.other W ne_ar_o
  have V_ch := V_ch.other W (Ne.symm ne_o_ch)
  refine retV w X rfl d3_263 (by decide) (by decide) ?_
  exact ⟨rfl, K, ((0 : Int32) + r1), own_b47 hr1 hw5, (0 : Int32), f1, (0 : Int32), y1, q1, z1, v1, ⟨E_o, F_chunks_o, F_counts_o, F_rowLengths_o, F_firstChunks_o, F_firsts_o, F_lastChunks_o, F_lasts_o, F_receivers_o, F_chunk_o, F_length_o, F_receiverCount_o, F_total_o, F_rowLength_o, R_ck, V_rl, V_cn, V_fc, V_fs, V_lc, V_la, V_rv, _, V_ch, hbs⟩⟩
set_option maxRecDepth 65536 in
set_option maxHeartbeats 40000000 in
theorem rm_a1_1 {l : Launch} {Z : State} {a0 : Array Value} (hw : ∀ d ∈ tables_1, d.before a0 Z = true) (o ck ch cn rl fc fs lc la rv ar : Addr) (hd w5 a0 a1 a2 f0 f1 y0 y1 q0 q1 z0 z1 v0 v1 : Int32) (h : Heap) (n0 : Nat) (zn : n0 ≤ h.size) (OB : own_ob Z h o ck ch cn rl fc fs lc la rv (0 : Int32) (0 : Int32) (0 : Int32) (0 : Int32) (0 : Int64) (0 : Int64) (0 : Int64) (0 : Int32) (0 : Int32) f0 f1 y0 y1 q0 q1 z0 z1 v0 v1) (NE : own_ne o ck ch cn rl fc fs lc la rv) (GE : own_ge n0 o ck ch cn rl fc fs lc la rv) (V_ar : PA Z h ar .int [a0, a1, a2]) (NA : ar ≠ o ∧ ar ≠ ck ∧ ar ≠ ch ∧ ar ≠ cn ∧ ar ≠ rl ∧ ar ≠ fc ∧ ar ≠ fs ∧ ar ≠ lc ∧ ar ≠ la ∧ ar ≠ rv) (hw5 : 0 ≤ w5.toInt ∧ w5.toInt ≤ 3) :
    Met l Z (⟨"com/example/vigilant_mailbox/vigilantmailbox/engine/Sends", "add", "(II[III)V"⟩ : MethodName) prog_37_method_8_code 8 none [] ({ frames := 1, cells := 0, slots := 0, locals := 40 } : Room) #[(.ref o), (.int (1 : Int32)), (.int hd), (.ref ar), (.int (0 : Int32)), (.int w5)] h n0 (RV fun h' => Keep h h' [o, ch, cn, rl, fc, fs, lc, la, rv] ∧ ∃ len' : Int32, (0 ≤ len'.toInt ∧ len'.toInt ≤ 7) ∧ ∃ f0' f1' y0' y1' q0' z0' v1' : Int32, own_ob Z h' o ck ch cn rl fc fs lc la rv (0 : Int32) len' (1 : Int32) (1 : Int32) (own_rl (0 : Int64) w5) (0 : Int64) (own_rl (0 : Int64) w5) (0 : Int32) (1 : Int32) f0' f1' y0' y1' q0' (0 : Int32) z0' (0 : Int32) (1 : Int32) v1') := by
  refine start (ls := #[.val (.ref o), .val (.int (1 : Int32)), .val (.int hd), .val (.ref ar), .val (.int (0 : Int32)), .val (.int w5), .unset, .unset]) (plainFor_of_name pn1) (fun m => by first | (simp [entryFrame, mkF, argsToLocals, Value.category]; done) | rfl) ?_
  intro p e s m below meth c T G w X
  have K := Keep.refl h [o, ch, cn, rl, fc, fs, lc, la, rv]
  obtain ⟨E_o, F_chunks_o, F_counts_o, F_rowLengths_o, F_firstChunks_o, F_firsts_o, F_lastChunks_o, F_lasts_o, F_receivers_o, F_chunk_o, F_length_o, F_receiverCount_o, F_total_o, F_rowLength_o, R_ck, V_rl, V_cn, V_fc, V_fs, V_lc, V_la, V_rv, bs, V_ch, hbs⟩ := OB
  obtain ⟨ne_o_ck, ne_o_ch, ne_o_cn, ne_o_rl, ne_o_fc, ne_o_fs, ne_o_lc, ne_o_la, ne_o_rv, ne_ck_ch, ne_ck_cn, ne_ck_rl, ne_ck_fc, ne_ck_fs, ne_ck_lc, ne_ck_la, ne_ck_rv, ne_ch_cn, ne_ch_rl, ne_ch_fc, ne_ch_fs, ne_ch_lc, ne_ch_la, ne_ch_rv, ne_cn_rl, ne_cn_fc, ne_cn_fs, ne_cn_lc, ne_cn_la, ne_cn_rv, ne_rl_fc, ne_rl_fs, ne_rl_lc, ne_rl_la, ne_rl_rv, ne_fc_fs, ne_fc_lc, ne_fc_la, ne_fc_rv, ne_fs_lc, ne_fs_la, ne_fs_rv, ne_lc_la, ne_lc_rv, ne_la_rv⟩ := NE
  obtain ⟨g_o, g_ck, g_ch, g_cn, g_rl, g_fc, g_fs, g_lc, g_la, g_rv⟩ := GE
  obtain ⟨ne_ar_o, ne_ar_ck, ne_ar_ch, ne_ar_cn, ne_ar_rl, ne_ar_fc, ne_ar_fs, ne_ar_lc, ne_ar_la, ne_ar_rv⟩ := NA
  refine ldc2J w X (wd37 hw) d3_0 3 rfl ?_
  refine iload w X d3_3 5 rfl rfl ?_
  refine i2l w X (w5.toInt64) d3_5 6 rfl rfl ?_
  refine ladd w X ((4 : Int64) + (w5.toInt64)) d3_6 7 rfl rfl ?_
  refine callSPI w X [(.long ((4 : Int64) + (w5.toInt64)))] (wd38 hw) (wd39 hw) (wd40 hw) (wd41 hw) (by decide) (rm_cc hw ((4 : Int64) + (w5.toInt64)) h n0 zn (own_x7 hw5)) d3_7 10 rfl 0 (by decide) (by decide) (lenOf pd0 rfl) rfl (Nat.le_of_eq rfl) rfl (by decide) (by decide) (fun r1 T X hq => ?_)
  have hr1 := hq
  refine istore w X r1 d3_10 12 rfl rfl #[.val (.ref o), .val (.int (1 : Int32)), .val (.int hd), .val (.ref ar), .val (.int (0 : Int32)), .val (.int w5), .val (.int r1), .unset] rfl ?_
  refine aloadN w X d3_12 13 rfl rfl rfl ?_
  refine getfield w X (wd43 hw) Via.refl F_length_o d3_13 16 rfl (fun T X => ?_)
  refine iload w X d3_16 18 rfl rfl ?_
  refine iadd w X ((0 : Int32) + r1) d3_18 19 rfl rfl ?_
  refine aloadN w X d3_19 20 rfl rfl rfl ?_
  refine getfield w X (wd12 hw) Via.refl F_chunks_o d3_20 23 rfl (fun T X => ?_)
  refine aloadN w X d3_23 24 rfl rfl rfl ?_
  refine getfield w X (wd45 hw) Via.refl F_chunk_o d3_24 27 rfl (fun T X => ?_)
  refine aaload0 w X R_ck rfl d3_27 28 rfl ?_
  refine arraylength w X V_ch d3_28 29 rfl (4096 : Int32) (by rw [hbs]; rfl) ?_
  refine icmp_le w X d3_29 38 32 (by decide) (by decide) rfl (fun hc29_2 => ?_) (fun q => False.elim (by exact own_le (by have := own_cap (len := (0 : Int32)) hr1 hw5 (by decide); have := hw5.2; have h7 := (show (0 : Int32).toInt = 0 from rfl); omega) q))
  refine aloadN w X d3_38 39 rfl rfl rfl ?_
  refine getfield w X (wd17 hw) Via.refl F_counts_o d3_39 42 rfl (fun T X => ?_)
  refine iloadN w X d3_42 43 rfl rfl ?_
  refine iaload w X V_cn (by decide) 1 rfl (Nat.le_of_ble_eq_true rfl) d3_43 44 rfl (0 : Int32) rfl ?_
  refine if_ne w X d3_44 90 47 (by decide) (by decide) rfl (fun q => absurd q (by decide)) (fun hc44_3 => ?_)
  refine aloadN w X d3_47 48 rfl rfl rfl ?_
  refine getfield w X (wd30 hw) Via.refl F_receivers_o d3_48 51 rfl (fun T X => ?_)
  refine aloadN w X d3_51 52 rfl rfl rfl ?_
  refine getfield w X (wd47 hw) Via.refl F_receiverCount_o d3_52 55 rfl (fun T X => ?_)
  refine iloadN w X d3_55 56 rfl rfl ?_
  refine iastore w X V_rv (by decide) 0 rfl (Nat.le_of_ble_eq_true rfl) g_rv d3_56 57 rfl (1 : Int32) rfl (fun T h4 X W V_rv => ?_)
  have V_rv : PA Z h4 rv .int [(1 : Int32), v1] := V_rv
  have zn : n0 ≤ h4.size := W.size ▸ zn
  have E_o := E_o.wr W
  have F_chunks_o := F_chunks_o.other W (Or.inl ne_o_rv)
  have F_counts_o := F_counts_o.other W (Or.inl ne_o_rv)
  have F_rowLengths_o := F_rowLengths_o.other W (Or.inl ne_o_rv)
  have F_firstChunks_o := F_firstChunks_o.other W (Or.inl ne_o_rv)
  have F_firsts_o := F_firsts_o.other W (Or.inl ne_o_rv)
  have F_lastChunks_o := F_lastChunks_o.other W (Or.inl ne_o_rv)
  have F_lasts_o := F_lasts_o.other W (Or.inl ne_o_rv)
  have F_receivers_o := F_receivers_o.other W (Or.inl ne_o_rv)
  have F_chunk_o := F_chunk_o.other W (Or.inl ne_o_rv)
  have F_length_o := F_length_o.other W (Or.inl ne_o_rv)
  have F_receiverCount_o := F_receiverCount_o.other W (Or.inl ne_o_rv)
  have F_total_o := F_total_o.other W (Or.inl ne_o_rv)
  have F_rowLength_o := F_rowLength_o.other W (Or.inl ne_o_rv)
  have R_ck := R_ck.other W ne_ck_rv
  have V_rl := V_rl.other W ne_rl_rv
  have V_cn := V_cn.other W ne_cn_rv
  have V_fc := V_fc.other W ne_fc_rv
  have V_fs := V_fs.other W ne_fs_rv
  have V_lc := V_lc.other W ne_lc_rv
  have V_la := V_la.other W ne_la_rv
  have V_ch := V_ch.other W ne_ch_rv
  have K := K.wr W (Or.inl (List.mem_of_getElem? (i := 8) rfl))
  have V_ar := V_ar.other W ne_ar_rv
  refine aloadN w X d3_57 58 rfl rfl rfl ?_
  refine dup w X d3_58 59 rfl rfl ?_
  refine getfield w X (wd47 hw) Via.refl F_receiverCount_o d3_59 62 rfl (fun T X => ?_)
  refine iconst w X (1 : Int32) d3_62 63 rfl rfl ?_
  refine iadd w X (1 : Int32) d3_63 64 rfl (by decide) ?_
  refine putfield w X (wd47 hw) Via.refl F_receiverCount_o E_o (Or.inl (wd48 hw)) (wd2 hw) (ty := .int) (by decide) rfl rfl g_o d3_64 67 rfl (fun T h5 X W => ?_)
  have zn : n0 ≤ h5.size := W.size ▸ zn
  have E_o := E_o.wr W
  have F_chunks_o := F_chunks_o.other W (Or.inr (slot_ne (Or.inl (wd13 hw)) (Or.inl (wd48 hw)) (by decide) (t := (.array (.array .int))) (t' := .int) (by decide) (by decide)))
  have F_counts_o := F_counts_o.other W (Or.inr (slot_ne (Or.inr (wd18 hw)) (Or.inl (wd48 hw)) (by decide) (t := (.array .int)) (t' := .int) (by decide) (by decide)))
  have F_rowLengths_o := F_rowLengths_o.other W (Or.inr (slot_ne (Or.inr (wd21 hw)) (Or.inl (wd48 hw)) (by decide) (t := (.array .long)) (t' := .int) (by decide) (by decide)))
  have F_firstChunks_o := F_firstChunks_o.other W (Or.inr (slot_ne (Or.inr (wd23 hw)) (Or.inl (wd48 hw)) (by decide) (t := (.array .int)) (t' := .int) (by decide) (by decide)))
  have F_firsts_o := F_firsts_o.other W (Or.inr (slot_ne (Or.inr (wd25 hw)) (Or.inl (wd48 hw)) (by decide) (t := (.array .int)) (t' := .int) (by decide) (by decide)))
  have F_lastChunks_o := F_lastChunks_o.other W (Or.inr (slot_ne (Or.inr (wd27 hw)) (Or.inl (wd48 hw)) (by decide) (t := (.array .int)) (t' := .int) (by decide) (by decide)))
  have F_lasts_o := F_lasts_o.other W (Or.inr (slot_ne (Or.inr (wd29 hw)) (Or.inl (wd48 hw)) (by decide) (t := (.array .int)) (t' := .int) (by decide) (by decide)))
  have F_receivers_o := F_receivers_o.other W (Or.inr (slot_ne (Or.inr (wd31 hw)) (Or.inl (wd48 hw)) (by decide) (t := (.array .int)) (t' := .int) (by decide) (by decide)))
  have F_chunk_o := F_chunk_o.other W (Or.inr (slot_ne (Or.inl (wd46 hw)) (Or.inl (wd48 hw)) (by decide) (t := .int) (t' := .int) (by decide) (by decide)))
  have F_length_o := F_length_o.other W (Or.inr (slot_ne (Or.inl (wd44 hw)) (Or.inl (wd48 hw)) (by decide) (t := .int) (t' := .int) (by decide) (by decide)))
  have F_receiverCount_o := F_receiverCount_o.same W
  have F_total_o := F_total_o.other W (Or.inr (slot_ne (Or.inl (wd54 hw)) (Or.inl (wd48 hw)) (by decide) (t := .int) (t' := .int) (by decide) (by decide)))
  have F_rowLength_o := F_rowLength_o.other W (Or.inr (slot_ne (Or.inl (wd56 hw)) (Or.inl (wd48 hw)) (by decide) (t := .long) (t' := .int) (by decide) (by decide)))
  have R_ck := R_ck.other W (Ne.symm ne_o_ck)
  have V_rl := V_rl.other W (Ne.symm ne_o_rl)
  have V_cn := V_cn.other W (Ne.symm ne_o_cn)
  have V_fc := V_fc.other W (Ne.symm ne_o_fc)
  have V_fs := V_fs.other W (Ne.symm ne_o_fs)
  have V_lc := V_lc.other W (Ne.symm ne_o_lc)
  have V_la := V_la.other W (Ne.symm ne_o_la)
  have V_rv := V_rv.other W (Ne.symm ne_o_rv)
  have V_ch := V_ch.other W (Ne.symm ne_o_ch)
  have K := K.wr W (Or.inl (List.mem_of_getElem? (i := 0) rfl))
  have V_ar := V_ar.other W ne_ar_o
  refine aloadN w X d3_67 68 rfl rfl rfl ?_
  refine getfield w X (wd22 hw) Via.refl F_firstChunks_o d3_68 71 rfl (fun T X => ?_)
  refine iloadN w X d3_71 72 rfl rfl ?_
  refine aloadN w X d3_72 73 rfl rfl rfl ?_
  refine getfield w X (wd45 hw) Via.refl F_chunk_o d3_73 76 rfl (fun T X => ?_)
  refine iastore w X V_fc (by decide) 1 rfl (Nat.le_of_ble_eq_true rfl) g_fc d3_76 77 rfl (0 : Int32) rfl (fun T h6 X W V_fc => ?_)
  have V_fc : PA Z h6 fc .int [f0, (0 : Int32)] := V_fc
  have zn : n0 ≤ h6.size := W.size ▸ zn
  have E_o := E_o.wr W
  have F_chunks_o := F_chunks_o.other W (Or.inl ne_o_fc)
  have F_counts_o := F_counts_o.other W (Or.inl ne_o_fc)
  have F_rowLengths_o := F_rowLengths_o.other W (Or.inl ne_o_fc)
  have F_firstChunks_o := F_firstChunks_o.other W (Or.inl ne_o_fc)
  have F_firsts_o := F_firsts_o.other W (Or.inl ne_o_fc)
  have F_lastChunks_o := F_lastChunks_o.other W (Or.inl ne_o_fc)
  have F_lasts_o := F_lasts_o.other W (Or.inl ne_o_fc)
  have F_receivers_o := F_receivers_o.other W (Or.inl ne_o_fc)
  have F_chunk_o := F_chunk_o.other W (Or.inl ne_o_fc)
  have F_length_o := F_length_o.other W (Or.inl ne_o_fc)
  have F_receiverCount_o := F_receiverCount_o.other W (Or.inl ne_o_fc)
  have F_total_o := F_total_o.other W (Or.inl ne_o_fc)
  have F_rowLength_o := F_rowLength_o.other W (Or.inl ne_o_fc)
  have R_ck := R_ck.other W ne_ck_fc
  have V_rl := V_rl.other W ne_rl_fc
  have V_cn := V_cn.other W ne_cn_fc
  have V_fs := V_fs.other W (Ne.symm ne_fc_fs)
  have V_lc := V_lc.other W (Ne.symm ne_fc_lc)
  have V_la := V_la.other W (Ne.symm ne_fc_la)
  have V_rv := V_rv.other W (Ne.symm ne_fc_rv)
  have V_ch := V_ch.other W ne_ch_fc
  have K := K.wr W (Or.inl (List.mem_of_getElem? (i := 4) rfl))
  have V_ar := V_ar.other W ne_ar_fc
  refine aloadN w X d3_77 78 rfl rfl rfl ?_
  refine getfield w X (wd24 hw) Via.refl F_firsts_o d3_78 81 rfl (fun T X => ?_)
  refine iloadN w X d3_81 82 rfl rfl ?_
  refine aloadN w X d3_82 83 rfl rfl rfl ?_
  refine getfield w X (wd43 hw) Via.refl F_length_o d3_83 86 rfl (fun T X => ?_)
  refine iastore w X V_fs (by decide) 1 rfl (Nat.le_of_ble_eq_true rfl) g_fs d3_86 87 rfl (0 : Int32) rfl (fun T h7 X W V_fs => ?_)
  have V_fs : PA Z h7 fs .int [y0, (0 : Int32)] := V_fs
  have zn : n0 ≤ h7.size := W.size ▸ zn
  have E_o := E_o.wr W
  have F_chunks_o := F_chunks_o.other W (Or.inl ne_o_fs)
  have F_counts_o := F_counts_o.other W (Or.inl ne_o_fs)
  have F_rowLengths_o := F_rowLengths_o.other W (Or.inl ne_o_fs)
  have F_firstChunks_o := F_firstChunks_o.other W (Or.inl ne_o_fs)
  have F_firsts_o := F_firsts_o.other W (Or.inl ne_o_fs)
  have F_lastChunks_o := F_lastChunks_o.other W (Or.inl ne_o_fs)
  have F_lasts_o := F_lasts_o.other W (Or.inl ne_o_fs)
  have F_receivers_o := F_receivers_o.other W (Or.inl ne_o_fs)
  have F_chunk_o := F_chunk_o.other W (Or.inl ne_o_fs)
  have F_length_o := F_length_o.other W (Or.inl ne_o_fs)
  have F_receiverCount_o := F_receiverCount_o.other W (Or.inl ne_o_fs)
  have F_total_o := F_total_o.other W (Or.inl ne_o_fs)
  have F_rowLength_o := F_rowLength_o.other W (Or.inl ne_o_fs)
  have R_ck := R_ck.other W ne_ck_fs
  have V_rl := V_rl.other W ne_rl_fs
  have V_cn := V_cn.other W ne_cn_fs
  have V_fc := V_fc.other W ne_fc_fs
  have V_lc := V_lc.other W (Ne.symm ne_fs_lc)
  have V_la := V_la.other W (Ne.symm ne_fs_la)
  have V_rv := V_rv.other W (Ne.symm ne_fs_rv)
  have V_ch := V_ch.other W ne_ch_fs
  have K := K.wr W (Or.inl (List.mem_of_getElem? (i := 5) rfl))
  have V_ar := V_ar.other W ne_ar_fs
  refine goto w X d3_87 136 (by decide) (by decide) ?_
  refine aloadN w X d3_136 137 rfl rfl rfl ?_
  refine getfield w X (wd26 hw) Via.refl F_lastChunks_o d3_137 140 rfl (fun T X => ?_)
  refine iloadN w X d3_140 141 rfl rfl ?_
  refine aloadN w X d3_141 142 rfl rfl rfl ?_
  refine getfield w X (wd45 hw) Via.refl F_chunk_o d3_142 145 rfl (fun T X => ?_)
  refine iastore w X V_lc (by decide) 1 rfl (Nat.le_of_ble_eq_true rfl) g_lc d3_145 146 rfl (0 : Int32) rfl (fun T h8 X W V_lc => ?_)
  have V_lc : PA Z h8 lc .int [q0, (0 : Int32)] := V_lc
  have zn : n0 ≤ h8.size := W.size ▸ zn
  have E_o := E_o.wr W
  have F_chunks_o := F_chunks_o.other W (Or.inl ne_o_lc)
  have F_counts_o := F_counts_o.other W (Or.inl ne_o_lc)
  have F_rowLengths_o := F_rowLengths_o.other W (Or.inl ne_o_lc)
  have F_firstChunks_o := F_firstChunks_o.other W (Or.inl ne_o_lc)
  have F_firsts_o := F_firsts_o.other W (Or.inl ne_o_lc)
  have F_lastChunks_o := F_lastChunks_o.other W (Or.inl ne_o_lc)
  have F_lasts_o := F_lasts_o.other W (Or.inl ne_o_lc)
  have F_receivers_o := F_receivers_o.other W (Or.inl ne_o_lc)
  have F_chunk_o := F_chunk_o.other W (Or.inl ne_o_lc)
  have F_length_o := F_length_o.other W (Or.inl ne_o_lc)
  have F_receiverCount_o := F_receiverCount_o.other W (Or.inl ne_o_lc)
  have F_total_o := F_total_o.other W (Or.inl ne_o_lc)
  have F_rowLength_o := F_rowLength_o.other W (Or.inl ne_o_lc)
  have R_ck := R_ck.other W ne_ck_lc
  have V_rl := V_rl.other W ne_rl_lc
  have V_cn := V_cn.other W ne_cn_lc
  have V_fc := V_fc.other W ne_fc_lc
  have V_fs := V_fs.other W ne_fs_lc
  have V_la := V_la.other W (Ne.symm ne_lc_la)
  have V_rv := V_rv.other W (Ne.symm ne_lc_rv)
  have V_ch := V_ch.other W ne_ch_lc
  have K := K.wr W (Or.inl (List.mem_of_getElem? (i := 6) rfl))
  have V_ar := V_ar.other W ne_ar_lc
  refine aloadN w X d3_146 147 rfl rfl rfl ?_
  refine getfield w X (wd28 hw) Via.refl F_lasts_o d3_147 150 rfl (fun T X => ?_)
  refine iloadN w X d3_150 151 rfl rfl ?_
  refine aloadN w X d3_151 152 rfl rfl rfl ?_
  refine getfield w X (wd43 hw) Via.refl F_length_o d3_152 155 rfl (fun T X => ?_)
  refine iastore w X V_la (by decide) 1 rfl (Nat.le_of_ble_eq_true rfl) g_la d3_155 156 rfl (0 : Int32) rfl (fun T h9 X W V_la => ?_)
  have V_la : PA Z h9 la .int [z0, (0 : Int32)] := V_la
  have zn : n0 ≤ h9.size := W.size ▸ zn
  have E_o := E_o.wr W
  have F_chunks_o := F_chunks_o.other W (Or.inl ne_o_la)
  have F_counts_o := F_counts_o.other W (Or.inl ne_o_la)
  have F_rowLengths_o := F_rowLengths_o.other W (Or.inl ne_o_la)
  have F_firstChunks_o := F_firstChunks_o.other W (Or.inl ne_o_la)
  have F_firsts_o := F_firsts_o.other W (Or.inl ne_o_la)
  have F_lastChunks_o := F_lastChunks_o.other W (Or.inl ne_o_la)
  have F_lasts_o := F_lasts_o.other W (Or.inl ne_o_la)
  have F_receivers_o := F_receivers_o.other W (Or.inl ne_o_la)
  have F_chunk_o := F_chunk_o.other W (Or.inl ne_o_la)
  have F_length_o := F_length_o.other W (Or.inl ne_o_la)
  have F_receiverCount_o := F_receiverCount_o.other W (Or.inl ne_o_la)
  have F_total_o := F_total_o.other W (Or.inl ne_o_la)
  have F_rowLength_o := F_rowLength_o.other W (Or.inl ne_o_la)
  have R_ck := R_ck.other W ne_ck_la
  have V_rl := V_rl.other W ne_rl_la
  have V_cn := V_cn.other W ne_cn_la
  have V_fc := V_fc.other W ne_fc_la
  have V_fs := V_fs.other W ne_fs_la
  have V_lc := V_lc.other W ne_lc_la
  have V_rv := V_rv.other W (Ne.symm ne_la_rv)
  have V_ch := V_ch.other W ne_ch_la
  have K := K.wr W (Or.inl (List.mem_of_getElem? (i := 7) rfl))
  have V_ar := V_ar.other W ne_ar_la
  refine aloadN w X d3_156 157 rfl rfl rfl ?_
  refine getfield w X (wd17 hw) Via.refl F_counts_o d3_157 160 rfl (fun T X => ?_)
  refine iloadN w X d3_160 161 rfl rfl ?_
  refine dup2 w X d3_161 162 rfl rfl rfl ?_
  refine iaload w X V_cn (by decide) 1 rfl (Nat.le_of_ble_eq_true rfl) d3_162 163 rfl (0 : Int32) rfl ?_
  refine iconst w X (1 : Int32) d3_163 164 rfl rfl ?_
  refine iadd w X (1 : Int32) d3_164 165 rfl (by decide) ?_
  refine iastore w X V_cn (by decide) 1 rfl (Nat.le_of_ble_eq_true rfl) g_cn d3_165 166 rfl (1 : Int32) rfl (fun T h10 X W V_cn => ?_)
  have V_cn : PA Z h10 cn .int [(0 : Int32), (1 : Int32)] := V_cn
  have zn : n0 ≤ h10.size := W.size ▸ zn
  have E_o := E_o.wr W
  have F_chunks_o := F_chunks_o.other W (Or.inl ne_o_cn)
  have F_counts_o := F_counts_o.other W (Or.inl ne_o_cn)
  have F_rowLengths_o := F_rowLengths_o.other W (Or.inl ne_o_cn)
  have F_firstChunks_o := F_firstChunks_o.other W (Or.inl ne_o_cn)
  have F_firsts_o := F_firsts_o.other W (Or.inl ne_o_cn)
  have F_lastChunks_o := F_lastChunks_o.other W (Or.inl ne_o_cn)
  have F_lasts_o := F_lasts_o.other W (Or.inl ne_o_cn)
  have F_receivers_o := F_receivers_o.other W (Or.inl ne_o_cn)
  have F_chunk_o := F_chunk_o.other W (Or.inl ne_o_cn)
  have F_length_o := F_length_o.other W (Or.inl ne_o_cn)
  have F_receiverCount_o := F_receiverCount_o.other W (Or.inl ne_o_cn)
  have F_total_o := F_total_o.other W (Or.inl ne_o_cn)
  have F_rowLength_o := F_rowLength_o.other W (Or.inl ne_o_cn)
  have R_ck := R_ck.other W ne_ck_cn
  have V_rl := V_rl.other W (Ne.symm ne_cn_rl)
  have V_fc := V_fc.other W (Ne.symm ne_cn_fc)
  have V_fs := V_fs.other W (Ne.symm ne_cn_fs)
  have V_lc := V_lc.other W (Ne.symm ne_cn_lc)
  have V_la := V_la.other W (Ne.symm ne_cn_la)
  have V_rv := V_rv.other W (Ne.symm ne_cn_rv)
  have V_ch := V_ch.other W ne_ch_cn
  have K := K.wr W (Or.inl (List.mem_of_getElem? (i := 2) rfl))
  have V_ar := V_ar.other W ne_ar_cn
  refine aloadN w X d3_166 167 rfl rfl rfl ?_
  refine getfield w X (wd12 hw) Via.refl F_chunks_o d3_167 170 rfl (fun T X => ?_)
  refine aloadN w X d3_170 171 rfl rfl rfl ?_
  refine getfield w X (wd45 hw) Via.refl F_chunk_o d3_171 174 rfl (fun T X => ?_)
  refine aaload0 w X R_ck rfl d3_174 175 rfl ?_
  refine astore w X d3_175 177 rfl rfl #[.val (.ref o), .val (.int (1 : Int32)), .val (.int hd), .val (.ref ar), .val (.int (0 : Int32)), .val (.int w5), .val (.int r1), .val (.ref ch)] rfl ?_
  refine aload w X d3_177 179 rfl rfl rfl ?_
  refine aloadN w X d3_179 180 rfl rfl rfl ?_
  refine getfield w X (wd43 hw) Via.refl F_length_o d3_180 183 rfl (fun T X => ?_)
  refine iconst w X (2 : Int32) d3_183 184 rfl rfl ?_
  refine iadd w X (2 : Int32) d3_184 185 rfl (by decide) ?_
  refine iloadN w X d3_185 186 rfl rfl ?_
  refine iastore w X V_ch (by decide) 2 rfl (by rw [hbs]; decide) g_ch d3_186 187 rfl hd rfl (fun T h11 X W V_ch => ?_)
  have zn : n0 ≤ h11.size := W.size ▸ zn
  have E_o := E_o.wr W
  have F_chunks_o := F_chunks_o.other W (Or.inl ne_o_ch)
  have F_counts_o := F_counts_o.other W (Or.inl ne_o_ch)
  have F_rowLengths_o := F_rowLengths_o.other W (Or.inl ne_o_ch)
  have F_firstChunks_o := F_firstChunks_o.other W (Or.inl ne_o_ch)
  have F_firsts_o := F_firsts_o.other W (Or.inl ne_o_ch)
  have F_lastChunks_o := F_lastChunks_o.other W (Or.inl ne_o_ch)
  have F_lasts_o := F_lasts_o.other W (Or.inl ne_o_ch)
  have F_receivers_o := F_receivers_o.other W (Or.inl ne_o_ch)
  have F_chunk_o := F_chunk_o.other W (Or.inl ne_o_ch)
  have F_length_o := F_length_o.other W (Or.inl ne_o_ch)
  have F_receiverCount_o := F_receiverCount_o.other W (Or.inl ne_o_ch)
  have F_total_o := F_total_o.other W (Or.inl ne_o_ch)
  have F_rowLength_o := F_rowLength_o.other W (Or.inl ne_o_ch)
  have R_ck := R_ck.other W ne_ck_ch
  have V_rl := V_rl.other W (Ne.symm ne_ch_rl)
  have V_cn := V_cn.other W (Ne.symm ne_ch_cn)
  have V_fc := V_fc.other W (Ne.symm ne_ch_fc)
  have V_fs := V_fs.other W (Ne.symm ne_ch_fs)
  have V_lc := V_lc.other W (Ne.symm ne_ch_lc)
  have V_la := V_la.other W (Ne.symm ne_ch_la)
  have V_rv := V_rv.other W (Ne.symm ne_ch_rv)
  have K := K.wr W (Or.inl (List.mem_of_getElem? (i := 1) rfl))
  have V_ar := V_ar.other W ne_ar_ch
  obtain ⟨bs, V_ch, hbs⟩ : ∃ bs' : List Int32, PA Z h11 ch .int bs' ∧ bs'.length = 4096 := ⟨_, V_ch, by rw [List.length_set]; exact hbs⟩
  refine aload w X d3_187 189 rfl rfl rfl ?_
  refine aloadN w X d3_189 190 rfl rfl rfl ?_
  refine getfield w X (wd43 hw) Via.refl F_length_o d3_190 193 rfl (fun T X => ?_)
  refine iconst w X (3 : Int32) d3_193 194 rfl rfl ?_
  refine iadd w X (3 : Int32) d3_194 195 rfl (by decide) ?_
  refine iload w X d3_195 197 rfl rfl ?_
  refine iastore w X V_ch (by decide) 3 rfl (by rw [hbs]; decide) g_ch d3_197 198 rfl w5 rfl (fun T h12 X W V_ch => ?_)
  have zn : n0 ≤ h12.size := W.size ▸ zn
  have E_o := E_o.wr W
  have F_chunks_o := F_chunks_o.other W (Or.inl ne_o_ch)
  have F_counts_o := F_counts_o.other W (Or.inl ne_o_ch)
  have F_rowLengths_o := F_rowLengths_o.other W (Or.inl ne_o_ch)
  have F_firstChunks_o := F_firstChunks_o.other W (Or.inl ne_o_ch)
  have F_firsts_o := F_firsts_o.other W (Or.inl ne_o_ch)
  have F_lastChunks_o := F_lastChunks_o.other W (Or.inl ne_o_ch)
  have F_lasts_o := F_lasts_o.other W (Or.inl ne_o_ch)
  have F_receivers_o := F_receivers_o.other W (Or.inl ne_o_ch)
  have F_chunk_o := F_chunk_o.other W (Or.inl ne_o_ch)
  have F_length_o := F_length_o.other W (Or.inl ne_o_ch)
  have F_receiverCount_o := F_receiverCount_o.other W (Or.inl ne_o_ch)
  have F_total_o := F_total_o.other W (Or.inl ne_o_ch)
  have F_rowLength_o := F_rowLength_o.other W (Or.inl ne_o_ch)
  have R_ck := R_ck.other W ne_ck_ch
  have V_rl := V_rl.other W (Ne.symm ne_ch_rl)
  have V_cn := V_cn.other W (Ne.symm ne_ch_cn)
  have V_fc := V_fc.other W (Ne.symm ne_ch_fc)
  have V_fs := V_fs.other W (Ne.symm ne_ch_fs)
  have V_lc := V_lc.other W (Ne.symm ne_ch_lc)
  have V_la := V_la.other W (Ne.symm ne_ch_la)
  have V_rv := V_rv.other W (Ne.symm ne_ch_rv)
  have K := K.wr W (Or.inl (List.mem_of_getElem? (i := 1) rfl))
  have V_ar := V_ar.other W ne_ar_ch
  obtain ⟨bs, V_ch, hbs⟩ : ∃ bs' : List Int32, PA Z h12 ch .int bs' ∧ bs'.length = 4096 := ⟨_, V_ch, by rw [List.length_set]; exact hbs⟩
  refine aloadN w X d3_198 199 rfl rfl rfl ?_
  refine iload w X d3_199 201 rfl rfl ?_
  refine aload w X d3_201 203 rfl rfl rfl ?_
  refine aloadN w X d3_203 204 rfl rfl rfl ?_
  refine getfield w X (wd43 hw) Via.refl F_length_o d3_204 207 rfl (fun T X => ?_)
  refine iconst w X (4 : Int32) d3_207 208 rfl rfl ?_
  refine iadd w X (4 : Int32) d3_208 209 rfl (by decide) ?_
  refine iload w X d3_209 211 rfl rfl ?_
  have hcw := own_cl (x := w5) (k := 3) hw5.1 hw5.2
  refine acopyI w X (wd49 hw) (wd52 hw) (wd50 hw) (wd51 hw) V_ar V_ch (by decide) (by decide) (own_nn hw5.1) (by show 0 + _ ≤ 3; omega) (by rw [hbs]; show 4 + _ ≤ 4096; omega) g_ch d3_211 214 rfl rfl (by decide) 0 (Nat.le_of_eq rfl) (by decide) (fun T h13 bs2 X Kq V_ch hb2 => ?_)
  obtain ⟨bs, V_ch, hbs⟩ : ∃ bs' : List Int32, PA Z h13 ch .int bs' ∧ bs'.length = 4096 := ⟨_, V_ch, hb2.trans hbs⟩
  have zn : n0 ≤ h13.size := Nat.le_trans zn Kq.1
  have E_o := E_o.keep Kq
  have F_chunks_o := F_chunks_o.keep Kq (ninS ne_o_ch nin0)
  have F_counts_o := F_counts_o.keep Kq (ninS ne_o_ch nin0)
  have F_rowLengths_o := F_rowLengths_o.keep Kq (ninS ne_o_ch nin0)
  have F_firstChunks_o := F_firstChunks_o.keep Kq (ninS ne_o_ch nin0)
  have F_firsts_o := F_firsts_o.keep Kq (ninS ne_o_ch nin0)
  have F_lastChunks_o := F_lastChunks_o.keep Kq (ninS ne_o_ch nin0)
  have F_lasts_o := F_lasts_o.keep Kq (ninS ne_o_ch nin0)
  have F_receivers_o := F_receivers_o.keep Kq (ninS ne_o_ch nin0)
  have F_chunk_o := F_chunk_o.keep Kq (ninS ne_o_ch nin0)
  have F_length_o := F_length_o.keep Kq (ninS ne_o_ch nin0)
  have F_receiverCount_o := F_receiverCount_o.keep Kq (ninS ne_o_ch nin0)
  have F_total_o := F_total_o.keep Kq (ninS ne_o_ch nin0)
  have F_rowLength_o := F_rowLength_o.keep Kq (ninS ne_o_ch nin0)
  have R_ck := R_ck.keep Kq (ninS ne_ck_ch nin0)
  have V_rl := V_rl.keep Kq (ninS (Ne.symm ne_ch_rl) nin0)
  have V_cn := V_cn.keep Kq (ninS (Ne.symm ne_ch_cn) nin0)
  have V_fc := V_fc.keep Kq (ninS (Ne.symm ne_ch_fc) nin0)
  have V_fs := V_fs.keep Kq (ninS (Ne.symm ne_ch_fs) nin0)
  have V_lc := V_lc.keep Kq (ninS (Ne.symm ne_ch_lc) nin0)
  have V_la := V_la.keep Kq (ninS (Ne.symm ne_ch_la) nin0)
  have V_rv := V_rv.keep Kq (ninS (Ne.symm ne_ch_rv) nin0)
  have K := K.trans Kq (allS (Or.inl (List.mem_of_getElem? (i := 1) rfl)) all0)
  have V_ar := V_ar.keep Kq (ninS ne_ar_ch nin0)
  refine aloadN w X d3_214 215 rfl rfl rfl ?_
  refine dup w X d3_215 216 rfl rfl ?_
  refine getfield w X (wd43 hw) Via.refl F_length_o d3_216 219 rfl (fun T X => ?_)
  refine iload w X d3_219 221 rfl rfl ?_
  refine iadd w X ((0 : Int32) + r1) d3_221 222 rfl rfl ?_
  refine putfield w X (wd43 hw) Via.refl F_length_o E_o (Or.inl (wd44 hw)) (wd2 hw) (ty := .int) (by decide) rfl rfl g_o d3_222 225 rfl (fun T h14 X W => ?_)
  have zn : n0 ≤ h14.size := W.size ▸ zn
  have E_o := E_o.wr W
  have F_chunks_o := F_chunks_o.other W (Or.inr (slot_ne (Or.inl (wd13 hw)) (Or.inl (wd44 hw)) (by decide) (t := (.array (.array .int))) (t' := .int) (by decide) (by decide)))
  have F_counts_o := F_counts_o.other W (Or.inr (slot_ne (Or.inr (wd18 hw)) (Or.inl (wd44 hw)) (by decide) (t := (.array .int)) (t' := .int) (by decide) (by decide)))
  have F_rowLengths_o := F_rowLengths_o.other W (Or.inr (slot_ne (Or.inr (wd21 hw)) (Or.inl (wd44 hw)) (by decide) (t := (.array .long)) (t' := .int) (by decide) (by decide)))
  have F_firstChunks_o := F_firstChunks_o.other W (Or.inr (slot_ne (Or.inr (wd23 hw)) (Or.inl (wd44 hw)) (by decide) (t := (.array .int)) (t' := .int) (by decide) (by decide)))
  have F_firsts_o := F_firsts_o.other W (Or.inr (slot_ne (Or.inr (wd25 hw)) (Or.inl (wd44 hw)) (by decide) (t := (.array .int)) (t' := .int) (by decide) (by decide)))
  have F_lastChunks_o := F_lastChunks_o.other W (Or.inr (slot_ne (Or.inr (wd27 hw)) (Or.inl (wd44 hw)) (by decide) (t := (.array .int)) (t' := .int) (by decide) (by decide)))
  have F_lasts_o := F_lasts_o.other W (Or.inr (slot_ne (Or.inr (wd29 hw)) (Or.inl (wd44 hw)) (by decide) (t := (.array .int)) (t' := .int) (by decide) (by decide)))
  have F_receivers_o := F_receivers_o.other W (Or.inr (slot_ne (Or.inr (wd31 hw)) (Or.inl (wd44 hw)) (by decide) (t := (.array .int)) (t' := .int) (by decide) (by decide)))
  have F_chunk_o := F_chunk_o.other W (Or.inr (slot_ne (Or.inl (wd46 hw)) (Or.inl (wd44 hw)) (by decide) (t := .int) (t' := .int) (by decide) (by decide)))
  have F_length_o := F_length_o.same W
  have F_receiverCount_o := F_receiverCount_o.other W (Or.inr (slot_ne (Or.inl (wd48 hw)) (Or.inl (wd44 hw)) (by decide) (t := .int) (t' := .int) (by decide) (by decide)))
  have F_total_o := F_total_o.other W (Or.inr (slot_ne (Or.inl (wd54 hw)) (Or.inl (wd44 hw)) (by decide) (t := .int) (t' := .int) (by decide) (by decide)))
  have F_rowLength_o := F_rowLength_o.other W (Or.inr (slot_ne (Or.inl (wd56 hw)) (Or.inl (wd44 hw)) (by decide) (t := .long) (t' := .int) (by decide) (by decide)))
  have R_ck := R_ck.other W (Ne.symm ne_o_ck)
  have V_rl := V_rl.other W (Ne.symm ne_o_rl)
  have V_cn := V_cn.other W (Ne.symm ne_o_cn)
  have V_fc := V_fc.other W (Ne.symm ne_o_fc)
  have V_fs := V_fs.other W (Ne.symm ne_o_fs)
  have V_lc := V_lc.other W (Ne.symm ne_o_lc)
  have V_la := V_la.other W (Ne.symm ne_o_la)
  have V_rv := V_rv.other W (Ne.symm ne_o_rv)
  have K := K.wr W (Or.inl (List.mem_of_getElem? (i := 0) rfl))
  have V_ar := V_ar.other W ne_ar_o
  have V_ch := V_ch.other W (Ne.symm ne_o_ch)
  refine aloadN w X d3_225 226 rfl rfl rfl ?_
  refine dup w X d3_226 227 rfl rfl ?_
  refine getfield w X (wd53 hw) Via.refl F_total_o d3_227 230 rfl (fun T X => ?_)
  refine iconst w X (1 : Int32) d3_230 231 rfl rfl ?_
  refine iadd w X (1 : Int32) d3_231 232 rfl (by decide) ?_
  refine putfield w X (wd53 hw) Via.refl F_total_o E_o (Or.inl (wd54 hw)) (wd2 hw) (ty := .int) (by decide) rfl rfl g_o d3_232 235 rfl (fun T h15 X W => ?_)
  have zn : n0 ≤ h15.size := W.size ▸ zn
  have E_o := E_o.wr W
  have F_chunks_o := F_chunks_o.other W (Or.inr (slot_ne (Or.inl (wd13 hw)) (Or.inl (wd54 hw)) (by decide) (t := (.array (.array .int))) (t' := .int) (by decide) (by decide)))
  have F_counts_o := F_counts_o.other W (Or.inr (slot_ne (Or.inr (wd18 hw)) (Or.inl (wd54 hw)) (by decide) (t := (.array .int)) (t' := .int) (by decide) (by decide)))
  have F_rowLengths_o := F_rowLengths_o.other W (Or.inr (slot_ne (Or.inr (wd21 hw)) (Or.inl (wd54 hw)) (by decide) (t := (.array .long)) (t' := .int) (by decide) (by decide)))
  have F_firstChunks_o := F_firstChunks_o.other W (Or.inr (slot_ne (Or.inr (wd23 hw)) (Or.inl (wd54 hw)) (by decide) (t := (.array .int)) (t' := .int) (by decide) (by decide)))
  have F_firsts_o := F_firsts_o.other W (Or.inr (slot_ne (Or.inr (wd25 hw)) (Or.inl (wd54 hw)) (by decide) (t := (.array .int)) (t' := .int) (by decide) (by decide)))
  have F_lastChunks_o := F_lastChunks_o.other W (Or.inr (slot_ne (Or.inr (wd27 hw)) (Or.inl (wd54 hw)) (by decide) (t := (.array .int)) (t' := .int) (by decide) (by decide)))
  have F_lasts_o := F_lasts_o.other W (Or.inr (slot_ne (Or.inr (wd29 hw)) (Or.inl (wd54 hw)) (by decide) (t := (.array .int)) (t' := .int) (by decide) (by decide)))
  have F_receivers_o := F_receivers_o.other W (Or.inr (slot_ne (Or.inr (wd31 hw)) (Or.inl (wd54 hw)) (by decide) (t := (.array .int)) (t' := .int) (by decide) (by decide)))
  have F_chunk_o := F_chunk_o.other W (Or.inr (slot_ne (Or.inl (wd46 hw)) (Or.inl (wd54 hw)) (by decide) (t := .int) (t' := .int) (by decide) (by decide)))
  have F_length_o := F_length_o.other W (Or.inr (slot_ne (Or.inl (wd44 hw)) (Or.inl (wd54 hw)) (by decide) (t := .int) (t' := .int) (by decide) (by decide)))
  have F_receiverCount_o := F_receiverCount_o.other W (Or.inr (slot_ne (Or.inl (wd48 hw)) (Or.inl (wd54 hw)) (by decide) (t := .int) (t' := .int) (by decide) (by decide)))
  have F_total_o := F_total_o.same W
  have F_rowLength_o := F_rowLength_o.other W (Or.inr (slot_ne (Or.inl (wd56 hw)) (Or.inl (wd54 hw)) (by decide) (t := .long) (t' := .int) (by decide) (by decide)))
  have R_ck := R_ck.other W (Ne.symm ne_o_ck)
  have V_rl := V_rl.other W (Ne.symm ne_o_rl)
  have V_cn := V_cn.other W (Ne.symm ne_o_cn)
  have V_fc := V_fc.other W (Ne.symm ne_o_fc)
  have V_fs := V_fs.other W (Ne.symm ne_o_fs)
  have V_lc := V_lc.other W (Ne.symm ne_o_lc)
  have V_la := V_la.other W (Ne.symm ne_o_la)
  have V_rv := V_rv.other W (Ne.symm ne_o_rv)
  have K := K.wr W (Or.inl (List.mem_of_getElem? (i := 0) rfl))
  have V_ar := V_ar.other W ne_ar_o
  have V_ch := V_ch.other W (Ne.symm ne_o_ch)
  refine aloadN w X d3_235 236 rfl rfl rfl ?_
  refine getfield w X (wd20 hw) Via.refl F_rowLengths_o d3_236 239 rfl (fun T X => ?_)
  refine iloadN w X d3_239 240 rfl rfl ?_
  refine dup2 w X d3_240 241 rfl rfl rfl ?_
  refine laload w X V_rl (by decide) 1 rfl (Nat.le_of_ble_eq_true rfl) d3_241 242 rfl (0 : Int64) rfl ?_
  refine iconst w X (2 : Int32) d3_242 243 rfl rfl ?_
  refine iload w X d3_243 245 rfl rfl ?_
  refine iadd w X ((2 : Int32) + w5) d3_245 246 rfl rfl ?_
  refine i2l w X (((2 : Int32) + w5).toInt64) d3_246 247 rfl rfl ?_
  refine ladd w X ((0 : Int64) + (((2 : Int32) + w5).toInt64)) d3_247 248 rfl rfl ?_
  refine lastore w X V_rl (by decide) 1 rfl (Nat.le_of_ble_eq_true rfl) g_rl d3_248 249 rfl (fun T h16 X W V_rl => ?_)
  have V_rl : PJ Z h16 rl [(0 : Int64), ((0 : Int64) + (((2 : Int32) + w5).toInt64))] := V_rl
  have zn : n0 ≤ h16.size := W.size ▸ zn
  have E_o := E_o.wr W
  have F_chunks_o := F_chunks_o.other W (Or.inl ne_o_rl)
  have F_counts_o := F_counts_o.other W (Or.inl ne_o_rl)
  have F_rowLengths_o := F_rowLengths_o.other W (Or.inl ne_o_rl)
  have F_firstChunks_o := F_firstChunks_o.other W (Or.inl ne_o_rl)
  have F_firsts_o := F_firsts_o.other W (Or.inl ne_o_rl)
  have F_lastChunks_o := F_lastChunks_o.other W (Or.inl ne_o_rl)
  have F_lasts_o := F_lasts_o.other W (Or.inl ne_o_rl)
  have F_receivers_o := F_receivers_o.other W (Or.inl ne_o_rl)
  have F_chunk_o := F_chunk_o.other W (Or.inl ne_o_rl)
  have F_length_o := F_length_o.other W (Or.inl ne_o_rl)
  have F_receiverCount_o := F_receiverCount_o.other W (Or.inl ne_o_rl)
  have F_total_o := F_total_o.other W (Or.inl ne_o_rl)
  have F_rowLength_o := F_rowLength_o.other W (Or.inl ne_o_rl)
  have R_ck := R_ck.other W ne_ck_rl
  have V_cn := V_cn.other W ne_cn_rl
  have V_fc := V_fc.other W (Ne.symm ne_rl_fc)
  have V_fs := V_fs.other W (Ne.symm ne_rl_fs)
  have V_lc := V_lc.other W (Ne.symm ne_rl_lc)
  have V_la := V_la.other W (Ne.symm ne_rl_la)
  have V_rv := V_rv.other W (Ne.symm ne_rl_rv)
  have K := K.wr W (Or.inl (List.mem_of_getElem? (i := 3) rfl))
  have V_ar := V_ar.other W ne_ar_rl
  have V_ch := V_ch.other W ne_ch_rl
  refine aloadN w X d3_249 250 rfl rfl rfl ?_
  refine dup w X d3_250 251 rfl rfl ?_
  refine getfield w X (wd55 hw) Via.refl F_rowLength_o d3_251 254 rfl (fun T X => ?_)
  refine iconst w X (2 : Int32) d3_254 255 rfl rfl ?_
  refine iload w X d3_255 257 rfl rfl ?_
  refine iadd w X ((2 : Int32) + w5) d3_257 258 rfl rfl ?_
  refine i2l w X (((2 : Int32) + w5).toInt64) d3_258 259 rfl rfl ?_
  refine ladd w X ((0 : Int64) + (((2 : Int32) + w5).toInt64)) d3_259 260 rfl rfl ?_
  refine putfield w X (wd55 hw) Via.refl F_rowLength_o E_o (Or.inl (wd56 hw)) (wd2 hw) (ty := .long) (by decide) rfl rfl g_o d3_260 263 rfl (fun T h17 X W => ?_)
  have zn : n0 ≤ h17.size := W.size ▸ zn
  have E_o := E_o.wr W
  have F_chunks_o := F_chunks_o.other W (Or.inr (slot_ne (Or.inl (wd13 hw)) (Or.inl (wd56 hw)) (by decide) (t := (.array (.array .int))) (t' := .long) (by decide) (by decide)))
  have F_counts_o := F_counts_o.other W (Or.inr (slot_ne (Or.inr (wd18 hw)) (Or.inl (wd56 hw)) (by decide) (t := (.array .int)) (t' := .long) (by decide) (by decide)))
  have F_rowLengths_o := F_rowLengths_o.other W (Or.inr (slot_ne (Or.inr (wd21 hw)) (Or.inl (wd56 hw)) (by decide) (t := (.array .long)) (t' := .long) (by decide) (by decide)))
  have F_firstChunks_o := F_firstChunks_o.other W (Or.inr (slot_ne (Or.inr (wd23 hw)) (Or.inl (wd56 hw)) (by decide) (t := (.array .int)) (t' := .long) (by decide) (by decide)))
  have F_firsts_o := F_firsts_o.other W (Or.inr (slot_ne (Or.inr (wd25 hw)) (Or.inl (wd56 hw)) (by decide) (t := (.array .int)) (t' := .long) (by decide) (by decide)))
  have F_lastChunks_o := F_lastChunks_o.other W (Or.inr (slot_ne (Or.inr (wd27 hw)) (Or.inl (wd56 hw)) (by decide) (t := (.array .int)) (t' := .long) (by decide) (by decide)))
  have F_lasts_o := F_lasts_o.other W (Or.inr (slot_ne (Or.inr (wd29 hw)) (Or.inl (wd56 hw)) (by decide) (t := (.array .int)) (t' := .long) (by decide) (by decide)))
  have F_receivers_o := F_receivers_o.other W (Or.inr (slot_ne (Or.inr (wd31 hw)) (Or.inl (wd56 hw)) (by decide) (t := (.array .int)) (t' := .long) (by decide) (by decide)))
  have F_chunk_o := F_chunk_o.other W (Or.inr (slot_ne (Or.inl (wd46 hw)) (Or.inl (wd56 hw)) (by decide) (t := .int) (t' := .long) (by decide) (by decide)))
  have F_length_o := F_length_o.other W (Or.inr (slot_ne (Or.inl (wd44 hw)) (Or.inl (wd56 hw)) (by decide) (t := .int) (t' := .long) (by decide) (by decide)))
  have F_receiverCount_o := F_receiverCount_o.other W (Or.inr (slot_ne (Or.inl (wd48 hw)) (Or.inl (wd56 hw)) (by decide) (t := .int) (t' := .long) (by decide) (by decide)))
  have F_total_o := F_total_o.other W (Or.inr (slot_ne (Or.inl (wd54 hw)) (Or.inl (wd56 hw)) (by decide) (t := .int) (t' := .long) (by decide) (by decide)))
  have F_rowLength_o := F_rowLength_o.same W
  have R_ck := R_ck.other W (Ne.symm ne_o_ck)
  have V_rl := V_rl.other W (Ne.symm ne_o_rl)
  have V_cn := V_cn.other W (Ne.symm ne_o_cn)
  have V_fc := V_fc.other W (Ne.symm ne_o_fc)
  have V_fs := V_fs.other W (Ne.symm ne_o_fs)
  have V_lc := V_lc.other W (Ne.symm ne_o_lc)
  have V_la := V_la.other W (Ne.symm ne_o_la)
  have V_rv := V_rv.other W (Ne.symm ne_o_rv)
  have K := K.wr W (Or.inl (List.mem_of_getElem? (i := 0) rfl))
  have V_ar := V_ar.other W ne_ar_o
  have V_ch := V_ch.other W (Ne.symm ne_o_ch)
  refine retV w X rfl d3_263 (by decide) (by decide) ?_
  exact ⟨rfl, K, ((0 : Int32) + r1), own_b47 hr1 hw5, f0, (0 : Int32), y0, (0 : Int32), q0, z0, v1, ⟨E_o, F_chunks_o, F_counts_o, F_rowLengths_o, F_firstChunks_o, F_firsts_o, F_lastChunks_o, F_lasts_o, F_receivers_o, F_chunk_o, F_length_o, F_receiverCount_o, F_total_o, F_rowLength_o, R_ck, V_rl, V_cn, V_fc, V_fs, V_lc, V_la, V_rv, _, V_ch, hbs⟩⟩
theorem d3_90 : decode prog_37_method_8_code 90 = .ok (.aload_n 0, 1) := by decide +kernel
theorem d3_91 : decode prog_37_method_8_code 91 = .ok (.getfield 11, 3) := by decide +kernel
theorem d3_94 : decode prog_37_method_8_code 94 = .ok (.aload_n 0, 1) := by decide +kernel
theorem d3_95 : decode prog_37_method_8_code 95 = .ok (.getfield 34, 3) := by decide +kernel
theorem d3_98 : decode prog_37_method_8_code 98 = .ok (.iload_n 1, 1) := by decide +kernel
theorem d3_99 : decode prog_37_method_8_code 99 = .ok (.iaload, 1) := by decide +kernel
theorem d3_100 : decode prog_37_method_8_code 100 = .ok (.aaload, 1) := by decide +kernel
theorem d3_101 : decode prog_37_method_8_code 101 = .ok (.aload_n 0, 1) := by decide +kernel
theorem d3_102 : decode prog_37_method_8_code 102 = .ok (.getfield 37, 3) := by decide +kernel
theorem d3_105 : decode prog_37_method_8_code 105 = .ok (.iload_n 1, 1) := by decide +kernel
theorem d3_106 : decode prog_37_method_8_code 106 = .ok (.iaload, 1) := by decide +kernel
theorem d3_107 : decode prog_37_method_8_code 107 = .ok (.aload_n 0, 1) := by decide +kernel
theorem d3_108 : decode prog_37_method_8_code 108 = .ok (.getfield 47, 3) := by decide +kernel
theorem d3_111 : decode prog_37_method_8_code 111 = .ok (.iastore, 1) := by decide +kernel
theorem d3_112 : decode prog_37_method_8_code 112 = .ok (.aload_n 0, 1) := by decide +kernel
theorem d3_113 : decode prog_37_method_8_code 113 = .ok (.getfield 11, 3) := by decide +kernel
theorem d3_116 : decode prog_37_method_8_code 116 = .ok (.aload_n 0, 1) := by decide +kernel
theorem d3_117 : decode prog_37_method_8_code 117 = .ok (.getfield 34, 3) := by decide +kernel
theorem d3_120 : decode prog_37_method_8_code 120 = .ok (.iload_n 1, 1) := by decide +kernel
theorem d3_121 : decode prog_37_method_8_code 121 = .ok (.iaload, 1) := by decide +kernel
theorem d3_122 : decode prog_37_method_8_code 122 = .ok (.aaload, 1) := by decide +kernel
theorem d3_123 : decode prog_37_method_8_code 123 = .ok (.aload_n 0, 1) := by decide +kernel
theorem d3_124 : decode prog_37_method_8_code 124 = .ok (.getfield 37, 3) := by decide +kernel
theorem d3_127 : decode prog_37_method_8_code 127 = .ok (.iload_n 1, 1) := by decide +kernel
theorem d3_128 : decode prog_37_method_8_code 128 = .ok (.iaload, 1) := by decide +kernel
theorem d3_129 : decode prog_37_method_8_code 129 = .ok (.iconst 1, 1) := by decide +kernel
theorem d3_130 : decode prog_37_method_8_code 130 = .ok (.iadd, 1) := by decide +kernel
theorem d3_131 : decode prog_37_method_8_code 131 = .ok (.aload_n 0, 1) := by decide +kernel
theorem d3_132 : decode prog_37_method_8_code 132 = .ok (.getfield 50, 3) := by decide +kernel
theorem d3_135 : decode prog_37_method_8_code 135 = .ok (.iastore, 1) := by decide +kernel
set_option maxRecDepth 65536 in
set_option maxHeartbeats 40000000 in
theorem rm_a2_00 {l : Launch} {Z : State} {a0 : Array Value} (hw : ∀ d ∈ tables_1, d.before a0 Z = true) (o ck ch cn rl fc fs lc la rv ar : Addr) (hd w5 a0 a1 a2 len f0 f1 y0 y1 q1 z1 v1 : Int32) (tl x0 x1 : Int64) (h : Heap) (n0 : Nat) (zn : n0 ≤ h.size) (OB : own_ob Z h o ck ch cn rl fc fs lc la rv (0 : Int32) len (1 : Int32) (1 : Int32) tl x0 x1 (1 : Int32) (0 : Int32) f0 f1 y0 y1 (0 : Int32) q1 (0 : Int32) z1 (0 : Int32) v1) (NE : own_ne o ck ch cn rl fc fs lc la rv) (GE : own_ge n0 o ck ch cn rl fc fs lc la rv) (V_ar : PA Z h ar .int [a0, a1, a2]) (NA : ar ≠ o ∧ ar ≠ ck ∧ ar ≠ ch ∧ ar ≠ cn ∧ ar ≠ rl ∧ ar ≠ fc ∧ ar ≠ fs ∧ ar ≠ lc ∧ ar ≠ la ∧ ar ≠ rv) (hw5 : 0 ≤ w5.toInt ∧ w5.toInt ≤ 3) (hlen : 0 ≤ len.toInt ∧ len.toInt ≤ 7) :
    Met l Z (⟨"com/example/vigilant_mailbox/vigilantmailbox/engine/Sends", "add", "(II[III)V"⟩ : MethodName) prog_37_method_8_code 8 none [] ({ frames := 1, cells := 0, slots := 0, locals := 40 } : Room) #[(.ref o), (.int (0 : Int32)), (.int hd), (.ref ar), (.int (0 : Int32)), (.int w5)] h n0 (RV fun h' => Keep h h' [o, ch, cn, rl, fc, fs, lc, la, rv] ∧ ∃ len' : Int32, (True) ∧ ∃ f0' f1' y0' y1' q0' q1' z0' z1' v1' : Int32, own_ob Z h' o ck ch cn rl fc fs lc la rv (0 : Int32) len' (1 : Int32) (2 : Int32) (own_rl tl w5) (own_rl x0 w5) x1 (2 : Int32) (0 : Int32) f0' f1' y0' y1' q0' q1' z0' z1' (0 : Int32) v1') := by
  refine start (ls := #[.val (.ref o), .val (.int (0 : Int32)), .val (.int hd), .val (.ref ar), .val (.int (0 : Int32)), .val (.int w5), .unset, .unset]) (plainFor_of_name pn1) (fun m => by first | (simp [entryFrame, mkF, argsToLocals, Value.category]; done) | rfl) ?_
  intro p e s m below meth c T G w X
  have K := Keep.refl h [o, ch, cn, rl, fc, fs, lc, la, rv]
  obtain ⟨E_o, F_chunks_o, F_counts_o, F_rowLengths_o, F_firstChunks_o, F_firsts_o, F_lastChunks_o, F_lasts_o, F_receivers_o, F_chunk_o, F_length_o, F_receiverCount_o, F_total_o, F_rowLength_o, R_ck, V_rl, V_cn, V_fc, V_fs, V_lc, V_la, V_rv, bs, V_ch, hbs⟩ := OB
  obtain ⟨ne_o_ck, ne_o_ch, ne_o_cn, ne_o_rl, ne_o_fc, ne_o_fs, ne_o_lc, ne_o_la, ne_o_rv, ne_ck_ch, ne_ck_cn, ne_ck_rl, ne_ck_fc, ne_ck_fs, ne_ck_lc, ne_ck_la, ne_ck_rv, ne_ch_cn, ne_ch_rl, ne_ch_fc, ne_ch_fs, ne_ch_lc, ne_ch_la, ne_ch_rv, ne_cn_rl, ne_cn_fc, ne_cn_fs, ne_cn_lc, ne_cn_la, ne_cn_rv, ne_rl_fc, ne_rl_fs, ne_rl_lc, ne_rl_la, ne_rl_rv, ne_fc_fs, ne_fc_lc, ne_fc_la, ne_fc_rv, ne_fs_lc, ne_fs_la, ne_fs_rv, ne_lc_la, ne_lc_rv, ne_la_rv⟩ := NE
  obtain ⟨g_o, g_ck, g_ch, g_cn, g_rl, g_fc, g_fs, g_lc, g_la, g_rv⟩ := GE
  obtain ⟨ne_ar_o, ne_ar_ck, ne_ar_ch, ne_ar_cn, ne_ar_rl, ne_ar_fc, ne_ar_fs, ne_ar_lc, ne_ar_la, ne_ar_rv⟩ := NA
  refine ldc2J w X (wd37 hw) d3_0 3 rfl ?_
  refine iload w X d3_3 5 rfl rfl ?_
  refine i2l w X (w5.toInt64) d3_5 6 rfl rfl ?_
  refine ladd w X ((4 : Int64) + (w5.toInt64)) d3_6 7 rfl rfl ?_
  refine callSPI w X [(.long ((4 : Int64) + (w5.toInt64)))] (wd38 hw) (wd39 hw) (wd40 hw) (wd41 hw) (by decide) (rm_cc hw ((4 : Int64) + (w5.toInt64)) h n0 zn (own_x7 hw5)) d3_7 10 rfl 0 (by decide) (by decide) (lenOf pd0 rfl) rfl (Nat.le_of_eq rfl) rfl (by decide) (by decide) (fun r1 T X hq => ?_)
  have hr1 := hq
  refine istore w X r1 d3_10 12 rfl rfl #[.val (.ref o), .val (.int (0 : Int32)), .val (.int hd), .val (.ref ar), .val (.int (0 : Int32)), .val (.int w5), .val (.int r1), .unset] rfl ?_
  refine aloadN w X d3_12 13 rfl rfl rfl ?_
  refine getfield w X (wd43 hw) Via.refl F_length_o d3_13 16 rfl (fun T X => ?_)
  refine iload w X d3_16 18 rfl rfl ?_
  refine iadd w X (len + r1) d3_18 19 rfl rfl ?_
  refine aloadN w X d3_19 20 rfl rfl rfl ?_
  refine getfield w X (wd12 hw) Via.refl F_chunks_o d3_20 23 rfl (fun T X => ?_)
  refine aloadN w X d3_23 24 rfl rfl rfl ?_
  refine getfield w X (wd45 hw) Via.refl F_chunk_o d3_24 27 rfl (fun T X => ?_)
  refine aaload0 w X R_ck rfl d3_27 28 rfl ?_
  refine arraylength w X V_ch d3_28 29 rfl (4096 : Int32) (by rw [hbs]; rfl) ?_
  refine icmp_le w X d3_29 38 32 (by decide) (by decide) rfl (fun hc29_2 => ?_) (fun q => False.elim (by exact own_le (by have := own_cap (len := len) hr1 hw5 hlen; have := hw5.2; have h7 := hlen.2; omega) q))
  refine aloadN w X d3_38 39 rfl rfl rfl ?_
  refine getfield w X (wd17 hw) Via.refl F_counts_o d3_39 42 rfl (fun T X => ?_)
  refine iloadN w X d3_42 43 rfl rfl ?_
  refine iaload w X V_cn (by decide) 0 rfl (Nat.le_of_ble_eq_true rfl) d3_43 44 rfl (1 : Int32) rfl ?_
  refine if_ne w X d3_44 90 47 (by decide) (by decide) rfl (fun hc44_3 => ?_) (fun q => absurd q (by decide))
  refine aloadN w X d3_90 91 rfl rfl rfl ?_
  refine getfield w X (wd12 hw) Via.refl F_chunks_o d3_91 94 rfl (fun T X => ?_)
  refine aloadN w X d3_94 95 rfl rfl rfl ?_
  refine getfield w X (wd26 hw) Via.refl F_lastChunks_o d3_95 98 rfl (fun T X => ?_)
  refine iloadN w X d3_98 99 rfl rfl ?_
  refine iaload w X V_lc (by decide) 0 rfl (Nat.le_of_ble_eq_true rfl) d3_99 100 rfl (0 : Int32) rfl ?_
  refine aaload0 w X R_ck rfl d3_100 101 rfl ?_
  refine aloadN w X d3_101 102 rfl rfl rfl ?_
  refine getfield w X (wd28 hw) Via.refl F_lasts_o d3_102 105 rfl (fun T X => ?_)
  refine iloadN w X d3_105 106 rfl rfl ?_
  refine iaload w X V_la (by decide) 0 rfl (Nat.le_of_ble_eq_true rfl) d3_106 107 rfl (0 : Int32) rfl ?_
  refine aloadN w X d3_107 108 rfl rfl rfl ?_
  refine getfield w X (wd45 hw) Via.refl F_chunk_o d3_108 111 rfl (fun T X => ?_)
  refine iastore w X V_ch (by decide) 0 rfl (by rw [hbs]; decide) g_ch d3_111 112 rfl (0 : Int32) rfl (fun T h4 X W V_ch => ?_)
  have zn : n0 ≤ h4.size := W.size ▸ zn
  have E_o := E_o.wr W
  have F_chunks_o := F_chunks_o.other W (Or.inl ne_o_ch)
  have F_counts_o := F_counts_o.other W (Or.inl ne_o_ch)
  have F_rowLengths_o := F_rowLengths_o.other W (Or.inl ne_o_ch)
  have F_firstChunks_o := F_firstChunks_o.other W (Or.inl ne_o_ch)
  have F_firsts_o := F_firsts_o.other W (Or.inl ne_o_ch)
  have F_lastChunks_o := F_lastChunks_o.other W (Or.inl ne_o_ch)
  have F_lasts_o := F_lasts_o.other W (Or.inl ne_o_ch)
  have F_receivers_o := F_receivers_o.other W (Or.inl ne_o_ch)
  have F_chunk_o := F_chunk_o.other W (Or.inl ne_o_ch)
  have F_length_o := F_length_o.other W (Or.inl ne_o_ch)
  have F_receiverCount_o := F_receiverCount_o.other W (Or.inl ne_o_ch)
  have F_total_o := F_total_o.other W (Or.inl ne_o_ch)
  have F_rowLength_o := F_rowLength_o.other W (Or.inl ne_o_ch)
  have R_ck := R_ck.other W ne_ck_ch
  have V_rl := V_rl.other W (Ne.symm ne_ch_rl)
  have V_cn := V_cn.other W (Ne.symm ne_ch_cn)
  have V_fc := V_fc.other W (Ne.symm ne_ch_fc)
  have V_fs := V_fs.other W (Ne.symm ne_ch_fs)
  have V_lc := V_lc.other W (Ne.symm ne_ch_lc)
  have V_la := V_la.other W (Ne.symm ne_ch_la)
  have V_rv := V_rv.other W (Ne.symm ne_ch_rv)
  have K := K.wr W (Or.inl (List.mem_of_getElem? (i := 1) rfl))
  have V_ar := V_ar.other W ne_ar_ch
  obtain ⟨bs, V_ch, hbs⟩ : ∃ bs' : List Int32, PA Z h4 ch .int bs' ∧ bs'.length = 4096 := ⟨_, V_ch, by rw [List.length_set]; exact hbs⟩
  refine aloadN w X d3_112 113 rfl rfl rfl ?_
  refine getfield w X (wd12 hw) Via.refl F_chunks_o d3_113 116 rfl (fun T X => ?_)
  refine aloadN w X d3_116 117 rfl rfl rfl ?_
  refine getfield w X (wd26 hw) Via.refl F_lastChunks_o d3_117 120 rfl (fun T X => ?_)
  refine iloadN w X d3_120 121 rfl rfl ?_
  refine iaload w X V_lc (by decide) 0 rfl (Nat.le_of_ble_eq_true rfl) d3_121 122 rfl (0 : Int32) rfl ?_
  refine aaload0 w X R_ck rfl d3_122 123 rfl ?_
  refine aloadN w X d3_123 124 rfl rfl rfl ?_
  refine getfield w X (wd28 hw) Via.refl F_lasts_o d3_124 127 rfl (fun T X => ?_)
  refine iloadN w X d3_127 128 rfl rfl ?_
  refine iaload w X V_la (by decide) 0 rfl (Nat.le_of_ble_eq_true rfl) d3_128 129 rfl (0 : Int32) rfl ?_
  refine iconst w X (1 : Int32) d3_129 130 rfl rfl ?_
  refine iadd w X (1 : Int32) d3_130 131 rfl (by decide) ?_
  refine aloadN w X d3_131 132 rfl rfl rfl ?_
  refine getfield w X (wd43 hw) Via.refl F_length_o d3_132 135 rfl (fun T X => ?_)
  refine iastore w X V_ch (by decide) 1 rfl (by rw [hbs]; decide) g_ch d3_135 136 rfl len rfl (fun T h5 X W V_ch => ?_)
  have zn : n0 ≤ h5.size := W.size ▸ zn
  have E_o := E_o.wr W
  have F_chunks_o := F_chunks_o.other W (Or.inl ne_o_ch)
  have F_counts_o := F_counts_o.other W (Or.inl ne_o_ch)
  have F_rowLengths_o := F_rowLengths_o.other W (Or.inl ne_o_ch)
  have F_firstChunks_o := F_firstChunks_o.other W (Or.inl ne_o_ch)
  have F_firsts_o := F_firsts_o.other W (Or.inl ne_o_ch)
  have F_lastChunks_o := F_lastChunks_o.other W (Or.inl ne_o_ch)
  have F_lasts_o := F_lasts_o.other W (Or.inl ne_o_ch)
  have F_receivers_o := F_receivers_o.other W (Or.inl ne_o_ch)
  have F_chunk_o := F_chunk_o.other W (Or.inl ne_o_ch)
  have F_length_o := F_length_o.other W (Or.inl ne_o_ch)
  have F_receiverCount_o := F_receiverCount_o.other W (Or.inl ne_o_ch)
  have F_total_o := F_total_o.other W (Or.inl ne_o_ch)
  have F_rowLength_o := F_rowLength_o.other W (Or.inl ne_o_ch)
  have R_ck := R_ck.other W ne_ck_ch
  have V_rl := V_rl.other W (Ne.symm ne_ch_rl)
  have V_cn := V_cn.other W (Ne.symm ne_ch_cn)
  have V_fc := V_fc.other W (Ne.symm ne_ch_fc)
  have V_fs := V_fs.other W (Ne.symm ne_ch_fs)
  have V_lc := V_lc.other W (Ne.symm ne_ch_lc)
  have V_la := V_la.other W (Ne.symm ne_ch_la)
  have V_rv := V_rv.other W (Ne.symm ne_ch_rv)
  have K := K.wr W (Or.inl (List.mem_of_getElem? (i := 1) rfl))
  have V_ar := V_ar.other W ne_ar_ch
  obtain ⟨bs, V_ch, hbs⟩ : ∃ bs' : List Int32, PA Z h5 ch .int bs' ∧ bs'.length = 4096 := ⟨_, V_ch, by rw [List.length_set]; exact hbs⟩
  refine aloadN w X d3_136 137 rfl rfl rfl ?_
  refine getfield w X (wd26 hw) Via.refl F_lastChunks_o d3_137 140 rfl (fun T X => ?_)
  refine iloadN w X d3_140 141 rfl rfl ?_
  refine aloadN w X d3_141 142 rfl rfl rfl ?_
  refine getfield w X (wd45 hw) Via.refl F_chunk_o d3_142 145 rfl (fun T X => ?_)
  refine iastore w X V_lc (by decide) 0 rfl (Nat.le_of_ble_eq_true rfl) g_lc d3_145 146 rfl (0 : Int32) rfl (fun T h6 X W V_lc => ?_)
  have V_lc : PA Z h6 lc .int [(0 : Int32), q1] := V_lc
  have zn : n0 ≤ h6.size := W.size ▸ zn
  have E_o := E_o.wr W
  have F_chunks_o := F_chunks_o.other W (Or.inl ne_o_lc)
  have F_counts_o := F_counts_o.other W (Or.inl ne_o_lc)
  have F_rowLengths_o := F_rowLengths_o.other W (Or.inl ne_o_lc)
  have F_firstChunks_o := F_firstChunks_o.other W (Or.inl ne_o_lc)
  have F_firsts_o := F_firsts_o.other W (Or.inl ne_o_lc)
  have F_lastChunks_o := F_lastChunks_o.other W (Or.inl ne_o_lc)
  have F_lasts_o := F_lasts_o.other W (Or.inl ne_o_lc)
  have F_receivers_o := F_receivers_o.other W (Or.inl ne_o_lc)
  have F_chunk_o := F_chunk_o.other W (Or.inl ne_o_lc)
  have F_length_o := F_length_o.other W (Or.inl ne_o_lc)
  have F_receiverCount_o := F_receiverCount_o.other W (Or.inl ne_o_lc)
  have F_total_o := F_total_o.other W (Or.inl ne_o_lc)
  have F_rowLength_o := F_rowLength_o.other W (Or.inl ne_o_lc)
  have R_ck := R_ck.other W ne_ck_lc
  have V_rl := V_rl.other W ne_rl_lc
  have V_cn := V_cn.other W ne_cn_lc
  have V_fc := V_fc.other W ne_fc_lc
  have V_fs := V_fs.other W ne_fs_lc
  have V_la := V_la.other W (Ne.symm ne_lc_la)
  have V_rv := V_rv.other W (Ne.symm ne_lc_rv)
  have V_ch := V_ch.other W ne_ch_lc
  have K := K.wr W (Or.inl (List.mem_of_getElem? (i := 6) rfl))
  have V_ar := V_ar.other W ne_ar_lc
  refine aloadN w X d3_146 147 rfl rfl rfl ?_
  refine getfield w X (wd28 hw) Via.refl F_lasts_o d3_147 150 rfl (fun T X => ?_)
  refine iloadN w X d3_150 151 rfl rfl ?_
  refine aloadN w X d3_151 152 rfl rfl rfl ?_
  refine getfield w X (wd43 hw) Via.refl F_length_o d3_152 155 rfl (fun T X => ?_)
  refine iastore w X V_la (by decide) 0 rfl (Nat.le_of_ble_eq_true rfl) g_la d3_155 156 rfl len rfl (fun T h7 X W V_la => ?_)
  have V_la : PA Z h7 la .int [len, z1] := V_la
  have zn : n0 ≤ h7.size := W.size ▸ zn
  have E_o := E_o.wr W
  have F_chunks_o := F_chunks_o.other W (Or.inl ne_o_la)
  have F_counts_o := F_counts_o.other W (Or.inl ne_o_la)
  have F_rowLengths_o := F_rowLengths_o.other W (Or.inl ne_o_la)
  have F_firstChunks_o := F_firstChunks_o.other W (Or.inl ne_o_la)
  have F_firsts_o := F_firsts_o.other W (Or.inl ne_o_la)
  have F_lastChunks_o := F_lastChunks_o.other W (Or.inl ne_o_la)
  have F_lasts_o := F_lasts_o.other W (Or.inl ne_o_la)
  have F_receivers_o := F_receivers_o.other W (Or.inl ne_o_la)
  have F_chunk_o := F_chunk_o.other W (Or.inl ne_o_la)
  have F_length_o := F_length_o.other W (Or.inl ne_o_la)
  have F_receiverCount_o := F_receiverCount_o.other W (Or.inl ne_o_la)
  have F_total_o := F_total_o.other W (Or.inl ne_o_la)
  have F_rowLength_o := F_rowLength_o.other W (Or.inl ne_o_la)
  have R_ck := R_ck.other W ne_ck_la
  have V_rl := V_rl.other W ne_rl_la
  have V_cn := V_cn.other W ne_cn_la
  have V_fc := V_fc.other W ne_fc_la
  have V_fs := V_fs.other W ne_fs_la
  have V_lc := V_lc.other W ne_lc_la
  have V_rv := V_rv.other W (Ne.symm ne_la_rv)
  have V_ch := V_ch.other W ne_ch_la
  have K := K.wr W (Or.inl (List.mem_of_getElem? (i := 7) rfl))
  have V_ar := V_ar.other W ne_ar_la
  refine aloadN w X d3_156 157 rfl rfl rfl ?_
  refine getfield w X (wd17 hw) Via.refl F_counts_o d3_157 160 rfl (fun T X => ?_)
  refine iloadN w X d3_160 161 rfl rfl ?_
  refine dup2 w X d3_161 162 rfl rfl rfl ?_
  refine iaload w X V_cn (by decide) 0 rfl (Nat.le_of_ble_eq_true rfl) d3_162 163 rfl (1 : Int32) rfl ?_
  refine iconst w X (1 : Int32) d3_163 164 rfl rfl ?_
  refine iadd w X (2 : Int32) d3_164 165 rfl (by decide) ?_
  refine iastore w X V_cn (by decide) 0 rfl (Nat.le_of_ble_eq_true rfl) g_cn d3_165 166 rfl (2 : Int32) rfl (fun T h8 X W V_cn => ?_)
  have V_cn : PA Z h8 cn .int [(2 : Int32), (0 : Int32)] := V_cn
  have zn : n0 ≤ h8.size := W.size ▸ zn
  have E_o := E_o.wr W
  have F_chunks_o := F_chunks_o.other W (Or.inl ne_o_cn)
  have F_counts_o := F_counts_o.other W (Or.inl ne_o_cn)
  have F_rowLengths_o := F_rowLengths_o.other W (Or.inl ne_o_cn)
  have F_firstChunks_o := F_firstChunks_o.other W (Or.inl ne_o_cn)
  have F_firsts_o := F_firsts_o.other W (Or.inl ne_o_cn)
  have F_lastChunks_o := F_lastChunks_o.other W (Or.inl ne_o_cn)
  have F_lasts_o := F_lasts_o.other W (Or.inl ne_o_cn)
  have F_receivers_o := F_receivers_o.other W (Or.inl ne_o_cn)
  have F_chunk_o := F_chunk_o.other W (Or.inl ne_o_cn)
  have F_length_o := F_length_o.other W (Or.inl ne_o_cn)
  have F_receiverCount_o := F_receiverCount_o.other W (Or.inl ne_o_cn)
  have F_total_o := F_total_o.other W (Or.inl ne_o_cn)
  have F_rowLength_o := F_rowLength_o.other W (Or.inl ne_o_cn)
  have R_ck := R_ck.other W ne_ck_cn
  have V_rl := V_rl.other W (Ne.symm ne_cn_rl)
  have V_fc := V_fc.other W (Ne.symm ne_cn_fc)
  have V_fs := V_fs.other W (Ne.symm ne_cn_fs)
  have V_lc := V_lc.other W (Ne.symm ne_cn_lc)
  have V_la := V_la.other W (Ne.symm ne_cn_la)
  have V_rv := V_rv.other W (Ne.symm ne_cn_rv)
  have V_ch := V_ch.other W ne_ch_cn
  have K := K.wr W (Or.inl (List.mem_of_getElem? (i := 2) rfl))
  have V_ar := V_ar.other W ne_ar_cn
  refine aloadN w X d3_166 167 rfl rfl rfl ?_
  refine getfield w X (wd12 hw) Via.refl F_chunks_o d3_167 170 rfl (fun T X => ?_)
  refine aloadN w X d3_170 171 rfl rfl rfl ?_
  refine getfield w X (wd45 hw) Via.refl F_chunk_o d3_171 174 rfl (fun T X => ?_)
  refine aaload0 w X R_ck rfl d3_174 175 rfl ?_
  refine astore w X d3_175 177 rfl rfl #[.val (.ref o), .val (.int (0 : Int32)), .val (.int hd), .val (.ref ar), .val (.int (0 : Int32)), .val (.int w5), .val (.int r1), .val (.ref ch)] rfl ?_
  refine aload w X d3_177 179 rfl rfl rfl ?_
  refine aloadN w X d3_179 180 rfl rfl rfl ?_
  refine getfield w X (wd43 hw) Via.refl F_length_o d3_180 183 rfl (fun T X => ?_)
  refine iconst w X (2 : Int32) d3_183 184 rfl rfl ?_
  refine iadd w X (len + (2 : Int32)) d3_184 185 rfl rfl ?_
  refine iloadN w X d3_185 186 rfl rfl ?_
  have hx0 := own_ix (k := (2 : Int32)) hlen (by decide)
  have hx11 := hx0.2
  refine iastore w X V_ch hx0.1 (len + (2 : Int32)).toNatClampNeg rfl (by rw [hbs]; omega) g_ch d3_186 187 rfl hd rfl (fun T h9 X W V_ch => ?_)
  have zn : n0 ≤ h9.size := W.size ▸ zn
  have E_o := E_o.wr W
  have F_chunks_o := F_chunks_o.other W (Or.inl ne_o_ch)
  have F_counts_o := F_counts_o.other W (Or.inl ne_o_ch)
  have F_rowLengths_o := F_rowLengths_o.other W (Or.inl ne_o_ch)
  have F_firstChunks_o := F_firstChunks_o.other W (Or.inl ne_o_ch)
  have F_firsts_o := F_firsts_o.other W (Or.inl ne_o_ch)
  have F_lastChunks_o := F_lastChunks_o.other W (Or.inl ne_o_ch)
  have F_lasts_o := F_lasts_o.other W (Or.inl ne_o_ch)
  have F_receivers_o := F_receivers_o.other W (Or.inl ne_o_ch)
  have F_chunk_o := F_chunk_o.other W (Or.inl ne_o_ch)
  have F_length_o := F_length_o.other W (Or.inl ne_o_ch)
  have F_receiverCount_o := F_receiverCount_o.other W (Or.inl ne_o_ch)
  have F_total_o := F_total_o.other W (Or.inl ne_o_ch)
  have F_rowLength_o := F_rowLength_o.other W (Or.inl ne_o_ch)
  have R_ck := R_ck.other W ne_ck_ch
  have V_rl := V_rl.other W (Ne.symm ne_ch_rl)
  have V_cn := V_cn.other W (Ne.symm ne_ch_cn)
  have V_fc := V_fc.other W (Ne.symm ne_ch_fc)
  have V_fs := V_fs.other W (Ne.symm ne_ch_fs)
  have V_lc := V_lc.other W (Ne.symm ne_ch_lc)
  have V_la := V_la.other W (Ne.symm ne_ch_la)
  have V_rv := V_rv.other W (Ne.symm ne_ch_rv)
  have K := K.wr W (Or.inl (List.mem_of_getElem? (i := 1) rfl))
  have V_ar := V_ar.other W ne_ar_ch
  obtain ⟨bs, V_ch, hbs⟩ : ∃ bs' : List Int32, PA Z h9 ch .int bs' ∧ bs'.length = 4096 := ⟨_, V_ch, by rw [List.length_set]; exact hbs⟩
  refine aload w X d3_187 189 rfl rfl rfl ?_
  refine aloadN w X d3_189 190 rfl rfl rfl ?_
  refine getfield w X (wd43 hw) Via.refl F_length_o d3_190 193 rfl (fun T X => ?_)
  refine iconst w X (3 : Int32) d3_193 194 rfl rfl ?_
  refine iadd w X (len + (3 : Int32)) d3_194 195 rfl rfl ?_
  refine iload w X d3_195 197 rfl rfl ?_
  have hx0 := own_ix (k := (3 : Int32)) hlen (by decide)
  have hx11 := hx0.2
  refine iastore w X V_ch hx0.1 (len + (3 : Int32)).toNatClampNeg rfl (by rw [hbs]; omega) g_ch d3_197 198 rfl w5 rfl (fun T h10 X W V_ch => ?_)
  have zn : n0 ≤ h10.size := W.size ▸ zn
  have E_o := E_o.wr W
  have F_chunks_o := F_chunks_o.other W (Or.inl ne_o_ch)
  have F_counts_o := F_counts_o.other W (Or.inl ne_o_ch)
  have F_rowLengths_o := F_rowLengths_o.other W (Or.inl ne_o_ch)
  have F_firstChunks_o := F_firstChunks_o.other W (Or.inl ne_o_ch)
  have F_firsts_o := F_firsts_o.other W (Or.inl ne_o_ch)
  have F_lastChunks_o := F_lastChunks_o.other W (Or.inl ne_o_ch)
  have F_lasts_o := F_lasts_o.other W (Or.inl ne_o_ch)
  have F_receivers_o := F_receivers_o.other W (Or.inl ne_o_ch)
  have F_chunk_o := F_chunk_o.other W (Or.inl ne_o_ch)
  have F_length_o := F_length_o.other W (Or.inl ne_o_ch)
  have F_receiverCount_o := F_receiverCount_o.other W (Or.inl ne_o_ch)
  have F_total_o := F_total_o.other W (Or.inl ne_o_ch)
  have F_rowLength_o := F_rowLength_o.other W (Or.inl ne_o_ch)
  have R_ck := R_ck.other W ne_ck_ch
  have V_rl := V_rl.other W (Ne.symm ne_ch_rl)
  have V_cn := V_cn.other W (Ne.symm ne_ch_cn)
  have V_fc := V_fc.other W (Ne.symm ne_ch_fc)
  have V_fs := V_fs.other W (Ne.symm ne_ch_fs)
  have V_lc := V_lc.other W (Ne.symm ne_ch_lc)
  have V_la := V_la.other W (Ne.symm ne_ch_la)
  have V_rv := V_rv.other W (Ne.symm ne_ch_rv)
  have K := K.wr W (Or.inl (List.mem_of_getElem? (i := 1) rfl))
  have V_ar := V_ar.other W ne_ar_ch
  obtain ⟨bs, V_ch, hbs⟩ : ∃ bs' : List Int32, PA Z h10 ch .int bs' ∧ bs'.length = 4096 := ⟨_, V_ch, by rw [List.length_set]; exact hbs⟩
  refine aloadN w X d3_198 199 rfl rfl rfl ?_
  refine iload w X d3_199 201 rfl rfl ?_
  refine aload w X d3_201 203 rfl rfl rfl ?_
  refine aloadN w X d3_203 204 rfl rfl rfl ?_
  refine getfield w X (wd43 hw) Via.refl F_length_o d3_204 207 rfl (fun T X => ?_)
  refine iconst w X (4 : Int32) d3_207 208 rfl rfl ?_
  refine iadd w X (len + (4 : Int32)) d3_208 209 rfl rfl ?_
  refine iload w X d3_209 211 rfl rfl ?_
  have hx0 := own_ix (k := (4 : Int32)) hlen (by decide)
  have hx11 := hx0.2
  have hcw := own_cl (x := w5) (k := 3) hw5.1 hw5.2
  refine acopyI w X (wd49 hw) (wd52 hw) (wd50 hw) (wd51 hw) V_ar V_ch (by decide) hx0.1 (own_nn hw5.1) (by show 0 + _ ≤ 3; omega) (by rw [hbs]; have h11 := hx11; omega) g_ch d3_211 214 rfl rfl (by decide) 0 (Nat.le_of_eq rfl) (by decide) (fun T h11 bs2 X Kq V_ch hb2 => ?_)
  obtain ⟨bs, V_ch, hbs⟩ : ∃ bs' : List Int32, PA Z h11 ch .int bs' ∧ bs'.length = 4096 := ⟨_, V_ch, hb2.trans hbs⟩
  have zn : n0 ≤ h11.size := Nat.le_trans zn Kq.1
  have E_o := E_o.keep Kq
  have F_chunks_o := F_chunks_o.keep Kq (ninS ne_o_ch nin0)
  have F_counts_o := F_counts_o.keep Kq (ninS ne_o_ch nin0)
  have F_rowLengths_o := F_rowLengths_o.keep Kq (ninS ne_o_ch nin0)
  have F_firstChunks_o := F_firstChunks_o.keep Kq (ninS ne_o_ch nin0)
  have F_firsts_o := F_firsts_o.keep Kq (ninS ne_o_ch nin0)
  have F_lastChunks_o := F_lastChunks_o.keep Kq (ninS ne_o_ch nin0)
  have F_lasts_o := F_lasts_o.keep Kq (ninS ne_o_ch nin0)
  have F_receivers_o := F_receivers_o.keep Kq (ninS ne_o_ch nin0)
  have F_chunk_o := F_chunk_o.keep Kq (ninS ne_o_ch nin0)
  have F_length_o := F_length_o.keep Kq (ninS ne_o_ch nin0)
  have F_receiverCount_o := F_receiverCount_o.keep Kq (ninS ne_o_ch nin0)
  have F_total_o := F_total_o.keep Kq (ninS ne_o_ch nin0)
  have F_rowLength_o := F_rowLength_o.keep Kq (ninS ne_o_ch nin0)
  have R_ck := R_ck.keep Kq (ninS ne_ck_ch nin0)
  have V_rl := V_rl.keep Kq (ninS (Ne.symm ne_ch_rl) nin0)
  have V_cn := V_cn.keep Kq (ninS (Ne.symm ne_ch_cn) nin0)
  have V_fc := V_fc.keep Kq (ninS (Ne.symm ne_ch_fc) nin0)
  have V_fs := V_fs.keep Kq (ninS (Ne.symm ne_ch_fs) nin0)
  have V_lc := V_lc.keep Kq (ninS (Ne.symm ne_ch_lc) nin0)
  have V_la := V_la.keep Kq (ninS (Ne.symm ne_ch_la) nin0)
  have V_rv := V_rv.keep Kq (ninS (Ne.symm ne_ch_rv) nin0)
  have K := K.trans Kq (allS (Or.inl (List.mem_of_getElem? (i := 1) rfl)) all0)
  have V_ar := V_ar.keep Kq (ninS ne_ar_ch nin0)
  refine aloadN w X d3_214 215 rfl rfl rfl ?_
  refine dup w X d3_215 216 rfl rfl ?_
  refine getfield w X (wd43 hw) Via.refl F_length_o d3_216 219 rfl (fun T X => ?_)
  refine iload w X d3_219 221 rfl rfl ?_
  refine iadd w X (len + r1) d3_221 222 rfl rfl ?_
  refine putfield w X (wd43 hw) Via.refl F_length_o E_o (Or.inl (wd44 hw)) (wd2 hw) (ty := .int) (by decide) rfl rfl g_o d3_222 225 rfl (fun T h12 X W => ?_)
  have zn : n0 ≤ h12.size := W.size ▸ zn
  have E_o := E_o.wr W
  have F_chunks_o := F_chunks_o.other W (Or.inr (slot_ne (Or.inl (wd13 hw)) (Or.inl (wd44 hw)) (by decide) (t := (.array (.array .int))) (t' := .int) (by decide) (by decide)))
  have F_counts_o := F_counts_o.other W (Or.inr (slot_ne (Or.inr (wd18 hw)) (Or.inl (wd44 hw)) (by decide) (t := (.array .int)) (t' := .int) (by decide) (by decide)))
  have F_rowLengths_o := F_rowLengths_o.other W (Or.inr (slot_ne (Or.inr (wd21 hw)) (Or.inl (wd44 hw)) (by decide) (t := (.array .long)) (t' := .int) (by decide) (by decide)))
  have F_firstChunks_o := F_firstChunks_o.other W (Or.inr (slot_ne (Or.inr (wd23 hw)) (Or.inl (wd44 hw)) (by decide) (t := (.array .int)) (t' := .int) (by decide) (by decide)))
  have F_firsts_o := F_firsts_o.other W (Or.inr (slot_ne (Or.inr (wd25 hw)) (Or.inl (wd44 hw)) (by decide) (t := (.array .int)) (t' := .int) (by decide) (by decide)))
  have F_lastChunks_o := F_lastChunks_o.other W (Or.inr (slot_ne (Or.inr (wd27 hw)) (Or.inl (wd44 hw)) (by decide) (t := (.array .int)) (t' := .int) (by decide) (by decide)))
  have F_lasts_o := F_lasts_o.other W (Or.inr (slot_ne (Or.inr (wd29 hw)) (Or.inl (wd44 hw)) (by decide) (t := (.array .int)) (t' := .int) (by decide) (by decide)))
  have F_receivers_o := F_receivers_o.other W (Or.inr (slot_ne (Or.inr (wd31 hw)) (Or.inl (wd44 hw)) (by decide) (t := (.array .int)) (t' := .int) (by decide) (by decide)))
  have F_chunk_o := F_chunk_o.other W (Or.inr (slot_ne (Or.inl (wd46 hw)) (Or.inl (wd44 hw)) (by decide) (t := .int) (t' := .int) (by decide) (by decide)))
  have F_length_o := F_length_o.same W
  have F_receiverCount_o := F_receiverCount_o.other W (Or.inr (slot_ne (Or.inl (wd48 hw)) (Or.inl (wd44 hw)) (by decide) (t := .int) (t' := .int) (by decide) (by decide)))
  have F_total_o := F_total_o.other W (Or.inr (slot_ne (Or.inl (wd54 hw)) (Or.inl (wd44 hw)) (by decide) (t := .int) (t' := .int) (by decide) (by decide)))
  have F_rowLength_o := F_rowLength_o.other W (Or.inr (slot_ne (Or.inl (wd56 hw)) (Or.inl (wd44 hw)) (by decide) (t := .long) (t' := .int) (by decide) (by decide)))
  have R_ck := R_ck.other W (Ne.symm ne_o_ck)
  have V_rl := V_rl.other W (Ne.symm ne_o_rl)
  have V_cn := V_cn.other W (Ne.symm ne_o_cn)
  have V_fc := V_fc.other W (Ne.symm ne_o_fc)
  have V_fs := V_fs.other W (Ne.symm ne_o_fs)
  have V_lc := V_lc.other W (Ne.symm ne_o_lc)
  have V_la := V_la.other W (Ne.symm ne_o_la)
  have V_rv := V_rv.other W (Ne.symm ne_o_rv)
  have K := K.wr W (Or.inl (List.mem_of_getElem? (i := 0) rfl))
  have V_ar := V_ar.other W ne_ar_o
  have V_ch := V_ch.other W (Ne.symm ne_o_ch)
  refine aloadN w X d3_225 226 rfl rfl rfl ?_
  refine dup w X d3_226 227 rfl rfl ?_
  refine getfield w X (wd53 hw) Via.refl F_total_o d3_227 230 rfl (fun T X => ?_)
  refine iconst w X (1 : Int32) d3_230 231 rfl rfl ?_
  refine iadd w X (2 : Int32) d3_231 232 rfl (by decide) ?_
  refine putfield w X (wd53 hw) Via.refl F_total_o E_o (Or.inl (wd54 hw)) (wd2 hw) (ty := .int) (by decide) rfl rfl g_o d3_232 235 rfl (fun T h13 X W => ?_)
  have zn : n0 ≤ h13.size := W.size ▸ zn
  have E_o := E_o.wr W
  have F_chunks_o := F_chunks_o.other W (Or.inr (slot_ne (Or.inl (wd13 hw)) (Or.inl (wd54 hw)) (by decide) (t := (.array (.array .int))) (t' := .int) (by decide) (by decide)))
  have F_counts_o := F_counts_o.other W (Or.inr (slot_ne (Or.inr (wd18 hw)) (Or.inl (wd54 hw)) (by decide) (t := (.array .int)) (t' := .int) (by decide) (by decide)))
  have F_rowLengths_o := F_rowLengths_o.other W (Or.inr (slot_ne (Or.inr (wd21 hw)) (Or.inl (wd54 hw)) (by decide) (t := (.array .long)) (t' := .int) (by decide) (by decide)))
  have F_firstChunks_o := F_firstChunks_o.other W (Or.inr (slot_ne (Or.inr (wd23 hw)) (Or.inl (wd54 hw)) (by decide) (t := (.array .int)) (t' := .int) (by decide) (by decide)))
  have F_firsts_o := F_firsts_o.other W (Or.inr (slot_ne (Or.inr (wd25 hw)) (Or.inl (wd54 hw)) (by decide) (t := (.array .int)) (t' := .int) (by decide) (by decide)))
  have F_lastChunks_o := F_lastChunks_o.other W (Or.inr (slot_ne (Or.inr (wd27 hw)) (Or.inl (wd54 hw)) (by decide) (t := (.array .int)) (t' := .int) (by decide) (by decide)))
  have F_lasts_o := F_lasts_o.other W (Or.inr (slot_ne (Or.inr (wd29 hw)) (Or.inl (wd54 hw)) (by decide) (t := (.array .int)) (t' := .int) (by decide) (by decide)))
  have F_receivers_o := F_receivers_o.other W (Or.inr (slot_ne (Or.inr (wd31 hw)) (Or.inl (wd54 hw)) (by decide) (t := (.array .int)) (t' := .int) (by decide) (by decide)))
  have F_chunk_o := F_chunk_o.other W (Or.inr (slot_ne (Or.inl (wd46 hw)) (Or.inl (wd54 hw)) (by decide) (t := .int) (t' := .int) (by decide) (by decide)))
  have F_length_o := F_length_o.other W (Or.inr (slot_ne (Or.inl (wd44 hw)) (Or.inl (wd54 hw)) (by decide) (t := .int) (t' := .int) (by decide) (by decide)))
  have F_receiverCount_o := F_receiverCount_o.other W (Or.inr (slot_ne (Or.inl (wd48 hw)) (Or.inl (wd54 hw)) (by decide) (t := .int) (t' := .int) (by decide) (by decide)))
  have F_total_o := F_total_o.same W
  have F_rowLength_o := F_rowLength_o.other W (Or.inr (slot_ne (Or.inl (wd56 hw)) (Or.inl (wd54 hw)) (by decide) (t := .long) (t' := .int) (by decide) (by decide)))
  have R_ck := R_ck.other W (Ne.symm ne_o_ck)
  have V_rl := V_rl.other W (Ne.symm ne_o_rl)
  have V_cn := V_cn.other W (Ne.symm ne_o_cn)
  have V_fc := V_fc.other W (Ne.symm ne_o_fc)
  have V_fs := V_fs.other W (Ne.symm ne_o_fs)
  have V_lc := V_lc.other W (Ne.symm ne_o_lc)
  have V_la := V_la.other W (Ne.symm ne_o_la)
  have V_rv := V_rv.other W (Ne.symm ne_o_rv)
  have K := K.wr W (Or.inl (List.mem_of_getElem? (i := 0) rfl))
  have V_ar := V_ar.other W ne_ar_o
  have V_ch := V_ch.other W (Ne.symm ne_o_ch)
  refine aloadN w X d3_235 236 rfl rfl rfl ?_
  refine getfield w X (wd20 hw) Via.refl F_rowLengths_o d3_236 239 rfl (fun T X => ?_)
  refine iloadN w X d3_239 240 rfl rfl ?_
  refine dup2 w X d3_240 241 rfl rfl rfl ?_
  refine laload w X V_rl (by decide) 0 rfl (Nat.le_of_ble_eq_true rfl) d3_241 242 rfl x0 rfl ?_
  refine iconst w X (2 : Int32) d3_242 243 rfl rfl ?_
  refine iload w X d3_243 245 rfl rfl ?_
  refine iadd w X ((2 : Int32) + w5) d3_245 246 rfl rfl ?_
  refine i2l w X (((2 : Int32) + w5).toInt64) d3_246 247 rfl rfl ?_
  refine ladd w X (x0 + (((2 : Int32) + w5).toInt64)) d3_247 248 rfl rfl ?_
  refine lastore w X V_rl (by decide) 0 rfl (Nat.le_of_ble_eq_true rfl) g_rl d3_248 249 rfl (fun T h14 X W V_rl => ?_)
  have V_rl : PJ Z h14 rl [(x0 + (((2 : Int32) + w5).toInt64)), x1] := V_rl
  have zn : n0 ≤ h14.size := W.size ▸ zn
  have E_o := E_o.wr W
  have F_chunks_o := F_chunks_o.other W (Or.inl ne_o_rl)
  have F_counts_o := F_counts_o.other W (Or.inl ne_o_rl)
  have F_rowLengths_o := F_rowLengths_o.other W (Or.inl ne_o_rl)
  have F_firstChunks_o := F_firstChunks_o.other W (Or.inl ne_o_rl)
  have F_firsts_o := F_firsts_o.other W (Or.inl ne_o_rl)
  have F_lastChunks_o := F_lastChunks_o.other W (Or.inl ne_o_rl)
  have F_lasts_o := F_lasts_o.other W (Or.inl ne_o_rl)
  have F_receivers_o := F_receivers_o.other W (Or.inl ne_o_rl)
  have F_chunk_o := F_chunk_o.other W (Or.inl ne_o_rl)
  have F_length_o := F_length_o.other W (Or.inl ne_o_rl)
  have F_receiverCount_o := F_receiverCount_o.other W (Or.inl ne_o_rl)
  have F_total_o := F_total_o.other W (Or.inl ne_o_rl)
  have F_rowLength_o := F_rowLength_o.other W (Or.inl ne_o_rl)
  have R_ck := R_ck.other W ne_ck_rl
  have V_cn := V_cn.other W ne_cn_rl
  have V_fc := V_fc.other W (Ne.symm ne_rl_fc)
  have V_fs := V_fs.other W (Ne.symm ne_rl_fs)
  have V_lc := V_lc.other W (Ne.symm ne_rl_lc)
  have V_la := V_la.other W (Ne.symm ne_rl_la)
  have V_rv := V_rv.other W (Ne.symm ne_rl_rv)
  have K := K.wr W (Or.inl (List.mem_of_getElem? (i := 3) rfl))
  have V_ar := V_ar.other W ne_ar_rl
  have V_ch := V_ch.other W ne_ch_rl
  refine aloadN w X d3_249 250 rfl rfl rfl ?_
  refine dup w X d3_250 251 rfl rfl ?_
  refine getfield w X (wd55 hw) Via.refl F_rowLength_o d3_251 254 rfl (fun T X => ?_)
  refine iconst w X (2 : Int32) d3_254 255 rfl rfl ?_
  refine iload w X d3_255 257 rfl rfl ?_
  refine iadd w X ((2 : Int32) + w5) d3_257 258 rfl rfl ?_
  refine i2l w X (((2 : Int32) + w5).toInt64) d3_258 259 rfl rfl ?_
  refine ladd w X (tl + (((2 : Int32) + w5).toInt64)) d3_259 260 rfl rfl ?_
  refine putfield w X (wd55 hw) Via.refl F_rowLength_o E_o (Or.inl (wd56 hw)) (wd2 hw) (ty := .long) (by decide) rfl rfl g_o d3_260 263 rfl (fun T h15 X W => ?_)
  have zn : n0 ≤ h15.size := W.size ▸ zn
  have E_o := E_o.wr W
  have F_chunks_o := F_chunks_o.other W (Or.inr (slot_ne (Or.inl (wd13 hw)) (Or.inl (wd56 hw)) (by decide) (t := (.array (.array .int))) (t' := .long) (by decide) (by decide)))
  have F_counts_o := F_counts_o.other W (Or.inr (slot_ne (Or.inr (wd18 hw)) (Or.inl (wd56 hw)) (by decide) (t := (.array .int)) (t' := .long) (by decide) (by decide)))
  have F_rowLengths_o := F_rowLengths_o.other W (Or.inr (slot_ne (Or.inr (wd21 hw)) (Or.inl (wd56 hw)) (by decide) (t := (.array .long)) (t' := .long) (by decide) (by decide)))
  have F_firstChunks_o := F_firstChunks_o.other W (Or.inr (slot_ne (Or.inr (wd23 hw)) (Or.inl (wd56 hw)) (by decide) (t := (.array .int)) (t' := .long) (by decide) (by decide)))
  have F_firsts_o := F_firsts_o.other W (Or.inr (slot_ne (Or.inr (wd25 hw)) (Or.inl (wd56 hw)) (by decide) (t := (.array .int)) (t' := .long) (by decide) (by decide)))
  have F_lastChunks_o := F_lastChunks_o.other W (Or.inr (slot_ne (Or.inr (wd27 hw)) (Or.inl (wd56 hw)) (by decide) (t := (.array .int)) (t' := .long) (by decide) (by decide)))
  have F_lasts_o := F_lasts_o.other W (Or.inr (slot_ne (Or.inr (wd29 hw)) (Or.inl (wd56 hw)) (by decide) (t := (.array .int)) (t' := .long) (by decide) (by decide)))
  have F_receivers_o := F_receivers_o.other W (Or.inr (slot_ne (Or.inr (wd31 hw)) (Or.inl (wd56 hw)) (by decide) (t := (.array .int)) (t' := .long) (by decide) (by decide)))
  have F_chunk_o := F_chunk_o.other W (Or.inr (slot_ne (Or.inl (wd46 hw)) (Or.inl (wd56 hw)) (by decide) (t := .int) (t' := .long) (by decide) (by decide)))
  have F_length_o := F_length_o.other W (Or.inr (slot_ne (Or.inl (wd44 hw)) (Or.inl (wd56 hw)) (by decide) (t := .int) (t' := .long) (by decide) (by decide)))
  have F_receiverCount_o := F_receiverCount_o.other W (Or.inr (slot_ne (Or.inl (wd48 hw)) (Or.inl (wd56 hw)) (by decide) (t := .int) (t' := .long) (by decide) (by decide)))
  have F_total_o := F_total_o.other W (Or.inr (slot_ne (Or.inl (wd54 hw)) (Or.inl (wd56 hw)) (by decide) (t := .int) (t' := .long) (by decide) (by decide)))
  have F_rowLength_o := F_rowLength_o.same W
  have R_ck := R_ck.other W (Ne.symm ne_o_ck)
  have V_rl := V_rl.other W (Ne.symm ne_o_rl)
  have V_cn := V_cn.other W (Ne.symm ne_o_cn)
  have V_fc := V_fc.other W (Ne.symm ne_o_fc)
  have V_fs := V_fs.other W (Ne.symm ne_o_fs)
  have V_lc := V_lc.other W (Ne.symm ne_o_lc)
  have V_la := V_la.other W (Ne.symm ne_o_la)
  have V_rv := V_rv.other W (Ne.symm ne_o_rv)
  have K := K.wr W (Or.inl (List.mem_of_getElem? (i := 0) rfl))
  have V_ar := V_ar.other W ne_ar_o
  have V_ch := V_ch.other W (Ne.symm ne_o_ch)
  refine retV w X rfl d3_263 (by decide) (by decide) ?_
  exact ⟨rfl, K, (len + r1), trivial, f0, f1, y0, y1, (0 : Int32), q1, len, z1, v1, ⟨E_o, F_chunks_o, F_counts_o, F_rowLengths_o, F_firstChunks_o, F_firsts_o, F_lastChunks_o, F_lasts_o, F_receivers_o, F_chunk_o, F_length_o, F_receiverCount_o, F_total_o, F_rowLength_o, R_ck, V_rl, V_cn, V_fc, V_fs, V_lc, V_la, V_rv, _, V_ch, hbs⟩⟩
set_option maxRecDepth 65536 in
set_option maxHeartbeats 40000000 in
theorem rm_a2_01 {l : Launch} {Z : State} {a0 : Array Value} (hw : ∀ d ∈ tables_1, d.before a0 Z = true) (o ck ch cn rl fc fs lc la rv ar : Addr) (hd w5 a0 a1 a2 len f0 f1 y0 y1 q0 q1 z0 z1 v1 : Int32) (tl x0 x1 : Int64) (h : Heap) (n0 : Nat) (zn : n0 ≤ h.size) (OB : own_ob Z h o ck ch cn rl fc fs lc la rv (0 : Int32) len (1 : Int32) (1 : Int32) tl x0 x1 (1 : Int32) (0 : Int32) f0 f1 y0 y1 q0 q1 z0 z1 (0 : Int32) v1) (NE : own_ne o ck ch cn rl fc fs lc la rv) (GE : own_ge n0 o ck ch cn rl fc fs lc la rv) (V_ar : PA Z h ar .int [a0, a1, a2]) (NA : ar ≠ o ∧ ar ≠ ck ∧ ar ≠ ch ∧ ar ≠ cn ∧ ar ≠ rl ∧ ar ≠ fc ∧ ar ≠ fs ∧ ar ≠ lc ∧ ar ≠ la ∧ ar ≠ rv) (hw5 : 0 ≤ w5.toInt ∧ w5.toInt ≤ 3) (hlen : 0 ≤ len.toInt ∧ len.toInt ≤ 7) :
    Met l Z (⟨"com/example/vigilant_mailbox/vigilantmailbox/engine/Sends", "add", "(II[III)V"⟩ : MethodName) prog_37_method_8_code 8 none [] ({ frames := 1, cells := 0, slots := 0, locals := 40 } : Room) #[(.ref o), (.int (1 : Int32)), (.int hd), (.ref ar), (.int (0 : Int32)), (.int w5)] h n0 (RV fun h' => Keep h h' [o, ch, cn, rl, fc, fs, lc, la, rv] ∧ ∃ len' : Int32, (True) ∧ ∃ f0' f1' y0' y1' q0' q1' z0' z1' : Int32, own_ob Z h' o ck ch cn rl fc fs lc la rv (0 : Int32) len' (2 : Int32) (2 : Int32) (own_rl tl w5) x0 (own_rl x1 w5) (1 : Int32) (1 : Int32) f0' f1' y0' y1' q0' q1' z0' z1' (0 : Int32) (1 : Int32)) := by
  refine start (ls := #[.val (.ref o), .val (.int (1 : Int32)), .val (.int hd), .val (.ref ar), .val (.int (0 : Int32)), .val (.int w5), .unset, .unset]) (plainFor_of_name pn1) (fun m => by first | (simp [entryFrame, mkF, argsToLocals, Value.category]; done) | rfl) ?_
  intro p e s m below meth c T G w X
  have K := Keep.refl h [o, ch, cn, rl, fc, fs, lc, la, rv]
  obtain ⟨E_o, F_chunks_o, F_counts_o, F_rowLengths_o, F_firstChunks_o, F_firsts_o, F_lastChunks_o, F_lasts_o, F_receivers_o, F_chunk_o, F_length_o, F_receiverCount_o, F_total_o, F_rowLength_o, R_ck, V_rl, V_cn, V_fc, V_fs, V_lc, V_la, V_rv, bs, V_ch, hbs⟩ := OB
  obtain ⟨ne_o_ck, ne_o_ch, ne_o_cn, ne_o_rl, ne_o_fc, ne_o_fs, ne_o_lc, ne_o_la, ne_o_rv, ne_ck_ch, ne_ck_cn, ne_ck_rl, ne_ck_fc, ne_ck_fs, ne_ck_lc, ne_ck_la, ne_ck_rv, ne_ch_cn, ne_ch_rl, ne_ch_fc, ne_ch_fs, ne_ch_lc, ne_ch_la, ne_ch_rv, ne_cn_rl, ne_cn_fc, ne_cn_fs, ne_cn_lc, ne_cn_la, ne_cn_rv, ne_rl_fc, ne_rl_fs, ne_rl_lc, ne_rl_la, ne_rl_rv, ne_fc_fs, ne_fc_lc, ne_fc_la, ne_fc_rv, ne_fs_lc, ne_fs_la, ne_fs_rv, ne_lc_la, ne_lc_rv, ne_la_rv⟩ := NE
  obtain ⟨g_o, g_ck, g_ch, g_cn, g_rl, g_fc, g_fs, g_lc, g_la, g_rv⟩ := GE
  obtain ⟨ne_ar_o, ne_ar_ck, ne_ar_ch, ne_ar_cn, ne_ar_rl, ne_ar_fc, ne_ar_fs, ne_ar_lc, ne_ar_la, ne_ar_rv⟩ := NA
  refine ldc2J w X (wd37 hw) d3_0 3 rfl ?_
  refine iload w X d3_3 5 rfl rfl ?_
  refine i2l w X (w5.toInt64) d3_5 6 rfl rfl ?_
  refine ladd w X ((4 : Int64) + (w5.toInt64)) d3_6 7 rfl rfl ?_
  refine callSPI w X [(.long ((4 : Int64) + (w5.toInt64)))] (wd38 hw) (wd39 hw) (wd40 hw) (wd41 hw) (by decide) (rm_cc hw ((4 : Int64) + (w5.toInt64)) h n0 zn (own_x7 hw5)) d3_7 10 rfl 0 (by decide) (by decide) (lenOf pd0 rfl) rfl (Nat.le_of_eq rfl) rfl (by decide) (by decide) (fun r1 T X hq => ?_)
  have hr1 := hq
  refine istore w X r1 d3_10 12 rfl rfl #[.val (.ref o), .val (.int (1 : Int32)), .val (.int hd), .val (.ref ar), .val (.int (0 : Int32)), .val (.int w5), .val (.int r1), .unset] rfl ?_
  refine aloadN w X d3_12 13 rfl rfl rfl ?_
  refine getfield w X (wd43 hw) Via.refl F_length_o d3_13 16 rfl (fun T X => ?_)
  refine iload w X d3_16 18 rfl rfl ?_
  refine iadd w X (len + r1) d3_18 19 rfl rfl ?_
  refine aloadN w X d3_19 20 rfl rfl rfl ?_
  refine getfield w X (wd12 hw) Via.refl F_chunks_o d3_20 23 rfl (fun T X => ?_)
  refine aloadN w X d3_23 24 rfl rfl rfl ?_
  refine getfield w X (wd45 hw) Via.refl F_chunk_o d3_24 27 rfl (fun T X => ?_)
  refine aaload0 w X R_ck rfl d3_27 28 rfl ?_
  refine arraylength w X V_ch d3_28 29 rfl (4096 : Int32) (by rw [hbs]; rfl) ?_
  refine icmp_le w X d3_29 38 32 (by decide) (by decide) rfl (fun hc29_2 => ?_) (fun q => False.elim (by exact own_le (by have := own_cap (len := len) hr1 hw5 hlen; have := hw5.2; have h7 := hlen.2; omega) q))
  refine aloadN w X d3_38 39 rfl rfl rfl ?_
  refine getfield w X (wd17 hw) Via.refl F_counts_o d3_39 42 rfl (fun T X => ?_)
  refine iloadN w X d3_42 43 rfl rfl ?_
  refine iaload w X V_cn (by decide) 1 rfl (Nat.le_of_ble_eq_true rfl) d3_43 44 rfl (0 : Int32) rfl ?_
  refine if_ne w X d3_44 90 47 (by decide) (by decide) rfl (fun q => absurd q (by decide)) (fun hc44_3 => ?_)
  refine aloadN w X d3_47 48 rfl rfl rfl ?_
  refine getfield w X (wd30 hw) Via.refl F_receivers_o d3_48 51 rfl (fun T X => ?_)
  refine aloadN w X d3_51 52 rfl rfl rfl ?_
  refine getfield w X (wd47 hw) Via.refl F_receiverCount_o d3_52 55 rfl (fun T X => ?_)
  refine iloadN w X d3_55 56 rfl rfl ?_
  refine iastore w X V_rv (by decide) 1 rfl (Nat.le_of_ble_eq_true rfl) g_rv d3_56 57 rfl (1 : Int32) rfl (fun T h4 X W V_rv => ?_)
  have V_rv : PA Z h4 rv .int [(0 : Int32), (1 : Int32)] := V_rv
  have zn : n0 ≤ h4.size := W.size ▸ zn
  have E_o := E_o.wr W
  have F_chunks_o := F_chunks_o.other W (Or.inl ne_o_rv)
  have F_counts_o := F_counts_o.other W (Or.inl ne_o_rv)
  have F_rowLengths_o := F_rowLengths_o.other W (Or.inl ne_o_rv)
  have F_firstChunks_o := F_firstChunks_o.other W (Or.inl ne_o_rv)
  have F_firsts_o := F_firsts_o.other W (Or.inl ne_o_rv)
  have F_lastChunks_o := F_lastChunks_o.other W (Or.inl ne_o_rv)
  have F_lasts_o := F_lasts_o.other W (Or.inl ne_o_rv)
  have F_receivers_o := F_receivers_o.other W (Or.inl ne_o_rv)
  have F_chunk_o := F_chunk_o.other W (Or.inl ne_o_rv)
  have F_length_o := F_length_o.other W (Or.inl ne_o_rv)
  have F_receiverCount_o := F_receiverCount_o.other W (Or.inl ne_o_rv)
  have F_total_o := F_total_o.other W (Or.inl ne_o_rv)
  have F_rowLength_o := F_rowLength_o.other W (Or.inl ne_o_rv)
  have R_ck := R_ck.other W ne_ck_rv
  have V_rl := V_rl.other W ne_rl_rv
  have V_cn := V_cn.other W ne_cn_rv
  have V_fc := V_fc.other W ne_fc_rv
  have V_fs := V_fs.other W ne_fs_rv
  have V_lc := V_lc.other W ne_lc_rv
  have V_la := V_la.other W ne_la_rv
  have V_ch := V_ch.other W ne_ch_rv
  have K := K.wr W (Or.inl (List.mem_of_getElem? (i := 8) rfl))
  have V_ar := V_ar.other W ne_ar_rv
  refine aloadN w X d3_57 58 rfl rfl rfl ?_
  refine dup w X d3_58 59 rfl rfl ?_
  refine getfield w X (wd47 hw) Via.refl F_receiverCount_o d3_59 62 rfl (fun T X => ?_)
  refine iconst w X (1 : Int32) d3_62 63 rfl rfl ?_
  refine iadd w X (2 : Int32) d3_63 64 rfl (by decide) ?_
  refine putfield w X (wd47 hw) Via.refl F_receiverCount_o E_o (Or.inl (wd48 hw)) (wd2 hw) (ty := .int) (by decide) rfl rfl g_o d3_64 67 rfl (fun T h5 X W => ?_)
  have zn : n0 ≤ h5.size := W.size ▸ zn
  have E_o := E_o.wr W
  have F_chunks_o := F_chunks_o.other W (Or.inr (slot_ne (Or.inl (wd13 hw)) (Or.inl (wd48 hw)) (by decide) (t := (.array (.array .int))) (t' := .int) (by decide) (by decide)))
  have F_counts_o := F_counts_o.other W (Or.inr (slot_ne (Or.inr (wd18 hw)) (Or.inl (wd48 hw)) (by decide) (t := (.array .int)) (t' := .int) (by decide) (by decide)))
  have F_rowLengths_o := F_rowLengths_o.other W (Or.inr (slot_ne (Or.inr (wd21 hw)) (Or.inl (wd48 hw)) (by decide) (t := (.array .long)) (t' := .int) (by decide) (by decide)))
  have F_firstChunks_o := F_firstChunks_o.other W (Or.inr (slot_ne (Or.inr (wd23 hw)) (Or.inl (wd48 hw)) (by decide) (t := (.array .int)) (t' := .int) (by decide) (by decide)))
  have F_firsts_o := F_firsts_o.other W (Or.inr (slot_ne (Or.inr (wd25 hw)) (Or.inl (wd48 hw)) (by decide) (t := (.array .int)) (t' := .int) (by decide) (by decide)))
  have F_lastChunks_o := F_lastChunks_o.other W (Or.inr (slot_ne (Or.inr (wd27 hw)) (Or.inl (wd48 hw)) (by decide) (t := (.array .int)) (t' := .int) (by decide) (by decide)))
  have F_lasts_o := F_lasts_o.other W (Or.inr (slot_ne (Or.inr (wd29 hw)) (Or.inl (wd48 hw)) (by decide) (t := (.array .int)) (t' := .int) (by decide) (by decide)))
  have F_receivers_o := F_receivers_o.other W (Or.inr (slot_ne (Or.inr (wd31 hw)) (Or.inl (wd48 hw)) (by decide) (t := (.array .int)) (t' := .int) (by decide) (by decide)))
  have F_chunk_o := F_chunk_o.other W (Or.inr (slot_ne (Or.inl (wd46 hw)) (Or.inl (wd48 hw)) (by decide) (t := .int) (t' := .int) (by decide) (by decide)))
  have F_length_o := F_length_o.other W (Or.inr (slot_ne (Or.inl (wd44 hw)) (Or.inl (wd48 hw)) (by decide) (t := .int) (t' := .int) (by decide) (by decide)))
  have F_receiverCount_o := F_receiverCount_o.same W
  have F_total_o := F_total_o.other W (Or.inr (slot_ne (Or.inl (wd54 hw)) (Or.inl (wd48 hw)) (by decide) (t := .int) (t' := .int) (by decide) (by decide)))
  have F_rowLength_o := F_rowLength_o.other W (Or.inr (slot_ne (Or.inl (wd56 hw)) (Or.inl (wd48 hw)) (by decide) (t := .long) (t' := .int) (by decide) (by decide)))
  have R_ck := R_ck.other W (Ne.symm ne_o_ck)
  have V_rl := V_rl.other W (Ne.symm ne_o_rl)
  have V_cn := V_cn.other W (Ne.symm ne_o_cn)
  have V_fc := V_fc.other W (Ne.symm ne_o_fc)
  have V_fs := V_fs.other W (Ne.symm ne_o_fs)
  have V_lc := V_lc.other W (Ne.symm ne_o_lc)
  have V_la := V_la.other W (Ne.symm ne_o_la)
  have V_rv := V_rv.other W (Ne.symm ne_o_rv)
  have V_ch := V_ch.other W (Ne.symm ne_o_ch)
  have K := K.wr W (Or.inl (List.mem_of_getElem? (i := 0) rfl))
  have V_ar := V_ar.other W ne_ar_o
  refine aloadN w X d3_67 68 rfl rfl rfl ?_
  refine getfield w X (wd22 hw) Via.refl F_firstChunks_o d3_68 71 rfl (fun T X => ?_)
  refine iloadN w X d3_71 72 rfl rfl ?_
  refine aloadN w X d3_72 73 rfl rfl rfl ?_
  refine getfield w X (wd45 hw) Via.refl F_chunk_o d3_73 76 rfl (fun T X => ?_)
  refine iastore w X V_fc (by decide) 1 rfl (Nat.le_of_ble_eq_true rfl) g_fc d3_76 77 rfl (0 : Int32) rfl (fun T h6 X W V_fc => ?_)
  have V_fc : PA Z h6 fc .int [f0, (0 : Int32)] := V_fc
  have zn : n0 ≤ h6.size := W.size ▸ zn
  have E_o := E_o.wr W
  have F_chunks_o := F_chunks_o.other W (Or.inl ne_o_fc)
  have F_counts_o := F_counts_o.other W (Or.inl ne_o_fc)
  have F_rowLengths_o := F_rowLengths_o.other W (Or.inl ne_o_fc)
  have F_firstChunks_o := F_firstChunks_o.other W (Or.inl ne_o_fc)
  have F_firsts_o := F_firsts_o.other W (Or.inl ne_o_fc)
  have F_lastChunks_o := F_lastChunks_o.other W (Or.inl ne_o_fc)
  have F_lasts_o := F_lasts_o.other W (Or.inl ne_o_fc)
  have F_receivers_o := F_receivers_o.other W (Or.inl ne_o_fc)
  have F_chunk_o := F_chunk_o.other W (Or.inl ne_o_fc)
  have F_length_o := F_length_o.other W (Or.inl ne_o_fc)
  have F_receiverCount_o := F_receiverCount_o.other W (Or.inl ne_o_fc)
  have F_total_o := F_total_o.other W (Or.inl ne_o_fc)
  have F_rowLength_o := F_rowLength_o.other W (Or.inl ne_o_fc)
  have R_ck := R_ck.other W ne_ck_fc
  have V_rl := V_rl.other W ne_rl_fc
  have V_cn := V_cn.other W ne_cn_fc
  have V_fs := V_fs.other W (Ne.symm ne_fc_fs)
  have V_lc := V_lc.other W (Ne.symm ne_fc_lc)
  have V_la := V_la.other W (Ne.symm ne_fc_la)
  have V_rv := V_rv.other W (Ne.symm ne_fc_rv)
  have V_ch := V_ch.other W ne_ch_fc
  have K := K.wr W (Or.inl (List.mem_of_getElem? (i := 4) rfl))
  have V_ar := V_ar.other W ne_ar_fc
  refine aloadN w X d3_77 78 rfl rfl rfl ?_
  refine getfield w X (wd24 hw) Via.refl F_firsts_o d3_78 81 rfl (fun T X => ?_)
  refine iloadN w X d3_81 82 rfl rfl ?_
  refine aloadN w X d3_82 83 rfl rfl rfl ?_
  refine getfield w X (wd43 hw) Via.refl F_length_o d3_83 86 rfl (fun T X => ?_)
  refine iastore w X V_fs (by decide) 1 rfl (Nat.le_of_ble_eq_true rfl) g_fs d3_86 87 rfl len rfl (fun T h7 X W V_fs => ?_)
  have V_fs : PA Z h7 fs .int [y0, len] := V_fs
  have zn : n0 ≤ h7.size := W.size ▸ zn
  have E_o := E_o.wr W
  have F_chunks_o := F_chunks_o.other W (Or.inl ne_o_fs)
  have F_counts_o := F_counts_o.other W (Or.inl ne_o_fs)
  have F_rowLengths_o := F_rowLengths_o.other W (Or.inl ne_o_fs)
  have F_firstChunks_o := F_firstChunks_o.other W (Or.inl ne_o_fs)
  have F_firsts_o := F_firsts_o.other W (Or.inl ne_o_fs)
  have F_lastChunks_o := F_lastChunks_o.other W (Or.inl ne_o_fs)
  have F_lasts_o := F_lasts_o.other W (Or.inl ne_o_fs)
  have F_receivers_o := F_receivers_o.other W (Or.inl ne_o_fs)
  have F_chunk_o := F_chunk_o.other W (Or.inl ne_o_fs)
  have F_length_o := F_length_o.other W (Or.inl ne_o_fs)
  have F_receiverCount_o := F_receiverCount_o.other W (Or.inl ne_o_fs)
  have F_total_o := F_total_o.other W (Or.inl ne_o_fs)
  have F_rowLength_o := F_rowLength_o.other W (Or.inl ne_o_fs)
  have R_ck := R_ck.other W ne_ck_fs
  have V_rl := V_rl.other W ne_rl_fs
  have V_cn := V_cn.other W ne_cn_fs
  have V_fc := V_fc.other W ne_fc_fs
  have V_lc := V_lc.other W (Ne.symm ne_fs_lc)
  have V_la := V_la.other W (Ne.symm ne_fs_la)
  have V_rv := V_rv.other W (Ne.symm ne_fs_rv)
  have V_ch := V_ch.other W ne_ch_fs
  have K := K.wr W (Or.inl (List.mem_of_getElem? (i := 5) rfl))
  have V_ar := V_ar.other W ne_ar_fs
  refine goto w X d3_87 136 (by decide) (by decide) ?_
  refine aloadN w X d3_136 137 rfl rfl rfl ?_
  refine getfield w X (wd26 hw) Via.refl F_lastChunks_o d3_137 140 rfl (fun T X => ?_)
  refine iloadN w X d3_140 141 rfl rfl ?_
  refine aloadN w X d3_141 142 rfl rfl rfl ?_
  refine getfield w X (wd45 hw) Via.refl F_chunk_o d3_142 145 rfl (fun T X => ?_)
  refine iastore w X V_lc (by decide) 1 rfl (Nat.le_of_ble_eq_true rfl) g_lc d3_145 146 rfl (0 : Int32) rfl (fun T h8 X W V_lc => ?_)
  have V_lc : PA Z h8 lc .int [q0, (0 : Int32)] := V_lc
  have zn : n0 ≤ h8.size := W.size ▸ zn
  have E_o := E_o.wr W
  have F_chunks_o := F_chunks_o.other W (Or.inl ne_o_lc)
  have F_counts_o := F_counts_o.other W (Or.inl ne_o_lc)
  have F_rowLengths_o := F_rowLengths_o.other W (Or.inl ne_o_lc)
  have F_firstChunks_o := F_firstChunks_o.other W (Or.inl ne_o_lc)
  have F_firsts_o := F_firsts_o.other W (Or.inl ne_o_lc)
  have F_lastChunks_o := F_lastChunks_o.other W (Or.inl ne_o_lc)
  have F_lasts_o := F_lasts_o.other W (Or.inl ne_o_lc)
  have F_receivers_o := F_receivers_o.other W (Or.inl ne_o_lc)
  have F_chunk_o := F_chunk_o.other W (Or.inl ne_o_lc)
  have F_length_o := F_length_o.other W (Or.inl ne_o_lc)
  have F_receiverCount_o := F_receiverCount_o.other W (Or.inl ne_o_lc)
  have F_total_o := F_total_o.other W (Or.inl ne_o_lc)
  have F_rowLength_o := F_rowLength_o.other W (Or.inl ne_o_lc)
  have R_ck := R_ck.other W ne_ck_lc
  have V_rl := V_rl.other W ne_rl_lc
  have V_cn := V_cn.other W ne_cn_lc
  have V_fc := V_fc.other W ne_fc_lc
  have V_fs := V_fs.other W ne_fs_lc
  have V_la := V_la.other W (Ne.symm ne_lc_la)
  have V_rv := V_rv.other W (Ne.symm ne_lc_rv)
  have V_ch := V_ch.other W ne_ch_lc
  have K := K.wr W (Or.inl (List.mem_of_getElem? (i := 6) rfl))
  have V_ar := V_ar.other W ne_ar_lc
  refine aloadN w X d3_146 147 rfl rfl rfl ?_
  refine getfield w X (wd28 hw) Via.refl F_lasts_o d3_147 150 rfl (fun T X => ?_)
  refine iloadN w X d3_150 151 rfl rfl ?_
  refine aloadN w X d3_151 152 rfl rfl rfl ?_
  refine getfield w X (wd43 hw) Via.refl F_length_o d3_152 155 rfl (fun T X => ?_)
  refine iastore w X V_la (by decide) 1 rfl (Nat.le_of_ble_eq_true rfl) g_la d3_155 156 rfl len rfl (fun T h9 X W V_la => ?_)
  have V_la : PA Z h9 la .int [z0, len] := V_la
  have zn : n0 ≤ h9.size := W.size ▸ zn
  have E_o := E_o.wr W
  have F_chunks_o := F_chunks_o.other W (Or.inl ne_o_la)
  have F_counts_o := F_counts_o.other W (Or.inl ne_o_la)
  have F_rowLengths_o := F_rowLengths_o.other W (Or.inl ne_o_la)
  have F_firstChunks_o := F_firstChunks_o.other W (Or.inl ne_o_la)
  have F_firsts_o := F_firsts_o.other W (Or.inl ne_o_la)
  have F_lastChunks_o := F_lastChunks_o.other W (Or.inl ne_o_la)
  have F_lasts_o := F_lasts_o.other W (Or.inl ne_o_la)
  have F_receivers_o := F_receivers_o.other W (Or.inl ne_o_la)
  have F_chunk_o := F_chunk_o.other W (Or.inl ne_o_la)
  have F_length_o := F_length_o.other W (Or.inl ne_o_la)
  have F_receiverCount_o := F_receiverCount_o.other W (Or.inl ne_o_la)
  have F_total_o := F_total_o.other W (Or.inl ne_o_la)
  have F_rowLength_o := F_rowLength_o.other W (Or.inl ne_o_la)
  have R_ck := R_ck.other W ne_ck_la
  have V_rl := V_rl.other W ne_rl_la
  have V_cn := V_cn.other W ne_cn_la
  have V_fc := V_fc.other W ne_fc_la
  have V_fs := V_fs.other W ne_fs_la
  have V_lc := V_lc.other W ne_lc_la
  have V_rv := V_rv.other W (Ne.symm ne_la_rv)
  have V_ch := V_ch.other W ne_ch_la
  have K := K.wr W (Or.inl (List.mem_of_getElem? (i := 7) rfl))
  have V_ar := V_ar.other W ne_ar_la
  refine aloadN w X d3_156 157 rfl rfl rfl ?_
  refine getfield w X (wd17 hw) Via.refl F_counts_o d3_157 160 rfl (fun T X => ?_)
  refine iloadN w X d3_160 161 rfl rfl ?_
  refine dup2 w X d3_161 162 rfl rfl rfl ?_
  refine iaload w X V_cn (by decide) 1 rfl (Nat.le_of_ble_eq_true rfl) d3_162 163 rfl (0 : Int32) rfl ?_
  refine iconst w X (1 : Int32) d3_163 164 rfl rfl ?_
  refine iadd w X (1 : Int32) d3_164 165 rfl (by decide) ?_
  refine iastore w X V_cn (by decide) 1 rfl (Nat.le_of_ble_eq_true rfl) g_cn d3_165 166 rfl (1 : Int32) rfl (fun T h10 X W V_cn => ?_)
  have V_cn : PA Z h10 cn .int [(1 : Int32), (1 : Int32)] := V_cn
  have zn : n0 ≤ h10.size := W.size ▸ zn
  have E_o := E_o.wr W
  have F_chunks_o := F_chunks_o.other W (Or.inl ne_o_cn)
  have F_counts_o := F_counts_o.other W (Or.inl ne_o_cn)
  have F_rowLengths_o := F_rowLengths_o.other W (Or.inl ne_o_cn)
  have F_firstChunks_o := F_firstChunks_o.other W (Or.inl ne_o_cn)
  have F_firsts_o := F_firsts_o.other W (Or.inl ne_o_cn)
  have F_lastChunks_o := F_lastChunks_o.other W (Or.inl ne_o_cn)
  have F_lasts_o := F_lasts_o.other W (Or.inl ne_o_cn)
  have F_receivers_o := F_receivers_o.other W (Or.inl ne_o_cn)
  have F_chunk_o := F_chunk_o.other W (Or.inl ne_o_cn)
  have F_length_o := F_length_o.other W (Or.inl ne_o_cn)
  have F_receiverCount_o := F_receiverCount_o.other W (Or.inl ne_o_cn)
  have F_total_o := F_total_o.other W (Or.inl ne_o_cn)
  have F_rowLength_o := F_rowLength_o.other W (Or.inl ne_o_cn)
  have R_ck := R_ck.other W ne_ck_cn
  have V_rl := V_rl.other W (Ne.symm ne_cn_rl)
  have V_fc := V_fc.other W (Ne.symm ne_cn_fc)
  have V_fs := V_fs.other W (Ne.symm ne_cn_fs)
  have V_lc := V_lc.other W (Ne.symm ne_cn_lc)
  have V_la := V_la.other W (Ne.symm ne_cn_la)
  have V_rv := V_rv.other W (Ne.symm ne_cn_rv)
  have V_ch := V_ch.other W ne_ch_cn
  have K := K.wr W (Or.inl (List.mem_of_getElem? (i := 2) rfl))
  have V_ar := V_ar.other W ne_ar_cn
  refine aloadN w X d3_166 167 rfl rfl rfl ?_
  refine getfield w X (wd12 hw) Via.refl F_chunks_o d3_167 170 rfl (fun T X => ?_)
  refine aloadN w X d3_170 171 rfl rfl rfl ?_
  refine getfield w X (wd45 hw) Via.refl F_chunk_o d3_171 174 rfl (fun T X => ?_)
  refine aaload0 w X R_ck rfl d3_174 175 rfl ?_
  refine astore w X d3_175 177 rfl rfl #[.val (.ref o), .val (.int (1 : Int32)), .val (.int hd), .val (.ref ar), .val (.int (0 : Int32)), .val (.int w5), .val (.int r1), .val (.ref ch)] rfl ?_
  refine aload w X d3_177 179 rfl rfl rfl ?_
  refine aloadN w X d3_179 180 rfl rfl rfl ?_
  refine getfield w X (wd43 hw) Via.refl F_length_o d3_180 183 rfl (fun T X => ?_)
  refine iconst w X (2 : Int32) d3_183 184 rfl rfl ?_
  refine iadd w X (len + (2 : Int32)) d3_184 185 rfl rfl ?_
  refine iloadN w X d3_185 186 rfl rfl ?_
  have hx0 := own_ix (k := (2 : Int32)) hlen (by decide)
  have hx11 := hx0.2
  refine iastore w X V_ch hx0.1 (len + (2 : Int32)).toNatClampNeg rfl (by rw [hbs]; omega) g_ch d3_186 187 rfl hd rfl (fun T h11 X W V_ch => ?_)
  have zn : n0 ≤ h11.size := W.size ▸ zn
  have E_o := E_o.wr W
  have F_chunks_o := F_chunks_o.other W (Or.inl ne_o_ch)
  have F_counts_o := F_counts_o.other W (Or.inl ne_o_ch)
  have F_rowLengths_o := F_rowLengths_o.other W (Or.inl ne_o_ch)
  have F_firstChunks_o := F_firstChunks_o.other W (Or.inl ne_o_ch)
  have F_firsts_o := F_firsts_o.other W (Or.inl ne_o_ch)
  have F_lastChunks_o := F_lastChunks_o.other W (Or.inl ne_o_ch)
  have F_lasts_o := F_lasts_o.other W (Or.inl ne_o_ch)
  have F_receivers_o := F_receivers_o.other W (Or.inl ne_o_ch)
  have F_chunk_o := F_chunk_o.other W (Or.inl ne_o_ch)
  have F_length_o := F_length_o.other W (Or.inl ne_o_ch)
  have F_receiverCount_o := F_receiverCount_o.other W (Or.inl ne_o_ch)
  have F_total_o := F_total_o.other W (Or.inl ne_o_ch)
  have F_rowLength_o := F_rowLength_o.other W (Or.inl ne_o_ch)
  have R_ck := R_ck.other W ne_ck_ch
  have V_rl := V_rl.other W (Ne.symm ne_ch_rl)
  have V_cn := V_cn.other W (Ne.symm ne_ch_cn)
  have V_fc := V_fc.other W (Ne.symm ne_ch_fc)
  have V_fs := V_fs.other W (Ne.symm ne_ch_fs)
  have V_lc := V_lc.other W (Ne.symm ne_ch_lc)
  have V_la := V_la.other W (Ne.symm ne_ch_la)
  have V_rv := V_rv.other W (Ne.symm ne_ch_rv)
  have K := K.wr W (Or.inl (List.mem_of_getElem? (i := 1) rfl))
  have V_ar := V_ar.other W ne_ar_ch
  obtain ⟨bs, V_ch, hbs⟩ : ∃ bs' : List Int32, PA Z h11 ch .int bs' ∧ bs'.length = 4096 := ⟨_, V_ch, by rw [List.length_set]; exact hbs⟩
  refine aload w X d3_187 189 rfl rfl rfl ?_
  refine aloadN w X d3_189 190 rfl rfl rfl ?_
  refine getfield w X (wd43 hw) Via.refl F_length_o d3_190 193 rfl (fun T X => ?_)
  refine iconst w X (3 : Int32) d3_193 194 rfl rfl ?_
  refine iadd w X (len + (3 : Int32)) d3_194 195 rfl rfl ?_
  refine iload w X d3_195 197 rfl rfl ?_
  have hx0 := own_ix (k := (3 : Int32)) hlen (by decide)
  have hx11 := hx0.2
  refine iastore w X V_ch hx0.1 (len + (3 : Int32)).toNatClampNeg rfl (by rw [hbs]; omega) g_ch d3_197 198 rfl w5 rfl (fun T h12 X W V_ch => ?_)
  have zn : n0 ≤ h12.size := W.size ▸ zn
  have E_o := E_o.wr W
  have F_chunks_o := F_chunks_o.other W (Or.inl ne_o_ch)
  have F_counts_o := F_counts_o.other W (Or.inl ne_o_ch)
  have F_rowLengths_o := F_rowLengths_o.other W (Or.inl ne_o_ch)
  have F_firstChunks_o := F_firstChunks_o.other W (Or.inl ne_o_ch)
  have F_firsts_o := F_firsts_o.other W (Or.inl ne_o_ch)
  have F_lastChunks_o := F_lastChunks_o.other W (Or.inl ne_o_ch)
  have F_lasts_o := F_lasts_o.other W (Or.inl ne_o_ch)
  have F_receivers_o := F_receivers_o.other W (Or.inl ne_o_ch)
  have F_chunk_o := F_chunk_o.other W (Or.inl ne_o_ch)
  have F_length_o := F_length_o.other W (Or.inl ne_o_ch)
  have F_receiverCount_o := F_receiverCount_o.other W (Or.inl ne_o_ch)
  have F_total_o := F_total_o.other W (Or.inl ne_o_ch)
  have F_rowLength_o := F_rowLength_o.other W (Or.inl ne_o_ch)
  have R_ck := R_ck.other W ne_ck_ch
  have V_rl := V_rl.other W (Ne.symm ne_ch_rl)
  have V_cn := V_cn.other W (Ne.symm ne_ch_cn)
  have V_fc := V_fc.other W (Ne.symm ne_ch_fc)
  have V_fs := V_fs.other W (Ne.symm ne_ch_fs)
  have V_lc := V_lc.other W (Ne.symm ne_ch_lc)
  have V_la := V_la.other W (Ne.symm ne_ch_la)
  have V_rv := V_rv.other W (Ne.symm ne_ch_rv)
  have K := K.wr W (Or.inl (List.mem_of_getElem? (i := 1) rfl))
  have V_ar := V_ar.other W ne_ar_ch
  obtain ⟨bs, V_ch, hbs⟩ : ∃ bs' : List Int32, PA Z h12 ch .int bs' ∧ bs'.length = 4096 := ⟨_, V_ch, by rw [List.length_set]; exact hbs⟩
  refine aloadN w X d3_198 199 rfl rfl rfl ?_
  refine iload w X d3_199 201 rfl rfl ?_
  refine aload w X d3_201 203 rfl rfl rfl ?_
  refine aloadN w X d3_203 204 rfl rfl rfl ?_
  refine getfield w X (wd43 hw) Via.refl F_length_o d3_204 207 rfl (fun T X => ?_)
  refine iconst w X (4 : Int32) d3_207 208 rfl rfl ?_
  refine iadd w X (len + (4 : Int32)) d3_208 209 rfl rfl ?_
  refine iload w X d3_209 211 rfl rfl ?_
  have hx0 := own_ix (k := (4 : Int32)) hlen (by decide)
  have hx11 := hx0.2
  have hcw := own_cl (x := w5) (k := 3) hw5.1 hw5.2
  refine acopyI w X (wd49 hw) (wd52 hw) (wd50 hw) (wd51 hw) V_ar V_ch (by decide) hx0.1 (own_nn hw5.1) (by show 0 + _ ≤ 3; omega) (by rw [hbs]; have h11 := hx11; omega) g_ch d3_211 214 rfl rfl (by decide) 0 (Nat.le_of_eq rfl) (by decide) (fun T h13 bs2 X Kq V_ch hb2 => ?_)
  obtain ⟨bs, V_ch, hbs⟩ : ∃ bs' : List Int32, PA Z h13 ch .int bs' ∧ bs'.length = 4096 := ⟨_, V_ch, hb2.trans hbs⟩
  have zn : n0 ≤ h13.size := Nat.le_trans zn Kq.1
  have E_o := E_o.keep Kq
  have F_chunks_o := F_chunks_o.keep Kq (ninS ne_o_ch nin0)
  have F_counts_o := F_counts_o.keep Kq (ninS ne_o_ch nin0)
  have F_rowLengths_o := F_rowLengths_o.keep Kq (ninS ne_o_ch nin0)
  have F_firstChunks_o := F_firstChunks_o.keep Kq (ninS ne_o_ch nin0)
  have F_firsts_o := F_firsts_o.keep Kq (ninS ne_o_ch nin0)
  have F_lastChunks_o := F_lastChunks_o.keep Kq (ninS ne_o_ch nin0)
  have F_lasts_o := F_lasts_o.keep Kq (ninS ne_o_ch nin0)
  have F_receivers_o := F_receivers_o.keep Kq (ninS ne_o_ch nin0)
  have F_chunk_o := F_chunk_o.keep Kq (ninS ne_o_ch nin0)
  have F_length_o := F_length_o.keep Kq (ninS ne_o_ch nin0)
  have F_receiverCount_o := F_receiverCount_o.keep Kq (ninS ne_o_ch nin0)
  have F_total_o := F_total_o.keep Kq (ninS ne_o_ch nin0)
  have F_rowLength_o := F_rowLength_o.keep Kq (ninS ne_o_ch nin0)
  have R_ck := R_ck.keep Kq (ninS ne_ck_ch nin0)
  have V_rl := V_rl.keep Kq (ninS (Ne.symm ne_ch_rl) nin0)
  have V_cn := V_cn.keep Kq (ninS (Ne.symm ne_ch_cn) nin0)
  have V_fc := V_fc.keep Kq (ninS (Ne.symm ne_ch_fc) nin0)
  have V_fs := V_fs.keep Kq (ninS (Ne.symm ne_ch_fs) nin0)
  have V_lc := V_lc.keep Kq (ninS (Ne.symm ne_ch_lc) nin0)
  have V_la := V_la.keep Kq (ninS (Ne.symm ne_ch_la) nin0)
  have V_rv := V_rv.keep Kq (ninS (Ne.symm ne_ch_rv) nin0)
  have K := K.trans Kq (allS (Or.inl (List.mem_of_getElem? (i := 1) rfl)) all0)
  have V_ar := V_ar.keep Kq (ninS ne_ar_ch nin0)
  refine aloadN w X d3_214 215 rfl rfl rfl ?_
  refine dup w X d3_215 216 rfl rfl ?_
  refine getfield w X (wd43 hw) Via.refl F_length_o d3_216 219 rfl (fun T X => ?_)
  refine iload w X d3_219 221 rfl rfl ?_
  refine iadd w X (len + r1) d3_221 222 rfl rfl ?_
  refine putfield w X (wd43 hw) Via.refl F_length_o E_o (Or.inl (wd44 hw)) (wd2 hw) (ty := .int) (by decide) rfl rfl g_o d3_222 225 rfl (fun T h14 X W => ?_)
  have zn : n0 ≤ h14.size := W.size ▸ zn
  have E_o := E_o.wr W
  have F_chunks_o := F_chunks_o.other W (Or.inr (slot_ne (Or.inl (wd13 hw)) (Or.inl (wd44 hw)) (by decide) (t := (.array (.array .int))) (t' := .int) (by decide) (by decide)))
  have F_counts_o := F_counts_o.other W (Or.inr (slot_ne (Or.inr (wd18 hw)) (Or.inl (wd44 hw)) (by decide) (t := (.array .int)) (t' := .int) (by decide) (by decide)))
  have F_rowLengths_o := F_rowLengths_o.other W (Or.inr (slot_ne (Or.inr (wd21 hw)) (Or.inl (wd44 hw)) (by decide) (t := (.array .long)) (t' := .int) (by decide) (by decide)))
  have F_firstChunks_o := F_firstChunks_o.other W (Or.inr (slot_ne (Or.inr (wd23 hw)) (Or.inl (wd44 hw)) (by decide) (t := (.array .int)) (t' := .int) (by decide) (by decide)))
  have F_firsts_o := F_firsts_o.other W (Or.inr (slot_ne (Or.inr (wd25 hw)) (Or.inl (wd44 hw)) (by decide) (t := (.array .int)) (t' := .int) (by decide) (by decide)))
  have F_lastChunks_o := F_lastChunks_o.other W (Or.inr (slot_ne (Or.inr (wd27 hw)) (Or.inl (wd44 hw)) (by decide) (t := (.array .int)) (t' := .int) (by decide) (by decide)))
  have F_lasts_o := F_lasts_o.other W (Or.inr (slot_ne (Or.inr (wd29 hw)) (Or.inl (wd44 hw)) (by decide) (t := (.array .int)) (t' := .int) (by decide) (by decide)))
  have F_receivers_o := F_receivers_o.other W (Or.inr (slot_ne (Or.inr (wd31 hw)) (Or.inl (wd44 hw)) (by decide) (t := (.array .int)) (t' := .int) (by decide) (by decide)))
  have F_chunk_o := F_chunk_o.other W (Or.inr (slot_ne (Or.inl (wd46 hw)) (Or.inl (wd44 hw)) (by decide) (t := .int) (t' := .int) (by decide) (by decide)))
  have F_length_o := F_length_o.same W
  have F_receiverCount_o := F_receiverCount_o.other W (Or.inr (slot_ne (Or.inl (wd48 hw)) (Or.inl (wd44 hw)) (by decide) (t := .int) (t' := .int) (by decide) (by decide)))
  have F_total_o := F_total_o.other W (Or.inr (slot_ne (Or.inl (wd54 hw)) (Or.inl (wd44 hw)) (by decide) (t := .int) (t' := .int) (by decide) (by decide)))
  have F_rowLength_o := F_rowLength_o.other W (Or.inr (slot_ne (Or.inl (wd56 hw)) (Or.inl (wd44 hw)) (by decide) (t := .long) (t' := .int) (by decide) (by decide)))
  have R_ck := R_ck.other W (Ne.symm ne_o_ck)
  have V_rl := V_rl.other W (Ne.symm ne_o_rl)
  have V_cn := V_cn.other W (Ne.symm ne_o_cn)
  have V_fc := V_fc.other W (Ne.symm ne_o_fc)
  have V_fs := V_fs.other W (Ne.symm ne_o_fs)
  have V_lc := V_lc.other W (Ne.symm ne_o_lc)
  have V_la := V_la.other W (Ne.symm ne_o_la)
  have V_rv := V_rv.other W (Ne.symm ne_o_rv)
  have K := K.wr W (Or.inl (List.mem_of_getElem? (i := 0) rfl))
  have V_ar := V_ar.other W ne_ar_o
  have V_ch := V_ch.other W (Ne.symm ne_o_ch)
  refine aloadN w X d3_225 226 rfl rfl rfl ?_
  refine dup w X d3_226 227 rfl rfl ?_
  refine getfield w X (wd53 hw) Via.refl F_total_o d3_227 230 rfl (fun T X => ?_)
  refine iconst w X (1 : Int32) d3_230 231 rfl rfl ?_
  refine iadd w X (2 : Int32) d3_231 232 rfl (by decide) ?_
  refine putfield w X (wd53 hw) Via.refl F_total_o E_o (Or.inl (wd54 hw)) (wd2 hw) (ty := .int) (by decide) rfl rfl g_o d3_232 235 rfl (fun T h15 X W => ?_)
  have zn : n0 ≤ h15.size := W.size ▸ zn
  have E_o := E_o.wr W
  have F_chunks_o := F_chunks_o.other W (Or.inr (slot_ne (Or.inl (wd13 hw)) (Or.inl (wd54 hw)) (by decide) (t := (.array (.array .int))) (t' := .int) (by decide) (by decide)))
  have F_counts_o := F_counts_o.other W (Or.inr (slot_ne (Or.inr (wd18 hw)) (Or.inl (wd54 hw)) (by decide) (t := (.array .int)) (t' := .int) (by decide) (by decide)))
  have F_rowLengths_o := F_rowLengths_o.other W (Or.inr (slot_ne (Or.inr (wd21 hw)) (Or.inl (wd54 hw)) (by decide) (t := (.array .long)) (t' := .int) (by decide) (by decide)))
  have F_firstChunks_o := F_firstChunks_o.other W (Or.inr (slot_ne (Or.inr (wd23 hw)) (Or.inl (wd54 hw)) (by decide) (t := (.array .int)) (t' := .int) (by decide) (by decide)))
  have F_firsts_o := F_firsts_o.other W (Or.inr (slot_ne (Or.inr (wd25 hw)) (Or.inl (wd54 hw)) (by decide) (t := (.array .int)) (t' := .int) (by decide) (by decide)))
  have F_lastChunks_o := F_lastChunks_o.other W (Or.inr (slot_ne (Or.inr (wd27 hw)) (Or.inl (wd54 hw)) (by decide) (t := (.array .int)) (t' := .int) (by decide) (by decide)))
  have F_lasts_o := F_lasts_o.other W (Or.inr (slot_ne (Or.inr (wd29 hw)) (Or.inl (wd54 hw)) (by decide) (t := (.array .int)) (t' := .int) (by decide) (by decide)))
  have F_receivers_o := F_receivers_o.other W (Or.inr (slot_ne (Or.inr (wd31 hw)) (Or.inl (wd54 hw)) (by decide) (t := (.array .int)) (t' := .int) (by decide) (by decide)))
  have F_chunk_o := F_chunk_o.other W (Or.inr (slot_ne (Or.inl (wd46 hw)) (Or.inl (wd54 hw)) (by decide) (t := .int) (t' := .int) (by decide) (by decide)))
  have F_length_o := F_length_o.other W (Or.inr (slot_ne (Or.inl (wd44 hw)) (Or.inl (wd54 hw)) (by decide) (t := .int) (t' := .int) (by decide) (by decide)))
  have F_receiverCount_o := F_receiverCount_o.other W (Or.inr (slot_ne (Or.inl (wd48 hw)) (Or.inl (wd54 hw)) (by decide) (t := .int) (t' := .int) (by decide) (by decide)))
  have F_total_o := F_total_o.same W
  have F_rowLength_o := F_rowLength_o.other W (Or.inr (slot_ne (Or.inl (wd56 hw)) (Or.inl (wd54 hw)) (by decide) (t := .long) (t' := .int) (by decide) (by decide)))
  have R_ck := R_ck.other W (Ne.symm ne_o_ck)
  have V_rl := V_rl.other W (Ne.symm ne_o_rl)
  have V_cn := V_cn.other W (Ne.symm ne_o_cn)
  have V_fc := V_fc.other W (Ne.symm ne_o_fc)
  have V_fs := V_fs.other W (Ne.symm ne_o_fs)
  have V_lc := V_lc.other W (Ne.symm ne_o_lc)
  have V_la := V_la.other W (Ne.symm ne_o_la)
  have V_rv := V_rv.other W (Ne.symm ne_o_rv)
  have K := K.wr W (Or.inl (List.mem_of_getElem? (i := 0) rfl))
  have V_ar := V_ar.other W ne_ar_o
  have V_ch := V_ch.other W (Ne.symm ne_o_ch)
  refine aloadN w X d3_235 236 rfl rfl rfl ?_
  refine getfield w X (wd20 hw) Via.refl F_rowLengths_o d3_236 239 rfl (fun T X => ?_)
  refine iloadN w X d3_239 240 rfl rfl ?_
  refine dup2 w X d3_240 241 rfl rfl rfl ?_
  refine laload w X V_rl (by decide) 1 rfl (Nat.le_of_ble_eq_true rfl) d3_241 242 rfl x1 rfl ?_
  refine iconst w X (2 : Int32) d3_242 243 rfl rfl ?_
  refine iload w X d3_243 245 rfl rfl ?_
  refine iadd w X ((2 : Int32) + w5) d3_245 246 rfl rfl ?_
  refine i2l w X (((2 : Int32) + w5).toInt64) d3_246 247 rfl rfl ?_
  refine ladd w X (x1 + (((2 : Int32) + w5).toInt64)) d3_247 248 rfl rfl ?_
  refine lastore w X V_rl (by decide) 1 rfl (Nat.le_of_ble_eq_true rfl) g_rl d3_248 249 rfl (fun T h16 X W V_rl => ?_)
  have V_rl : PJ Z h16 rl [x0, (x1 + (((2 : Int32) + w5).toInt64))] := V_rl
  have zn : n0 ≤ h16.size := W.size ▸ zn
  have E_o := E_o.wr W
  have F_chunks_o := F_chunks_o.other W (Or.inl ne_o_rl)
  have F_counts_o := F_counts_o.other W (Or.inl ne_o_rl)
  have F_rowLengths_o := F_rowLengths_o.other W (Or.inl ne_o_rl)
  have F_firstChunks_o := F_firstChunks_o.other W (Or.inl ne_o_rl)
  have F_firsts_o := F_firsts_o.other W (Or.inl ne_o_rl)
  have F_lastChunks_o := F_lastChunks_o.other W (Or.inl ne_o_rl)
  have F_lasts_o := F_lasts_o.other W (Or.inl ne_o_rl)
  have F_receivers_o := F_receivers_o.other W (Or.inl ne_o_rl)
  have F_chunk_o := F_chunk_o.other W (Or.inl ne_o_rl)
  have F_length_o := F_length_o.other W (Or.inl ne_o_rl)
  have F_receiverCount_o := F_receiverCount_o.other W (Or.inl ne_o_rl)
  have F_total_o := F_total_o.other W (Or.inl ne_o_rl)
  have F_rowLength_o := F_rowLength_o.other W (Or.inl ne_o_rl)
  have R_ck := R_ck.other W ne_ck_rl
  have V_cn := V_cn.other W ne_cn_rl
  have V_fc := V_fc.other W (Ne.symm ne_rl_fc)
  have V_fs := V_fs.other W (Ne.symm ne_rl_fs)
  have V_lc := V_lc.other W (Ne.symm ne_rl_lc)
  have V_la := V_la.other W (Ne.symm ne_rl_la)
  have V_rv := V_rv.other W (Ne.symm ne_rl_rv)
  have K := K.wr W (Or.inl (List.mem_of_getElem? (i := 3) rfl))
  have V_ar := V_ar.other W ne_ar_rl
  have V_ch := V_ch.other W ne_ch_rl
  refine aloadN w X d3_249 250 rfl rfl rfl ?_
  refine dup w X d3_250 251 rfl rfl ?_
  refine getfield w X (wd55 hw) Via.refl F_rowLength_o d3_251 254 rfl (fun T X => ?_)
  refine iconst w X (2 : Int32) d3_254 255 rfl rfl ?_
  refine iload w X d3_255 257 rfl rfl ?_
  refine iadd w X ((2 : Int32) + w5) d3_257 258 rfl rfl ?_
  refine i2l w X (((2 : Int32) + w5).toInt64) d3_258 259 rfl rfl ?_
  refine ladd w X (tl + (((2 : Int32) + w5).toInt64)) d3_259 260 rfl rfl ?_
  refine putfield w X (wd55 hw) Via.refl F_rowLength_o E_o (Or.inl (wd56 hw)) (wd2 hw) (ty := .long) (by decide) rfl rfl g_o d3_260 263 rfl (fun T h17 X W => ?_)
  have zn : n0 ≤ h17.size := W.size ▸ zn
  have E_o := E_o.wr W
  have F_chunks_o := F_chunks_o.other W (Or.inr (slot_ne (Or.inl (wd13 hw)) (Or.inl (wd56 hw)) (by decide) (t := (.array (.array .int))) (t' := .long) (by decide) (by decide)))
  have F_counts_o := F_counts_o.other W (Or.inr (slot_ne (Or.inr (wd18 hw)) (Or.inl (wd56 hw)) (by decide) (t := (.array .int)) (t' := .long) (by decide) (by decide)))
  have F_rowLengths_o := F_rowLengths_o.other W (Or.inr (slot_ne (Or.inr (wd21 hw)) (Or.inl (wd56 hw)) (by decide) (t := (.array .long)) (t' := .long) (by decide) (by decide)))
  have F_firstChunks_o := F_firstChunks_o.other W (Or.inr (slot_ne (Or.inr (wd23 hw)) (Or.inl (wd56 hw)) (by decide) (t := (.array .int)) (t' := .long) (by decide) (by decide)))
  have F_firsts_o := F_firsts_o.other W (Or.inr (slot_ne (Or.inr (wd25 hw)) (Or.inl (wd56 hw)) (by decide) (t := (.array .int)) (t' := .long) (by decide) (by decide)))
  have F_lastChunks_o := F_lastChunks_o.other W (Or.inr (slot_ne (Or.inr (wd27 hw)) (Or.inl (wd56 hw)) (by decide) (t := (.array .int)) (t' := .long) (by decide) (by decide)))
  have F_lasts_o := F_lasts_o.other W (Or.inr (slot_ne (Or.inr (wd29 hw)) (Or.inl (wd56 hw)) (by decide) (t := (.array .int)) (t' := .long) (by decide) (by decide)))
  have F_receivers_o := F_receivers_o.other W (Or.inr (slot_ne (Or.inr (wd31 hw)) (Or.inl (wd56 hw)) (by decide) (t := (.array .int)) (t' := .long) (by decide) (by decide)))
  have F_chunk_o := F_chunk_o.other W (Or.inr (slot_ne (Or.inl (wd46 hw)) (Or.inl (wd56 hw)) (by decide) (t := .int) (t' := .long) (by decide) (by decide)))
  have F_length_o := F_length_o.other W (Or.inr (slot_ne (Or.inl (wd44 hw)) (Or.inl (wd56 hw)) (by decide) (t := .int) (t' := .long) (by decide) (by decide)))
  have F_receiverCount_o := F_receiverCount_o.other W (Or.inr (slot_ne (Or.inl (wd48 hw)) (Or.inl (wd56 hw)) (by decide) (t := .int) (t' := .long) (by decide) (by decide)))
  have F_total_o := F_total_o.other W (Or.inr (slot_ne (Or.inl (wd54 hw)) (Or.inl (wd56 hw)) (by decide) (t := .int) (t' := .long) (by decide) (by decide)))
  have F_rowLength_o := F_rowLength_o.same W
  have R_ck := R_ck.other W (Ne.symm ne_o_ck)
  have V_rl := V_rl.other W (Ne.symm ne_o_rl)
  have V_cn := V_cn.other W (Ne.symm ne_o_cn)
  have V_fc := V_fc.other W (Ne.symm ne_o_fc)
  have V_fs := V_fs.other W (Ne.symm ne_o_fs)
  have V_lc := V_lc.other W (Ne.symm ne_o_lc)
  have V_la := V_la.other W (Ne.symm ne_o_la)
  have V_rv := V_rv.other W (Ne.symm ne_o_rv)
  have K := K.wr W (Or.inl (List.mem_of_getElem? (i := 0) rfl))
  have V_ar := V_ar.other W ne_ar_o
  have V_ch := V_ch.other W (Ne.symm ne_o_ch)
  refine retV w X rfl d3_263 (by decide) (by decide) ?_
  exact ⟨rfl, K, (len + r1), trivial, f0, (0 : Int32), y0, len, q0, (0 : Int32), z0, len, ⟨E_o, F_chunks_o, F_counts_o, F_rowLengths_o, F_firstChunks_o, F_firsts_o, F_lastChunks_o, F_lasts_o, F_receivers_o, F_chunk_o, F_length_o, F_receiverCount_o, F_total_o, F_rowLength_o, R_ck, V_rl, V_cn, V_fc, V_fs, V_lc, V_la, V_rv, _, V_ch, hbs⟩⟩
set_option maxRecDepth 65536 in
set_option maxHeartbeats 40000000 in
theorem rm_a2_10 {l : Launch} {Z : State} {a0 : Array Value} (hw : ∀ d ∈ tables_1, d.before a0 Z = true) (o ck ch cn rl fc fs lc la rv ar : Addr) (hd w5 a0 a1 a2 len f0 f1 y0 y1 q0 q1 z0 z1 v1 : Int32) (tl x0 x1 : Int64) (h : Heap) (n0 : Nat) (zn : n0 ≤ h.size) (OB : own_ob Z h o ck ch cn rl fc fs lc la rv (0 : Int32) len (1 : Int32) (1 : Int32) tl x0 x1 (0 : Int32) (1 : Int32) f0 f1 y0 y1 q0 q1 z0 z1 (1 : Int32) v1) (NE : own_ne o ck ch cn rl fc fs lc la rv) (GE : own_ge n0 o ck ch cn rl fc fs lc la rv) (V_ar : PA Z h ar .int [a0, a1, a2]) (NA : ar ≠ o ∧ ar ≠ ck ∧ ar ≠ ch ∧ ar ≠ cn ∧ ar ≠ rl ∧ ar ≠ fc ∧ ar ≠ fs ∧ ar ≠ lc ∧ ar ≠ la ∧ ar ≠ rv) (hw5 : 0 ≤ w5.toInt ∧ w5.toInt ≤ 3) (hlen : 0 ≤ len.toInt ∧ len.toInt ≤ 7) :
    Met l Z (⟨"com/example/vigilant_mailbox/vigilantmailbox/engine/Sends", "add", "(II[III)V"⟩ : MethodName) prog_37_method_8_code 8 none [] ({ frames := 1, cells := 0, slots := 0, locals := 40 } : Room) #[(.ref o), (.int (0 : Int32)), (.int hd), (.ref ar), (.int (0 : Int32)), (.int w5)] h n0 (RV fun h' => Keep h h' [o, ch, cn, rl, fc, fs, lc, la, rv] ∧ ∃ len' : Int32, (True) ∧ ∃ f0' f1' y0' y1' q0' q1' z0' z1' : Int32, own_ob Z h' o ck ch cn rl fc fs lc la rv (0 : Int32) len' (2 : Int32) (2 : Int32) (own_rl tl w5) (own_rl x0 w5) x1 (1 : Int32) (1 : Int32) f0' f1' y0' y1' q0' q1' z0' z1' (1 : Int32) (0 : Int32)) := by
  refine start (ls := #[.val (.ref o), .val (.int (0 : Int32)), .val (.int hd), .val (.ref ar), .val (.int (0 : Int32)), .val (.int w5), .unset, .unset]) (plainFor_of_name pn1) (fun m => by first | (simp [entryFrame, mkF, argsToLocals, Value.category]; done) | rfl) ?_
  intro p e s m below meth c T G w X
  have K := Keep.refl h [o, ch, cn, rl, fc, fs, lc, la, rv]
  obtain ⟨E_o, F_chunks_o, F_counts_o, F_rowLengths_o, F_firstChunks_o, F_firsts_o, F_lastChunks_o, F_lasts_o, F_receivers_o, F_chunk_o, F_length_o, F_receiverCount_o, F_total_o, F_rowLength_o, R_ck, V_rl, V_cn, V_fc, V_fs, V_lc, V_la, V_rv, bs, V_ch, hbs⟩ := OB
  obtain ⟨ne_o_ck, ne_o_ch, ne_o_cn, ne_o_rl, ne_o_fc, ne_o_fs, ne_o_lc, ne_o_la, ne_o_rv, ne_ck_ch, ne_ck_cn, ne_ck_rl, ne_ck_fc, ne_ck_fs, ne_ck_lc, ne_ck_la, ne_ck_rv, ne_ch_cn, ne_ch_rl, ne_ch_fc, ne_ch_fs, ne_ch_lc, ne_ch_la, ne_ch_rv, ne_cn_rl, ne_cn_fc, ne_cn_fs, ne_cn_lc, ne_cn_la, ne_cn_rv, ne_rl_fc, ne_rl_fs, ne_rl_lc, ne_rl_la, ne_rl_rv, ne_fc_fs, ne_fc_lc, ne_fc_la, ne_fc_rv, ne_fs_lc, ne_fs_la, ne_fs_rv, ne_lc_la, ne_lc_rv, ne_la_rv⟩ := NE
  obtain ⟨g_o, g_ck, g_ch, g_cn, g_rl, g_fc, g_fs, g_lc, g_la, g_rv⟩ := GE
  obtain ⟨ne_ar_o, ne_ar_ck, ne_ar_ch, ne_ar_cn, ne_ar_rl, ne_ar_fc, ne_ar_fs, ne_ar_lc, ne_ar_la, ne_ar_rv⟩ := NA
  refine ldc2J w X (wd37 hw) d3_0 3 rfl ?_
  refine iload w X d3_3 5 rfl rfl ?_
  refine i2l w X (w5.toInt64) d3_5 6 rfl rfl ?_
  refine ladd w X ((4 : Int64) + (w5.toInt64)) d3_6 7 rfl rfl ?_
  refine callSPI w X [(.long ((4 : Int64) + (w5.toInt64)))] (wd38 hw) (wd39 hw) (wd40 hw) (wd41 hw) (by decide) (rm_cc hw ((4 : Int64) + (w5.toInt64)) h n0 zn (own_x7 hw5)) d3_7 10 rfl 0 (by decide) (by decide) (lenOf pd0 rfl) rfl (Nat.le_of_eq rfl) rfl (by decide) (by decide) (fun r1 T X hq => ?_)
  have hr1 := hq
  refine istore w X r1 d3_10 12 rfl rfl #[.val (.ref o), .val (.int (0 : Int32)), .val (.int hd), .val (.ref ar), .val (.int (0 : Int32)), .val (.int w5), .val (.int r1), .unset] rfl ?_
  refine aloadN w X d3_12 13 rfl rfl rfl ?_
  refine getfield w X (wd43 hw) Via.refl F_length_o d3_13 16 rfl (fun T X => ?_)
  refine iload w X d3_16 18 rfl rfl ?_
  refine iadd w X (len + r1) d3_18 19 rfl rfl ?_
  refine aloadN w X d3_19 20 rfl rfl rfl ?_
  refine getfield w X (wd12 hw) Via.refl F_chunks_o d3_20 23 rfl (fun T X => ?_)
  refine aloadN w X d3_23 24 rfl rfl rfl ?_
  refine getfield w X (wd45 hw) Via.refl F_chunk_o d3_24 27 rfl (fun T X => ?_)
  refine aaload0 w X R_ck rfl d3_27 28 rfl ?_
  refine arraylength w X V_ch d3_28 29 rfl (4096 : Int32) (by rw [hbs]; rfl) ?_
  refine icmp_le w X d3_29 38 32 (by decide) (by decide) rfl (fun hc29_2 => ?_) (fun q => False.elim (by exact own_le (by have := own_cap (len := len) hr1 hw5 hlen; have := hw5.2; have h7 := hlen.2; omega) q))
  refine aloadN w X d3_38 39 rfl rfl rfl ?_
  refine getfield w X (wd17 hw) Via.refl F_counts_o d3_39 42 rfl (fun T X => ?_)
  refine iloadN w X d3_42 43 rfl rfl ?_
  refine iaload w X V_cn (by decide) 0 rfl (Nat.le_of_ble_eq_true rfl) d3_43 44 rfl (0 : Int32) rfl ?_
  refine if_ne w X d3_44 90 47 (by decide) (by decide) rfl (fun q => absurd q (by decide)) (fun hc44_3 => ?_)
  refine aloadN w X d3_47 48 rfl rfl rfl ?_
  refine getfield w X (wd30 hw) Via.refl F_receivers_o d3_48 51 rfl (fun T X => ?_)
  refine aloadN w X d3_51 52 rfl rfl rfl ?_
  refine getfield w X (wd47 hw) Via.refl F_receiverCount_o d3_52 55 rfl (fun T X => ?_)
  refine iloadN w X d3_55 56 rfl rfl ?_
  refine iastore w X V_rv (by decide) 1 rfl (Nat.le_of_ble_eq_true rfl) g_rv d3_56 57 rfl (0 : Int32) rfl (fun T h4 X W V_rv => ?_)
  have V_rv : PA Z h4 rv .int [(1 : Int32), (0 : Int32)] := V_rv
  have zn : n0 ≤ h4.size := W.size ▸ zn
  have E_o := E_o.wr W
  have F_chunks_o := F_chunks_o.other W (Or.inl ne_o_rv)
  have F_counts_o := F_counts_o.other W (Or.inl ne_o_rv)
  have F_rowLengths_o := F_rowLengths_o.other W (Or.inl ne_o_rv)
  have F_firstChunks_o := F_firstChunks_o.other W (Or.inl ne_o_rv)
  have F_firsts_o := F_firsts_o.other W (Or.inl ne_o_rv)
  have F_lastChunks_o := F_lastChunks_o.other W (Or.inl ne_o_rv)
  have F_lasts_o := F_lasts_o.other W (Or.inl ne_o_rv)
  have F_receivers_o := F_receivers_o.other W (Or.inl ne_o_rv)
  have F_chunk_o := F_chunk_o.other W (Or.inl ne_o_rv)
  have F_length_o := F_length_o.other W (Or.inl ne_o_rv)
  have F_receiverCount_o := F_receiverCount_o.other W (Or.inl ne_o_rv)
  have F_total_o := F_total_o.other W (Or.inl ne_o_rv)
  have F_rowLength_o := F_rowLength_o.other W (Or.inl ne_o_rv)
  have R_ck := R_ck.other W ne_ck_rv
  have V_rl := V_rl.other W ne_rl_rv
  have V_cn := V_cn.other W ne_cn_rv
  have V_fc := V_fc.other W ne_fc_rv
  have V_fs := V_fs.other W ne_fs_rv
  have V_lc := V_lc.other W ne_lc_rv
  have V_la := V_la.other W ne_la_rv
  have V_ch := V_ch.other W ne_ch_rv
  have K := K.wr W (Or.inl (List.mem_of_getElem? (i := 8) rfl))
  have V_ar := V_ar.other W ne_ar_rv
  refine aloadN w X d3_57 58 rfl rfl rfl ?_
  refine dup w X d3_58 59 rfl rfl ?_
  refine getfield w X (wd47 hw) Via.refl F_receiverCount_o d3_59 62 rfl (fun T X => ?_)
  refine iconst w X (1 : Int32) d3_62 63 rfl rfl ?_
  refine iadd w X (2 : Int32) d3_63 64 rfl (by decide) ?_
  refine putfield w X (wd47 hw) Via.refl F_receiverCount_o E_o (Or.inl (wd48 hw)) (wd2 hw) (ty := .int) (by decide) rfl rfl g_o d3_64 67 rfl (fun T h5 X W => ?_)
  have zn : n0 ≤ h5.size := W.size ▸ zn
  have E_o := E_o.wr W
  have F_chunks_o := F_chunks_o.other W (Or.inr (slot_ne (Or.inl (wd13 hw)) (Or.inl (wd48 hw)) (by decide) (t := (.array (.array .int))) (t' := .int) (by decide) (by decide)))
  have F_counts_o := F_counts_o.other W (Or.inr (slot_ne (Or.inr (wd18 hw)) (Or.inl (wd48 hw)) (by decide) (t := (.array .int)) (t' := .int) (by decide) (by decide)))
  have F_rowLengths_o := F_rowLengths_o.other W (Or.inr (slot_ne (Or.inr (wd21 hw)) (Or.inl (wd48 hw)) (by decide) (t := (.array .long)) (t' := .int) (by decide) (by decide)))
  have F_firstChunks_o := F_firstChunks_o.other W (Or.inr (slot_ne (Or.inr (wd23 hw)) (Or.inl (wd48 hw)) (by decide) (t := (.array .int)) (t' := .int) (by decide) (by decide)))
  have F_firsts_o := F_firsts_o.other W (Or.inr (slot_ne (Or.inr (wd25 hw)) (Or.inl (wd48 hw)) (by decide) (t := (.array .int)) (t' := .int) (by decide) (by decide)))
  have F_lastChunks_o := F_lastChunks_o.other W (Or.inr (slot_ne (Or.inr (wd27 hw)) (Or.inl (wd48 hw)) (by decide) (t := (.array .int)) (t' := .int) (by decide) (by decide)))
  have F_lasts_o := F_lasts_o.other W (Or.inr (slot_ne (Or.inr (wd29 hw)) (Or.inl (wd48 hw)) (by decide) (t := (.array .int)) (t' := .int) (by decide) (by decide)))
  have F_receivers_o := F_receivers_o.other W (Or.inr (slot_ne (Or.inr (wd31 hw)) (Or.inl (wd48 hw)) (by decide) (t := (.array .int)) (t' := .int) (by decide) (by decide)))
  have F_chunk_o := F_chunk_o.other W (Or.inr (slot_ne (Or.inl (wd46 hw)) (Or.inl (wd48 hw)) (by decide) (t := .int) (t' := .int) (by decide) (by decide)))
  have F_length_o := F_length_o.other W (Or.inr (slot_ne (Or.inl (wd44 hw)) (Or.inl (wd48 hw)) (by decide) (t := .int) (t' := .int) (by decide) (by decide)))
  have F_receiverCount_o := F_receiverCount_o.same W
  have F_total_o := F_total_o.other W (Or.inr (slot_ne (Or.inl (wd54 hw)) (Or.inl (wd48 hw)) (by decide) (t := .int) (t' := .int) (by decide) (by decide)))
  have F_rowLength_o := F_rowLength_o.other W (Or.inr (slot_ne (Or.inl (wd56 hw)) (Or.inl (wd48 hw)) (by decide) (t := .long) (t' := .int) (by decide) (by decide)))
  have R_ck := R_ck.other W (Ne.symm ne_o_ck)
  have V_rl := V_rl.other W (Ne.symm ne_o_rl)
  have V_cn := V_cn.other W (Ne.symm ne_o_cn)
  have V_fc := V_fc.other W (Ne.symm ne_o_fc)
  have V_fs := V_fs.other W (Ne.symm ne_o_fs)
  have V_lc := V_lc.other W (Ne.symm ne_o_lc)
  have V_la := V_la.other W (Ne.symm ne_o_la)
  have V_rv := V_rv.other W (Ne.symm ne_o_rv)
  have V_ch := V_ch.other W (Ne.symm ne_o_ch)
  have K := K.wr W (Or.inl (List.mem_of_getElem? (i := 0) rfl))
  have V_ar := V_ar.other W ne_ar_o
  refine aloadN w X d3_67 68 rfl rfl rfl ?_
  refine getfield w X (wd22 hw) Via.refl F_firstChunks_o d3_68 71 rfl (fun T X => ?_)
  refine iloadN w X d3_71 72 rfl rfl ?_
  refine aloadN w X d3_72 73 rfl rfl rfl ?_
  refine getfield w X (wd45 hw) Via.refl F_chunk_o d3_73 76 rfl (fun T X => ?_)
  refine iastore w X V_fc (by decide) 0 rfl (Nat.le_of_ble_eq_true rfl) g_fc d3_76 77 rfl (0 : Int32) rfl (fun T h6 X W V_fc => ?_)
  have V_fc : PA Z h6 fc .int [(0 : Int32), f1] := V_fc
  have zn : n0 ≤ h6.size := W.size ▸ zn
  have E_o := E_o.wr W
  have F_chunks_o := F_chunks_o.other W (Or.inl ne_o_fc)
  have F_counts_o := F_counts_o.other W (Or.inl ne_o_fc)
  have F_rowLengths_o := F_rowLengths_o.other W (Or.inl ne_o_fc)
  have F_firstChunks_o := F_firstChunks_o.other W (Or.inl ne_o_fc)
  have F_firsts_o := F_firsts_o.other W (Or.inl ne_o_fc)
  have F_lastChunks_o := F_lastChunks_o.other W (Or.inl ne_o_fc)
  have F_lasts_o := F_lasts_o.other W (Or.inl ne_o_fc)
  have F_receivers_o := F_receivers_o.other W (Or.inl ne_o_fc)
  have F_chunk_o := F_chunk_o.other W (Or.inl ne_o_fc)
  have F_length_o := F_length_o.other W (Or.inl ne_o_fc)
  have F_receiverCount_o := F_receiverCount_o.other W (Or.inl ne_o_fc)
  have F_total_o := F_total_o.other W (Or.inl ne_o_fc)
  have F_rowLength_o := F_rowLength_o.other W (Or.inl ne_o_fc)
  have R_ck := R_ck.other W ne_ck_fc
  have V_rl := V_rl.other W ne_rl_fc
  have V_cn := V_cn.other W ne_cn_fc
  have V_fs := V_fs.other W (Ne.symm ne_fc_fs)
  have V_lc := V_lc.other W (Ne.symm ne_fc_lc)
  have V_la := V_la.other W (Ne.symm ne_fc_la)
  have V_rv := V_rv.other W (Ne.symm ne_fc_rv)
  have V_ch := V_ch.other W ne_ch_fc
  have K := K.wr W (Or.inl (List.mem_of_getElem? (i := 4) rfl))
  have V_ar := V_ar.other W ne_ar_fc
  refine aloadN w X d3_77 78 rfl rfl rfl ?_
  refine getfield w X (wd24 hw) Via.refl F_firsts_o d3_78 81 rfl (fun T X => ?_)
  refine iloadN w X d3_81 82 rfl rfl ?_
  refine aloadN w X d3_82 83 rfl rfl rfl ?_
  refine getfield w X (wd43 hw) Via.refl F_length_o d3_83 86 rfl (fun T X => ?_)
  refine iastore w X V_fs (by decide) 0 rfl (Nat.le_of_ble_eq_true rfl) g_fs d3_86 87 rfl len rfl (fun T h7 X W V_fs => ?_)
  have V_fs : PA Z h7 fs .int [len, y1] := V_fs
  have zn : n0 ≤ h7.size := W.size ▸ zn
  have E_o := E_o.wr W
  have F_chunks_o := F_chunks_o.other W (Or.inl ne_o_fs)
  have F_counts_o := F_counts_o.other W (Or.inl ne_o_fs)
  have F_rowLengths_o := F_rowLengths_o.other W (Or.inl ne_o_fs)
  have F_firstChunks_o := F_firstChunks_o.other W (Or.inl ne_o_fs)
  have F_firsts_o := F_firsts_o.other W (Or.inl ne_o_fs)
  have F_lastChunks_o := F_lastChunks_o.other W (Or.inl ne_o_fs)
  have F_lasts_o := F_lasts_o.other W (Or.inl ne_o_fs)
  have F_receivers_o := F_receivers_o.other W (Or.inl ne_o_fs)
  have F_chunk_o := F_chunk_o.other W (Or.inl ne_o_fs)
  have F_length_o := F_length_o.other W (Or.inl ne_o_fs)
  have F_receiverCount_o := F_receiverCount_o.other W (Or.inl ne_o_fs)
  have F_total_o := F_total_o.other W (Or.inl ne_o_fs)
  have F_rowLength_o := F_rowLength_o.other W (Or.inl ne_o_fs)
  have R_ck := R_ck.other W ne_ck_fs
  have V_rl := V_rl.other W ne_rl_fs
  have V_cn := V_cn.other W ne_cn_fs
  have V_fc := V_fc.other W ne_fc_fs
  have V_lc := V_lc.other W (Ne.symm ne_fs_lc)
  have V_la := V_la.other W (Ne.symm ne_fs_la)
  have V_rv := V_rv.other W (Ne.symm ne_fs_rv)
  have V_ch := V_ch.other W ne_ch_fs
  have K := K.wr W (Or.inl (List.mem_of_getElem? (i := 5) rfl))
  have V_ar := V_ar.other W ne_ar_fs
  refine goto w X d3_87 136 (by decide) (by decide) ?_
  refine aloadN w X d3_136 137 rfl rfl rfl ?_
  refine getfield w X (wd26 hw) Via.refl F_lastChunks_o d3_137 140 rfl (fun T X => ?_)
  refine iloadN w X d3_140 141 rfl rfl ?_
  refine aloadN w X d3_141 142 rfl rfl rfl ?_
  refine getfield w X (wd45 hw) Via.refl F_chunk_o d3_142 145 rfl (fun T X => ?_)
  refine iastore w X V_lc (by decide) 0 rfl (Nat.le_of_ble_eq_true rfl) g_lc d3_145 146 rfl (0 : Int32) rfl (fun T h8 X W V_lc => ?_)
  have V_lc : PA Z h8 lc .int [(0 : Int32), q1] := V_lc
  have zn : n0 ≤ h8.size := W.size ▸ zn
  have E_o := E_o.wr W
  have F_chunks_o := F_chunks_o.other W (Or.inl ne_o_lc)
  have F_counts_o := F_counts_o.other W (Or.inl ne_o_lc)
  have F_rowLengths_o := F_rowLengths_o.other W (Or.inl ne_o_lc)
  have F_firstChunks_o := F_firstChunks_o.other W (Or.inl ne_o_lc)
  have F_firsts_o := F_firsts_o.other W (Or.inl ne_o_lc)
  have F_lastChunks_o := F_lastChunks_o.other W (Or.inl ne_o_lc)
  have F_lasts_o := F_lasts_o.other W (Or.inl ne_o_lc)
  have F_receivers_o := F_receivers_o.other W (Or.inl ne_o_lc)
  have F_chunk_o := F_chunk_o.other W (Or.inl ne_o_lc)
  have F_length_o := F_length_o.other W (Or.inl ne_o_lc)
  have F_receiverCount_o := F_receiverCount_o.other W (Or.inl ne_o_lc)
  have F_total_o := F_total_o.other W (Or.inl ne_o_lc)
  have F_rowLength_o := F_rowLength_o.other W (Or.inl ne_o_lc)
  have R_ck := R_ck.other W ne_ck_lc
  have V_rl := V_rl.other W ne_rl_lc
  have V_cn := V_cn.other W ne_cn_lc
  have V_fc := V_fc.other W ne_fc_lc
  have V_fs := V_fs.other W ne_fs_lc
  have V_la := V_la.other W (Ne.symm ne_lc_la)
  have V_rv := V_rv.other W (Ne.symm ne_lc_rv)
  have V_ch := V_ch.other W ne_ch_lc
  have K := K.wr W (Or.inl (List.mem_of_getElem? (i := 6) rfl))
  have V_ar := V_ar.other W ne_ar_lc
  refine aloadN w X d3_146 147 rfl rfl rfl ?_
  refine getfield w X (wd28 hw) Via.refl F_lasts_o d3_147 150 rfl (fun T X => ?_)
  refine iloadN w X d3_150 151 rfl rfl ?_
  refine aloadN w X d3_151 152 rfl rfl rfl ?_
  refine getfield w X (wd43 hw) Via.refl F_length_o d3_152 155 rfl (fun T X => ?_)
  refine iastore w X V_la (by decide) 0 rfl (Nat.le_of_ble_eq_true rfl) g_la d3_155 156 rfl len rfl (fun T h9 X W V_la => ?_)
  have V_la : PA Z h9 la .int [len, z1] := V_la
  have zn : n0 ≤ h9.size := W.size ▸ zn
  have E_o := E_o.wr W
  have F_chunks_o := F_chunks_o.other W (Or.inl ne_o_la)
  have F_counts_o := F_counts_o.other W (Or.inl ne_o_la)
  have F_rowLengths_o := F_rowLengths_o.other W (Or.inl ne_o_la)
  have F_firstChunks_o := F_firstChunks_o.other W (Or.inl ne_o_la)
  have F_firsts_o := F_firsts_o.other W (Or.inl ne_o_la)
  have F_lastChunks_o := F_lastChunks_o.other W (Or.inl ne_o_la)
  have F_lasts_o := F_lasts_o.other W (Or.inl ne_o_la)
  have F_receivers_o := F_receivers_o.other W (Or.inl ne_o_la)
  have F_chunk_o := F_chunk_o.other W (Or.inl ne_o_la)
  have F_length_o := F_length_o.other W (Or.inl ne_o_la)
  have F_receiverCount_o := F_receiverCount_o.other W (Or.inl ne_o_la)
  have F_total_o := F_total_o.other W (Or.inl ne_o_la)
  have F_rowLength_o := F_rowLength_o.other W (Or.inl ne_o_la)
  have R_ck := R_ck.other W ne_ck_la
  have V_rl := V_rl.other W ne_rl_la
  have V_cn := V_cn.other W ne_cn_la
  have V_fc := V_fc.other W ne_fc_la
  have V_fs := V_fs.other W ne_fs_la
  have V_lc := V_lc.other W ne_lc_la
  have V_rv := V_rv.other W (Ne.symm ne_la_rv)
  have V_ch := V_ch.other W ne_ch_la
  have K := K.wr W (Or.inl (List.mem_of_getElem? (i := 7) rfl))
  have V_ar := V_ar.other W ne_ar_la
  refine aloadN w X d3_156 157 rfl rfl rfl ?_
  refine getfield w X (wd17 hw) Via.refl F_counts_o d3_157 160 rfl (fun T X => ?_)
  refine iloadN w X d3_160 161 rfl rfl ?_
  refine dup2 w X d3_161 162 rfl rfl rfl ?_
  refine iaload w X V_cn (by decide) 0 rfl (Nat.le_of_ble_eq_true rfl) d3_162 163 rfl (0 : Int32) rfl ?_
  refine iconst w X (1 : Int32) d3_163 164 rfl rfl ?_
  refine iadd w X (1 : Int32) d3_164 165 rfl (by decide) ?_
  refine iastore w X V_cn (by decide) 0 rfl (Nat.le_of_ble_eq_true rfl) g_cn d3_165 166 rfl (1 : Int32) rfl (fun T h10 X W V_cn => ?_)
  have V_cn : PA Z h10 cn .int [(1 : Int32), (1 : Int32)] := V_cn
  have zn : n0 ≤ h10.size := W.size ▸ zn
  have E_o := E_o.wr W
  have F_chunks_o := F_chunks_o.other W (Or.inl ne_o_cn)
  have F_counts_o := F_counts_o.other W (Or.inl ne_o_cn)
  have F_rowLengths_o := F_rowLengths_o.other W (Or.inl ne_o_cn)
  have F_firstChunks_o := F_firstChunks_o.other W (Or.inl ne_o_cn)
  have F_firsts_o := F_firsts_o.other W (Or.inl ne_o_cn)
  have F_lastChunks_o := F_lastChunks_o.other W (Or.inl ne_o_cn)
  have F_lasts_o := F_lasts_o.other W (Or.inl ne_o_cn)
  have F_receivers_o := F_receivers_o.other W (Or.inl ne_o_cn)
  have F_chunk_o := F_chunk_o.other W (Or.inl ne_o_cn)
  have F_length_o := F_length_o.other W (Or.inl ne_o_cn)
  have F_receiverCount_o := F_receiverCount_o.other W (Or.inl ne_o_cn)
  have F_total_o := F_total_o.other W (Or.inl ne_o_cn)
  have F_rowLength_o := F_rowLength_o.other W (Or.inl ne_o_cn)
  have R_ck := R_ck.other W ne_ck_cn
  have V_rl := V_rl.other W (Ne.symm ne_cn_rl)
  have V_fc := V_fc.other W (Ne.symm ne_cn_fc)
  have V_fs := V_fs.other W (Ne.symm ne_cn_fs)
  have V_lc := V_lc.other W (Ne.symm ne_cn_lc)
  have V_la := V_la.other W (Ne.symm ne_cn_la)
  have V_rv := V_rv.other W (Ne.symm ne_cn_rv)
  have V_ch := V_ch.other W ne_ch_cn
  have K := K.wr W (Or.inl (List.mem_of_getElem? (i := 2) rfl))
  have V_ar := V_ar.other W ne_ar_cn
  refine aloadN w X d3_166 167 rfl rfl rfl ?_
  refine getfield w X (wd12 hw) Via.refl F_chunks_o d3_167 170 rfl (fun T X => ?_)
  refine aloadN w X d3_170 171 rfl rfl rfl ?_
  refine getfield w X (wd45 hw) Via.refl F_chunk_o d3_171 174 rfl (fun T X => ?_)
  refine aaload0 w X R_ck rfl d3_174 175 rfl ?_
  refine astore w X d3_175 177 rfl rfl #[.val (.ref o), .val (.int (0 : Int32)), .val (.int hd), .val (.ref ar), .val (.int (0 : Int32)), .val (.int w5), .val (.int r1), .val (.ref ch)] rfl ?_
  refine aload w X d3_177 179 rfl rfl rfl ?_
  refine aloadN w X d3_179 180 rfl rfl rfl ?_
  refine getfield w X (wd43 hw) Via.refl F_length_o d3_180 183 rfl (fun T X => ?_)
  refine iconst w X (2 : Int32) d3_183 184 rfl rfl ?_
  refine iadd w X (len + (2 : Int32)) d3_184 185 rfl rfl ?_
  refine iloadN w X d3_185 186 rfl rfl ?_
  have hx0 := own_ix (k := (2 : Int32)) hlen (by decide)
  have hx11 := hx0.2
  refine iastore w X V_ch hx0.1 (len + (2 : Int32)).toNatClampNeg rfl (by rw [hbs]; omega) g_ch d3_186 187 rfl hd rfl (fun T h11 X W V_ch => ?_)
  have zn : n0 ≤ h11.size := W.size ▸ zn
  have E_o := E_o.wr W
  have F_chunks_o := F_chunks_o.other W (Or.inl ne_o_ch)
  have F_counts_o := F_counts_o.other W (Or.inl ne_o_ch)
  have F_rowLengths_o := F_rowLengths_o.other W (Or.inl ne_o_ch)
  have F_firstChunks_o := F_firstChunks_o.other W (Or.inl ne_o_ch)
  have F_firsts_o := F_firsts_o.other W (Or.inl ne_o_ch)
  have F_lastChunks_o := F_lastChunks_o.other W (Or.inl ne_o_ch)
  have F_lasts_o := F_lasts_o.other W (Or.inl ne_o_ch)
  have F_receivers_o := F_receivers_o.other W (Or.inl ne_o_ch)
  have F_chunk_o := F_chunk_o.other W (Or.inl ne_o_ch)
  have F_length_o := F_length_o.other W (Or.inl ne_o_ch)
  have F_receiverCount_o := F_receiverCount_o.other W (Or.inl ne_o_ch)
  have F_total_o := F_total_o.other W (Or.inl ne_o_ch)
  have F_rowLength_o := F_rowLength_o.other W (Or.inl ne_o_ch)
  have R_ck := R_ck.other W ne_ck_ch
  have V_rl := V_rl.other W (Ne.symm ne_ch_rl)
  have V_cn := V_cn.other W (Ne.symm ne_ch_cn)
  have V_fc := V_fc.other W (Ne.symm ne_ch_fc)
  have V_fs := V_fs.other W (Ne.symm ne_ch_fs)
  have V_lc := V_lc.other W (Ne.symm ne_ch_lc)
  have V_la := V_la.other W (Ne.symm ne_ch_la)
  have V_rv := V_rv.other W (Ne.symm ne_ch_rv)
  have K := K.wr W (Or.inl (List.mem_of_getElem? (i := 1) rfl))
  have V_ar := V_ar.other W ne_ar_ch
  obtain ⟨bs, V_ch, hbs⟩ : ∃ bs' : List Int32, PA Z h11 ch .int bs' ∧ bs'.length = 4096 := ⟨_, V_ch, by rw [List.length_set]; exact hbs⟩
  refine aload w X d3_187 189 rfl rfl rfl ?_
  refine aloadN w X d3_189 190 rfl rfl rfl ?_
  refine getfield w X (wd43 hw) Via.refl F_length_o d3_190 193 rfl (fun T X => ?_)
  refine iconst w X (3 : Int32) d3_193 194 rfl rfl ?_
  refine iadd w X (len + (3 : Int32)) d3_194 195 rfl rfl ?_
  refine iload w X d3_195 197 rfl rfl ?_
  have hx0 := own_ix (k := (3 : Int32)) hlen (by decide)
  have hx11 := hx0.2
  refine iastore w X V_ch hx0.1 (len + (3 : Int32)).toNatClampNeg rfl (by rw [hbs]; omega) g_ch d3_197 198 rfl w5 rfl (fun T h12 X W V_ch => ?_)
  have zn : n0 ≤ h12.size := W.size ▸ zn
  have E_o := E_o.wr W
  have F_chunks_o := F_chunks_o.other W (Or.inl ne_o_ch)
  have F_counts_o := F_counts_o.other W (Or.inl ne_o_ch)
  have F_rowLengths_o := F_rowLengths_o.other W (Or.inl ne_o_ch)
  have F_firstChunks_o := F_firstChunks_o.other W (Or.inl ne_o_ch)
  have F_firsts_o := F_firsts_o.other W (Or.inl ne_o_ch)
  have F_lastChunks_o := F_lastChunks_o.other W (Or.inl ne_o_ch)
  have F_lasts_o := F_lasts_o.other W (Or.inl ne_o_ch)
  have F_receivers_o := F_receivers_o.other W (Or.inl ne_o_ch)
  have F_chunk_o := F_chunk_o.other W (Or.inl ne_o_ch)
  have F_length_o := F_length_o.other W (Or.inl ne_o_ch)
  have F_receiverCount_o := F_receiverCount_o.other W (Or.inl ne_o_ch)
  have F_total_o := F_total_o.other W (Or.inl ne_o_ch)
  have F_rowLength_o := F_rowLength_o.other W (Or.inl ne_o_ch)
  have R_ck := R_ck.other W ne_ck_ch
  have V_rl := V_rl.other W (Ne.symm ne_ch_rl)
  have V_cn := V_cn.other W (Ne.symm ne_ch_cn)
  have V_fc := V_fc.other W (Ne.symm ne_ch_fc)
  have V_fs := V_fs.other W (Ne.symm ne_ch_fs)
  have V_lc := V_lc.other W (Ne.symm ne_ch_lc)
  have V_la := V_la.other W (Ne.symm ne_ch_la)
  have V_rv := V_rv.other W (Ne.symm ne_ch_rv)
  have K := K.wr W (Or.inl (List.mem_of_getElem? (i := 1) rfl))
  have V_ar := V_ar.other W ne_ar_ch
  obtain ⟨bs, V_ch, hbs⟩ : ∃ bs' : List Int32, PA Z h12 ch .int bs' ∧ bs'.length = 4096 := ⟨_, V_ch, by rw [List.length_set]; exact hbs⟩
  refine aloadN w X d3_198 199 rfl rfl rfl ?_
  refine iload w X d3_199 201 rfl rfl ?_
  refine aload w X d3_201 203 rfl rfl rfl ?_
  refine aloadN w X d3_203 204 rfl rfl rfl ?_
  refine getfield w X (wd43 hw) Via.refl F_length_o d3_204 207 rfl (fun T X => ?_)
  refine iconst w X (4 : Int32) d3_207 208 rfl rfl ?_
  refine iadd w X (len + (4 : Int32)) d3_208 209 rfl rfl ?_
  refine iload w X d3_209 211 rfl rfl ?_
  have hx0 := own_ix (k := (4 : Int32)) hlen (by decide)
  have hx11 := hx0.2
  have hcw := own_cl (x := w5) (k := 3) hw5.1 hw5.2
  refine acopyI w X (wd49 hw) (wd52 hw) (wd50 hw) (wd51 hw) V_ar V_ch (by decide) hx0.1 (own_nn hw5.1) (by show 0 + _ ≤ 3; omega) (by rw [hbs]; have h11 := hx11; omega) g_ch d3_211 214 rfl rfl (by decide) 0 (Nat.le_of_eq rfl) (by decide) (fun T h13 bs2 X Kq V_ch hb2 => ?_)
  obtain ⟨bs, V_ch, hbs⟩ : ∃ bs' : List Int32, PA Z h13 ch .int bs' ∧ bs'.length = 4096 := ⟨_, V_ch, hb2.trans hbs⟩
  have zn : n0 ≤ h13.size := Nat.le_trans zn Kq.1
  have E_o := E_o.keep Kq
  have F_chunks_o := F_chunks_o.keep Kq (ninS ne_o_ch nin0)
  have F_counts_o := F_counts_o.keep Kq (ninS ne_o_ch nin0)
  have F_rowLengths_o := F_rowLengths_o.keep Kq (ninS ne_o_ch nin0)
  have F_firstChunks_o := F_firstChunks_o.keep Kq (ninS ne_o_ch nin0)
  have F_firsts_o := F_firsts_o.keep Kq (ninS ne_o_ch nin0)
  have F_lastChunks_o := F_lastChunks_o.keep Kq (ninS ne_o_ch nin0)
  have F_lasts_o := F_lasts_o.keep Kq (ninS ne_o_ch nin0)
  have F_receivers_o := F_receivers_o.keep Kq (ninS ne_o_ch nin0)
  have F_chunk_o := F_chunk_o.keep Kq (ninS ne_o_ch nin0)
  have F_length_o := F_length_o.keep Kq (ninS ne_o_ch nin0)
  have F_receiverCount_o := F_receiverCount_o.keep Kq (ninS ne_o_ch nin0)
  have F_total_o := F_total_o.keep Kq (ninS ne_o_ch nin0)
  have F_rowLength_o := F_rowLength_o.keep Kq (ninS ne_o_ch nin0)
  have R_ck := R_ck.keep Kq (ninS ne_ck_ch nin0)
  have V_rl := V_rl.keep Kq (ninS (Ne.symm ne_ch_rl) nin0)
  have V_cn := V_cn.keep Kq (ninS (Ne.symm ne_ch_cn) nin0)
  have V_fc := V_fc.keep Kq (ninS (Ne.symm ne_ch_fc) nin0)
  have V_fs := V_fs.keep Kq (ninS (Ne.symm ne_ch_fs) nin0)
  have V_lc := V_lc.keep Kq (ninS (Ne.symm ne_ch_lc) nin0)
  have V_la := V_la.keep Kq (ninS (Ne.symm ne_ch_la) nin0)
  have V_rv := V_rv.keep Kq (ninS (Ne.symm ne_ch_rv) nin0)
  have K := K.trans Kq (allS (Or.inl (List.mem_of_getElem? (i := 1) rfl)) all0)
  have V_ar := V_ar.keep Kq (ninS ne_ar_ch nin0)
  refine aloadN w X d3_214 215 rfl rfl rfl ?_
  refine dup w X d3_215 216 rfl rfl ?_
  refine getfield w X (wd43 hw) Via.refl F_length_o d3_216 219 rfl (fun T X => ?_)
  refine iload w X d3_219 221 rfl rfl ?_
  refine iadd w X (len + r1) d3_221 222 rfl rfl ?_
  refine putfield w X (wd43 hw) Via.refl F_length_o E_o (Or.inl (wd44 hw)) (wd2 hw) (ty := .int) (by decide) rfl rfl g_o d3_222 225 rfl (fun T h14 X W => ?_)
  have zn : n0 ≤ h14.size := W.size ▸ zn
  have E_o := E_o.wr W
  have F_chunks_o := F_chunks_o.other W (Or.inr (slot_ne (Or.inl (wd13 hw)) (Or.inl (wd44 hw)) (by decide) (t := (.array (.array .int))) (t' := .int) (by decide) (by decide)))
  have F_counts_o := F_counts_o.other W (Or.inr (slot_ne (Or.inr (wd18 hw)) (Or.inl (wd44 hw)) (by decide) (t := (.array .int)) (t' := .int) (by decide) (by decide)))
  have F_rowLengths_o := F_rowLengths_o.other W (Or.inr (slot_ne (Or.inr (wd21 hw)) (Or.inl (wd44 hw)) (by decide) (t := (.array .long)) (t' := .int) (by decide) (by decide)))
  have F_firstChunks_o := F_firstChunks_o.other W (Or.inr (slot_ne (Or.inr (wd23 hw)) (Or.inl (wd44 hw)) (by decide) (t := (.array .int)) (t' := .int) (by decide) (by decide)))
  have F_firsts_o := F_firsts_o.other W (Or.inr (slot_ne (Or.inr (wd25 hw)) (Or.inl (wd44 hw)) (by decide) (t := (.array .int)) (t' := .int) (by decide) (by decide)))
  have F_lastChunks_o := F_lastChunks_o.other W (Or.inr (slot_ne (Or.inr (wd27 hw)) (Or.inl (wd44 hw)) (by decide) (t := (.array .int)) (t' := .int) (by decide) (by decide)))
  have F_lasts_o := F_lasts_o.other W (Or.inr (slot_ne (Or.inr (wd29 hw)) (Or.inl (wd44 hw)) (by decide) (t := (.array .int)) (t' := .int) (by decide) (by decide)))
  have F_receivers_o := F_receivers_o.other W (Or.inr (slot_ne (Or.inr (wd31 hw)) (Or.inl (wd44 hw)) (by decide) (t := (.array .int)) (t' := .int) (by decide) (by decide)))
  have F_chunk_o := F_chunk_o.other W (Or.inr (slot_ne (Or.inl (wd46 hw)) (Or.inl (wd44 hw)) (by decide) (t := .int) (t' := .int) (by decide) (by decide)))
  have F_length_o := F_length_o.same W
  have F_receiverCount_o := F_receiverCount_o.other W (Or.inr (slot_ne (Or.inl (wd48 hw)) (Or.inl (wd44 hw)) (by decide) (t := .int) (t' := .int) (by decide) (by decide)))
  have F_total_o := F_total_o.other W (Or.inr (slot_ne (Or.inl (wd54 hw)) (Or.inl (wd44 hw)) (by decide) (t := .int) (t' := .int) (by decide) (by decide)))
  have F_rowLength_o := F_rowLength_o.other W (Or.inr (slot_ne (Or.inl (wd56 hw)) (Or.inl (wd44 hw)) (by decide) (t := .long) (t' := .int) (by decide) (by decide)))
  have R_ck := R_ck.other W (Ne.symm ne_o_ck)
  have V_rl := V_rl.other W (Ne.symm ne_o_rl)
  have V_cn := V_cn.other W (Ne.symm ne_o_cn)
  have V_fc := V_fc.other W (Ne.symm ne_o_fc)
  have V_fs := V_fs.other W (Ne.symm ne_o_fs)
  have V_lc := V_lc.other W (Ne.symm ne_o_lc)
  have V_la := V_la.other W (Ne.symm ne_o_la)
  have V_rv := V_rv.other W (Ne.symm ne_o_rv)
  have K := K.wr W (Or.inl (List.mem_of_getElem? (i := 0) rfl))
  have V_ar := V_ar.other W ne_ar_o
  have V_ch := V_ch.other W (Ne.symm ne_o_ch)
  refine aloadN w X d3_225 226 rfl rfl rfl ?_
  refine dup w X d3_226 227 rfl rfl ?_
  refine getfield w X (wd53 hw) Via.refl F_total_o d3_227 230 rfl (fun T X => ?_)
  refine iconst w X (1 : Int32) d3_230 231 rfl rfl ?_
  refine iadd w X (2 : Int32) d3_231 232 rfl (by decide) ?_
  refine putfield w X (wd53 hw) Via.refl F_total_o E_o (Or.inl (wd54 hw)) (wd2 hw) (ty := .int) (by decide) rfl rfl g_o d3_232 235 rfl (fun T h15 X W => ?_)
  have zn : n0 ≤ h15.size := W.size ▸ zn
  have E_o := E_o.wr W
  have F_chunks_o := F_chunks_o.other W (Or.inr (slot_ne (Or.inl (wd13 hw)) (Or.inl (wd54 hw)) (by decide) (t := (.array (.array .int))) (t' := .int) (by decide) (by decide)))
  have F_counts_o := F_counts_o.other W (Or.inr (slot_ne (Or.inr (wd18 hw)) (Or.inl (wd54 hw)) (by decide) (t := (.array .int)) (t' := .int) (by decide) (by decide)))
  have F_rowLengths_o := F_rowLengths_o.other W (Or.inr (slot_ne (Or.inr (wd21 hw)) (Or.inl (wd54 hw)) (by decide) (t := (.array .long)) (t' := .int) (by decide) (by decide)))
  have F_firstChunks_o := F_firstChunks_o.other W (Or.inr (slot_ne (Or.inr (wd23 hw)) (Or.inl (wd54 hw)) (by decide) (t := (.array .int)) (t' := .int) (by decide) (by decide)))
  have F_firsts_o := F_firsts_o.other W (Or.inr (slot_ne (Or.inr (wd25 hw)) (Or.inl (wd54 hw)) (by decide) (t := (.array .int)) (t' := .int) (by decide) (by decide)))
  have F_lastChunks_o := F_lastChunks_o.other W (Or.inr (slot_ne (Or.inr (wd27 hw)) (Or.inl (wd54 hw)) (by decide) (t := (.array .int)) (t' := .int) (by decide) (by decide)))
  have F_lasts_o := F_lasts_o.other W (Or.inr (slot_ne (Or.inr (wd29 hw)) (Or.inl (wd54 hw)) (by decide) (t := (.array .int)) (t' := .int) (by decide) (by decide)))
  have F_receivers_o := F_receivers_o.other W (Or.inr (slot_ne (Or.inr (wd31 hw)) (Or.inl (wd54 hw)) (by decide) (t := (.array .int)) (t' := .int) (by decide) (by decide)))
  have F_chunk_o := F_chunk_o.other W (Or.inr (slot_ne (Or.inl (wd46 hw)) (Or.inl (wd54 hw)) (by decide) (t := .int) (t' := .int) (by decide) (by decide)))
  have F_length_o := F_length_o.other W (Or.inr (slot_ne (Or.inl (wd44 hw)) (Or.inl (wd54 hw)) (by decide) (t := .int) (t' := .int) (by decide) (by decide)))
  have F_receiverCount_o := F_receiverCount_o.other W (Or.inr (slot_ne (Or.inl (wd48 hw)) (Or.inl (wd54 hw)) (by decide) (t := .int) (t' := .int) (by decide) (by decide)))
  have F_total_o := F_total_o.same W
  have F_rowLength_o := F_rowLength_o.other W (Or.inr (slot_ne (Or.inl (wd56 hw)) (Or.inl (wd54 hw)) (by decide) (t := .long) (t' := .int) (by decide) (by decide)))
  have R_ck := R_ck.other W (Ne.symm ne_o_ck)
  have V_rl := V_rl.other W (Ne.symm ne_o_rl)
  have V_cn := V_cn.other W (Ne.symm ne_o_cn)
  have V_fc := V_fc.other W (Ne.symm ne_o_fc)
  have V_fs := V_fs.other W (Ne.symm ne_o_fs)
  have V_lc := V_lc.other W (Ne.symm ne_o_lc)
  have V_la := V_la.other W (Ne.symm ne_o_la)
  have V_rv := V_rv.other W (Ne.symm ne_o_rv)
  have K := K.wr W (Or.inl (List.mem_of_getElem? (i := 0) rfl))
  have V_ar := V_ar.other W ne_ar_o
  have V_ch := V_ch.other W (Ne.symm ne_o_ch)
  refine aloadN w X d3_235 236 rfl rfl rfl ?_
  refine getfield w X (wd20 hw) Via.refl F_rowLengths_o d3_236 239 rfl (fun T X => ?_)
  refine iloadN w X d3_239 240 rfl rfl ?_
  refine dup2 w X d3_240 241 rfl rfl rfl ?_
  refine laload w X V_rl (by decide) 0 rfl (Nat.le_of_ble_eq_true rfl) d3_241 242 rfl x0 rfl ?_
  refine iconst w X (2 : Int32) d3_242 243 rfl rfl ?_
  refine iload w X d3_243 245 rfl rfl ?_
  refine iadd w X ((2 : Int32) + w5) d3_245 246 rfl rfl ?_
  refine i2l w X (((2 : Int32) + w5).toInt64) d3_246 247 rfl rfl ?_
  refine ladd w X (x0 + (((2 : Int32) + w5).toInt64)) d3_247 248 rfl rfl ?_
  refine lastore w X V_rl (by decide) 0 rfl (Nat.le_of_ble_eq_true rfl) g_rl d3_248 249 rfl (fun T h16 X W V_rl => ?_)
  have V_rl : PJ Z h16 rl [(x0 + (((2 : Int32) + w5).toInt64)), x1] := V_rl
  have zn : n0 ≤ h16.size := W.size ▸ zn
  have E_o := E_o.wr W
  have F_chunks_o := F_chunks_o.other W (Or.inl ne_o_rl)
  have F_counts_o := F_counts_o.other W (Or.inl ne_o_rl)
  have F_rowLengths_o := F_rowLengths_o.other W (Or.inl ne_o_rl)
  have F_firstChunks_o := F_firstChunks_o.other W (Or.inl ne_o_rl)
  have F_firsts_o := F_firsts_o.other W (Or.inl ne_o_rl)
  have F_lastChunks_o := F_lastChunks_o.other W (Or.inl ne_o_rl)
  have F_lasts_o := F_lasts_o.other W (Or.inl ne_o_rl)
  have F_receivers_o := F_receivers_o.other W (Or.inl ne_o_rl)
  have F_chunk_o := F_chunk_o.other W (Or.inl ne_o_rl)
  have F_length_o := F_length_o.other W (Or.inl ne_o_rl)
  have F_receiverCount_o := F_receiverCount_o.other W (Or.inl ne_o_rl)
  have F_total_o := F_total_o.other W (Or.inl ne_o_rl)
  have F_rowLength_o := F_rowLength_o.other W (Or.inl ne_o_rl)
  have R_ck := R_ck.other W ne_ck_rl
  have V_cn := V_cn.other W ne_cn_rl
  have V_fc := V_fc.other W (Ne.symm ne_rl_fc)
  have V_fs := V_fs.other W (Ne.symm ne_rl_fs)
  have V_lc := V_lc.other W (Ne.symm ne_rl_lc)
  have V_la := V_la.other W (Ne.symm ne_rl_la)
  have V_rv := V_rv.other W (Ne.symm ne_rl_rv)
  have K := K.wr W (Or.inl (List.mem_of_getElem? (i := 3) rfl))
  have V_ar := V_ar.other W ne_ar_rl
  have V_ch := V_ch.other W ne_ch_rl
  refine aloadN w X d3_249 250 rfl rfl rfl ?_
  refine dup w X d3_250 251 rfl rfl ?_
  refine getfield w X (wd55 hw) Via.refl F_rowLength_o d3_251 254 rfl (fun T X => ?_)
  refine iconst w X (2 : Int32) d3_254 255 rfl rfl ?_
  refine iload w X d3_255 257 rfl rfl ?_
  refine iadd w X ((2 : Int32) + w5) d3_257 258 rfl rfl ?_
  refine i2l w X (((2 : Int32) + w5).toInt64) d3_258 259 rfl rfl ?_
  refine ladd w X (tl + (((2 : Int32) + w5).toInt64)) d3_259 260 rfl rfl ?_
  refine putfield w X (wd55 hw) Via.refl F_rowLength_o E_o (Or.inl (wd56 hw)) (wd2 hw) (ty := .long) (by decide) rfl rfl g_o d3_260 263 rfl (fun T h17 X W => ?_)
  have zn : n0 ≤ h17.size := W.size ▸ zn
  have E_o := E_o.wr W
  have F_chunks_o := F_chunks_o.other W (Or.inr (slot_ne (Or.inl (wd13 hw)) (Or.inl (wd56 hw)) (by decide) (t := (.array (.array .int))) (t' := .long) (by decide) (by decide)))
  have F_counts_o := F_counts_o.other W (Or.inr (slot_ne (Or.inr (wd18 hw)) (Or.inl (wd56 hw)) (by decide) (t := (.array .int)) (t' := .long) (by decide) (by decide)))
  have F_rowLengths_o := F_rowLengths_o.other W (Or.inr (slot_ne (Or.inr (wd21 hw)) (Or.inl (wd56 hw)) (by decide) (t := (.array .long)) (t' := .long) (by decide) (by decide)))
  have F_firstChunks_o := F_firstChunks_o.other W (Or.inr (slot_ne (Or.inr (wd23 hw)) (Or.inl (wd56 hw)) (by decide) (t := (.array .int)) (t' := .long) (by decide) (by decide)))
  have F_firsts_o := F_firsts_o.other W (Or.inr (slot_ne (Or.inr (wd25 hw)) (Or.inl (wd56 hw)) (by decide) (t := (.array .int)) (t' := .long) (by decide) (by decide)))
  have F_lastChunks_o := F_lastChunks_o.other W (Or.inr (slot_ne (Or.inr (wd27 hw)) (Or.inl (wd56 hw)) (by decide) (t := (.array .int)) (t' := .long) (by decide) (by decide)))
  have F_lasts_o := F_lasts_o.other W (Or.inr (slot_ne (Or.inr (wd29 hw)) (Or.inl (wd56 hw)) (by decide) (t := (.array .int)) (t' := .long) (by decide) (by decide)))
  have F_receivers_o := F_receivers_o.other W (Or.inr (slot_ne (Or.inr (wd31 hw)) (Or.inl (wd56 hw)) (by decide) (t := (.array .int)) (t' := .long) (by decide) (by decide)))
  have F_chunk_o := F_chunk_o.other W (Or.inr (slot_ne (Or.inl (wd46 hw)) (Or.inl (wd56 hw)) (by decide) (t := .int) (t' := .long) (by decide) (by decide)))
  have F_length_o := F_length_o.other W (Or.inr (slot_ne (Or.inl (wd44 hw)) (Or.inl (wd56 hw)) (by decide) (t := .int) (t' := .long) (by decide) (by decide)))
  have F_receiverCount_o := F_receiverCount_o.other W (Or.inr (slot_ne (Or.inl (wd48 hw)) (Or.inl (wd56 hw)) (by decide) (t := .int) (t' := .long) (by decide) (by decide)))
  have F_total_o := F_total_o.other W (Or.inr (slot_ne (Or.inl (wd54 hw)) (Or.inl (wd56 hw)) (by decide) (t := .int) (t' := .long) (by decide) (by decide)))
  have F_rowLength_o := F_rowLength_o.same W
  have R_ck := R_ck.other W (Ne.symm ne_o_ck)
  have V_rl := V_rl.other W (Ne.symm ne_o_rl)
  have V_cn := V_cn.other W (Ne.symm ne_o_cn)
  have V_fc := V_fc.other W (Ne.symm ne_o_fc)
  have V_fs := V_fs.other W (Ne.symm ne_o_fs)
  have V_lc := V_lc.other W (Ne.symm ne_o_lc)
  have V_la := V_la.other W (Ne.symm ne_o_la)
  have V_rv := V_rv.other W (Ne.symm ne_o_rv)
  have K := K.wr W (Or.inl (List.mem_of_getElem? (i := 0) rfl))
  have V_ar := V_ar.other W ne_ar_o
  have V_ch := V_ch.other W (Ne.symm ne_o_ch)
  refine retV w X rfl d3_263 (by decide) (by decide) ?_
  exact ⟨rfl, K, (len + r1), trivial, (0 : Int32), f1, len, y1, (0 : Int32), q1, len, z1, ⟨E_o, F_chunks_o, F_counts_o, F_rowLengths_o, F_firstChunks_o, F_firsts_o, F_lastChunks_o, F_lasts_o, F_receivers_o, F_chunk_o, F_length_o, F_receiverCount_o, F_total_o, F_rowLength_o, R_ck, V_rl, V_cn, V_fc, V_fs, V_lc, V_la, V_rv, _, V_ch, hbs⟩⟩
set_option maxRecDepth 65536 in
set_option maxHeartbeats 40000000 in
theorem rm_a2_11 {l : Launch} {Z : State} {a0 : Array Value} (hw : ∀ d ∈ tables_1, d.before a0 Z = true) (o ck ch cn rl fc fs lc la rv ar : Addr) (hd w5 a0 a1 a2 len f0 f1 y0 y1 q0 z0 v1 : Int32) (tl x0 x1 : Int64) (h : Heap) (n0 : Nat) (zn : n0 ≤ h.size) (OB : own_ob Z h o ck ch cn rl fc fs lc la rv (0 : Int32) len (1 : Int32) (1 : Int32) tl x0 x1 (0 : Int32) (1 : Int32) f0 f1 y0 y1 q0 (0 : Int32) z0 (0 : Int32) (1 : Int32) v1) (NE : own_ne o ck ch cn rl fc fs lc la rv) (GE : own_ge n0 o ck ch cn rl fc fs lc la rv) (V_ar : PA Z h ar .int [a0, a1, a2]) (NA : ar ≠ o ∧ ar ≠ ck ∧ ar ≠ ch ∧ ar ≠ cn ∧ ar ≠ rl ∧ ar ≠ fc ∧ ar ≠ fs ∧ ar ≠ lc ∧ ar ≠ la ∧ ar ≠ rv) (hw5 : 0 ≤ w5.toInt ∧ w5.toInt ≤ 3) (hlen : 0 ≤ len.toInt ∧ len.toInt ≤ 7) :
    Met l Z (⟨"com/example/vigilant_mailbox/vigilantmailbox/engine/Sends", "add", "(II[III)V"⟩ : MethodName) prog_37_method_8_code 8 none [] ({ frames := 1, cells := 0, slots := 0, locals := 40 } : Room) #[(.ref o), (.int (1 : Int32)), (.int hd), (.ref ar), (.int (0 : Int32)), (.int w5)] h n0 (RV fun h' => Keep h h' [o, ch, cn, rl, fc, fs, lc, la, rv] ∧ ∃ len' : Int32, (True) ∧ ∃ f0' f1' y0' y1' q0' q1' z0' z1' v1' : Int32, own_ob Z h' o ck ch cn rl fc fs lc la rv (0 : Int32) len' (1 : Int32) (2 : Int32) (own_rl tl w5) x0 (own_rl x1 w5) (0 : Int32) (2 : Int32) f0' f1' y0' y1' q0' q1' z0' z1' (1 : Int32) v1') := by
  refine start (ls := #[.val (.ref o), .val (.int (1 : Int32)), .val (.int hd), .val (.ref ar), .val (.int (0 : Int32)), .val (.int w5), .unset, .unset]) (plainFor_of_name pn1) (fun m => by first | (simp [entryFrame, mkF, argsToLocals, Value.category]; done) | rfl) ?_
  intro p e s m below meth c T G w X
  have K := Keep.refl h [o, ch, cn, rl, fc, fs, lc, la, rv]
  obtain ⟨E_o, F_chunks_o, F_counts_o, F_rowLengths_o, F_firstChunks_o, F_firsts_o, F_lastChunks_o, F_lasts_o, F_receivers_o, F_chunk_o, F_length_o, F_receiverCount_o, F_total_o, F_rowLength_o, R_ck, V_rl, V_cn, V_fc, V_fs, V_lc, V_la, V_rv, bs, V_ch, hbs⟩ := OB
  obtain ⟨ne_o_ck, ne_o_ch, ne_o_cn, ne_o_rl, ne_o_fc, ne_o_fs, ne_o_lc, ne_o_la, ne_o_rv, ne_ck_ch, ne_ck_cn, ne_ck_rl, ne_ck_fc, ne_ck_fs, ne_ck_lc, ne_ck_la, ne_ck_rv, ne_ch_cn, ne_ch_rl, ne_ch_fc, ne_ch_fs, ne_ch_lc, ne_ch_la, ne_ch_rv, ne_cn_rl, ne_cn_fc, ne_cn_fs, ne_cn_lc, ne_cn_la, ne_cn_rv, ne_rl_fc, ne_rl_fs, ne_rl_lc, ne_rl_la, ne_rl_rv, ne_fc_fs, ne_fc_lc, ne_fc_la, ne_fc_rv, ne_fs_lc, ne_fs_la, ne_fs_rv, ne_lc_la, ne_lc_rv, ne_la_rv⟩ := NE
  obtain ⟨g_o, g_ck, g_ch, g_cn, g_rl, g_fc, g_fs, g_lc, g_la, g_rv⟩ := GE
  obtain ⟨ne_ar_o, ne_ar_ck, ne_ar_ch, ne_ar_cn, ne_ar_rl, ne_ar_fc, ne_ar_fs, ne_ar_lc, ne_ar_la, ne_ar_rv⟩ := NA
  refine ldc2J w X (wd37 hw) d3_0 3 rfl ?_
  refine iload w X d3_3 5 rfl rfl ?_
  refine i2l w X (w5.toInt64) d3_5 6 rfl rfl ?_
  refine ladd w X ((4 : Int64) + (w5.toInt64)) d3_6 7 rfl rfl ?_
  refine callSPI w X [(.long ((4 : Int64) + (w5.toInt64)))] (wd38 hw) (wd39 hw) (wd40 hw) (wd41 hw) (by decide) (rm_cc hw ((4 : Int64) + (w5.toInt64)) h n0 zn (own_x7 hw5)) d3_7 10 rfl 0 (by decide) (by decide) (lenOf pd0 rfl) rfl (Nat.le_of_eq rfl) rfl (by decide) (by decide) (fun r1 T X hq => ?_)
  have hr1 := hq
  refine istore w X r1 d3_10 12 rfl rfl #[.val (.ref o), .val (.int (1 : Int32)), .val (.int hd), .val (.ref ar), .val (.int (0 : Int32)), .val (.int w5), .val (.int r1), .unset] rfl ?_
  refine aloadN w X d3_12 13 rfl rfl rfl ?_
  refine getfield w X (wd43 hw) Via.refl F_length_o d3_13 16 rfl (fun T X => ?_)
  refine iload w X d3_16 18 rfl rfl ?_
  refine iadd w X (len + r1) d3_18 19 rfl rfl ?_
  refine aloadN w X d3_19 20 rfl rfl rfl ?_
  refine getfield w X (wd12 hw) Via.refl F_chunks_o d3_20 23 rfl (fun T X => ?_)
  refine aloadN w X d3_23 24 rfl rfl rfl ?_
  refine getfield w X (wd45 hw) Via.refl F_chunk_o d3_24 27 rfl (fun T X => ?_)
  refine aaload0 w X R_ck rfl d3_27 28 rfl ?_
  refine arraylength w X V_ch d3_28 29 rfl (4096 : Int32) (by rw [hbs]; rfl) ?_
  refine icmp_le w X d3_29 38 32 (by decide) (by decide) rfl (fun hc29_2 => ?_) (fun q => False.elim (by exact own_le (by have := own_cap (len := len) hr1 hw5 hlen; have := hw5.2; have h7 := hlen.2; omega) q))
  refine aloadN w X d3_38 39 rfl rfl rfl ?_
  refine getfield w X (wd17 hw) Via.refl F_counts_o d3_39 42 rfl (fun T X => ?_)
  refine iloadN w X d3_42 43 rfl rfl ?_
  refine iaload w X V_cn (by decide) 1 rfl (Nat.le_of_ble_eq_true rfl) d3_43 44 rfl (1 : Int32) rfl ?_
  refine if_ne w X d3_44 90 47 (by decide) (by decide) rfl (fun hc44_3 => ?_) (fun q => absurd q (by decide))
  refine aloadN w X d3_90 91 rfl rfl rfl ?_
  refine getfield w X (wd12 hw) Via.refl F_chunks_o d3_91 94 rfl (fun T X => ?_)
  refine aloadN w X d3_94 95 rfl rfl rfl ?_
  refine getfield w X (wd26 hw) Via.refl F_lastChunks_o d3_95 98 rfl (fun T X => ?_)
  refine iloadN w X d3_98 99 rfl rfl ?_
  refine iaload w X V_lc (by decide) 1 rfl (Nat.le_of_ble_eq_true rfl) d3_99 100 rfl (0 : Int32) rfl ?_
  refine aaload0 w X R_ck rfl d3_100 101 rfl ?_
  refine aloadN w X d3_101 102 rfl rfl rfl ?_
  refine getfield w X (wd28 hw) Via.refl F_lasts_o d3_102 105 rfl (fun T X => ?_)
  refine iloadN w X d3_105 106 rfl rfl ?_
  refine iaload w X V_la (by decide) 1 rfl (Nat.le_of_ble_eq_true rfl) d3_106 107 rfl (0 : Int32) rfl ?_
  refine aloadN w X d3_107 108 rfl rfl rfl ?_
  refine getfield w X (wd45 hw) Via.refl F_chunk_o d3_108 111 rfl (fun T X => ?_)
  refine iastore w X V_ch (by decide) 0 rfl (by rw [hbs]; decide) g_ch d3_111 112 rfl (0 : Int32) rfl (fun T h4 X W V_ch => ?_)
  have zn : n0 ≤ h4.size := W.size ▸ zn
  have E_o := E_o.wr W
  have F_chunks_o := F_chunks_o.other W (Or.inl ne_o_ch)
  have F_counts_o := F_counts_o.other W (Or.inl ne_o_ch)
  have F_rowLengths_o := F_rowLengths_o.other W (Or.inl ne_o_ch)
  have F_firstChunks_o := F_firstChunks_o.other W (Or.inl ne_o_ch)
  have F_firsts_o := F_firsts_o.other W (Or.inl ne_o_ch)
  have F_lastChunks_o := F_lastChunks_o.other W (Or.inl ne_o_ch)
  have F_lasts_o := F_lasts_o.other W (Or.inl ne_o_ch)
  have F_receivers_o := F_receivers_o.other W (Or.inl ne_o_ch)
  have F_chunk_o := F_chunk_o.other W (Or.inl ne_o_ch)
  have F_length_o := F_length_o.other W (Or.inl ne_o_ch)
  have F_receiverCount_o := F_receiverCount_o.other W (Or.inl ne_o_ch)
  have F_total_o := F_total_o.other W (Or.inl ne_o_ch)
  have F_rowLength_o := F_rowLength_o.other W (Or.inl ne_o_ch)
  have R_ck := R_ck.other W ne_ck_ch
  have V_rl := V_rl.other W (Ne.symm ne_ch_rl)
  have V_cn := V_cn.other W (Ne.symm ne_ch_cn)
  have V_fc := V_fc.other W (Ne.symm ne_ch_fc)
  have V_fs := V_fs.other W (Ne.symm ne_ch_fs)
  have V_lc := V_lc.other W (Ne.symm ne_ch_lc)
  have V_la := V_la.other W (Ne.symm ne_ch_la)
  have V_rv := V_rv.other W (Ne.symm ne_ch_rv)
  have K := K.wr W (Or.inl (List.mem_of_getElem? (i := 1) rfl))
  have V_ar := V_ar.other W ne_ar_ch
  obtain ⟨bs, V_ch, hbs⟩ : ∃ bs' : List Int32, PA Z h4 ch .int bs' ∧ bs'.length = 4096 := ⟨_, V_ch, by rw [List.length_set]; exact hbs⟩
  refine aloadN w X d3_112 113 rfl rfl rfl ?_
  refine getfield w X (wd12 hw) Via.refl F_chunks_o d3_113 116 rfl (fun T X => ?_)
  refine aloadN w X d3_116 117 rfl rfl rfl ?_
  refine getfield w X (wd26 hw) Via.refl F_lastChunks_o d3_117 120 rfl (fun T X => ?_)
  refine iloadN w X d3_120 121 rfl rfl ?_
  refine iaload w X V_lc (by decide) 1 rfl (Nat.le_of_ble_eq_true rfl) d3_121 122 rfl (0 : Int32) rfl ?_
  refine aaload0 w X R_ck rfl d3_122 123 rfl ?_
  refine aloadN w X d3_123 124 rfl rfl rfl ?_
  refine getfield w X (wd28 hw) Via.refl F_lasts_o d3_124 127 rfl (fun T X => ?_)
  refine iloadN w X d3_127 128 rfl rfl ?_
  refine iaload w X V_la (by decide) 1 rfl (Nat.le_of_ble_eq_true rfl) d3_128 129 rfl (0 : Int32) rfl ?_
  refine iconst w X (1 : Int32) d3_129 130 rfl rfl ?_
  refine iadd w X (1 : Int32) d3_130 131 rfl (by decide) ?_
  refine aloadN w X d3_131 132 rfl rfl rfl ?_
  refine getfield w X (wd43 hw) Via.refl F_length_o d3_132 135 rfl (fun T X => ?_)
  refine iastore w X V_ch (by decide) 1 rfl (by rw [hbs]; decide) g_ch d3_135 136 rfl len rfl (fun T h5 X W V_ch => ?_)
  have zn : n0 ≤ h5.size := W.size ▸ zn
  have E_o := E_o.wr W
  have F_chunks_o := F_chunks_o.other W (Or.inl ne_o_ch)
  have F_counts_o := F_counts_o.other W (Or.inl ne_o_ch)
  have F_rowLengths_o := F_rowLengths_o.other W (Or.inl ne_o_ch)
  have F_firstChunks_o := F_firstChunks_o.other W (Or.inl ne_o_ch)
  have F_firsts_o := F_firsts_o.other W (Or.inl ne_o_ch)
  have F_lastChunks_o := F_lastChunks_o.other W (Or.inl ne_o_ch)
  have F_lasts_o := F_lasts_o.other W (Or.inl ne_o_ch)
  have F_receivers_o := F_receivers_o.other W (Or.inl ne_o_ch)
  have F_chunk_o := F_chunk_o.other W (Or.inl ne_o_ch)
  have F_length_o := F_length_o.other W (Or.inl ne_o_ch)
  have F_receiverCount_o := F_receiverCount_o.other W (Or.inl ne_o_ch)
  have F_total_o := F_total_o.other W (Or.inl ne_o_ch)
  have F_rowLength_o := F_rowLength_o.other W (Or.inl ne_o_ch)
  have R_ck := R_ck.other W ne_ck_ch
  have V_rl := V_rl.other W (Ne.symm ne_ch_rl)
  have V_cn := V_cn.other W (Ne.symm ne_ch_cn)
  have V_fc := V_fc.other W (Ne.symm ne_ch_fc)
  have V_fs := V_fs.other W (Ne.symm ne_ch_fs)
  have V_lc := V_lc.other W (Ne.symm ne_ch_lc)
  have V_la := V_la.other W (Ne.symm ne_ch_la)
  have V_rv := V_rv.other W (Ne.symm ne_ch_rv)
  have K := K.wr W (Or.inl (List.mem_of_getElem? (i := 1) rfl))
  have V_ar := V_ar.other W ne_ar_ch
  obtain ⟨bs, V_ch, hbs⟩ : ∃ bs' : List Int32, PA Z h5 ch .int bs' ∧ bs'.length = 4096 := ⟨_, V_ch, by rw [List.length_set]; exact hbs⟩
  refine aloadN w X d3_136 137 rfl rfl rfl ?_
  refine getfield w X (wd26 hw) Via.refl F_lastChunks_o d3_137 140 rfl (fun T X => ?_)
  refine iloadN w X d3_140 141 rfl rfl ?_
  refine aloadN w X d3_141 142 rfl rfl rfl ?_
  refine getfield w X (wd45 hw) Via.refl F_chunk_o d3_142 145 rfl (fun T X => ?_)
  refine iastore w X V_lc (by decide) 1 rfl (Nat.le_of_ble_eq_true rfl) g_lc d3_145 146 rfl (0 : Int32) rfl (fun T h6 X W V_lc => ?_)
  have V_lc : PA Z h6 lc .int [q0, (0 : Int32)] := V_lc
  have zn : n0 ≤ h6.size := W.size ▸ zn
  have E_o := E_o.wr W
  have F_chunks_o := F_chunks_o.other W (Or.inl ne_o_lc)
  have F_counts_o := F_counts_o.other W (Or.inl ne_o_lc)
  have F_rowLengths_o := F_rowLengths_o.other W (Or.inl ne_o_lc)
  have F_firstChunks_o := F_firstChunks_o.other W (Or.inl ne_o_lc)
  have F_firsts_o := F_firsts_o.other W (Or.inl ne_o_lc)
  have F_lastChunks_o := F_lastChunks_o.other W (Or.inl ne_o_lc)
  have F_lasts_o := F_lasts_o.other W (Or.inl ne_o_lc)
  have F_receivers_o := F_receivers_o.other W (Or.inl ne_o_lc)
  have F_chunk_o := F_chunk_o.other W (Or.inl ne_o_lc)
  have F_length_o := F_length_o.other W (Or.inl ne_o_lc)
  have F_receiverCount_o := F_receiverCount_o.other W (Or.inl ne_o_lc)
  have F_total_o := F_total_o.other W (Or.inl ne_o_lc)
  have F_rowLength_o := F_rowLength_o.other W (Or.inl ne_o_lc)
  have R_ck := R_ck.other W ne_ck_lc
  have V_rl := V_rl.other W ne_rl_lc
  have V_cn := V_cn.other W ne_cn_lc
  have V_fc := V_fc.other W ne_fc_lc
  have V_fs := V_fs.other W ne_fs_lc
  have V_la := V_la.other W (Ne.symm ne_lc_la)
  have V_rv := V_rv.other W (Ne.symm ne_lc_rv)
  have V_ch := V_ch.other W ne_ch_lc
  have K := K.wr W (Or.inl (List.mem_of_getElem? (i := 6) rfl))
  have V_ar := V_ar.other W ne_ar_lc
  refine aloadN w X d3_146 147 rfl rfl rfl ?_
  refine getfield w X (wd28 hw) Via.refl F_lasts_o d3_147 150 rfl (fun T X => ?_)
  refine iloadN w X d3_150 151 rfl rfl ?_
  refine aloadN w X d3_151 152 rfl rfl rfl ?_
  refine getfield w X (wd43 hw) Via.refl F_length_o d3_152 155 rfl (fun T X => ?_)
  refine iastore w X V_la (by decide) 1 rfl (Nat.le_of_ble_eq_true rfl) g_la d3_155 156 rfl len rfl (fun T h7 X W V_la => ?_)
  have V_la : PA Z h7 la .int [z0, len] := V_la
  have zn : n0 ≤ h7.size := W.size ▸ zn
  have E_o := E_o.wr W
  have F_chunks_o := F_chunks_o.other W (Or.inl ne_o_la)
  have F_counts_o := F_counts_o.other W (Or.inl ne_o_la)
  have F_rowLengths_o := F_rowLengths_o.other W (Or.inl ne_o_la)
  have F_firstChunks_o := F_firstChunks_o.other W (Or.inl ne_o_la)
  have F_firsts_o := F_firsts_o.other W (Or.inl ne_o_la)
  have F_lastChunks_o := F_lastChunks_o.other W (Or.inl ne_o_la)
  have F_lasts_o := F_lasts_o.other W (Or.inl ne_o_la)
  have F_receivers_o := F_receivers_o.other W (Or.inl ne_o_la)
  have F_chunk_o := F_chunk_o.other W (Or.inl ne_o_la)
  have F_length_o := F_length_o.other W (Or.inl ne_o_la)
  have F_receiverCount_o := F_receiverCount_o.other W (Or.inl ne_o_la)
  have F_total_o := F_total_o.other W (Or.inl ne_o_la)
  have F_rowLength_o := F_rowLength_o.other W (Or.inl ne_o_la)
  have R_ck := R_ck.other W ne_ck_la
  have V_rl := V_rl.other W ne_rl_la
  have V_cn := V_cn.other W ne_cn_la
  have V_fc := V_fc.other W ne_fc_la
  have V_fs := V_fs.other W ne_fs_la
  have V_lc := V_lc.other W ne_lc_la
  have V_rv := V_rv.other W (Ne.symm ne_la_rv)
  have V_ch := V_ch.other W ne_ch_la
  have K := K.wr W (Or.inl (List.mem_of_getElem? (i := 7) rfl))
  have V_ar := V_ar.other W ne_ar_la
  refine aloadN w X d3_156 157 rfl rfl rfl ?_
  refine getfield w X (wd17 hw) Via.refl F_counts_o d3_157 160 rfl (fun T X => ?_)
  refine iloadN w X d3_160 161 rfl rfl ?_
  refine dup2 w X d3_161 162 rfl rfl rfl ?_
  refine iaload w X V_cn (by decide) 1 rfl (Nat.le_of_ble_eq_true rfl) d3_162 163 rfl (1 : Int32) rfl ?_
  refine iconst w X (1 : Int32) d3_163 164 rfl rfl ?_
  refine iadd w X (2 : Int32) d3_164 165 rfl (by decide) ?_
  refine iastore w X V_cn (by decide) 1 rfl (Nat.le_of_ble_eq_true rfl) g_cn d3_165 166 rfl (2 : Int32) rfl (fun T h8 X W V_cn => ?_)
  have V_cn : PA Z h8 cn .int [(0 : Int32), (2 : Int32)] := V_cn
  have zn : n0 ≤ h8.size := W.size ▸ zn
  have E_o := E_o.wr W
  have F_chunks_o := F_chunks_o.other W (Or.inl ne_o_cn)
  have F_counts_o := F_counts_o.other W (Or.inl ne_o_cn)
  have F_rowLengths_o := F_rowLengths_o.other W (Or.inl ne_o_cn)
  have F_firstChunks_o := F_firstChunks_o.other W (Or.inl ne_o_cn)
  have F_firsts_o := F_firsts_o.other W (Or.inl ne_o_cn)
  have F_lastChunks_o := F_lastChunks_o.other W (Or.inl ne_o_cn)
  have F_lasts_o := F_lasts_o.other W (Or.inl ne_o_cn)
  have F_receivers_o := F_receivers_o.other W (Or.inl ne_o_cn)
  have F_chunk_o := F_chunk_o.other W (Or.inl ne_o_cn)
  have F_length_o := F_length_o.other W (Or.inl ne_o_cn)
  have F_receiverCount_o := F_receiverCount_o.other W (Or.inl ne_o_cn)
  have F_total_o := F_total_o.other W (Or.inl ne_o_cn)
  have F_rowLength_o := F_rowLength_o.other W (Or.inl ne_o_cn)
  have R_ck := R_ck.other W ne_ck_cn
  have V_rl := V_rl.other W (Ne.symm ne_cn_rl)
  have V_fc := V_fc.other W (Ne.symm ne_cn_fc)
  have V_fs := V_fs.other W (Ne.symm ne_cn_fs)
  have V_lc := V_lc.other W (Ne.symm ne_cn_lc)
  have V_la := V_la.other W (Ne.symm ne_cn_la)
  have V_rv := V_rv.other W (Ne.symm ne_cn_rv)
  have V_ch := V_ch.other W ne_ch_cn
  have K := K.wr W (Or.inl (List.mem_of_getElem? (i := 2) rfl))
  have V_ar := V_ar.other W ne_ar_cn
  refine aloadN w X d3_166 167 rfl rfl rfl ?_
  refine getfield w X (wd12 hw) Via.refl F_chunks_o d3_167 170 rfl (fun T X => ?_)
  refine aloadN w X d3_170 171 rfl rfl rfl ?_
  refine getfield w X (wd45 hw) Via.refl F_chunk_o d3_171 174 rfl (fun T X => ?_)
  refine aaload0 w X R_ck rfl d3_174 175 rfl ?_
  refine astore w X d3_175 177 rfl rfl #[.val (.ref o), .val (.int (1 : Int32)), .val (.int hd), .val (.ref ar), .val (.int (0 : Int32)), .val (.int w5), .val (.int r1), .val (.ref ch)] rfl ?_
  refine aload w X d3_177 179 rfl rfl rfl ?_
  refine aloadN w X d3_179 180 rfl rfl rfl ?_
  refine getfield w X (wd43 hw) Via.refl F_length_o d3_180 183 rfl (fun T X => ?_)
  refine iconst w X (2 : Int32) d3_183 184 rfl rfl ?_
  refine iadd w X (len + (2 : Int32)) d3_184 185 rfl rfl ?_
  refine iloadN w X d3_185 186 rfl rfl ?_
  have hx0 := own_ix (k := (2 : Int32)) hlen (by decide)
  have hx11 := hx0.2
  refine iastore w X V_ch hx0.1 (len + (2 : Int32)).toNatClampNeg rfl (by rw [hbs]; omega) g_ch d3_186 187 rfl hd rfl (fun T h9 X W V_ch => ?_)
  have zn : n0 ≤ h9.size := W.size ▸ zn
  have E_o := E_o.wr W
  have F_chunks_o := F_chunks_o.other W (Or.inl ne_o_ch)
  have F_counts_o := F_counts_o.other W (Or.inl ne_o_ch)
  have F_rowLengths_o := F_rowLengths_o.other W (Or.inl ne_o_ch)
  have F_firstChunks_o := F_firstChunks_o.other W (Or.inl ne_o_ch)
  have F_firsts_o := F_firsts_o.other W (Or.inl ne_o_ch)
  have F_lastChunks_o := F_lastChunks_o.other W (Or.inl ne_o_ch)
  have F_lasts_o := F_lasts_o.other W (Or.inl ne_o_ch)
  have F_receivers_o := F_receivers_o.other W (Or.inl ne_o_ch)
  have F_chunk_o := F_chunk_o.other W (Or.inl ne_o_ch)
  have F_length_o := F_length_o.other W (Or.inl ne_o_ch)
  have F_receiverCount_o := F_receiverCount_o.other W (Or.inl ne_o_ch)
  have F_total_o := F_total_o.other W (Or.inl ne_o_ch)
  have F_rowLength_o := F_rowLength_o.other W (Or.inl ne_o_ch)
  have R_ck := R_ck.other W ne_ck_ch
  have V_rl := V_rl.other W (Ne.symm ne_ch_rl)
  have V_cn := V_cn.other W (Ne.symm ne_ch_cn)
  have V_fc := V_fc.other W (Ne.symm ne_ch_fc)
  have V_fs := V_fs.other W (Ne.symm ne_ch_fs)
  have V_lc := V_lc.other W (Ne.symm ne_ch_lc)
  have V_la := V_la.other W (Ne.symm ne_ch_la)
  have V_rv := V_rv.other W (Ne.symm ne_ch_rv)
  have K := K.wr W (Or.inl (List.mem_of_getElem? (i := 1) rfl))
  have V_ar := V_ar.other W ne_ar_ch
  obtain ⟨bs, V_ch, hbs⟩ : ∃ bs' : List Int32, PA Z h9 ch .int bs' ∧ bs'.length = 4096 := ⟨_, V_ch, by rw [List.length_set]; exact hbs⟩
  refine aload w X d3_187 189 rfl rfl rfl ?_
  refine aloadN w X d3_189 190 rfl rfl rfl ?_
  refine getfield w X (wd43 hw) Via.refl F_length_o d3_190 193 rfl (fun T X => ?_)
  refine iconst w X (3 : Int32) d3_193 194 rfl rfl ?_
  refine iadd w X (len + (3 : Int32)) d3_194 195 rfl rfl ?_
  refine iload w X d3_195 197 rfl rfl ?_
  have hx0 := own_ix (k := (3 : Int32)) hlen (by decide)
  have hx11 := hx0.2
  refine iastore w X V_ch hx0.1 (len + (3 : Int32)).toNatClampNeg rfl (by rw [hbs]; omega) g_ch d3_197 198 rfl w5 rfl (fun T h10 X W V_ch => ?_)
  have zn : n0 ≤ h10.size := W.size ▸ zn
  have E_o := E_o.wr W
  have F_chunks_o := F_chunks_o.other W (Or.inl ne_o_ch)
  have F_counts_o := F_counts_o.other W (Or.inl ne_o_ch)
  have F_rowLengths_o := F_rowLengths_o.other W (Or.inl ne_o_ch)
  have F_firstChunks_o := F_firstChunks_o.other W (Or.inl ne_o_ch)
  have F_firsts_o := F_firsts_o.other W (Or.inl ne_o_ch)
  have F_lastChunks_o := F_lastChunks_o.other W (Or.inl ne_o_ch)
  have F_lasts_o := F_lasts_o.other W (Or.inl ne_o_ch)
  have F_receivers_o := F_receivers_o.other W (Or.inl ne_o_ch)
  have F_chunk_o := F_chunk_o.other W (Or.inl ne_o_ch)
  have F_length_o := F_length_o.other W (Or.inl ne_o_ch)
  have F_receiverCount_o := F_receiverCount_o.other W (Or.inl ne_o_ch)
  have F_total_o := F_total_o.other W (Or.inl ne_o_ch)
  have F_rowLength_o := F_rowLength_o.other W (Or.inl ne_o_ch)
  have R_ck := R_ck.other W ne_ck_ch
  have V_rl := V_rl.other W (Ne.symm ne_ch_rl)
  have V_cn := V_cn.other W (Ne.symm ne_ch_cn)
  have V_fc := V_fc.other W (Ne.symm ne_ch_fc)
  have V_fs := V_fs.other W (Ne.symm ne_ch_fs)
  have V_lc := V_lc.other W (Ne.symm ne_ch_lc)
  have V_la := V_la.other W (Ne.symm ne_ch_la)
  have V_rv := V_rv.other W (Ne.symm ne_ch_rv)
  have K := K.wr W (Or.inl (List.mem_of_getElem? (i := 1) rfl))
  have V_ar := V_ar.other W ne_ar_ch
  obtain ⟨bs, V_ch, hbs⟩ : ∃ bs' : List Int32, PA Z h10 ch .int bs' ∧ bs'.length = 4096 := ⟨_, V_ch, by rw [List.length_set]; exact hbs⟩
  refine aloadN w X d3_198 199 rfl rfl rfl ?_
  refine iload w X d3_199 201 rfl rfl ?_
  refine aload w X d3_201 203 rfl rfl rfl ?_
  refine aloadN w X d3_203 204 rfl rfl rfl ?_
  refine getfield w X (wd43 hw) Via.refl F_length_o d3_204 207 rfl (fun T X => ?_)
  refine iconst w X (4 : Int32) d3_207 208 rfl rfl ?_
  refine iadd w X (len + (4 : Int32)) d3_208 209 rfl rfl ?_
  refine iload w X d3_209 211 rfl rfl ?_
  have hx0 := own_ix (k := (4 : Int32)) hlen (by decide)
  have hx11 := hx0.2
  have hcw := own_cl (x := w5) (k := 3) hw5.1 hw5.2
  refine acopyI w X (wd49 hw) (wd52 hw) (wd50 hw) (wd51 hw) V_ar V_ch (by decide) hx0.1 (own_nn hw5.1) (by show 0 + _ ≤ 3; omega) (by rw [hbs]; have h11 := hx11; omega) g_ch d3_211 214 rfl rfl (by decide) 0 (Nat.le_of_eq rfl) (by decide) (fun T h11 bs2 X Kq V_ch hb2 => ?_)
  obtain ⟨bs, V_ch, hbs⟩ : ∃ bs' : List Int32, PA Z h11 ch .int bs' ∧ bs'.length = 4096 := ⟨_, V_ch, hb2.trans hbs⟩
  have zn : n0 ≤ h11.size := Nat.le_trans zn Kq.1
  have E_o := E_o.keep Kq
  have F_chunks_o := F_chunks_o.keep Kq (ninS ne_o_ch nin0)
  have F_counts_o := F_counts_o.keep Kq (ninS ne_o_ch nin0)
  have F_rowLengths_o := F_rowLengths_o.keep Kq (ninS ne_o_ch nin0)
  have F_firstChunks_o := F_firstChunks_o.keep Kq (ninS ne_o_ch nin0)
  have F_firsts_o := F_firsts_o.keep Kq (ninS ne_o_ch nin0)
  have F_lastChunks_o := F_lastChunks_o.keep Kq (ninS ne_o_ch nin0)
  have F_lasts_o := F_lasts_o.keep Kq (ninS ne_o_ch nin0)
  have F_receivers_o := F_receivers_o.keep Kq (ninS ne_o_ch nin0)
  have F_chunk_o := F_chunk_o.keep Kq (ninS ne_o_ch nin0)
  have F_length_o := F_length_o.keep Kq (ninS ne_o_ch nin0)
  have F_receiverCount_o := F_receiverCount_o.keep Kq (ninS ne_o_ch nin0)
  have F_total_o := F_total_o.keep Kq (ninS ne_o_ch nin0)
  have F_rowLength_o := F_rowLength_o.keep Kq (ninS ne_o_ch nin0)
  have R_ck := R_ck.keep Kq (ninS ne_ck_ch nin0)
  have V_rl := V_rl.keep Kq (ninS (Ne.symm ne_ch_rl) nin0)
  have V_cn := V_cn.keep Kq (ninS (Ne.symm ne_ch_cn) nin0)
  have V_fc := V_fc.keep Kq (ninS (Ne.symm ne_ch_fc) nin0)
  have V_fs := V_fs.keep Kq (ninS (Ne.symm ne_ch_fs) nin0)
  have V_lc := V_lc.keep Kq (ninS (Ne.symm ne_ch_lc) nin0)
  have V_la := V_la.keep Kq (ninS (Ne.symm ne_ch_la) nin0)
  have V_rv := V_rv.keep Kq (ninS (Ne.symm ne_ch_rv) nin0)
  have K := K.trans Kq (allS (Or.inl (List.mem_of_getElem? (i := 1) rfl)) all0)
  have V_ar := V_ar.keep Kq (ninS ne_ar_ch nin0)
  refine aloadN w X d3_214 215 rfl rfl rfl ?_
  refine dup w X d3_215 216 rfl rfl ?_
  refine getfield w X (wd43 hw) Via.refl F_length_o d3_216 219 rfl (fun T X => ?_)
  refine iload w X d3_219 221 rfl rfl ?_
  refine iadd w X (len + r1) d3_221 222 rfl rfl ?_
  refine putfield w X (wd43 hw) Via.refl F_length_o E_o (Or.inl (wd44 hw)) (wd2 hw) (ty := .int) (by decide) rfl rfl g_o d3_222 225 rfl (fun T h12 X W => ?_)
  have zn : n0 ≤ h12.size := W.size ▸ zn
  have E_o := E_o.wr W
  have F_chunks_o := F_chunks_o.other W (Or.inr (slot_ne (Or.inl (wd13 hw)) (Or.inl (wd44 hw)) (by decide) (t := (.array (.array .int))) (t' := .int) (by decide) (by decide)))
  have F_counts_o := F_counts_o.other W (Or.inr (slot_ne (Or.inr (wd18 hw)) (Or.inl (wd44 hw)) (by decide) (t := (.array .int)) (t' := .int) (by decide) (by decide)))
  have F_rowLengths_o := F_rowLengths_o.other W (Or.inr (slot_ne (Or.inr (wd21 hw)) (Or.inl (wd44 hw)) (by decide) (t := (.array .long)) (t' := .int) (by decide) (by decide)))
  have F_firstChunks_o := F_firstChunks_o.other W (Or.inr (slot_ne (Or.inr (wd23 hw)) (Or.inl (wd44 hw)) (by decide) (t := (.array .int)) (t' := .int) (by decide) (by decide)))
  have F_firsts_o := F_firsts_o.other W (Or.inr (slot_ne (Or.inr (wd25 hw)) (Or.inl (wd44 hw)) (by decide) (t := (.array .int)) (t' := .int) (by decide) (by decide)))
  have F_lastChunks_o := F_lastChunks_o.other W (Or.inr (slot_ne (Or.inr (wd27 hw)) (Or.inl (wd44 hw)) (by decide) (t := (.array .int)) (t' := .int) (by decide) (by decide)))
  have F_lasts_o := F_lasts_o.other W (Or.inr (slot_ne (Or.inr (wd29 hw)) (Or.inl (wd44 hw)) (by decide) (t := (.array .int)) (t' := .int) (by decide) (by decide)))
  have F_receivers_o := F_receivers_o.other W (Or.inr (slot_ne (Or.inr (wd31 hw)) (Or.inl (wd44 hw)) (by decide) (t := (.array .int)) (t' := .int) (by decide) (by decide)))
  have F_chunk_o := F_chunk_o.other W (Or.inr (slot_ne (Or.inl (wd46 hw)) (Or.inl (wd44 hw)) (by decide) (t := .int) (t' := .int) (by decide) (by decide)))
  have F_length_o := F_length_o.same W
  have F_receiverCount_o := F_receiverCount_o.other W (Or.inr (slot_ne (Or.inl (wd48 hw)) (Or.inl (wd44 hw)) (by decide) (t := .int) (t' := .int) (by decide) (by decide)))
  have F_total_o := F_total_o.other W (Or.inr (slot_ne (Or.inl (wd54 hw)) (Or.inl (wd44 hw)) (by decide) (t := .int) (t' := .int) (by decide) (by decide)))
  have F_rowLength_o := F_rowLength_o.other W (Or.inr (slot_ne (Or.inl (wd56 hw)) (Or.inl (wd44 hw)) (by decide) (t := .long) (t' := .int) (by decide) (by decide)))
  have R_ck := R_ck.other W (Ne.symm ne_o_ck)
  have V_rl := V_rl.other W (Ne.symm ne_o_rl)
  have V_cn := V_cn.other W (Ne.symm ne_o_cn)
  have V_fc := V_fc.other W (Ne.symm ne_o_fc)
  have V_fs := V_fs.other W (Ne.symm ne_o_fs)
  have V_lc := V_lc.other W (Ne.symm ne_o_lc)
  have V_la := V_la.other W (Ne.symm ne_o_la)
  have V_rv := V_rv.other W (Ne.symm ne_o_rv)
  have K := K.wr W (Or.inl (List.mem_of_getElem? (i := 0) rfl))
  have V_ar := V_ar.other W ne_ar_o
  have V_ch := V_ch.other W (Ne.symm ne_o_ch)
  refine aloadN w X d3_225 226 rfl rfl rfl ?_
  refine dup w X d3_226 227 rfl rfl ?_
  refine getfield w X (wd53 hw) Via.refl F_total_o d3_227 230 rfl (fun T X => ?_)
  refine iconst w X (1 : Int32) d3_230 231 rfl rfl ?_
  refine iadd w X (2 : Int32) d3_231 232 rfl (by decide) ?_
  refine putfield w X (wd53 hw) Via.refl F_total_o E_o (Or.inl (wd54 hw)) (wd2 hw) (ty := .int) (by decide) rfl rfl g_o d3_232 235 rfl (fun T h13 X W => ?_)
  have zn : n0 ≤ h13.size := W.size ▸ zn
  have E_o := E_o.wr W
  have F_chunks_o := F_chunks_o.other W (Or.inr (slot_ne (Or.inl (wd13 hw)) (Or.inl (wd54 hw)) (by decide) (t := (.array (.array .int))) (t' := .int) (by decide) (by decide)))
  have F_counts_o := F_counts_o.other W (Or.inr (slot_ne (Or.inr (wd18 hw)) (Or.inl (wd54 hw)) (by decide) (t := (.array .int)) (t' := .int) (by decide) (by decide)))
  have F_rowLengths_o := F_rowLengths_o.other W (Or.inr (slot_ne (Or.inr (wd21 hw)) (Or.inl (wd54 hw)) (by decide) (t := (.array .long)) (t' := .int) (by decide) (by decide)))
  have F_firstChunks_o := F_firstChunks_o.other W (Or.inr (slot_ne (Or.inr (wd23 hw)) (Or.inl (wd54 hw)) (by decide) (t := (.array .int)) (t' := .int) (by decide) (by decide)))
  have F_firsts_o := F_firsts_o.other W (Or.inr (slot_ne (Or.inr (wd25 hw)) (Or.inl (wd54 hw)) (by decide) (t := (.array .int)) (t' := .int) (by decide) (by decide)))
  have F_lastChunks_o := F_lastChunks_o.other W (Or.inr (slot_ne (Or.inr (wd27 hw)) (Or.inl (wd54 hw)) (by decide) (t := (.array .int)) (t' := .int) (by decide) (by decide)))
  have F_lasts_o := F_lasts_o.other W (Or.inr (slot_ne (Or.inr (wd29 hw)) (Or.inl (wd54 hw)) (by decide) (t := (.array .int)) (t' := .int) (by decide) (by decide)))
  have F_receivers_o := F_receivers_o.other W (Or.inr (slot_ne (Or.inr (wd31 hw)) (Or.inl (wd54 hw)) (by decide) (t := (.array .int)) (t' := .int) (by decide) (by decide)))
  have F_chunk_o := F_chunk_o.other W (Or.inr (slot_ne (Or.inl (wd46 hw)) (Or.inl (wd54 hw)) (by decide) (t := .int) (t' := .int) (by decide) (by decide)))
  have F_length_o := F_length_o.other W (Or.inr (slot_ne (Or.inl (wd44 hw)) (Or.inl (wd54 hw)) (by decide) (t := .int) (t' := .int) (by decide) (by decide)))
  have F_receiverCount_o := F_receiverCount_o.other W (Or.inr (slot_ne (Or.inl (wd48 hw)) (Or.inl (wd54 hw)) (by decide) (t := .int) (t' := .int) (by decide) (by decide)))
  have F_total_o := F_total_o.same W
  have F_rowLength_o := F_rowLength_o.other W (Or.inr (slot_ne (Or.inl (wd56 hw)) (Or.inl (wd54 hw)) (by decide) (t := .long) (t' := .int) (by decide) (by decide)))
  have R_ck := R_ck.other W (Ne.symm ne_o_ck)
  have V_rl := V_rl.other W (Ne.symm ne_o_rl)
  have V_cn := V_cn.other W (Ne.symm ne_o_cn)
  have V_fc := V_fc.other W (Ne.symm ne_o_fc)
  have V_fs := V_fs.other W (Ne.symm ne_o_fs)
  have V_lc := V_lc.other W (Ne.symm ne_o_lc)
  have V_la := V_la.other W (Ne.symm ne_o_la)
  have V_rv := V_rv.other W (Ne.symm ne_o_rv)
  have K := K.wr W (Or.inl (List.mem_of_getElem? (i := 0) rfl))
  have V_ar := V_ar.other W ne_ar_o
  have V_ch := V_ch.other W (Ne.symm ne_o_ch)
  refine aloadN w X d3_235 236 rfl rfl rfl ?_
  refine getfield w X (wd20 hw) Via.refl F_rowLengths_o d3_236 239 rfl (fun T X => ?_)
  refine iloadN w X d3_239 240 rfl rfl ?_
  refine dup2 w X d3_240 241 rfl rfl rfl ?_
  refine laload w X V_rl (by decide) 1 rfl (Nat.le_of_ble_eq_true rfl) d3_241 242 rfl x1 rfl ?_
  refine iconst w X (2 : Int32) d3_242 243 rfl rfl ?_
  refine iload w X d3_243 245 rfl rfl ?_
  refine iadd w X ((2 : Int32) + w5) d3_245 246 rfl rfl ?_
  refine i2l w X (((2 : Int32) + w5).toInt64) d3_246 247 rfl rfl ?_
  refine ladd w X (x1 + (((2 : Int32) + w5).toInt64)) d3_247 248 rfl rfl ?_
  refine lastore w X V_rl (by decide) 1 rfl (Nat.le_of_ble_eq_true rfl) g_rl d3_248 249 rfl (fun T h14 X W V_rl => ?_)
  have V_rl : PJ Z h14 rl [x0, (x1 + (((2 : Int32) + w5).toInt64))] := V_rl
  have zn : n0 ≤ h14.size := W.size ▸ zn
  have E_o := E_o.wr W
  have F_chunks_o := F_chunks_o.other W (Or.inl ne_o_rl)
  have F_counts_o := F_counts_o.other W (Or.inl ne_o_rl)
  have F_rowLengths_o := F_rowLengths_o.other W (Or.inl ne_o_rl)
  have F_firstChunks_o := F_firstChunks_o.other W (Or.inl ne_o_rl)
  have F_firsts_o := F_firsts_o.other W (Or.inl ne_o_rl)
  have F_lastChunks_o := F_lastChunks_o.other W (Or.inl ne_o_rl)
  have F_lasts_o := F_lasts_o.other W (Or.inl ne_o_rl)
  have F_receivers_o := F_receivers_o.other W (Or.inl ne_o_rl)
  have F_chunk_o := F_chunk_o.other W (Or.inl ne_o_rl)
  have F_length_o := F_length_o.other W (Or.inl ne_o_rl)
  have F_receiverCount_o := F_receiverCount_o.other W (Or.inl ne_o_rl)
  have F_total_o := F_total_o.other W (Or.inl ne_o_rl)
  have F_rowLength_o := F_rowLength_o.other W (Or.inl ne_o_rl)
  have R_ck := R_ck.other W ne_ck_rl
  have V_cn := V_cn.other W ne_cn_rl
  have V_fc := V_fc.other W (Ne.symm ne_rl_fc)
  have V_fs := V_fs.other W (Ne.symm ne_rl_fs)
  have V_lc := V_lc.other W (Ne.symm ne_rl_lc)
  have V_la := V_la.other W (Ne.symm ne_rl_la)
  have V_rv := V_rv.other W (Ne.symm ne_rl_rv)
  have K := K.wr W (Or.inl (List.mem_of_getElem? (i := 3) rfl))
  have V_ar := V_ar.other W ne_ar_rl
  have V_ch := V_ch.other W ne_ch_rl
  refine aloadN w X d3_249 250 rfl rfl rfl ?_
  refine dup w X d3_250 251 rfl rfl ?_
  refine getfield w X (wd55 hw) Via.refl F_rowLength_o d3_251 254 rfl (fun T X => ?_)
  refine iconst w X (2 : Int32) d3_254 255 rfl rfl ?_
  refine iload w X d3_255 257 rfl rfl ?_
  refine iadd w X ((2 : Int32) + w5) d3_257 258 rfl rfl ?_
  refine i2l w X (((2 : Int32) + w5).toInt64) d3_258 259 rfl rfl ?_
  refine ladd w X (tl + (((2 : Int32) + w5).toInt64)) d3_259 260 rfl rfl ?_
  refine putfield w X (wd55 hw) Via.refl F_rowLength_o E_o (Or.inl (wd56 hw)) (wd2 hw) (ty := .long) (by decide) rfl rfl g_o d3_260 263 rfl (fun T h15 X W => ?_)
  have zn : n0 ≤ h15.size := W.size ▸ zn
  have E_o := E_o.wr W
  have F_chunks_o := F_chunks_o.other W (Or.inr (slot_ne (Or.inl (wd13 hw)) (Or.inl (wd56 hw)) (by decide) (t := (.array (.array .int))) (t' := .long) (by decide) (by decide)))
  have F_counts_o := F_counts_o.other W (Or.inr (slot_ne (Or.inr (wd18 hw)) (Or.inl (wd56 hw)) (by decide) (t := (.array .int)) (t' := .long) (by decide) (by decide)))
  have F_rowLengths_o := F_rowLengths_o.other W (Or.inr (slot_ne (Or.inr (wd21 hw)) (Or.inl (wd56 hw)) (by decide) (t := (.array .long)) (t' := .long) (by decide) (by decide)))
  have F_firstChunks_o := F_firstChunks_o.other W (Or.inr (slot_ne (Or.inr (wd23 hw)) (Or.inl (wd56 hw)) (by decide) (t := (.array .int)) (t' := .long) (by decide) (by decide)))
  have F_firsts_o := F_firsts_o.other W (Or.inr (slot_ne (Or.inr (wd25 hw)) (Or.inl (wd56 hw)) (by decide) (t := (.array .int)) (t' := .long) (by decide) (by decide)))
  have F_lastChunks_o := F_lastChunks_o.other W (Or.inr (slot_ne (Or.inr (wd27 hw)) (Or.inl (wd56 hw)) (by decide) (t := (.array .int)) (t' := .long) (by decide) (by decide)))
  have F_lasts_o := F_lasts_o.other W (Or.inr (slot_ne (Or.inr (wd29 hw)) (Or.inl (wd56 hw)) (by decide) (t := (.array .int)) (t' := .long) (by decide) (by decide)))
  have F_receivers_o := F_receivers_o.other W (Or.inr (slot_ne (Or.inr (wd31 hw)) (Or.inl (wd56 hw)) (by decide) (t := (.array .int)) (t' := .long) (by decide) (by decide)))
  have F_chunk_o := F_chunk_o.other W (Or.inr (slot_ne (Or.inl (wd46 hw)) (Or.inl (wd56 hw)) (by decide) (t := .int) (t' := .long) (by decide) (by decide)))
  have F_length_o := F_length_o.other W (Or.inr (slot_ne (Or.inl (wd44 hw)) (Or.inl (wd56 hw)) (by decide) (t := .int) (t' := .long) (by decide) (by decide)))
  have F_receiverCount_o := F_receiverCount_o.other W (Or.inr (slot_ne (Or.inl (wd48 hw)) (Or.inl (wd56 hw)) (by decide) (t := .int) (t' := .long) (by decide) (by decide)))
  have F_total_o := F_total_o.other W (Or.inr (slot_ne (Or.inl (wd54 hw)) (Or.inl (wd56 hw)) (by decide) (t := .int) (t' := .long) (by decide) (by decide)))
  have F_rowLength_o := F_rowLength_o.same W
  have R_ck := R_ck.other W (Ne.symm ne_o_ck)
  have V_rl := V_rl.other W (Ne.symm ne_o_rl)
  have V_cn := V_cn.other W (Ne.symm ne_o_cn)
  have V_fc := V_fc.other W (Ne.symm ne_o_fc)
  have V_fs := V_fs.other W (Ne.symm ne_o_fs)
  have V_lc := V_lc.other W (Ne.symm ne_o_lc)
  have V_la := V_la.other W (Ne.symm ne_o_la)
  have V_rv := V_rv.other W (Ne.symm ne_o_rv)
  have K := K.wr W (Or.inl (List.mem_of_getElem? (i := 0) rfl))
  have V_ar := V_ar.other W ne_ar_o
  have V_ch := V_ch.other W (Ne.symm ne_o_ch)
  refine retV w X rfl d3_263 (by decide) (by decide) ?_
  exact ⟨rfl, K, (len + r1), trivial, f0, f1, y0, y1, q0, (0 : Int32), z0, len, v1, ⟨E_o, F_chunks_o, F_counts_o, F_rowLengths_o, F_firstChunks_o, F_firsts_o, F_lastChunks_o, F_lasts_o, F_receivers_o, F_chunk_o, F_length_o, F_receiverCount_o, F_total_o, F_rowLength_o, R_ck, V_rl, V_cn, V_fc, V_fs, V_lc, V_la, V_rv, _, V_ch, hbs⟩⟩
theorem d5_0 : decode prog_37_method_2_code 0 = .ok (.iconst 0, 1) := by decide +kernel
theorem d5_1 : decode prog_37_method_2_code 1 = .ok (.istore_n 1, 1) := by decide +kernel
theorem d5_2 : decode prog_37_method_2_code 2 = .ok (.iload_n 1, 1) := by decide +kernel
theorem d5_3 : decode prog_37_method_2_code 3 = .ok (.aload_n 0, 1) := by decide +kernel
theorem d5_4 : decode prog_37_method_2_code 4 = .ok (.getfield 43, 3) := by decide +kernel
theorem d5_7 : decode prog_37_method_2_code 7 = .ok (.if_icmp .ge 33, 3) := by decide +kernel
theorem d5_10 : decode prog_37_method_2_code 10 = .ok (.aload_n 0, 1) := by decide +kernel
theorem d5_11 : decode prog_37_method_2_code 11 = .ok (.getfield 20, 3) := by decide +kernel
theorem d5_14 : decode prog_37_method_2_code 14 = .ok (.aload_n 0, 1) := by decide +kernel
theorem d5_15 : decode prog_37_method_2_code 15 = .ok (.getfield 40, 3) := by decide +kernel
theorem d5_18 : decode prog_37_method_2_code 18 = .ok (.iload_n 1, 1) := by decide +kernel
theorem d5_19 : decode prog_37_method_2_code 19 = .ok (.iaload, 1) := by decide +kernel
theorem d5_20 : decode prog_37_method_2_code 20 = .ok (.iconst 0, 1) := by decide +kernel
theorem d5_21 : decode prog_37_method_2_code 21 = .ok (.iastore, 1) := by decide +kernel
theorem d5_22 : decode prog_37_method_2_code 22 = .ok (.aload_n 0, 1) := by decide +kernel
theorem d5_23 : decode prog_37_method_2_code 23 = .ok (.getfield 24, 3) := by decide +kernel
theorem d5_26 : decode prog_37_method_2_code 26 = .ok (.aload_n 0, 1) := by decide +kernel
theorem d5_27 : decode prog_37_method_2_code 27 = .ok (.getfield 40, 3) := by decide +kernel
theorem d5_30 : decode prog_37_method_2_code 30 = .ok (.iload_n 1, 1) := by decide +kernel
theorem d5_31 : decode prog_37_method_2_code 31 = .ok (.iaload, 1) := by decide +kernel
theorem d5_32 : decode prog_37_method_2_code 32 = .ok (.lconst 0, 1) := by decide +kernel
theorem d5_33 : decode prog_37_method_2_code 33 = .ok (.lastore, 1) := by decide +kernel
theorem d5_34 : decode prog_37_method_2_code 34 = .ok (.iinc 1 1, 3) := by decide +kernel
theorem d5_37 : decode prog_37_method_2_code 37 = .ok (.goto (-35), 3) := by decide +kernel
theorem d5_40 : decode prog_37_method_2_code 40 = .ok (.aload_n 0, 1) := by decide +kernel
theorem d5_41 : decode prog_37_method_2_code 41 = .ok (.iconst 0, 1) := by decide +kernel
theorem d5_42 : decode prog_37_method_2_code 42 = .ok (.putfield 43, 3) := by decide +kernel
theorem d5_45 : decode prog_37_method_2_code 45 = .ok (.aload_n 0, 1) := by decide +kernel
theorem d5_46 : decode prog_37_method_2_code 46 = .ok (.iconst 0, 1) := by decide +kernel
theorem d5_47 : decode prog_37_method_2_code 47 = .ok (.putfield 47, 3) := by decide +kernel
theorem d5_50 : decode prog_37_method_2_code 50 = .ok (.aload_n 0, 1) := by decide +kernel
theorem d5_51 : decode prog_37_method_2_code 51 = .ok (.iconst 0, 1) := by decide +kernel
theorem d5_52 : decode prog_37_method_2_code 52 = .ok (.putfield 50, 3) := by decide +kernel
theorem d5_55 : decode prog_37_method_2_code 55 = .ok (.aload_n 0, 1) := by decide +kernel
theorem d5_56 : decode prog_37_method_2_code 56 = .ok (.iconst 0, 1) := by decide +kernel
theorem d5_57 : decode prog_37_method_2_code 57 = .ok (.putfield 53, 3) := by decide +kernel
theorem d5_60 : decode prog_37_method_2_code 60 = .ok (.aload_n 0, 1) := by decide +kernel
theorem d5_61 : decode prog_37_method_2_code 61 = .ok (.lconst 0, 1) := by decide +kernel
theorem d5_62 : decode prog_37_method_2_code 62 = .ok (.putfield 56, 3) := by decide +kernel
theorem d5_65 : decode prog_37_method_2_code 65 = .ok (.return_, 1) := by decide +kernel
set_option maxRecDepth 65536 in
set_option maxHeartbeats 40000000 in
theorem rm_cl_0 {l : Launch} {Z : State} {a0 : Array Value} (hw : ∀ d ∈ tables_1, d.before a0 Z = true) (o ck ch cn rl fc fs lc la rv : Addr) (c0 f0 f1 y0 y1 q0 q1 z0 z1 v1 ck0 len tot : Int32) (tl x0 : Int64) (h : Heap) (n0 : Nat) (zn : n0 ≤ h.size) (OB : own_ob Z h o ck ch cn rl fc fs lc la rv ck0 len (1 : Int32) tot tl x0 (0 : Int64) c0 (0 : Int32) f0 f1 y0 y1 q0 q1 z0 z1 (0 : Int32) v1) (NE : own_ne o ck ch cn rl fc fs lc la rv) (GE : own_ge n0 o ck ch cn rl fc fs lc la rv) :
    Met l Z (⟨"com/example/vigilant_mailbox/vigilantmailbox/engine/Sends", "clear", "()V"⟩ : MethodName) prog_37_method_2_code 2 none [] ({ frames := 0, cells := 0, slots := 0, locals := 0 } : Room) #[(.ref o)] h n0 (RV fun h' => Keep h h' [o, cn, rl] ∧ own_ob Z h' o ck ch cn rl fc fs lc la rv (0 : Int32) (0 : Int32) (0 : Int32) (0 : Int32) (0 : Int64) (0 : Int64) (0 : Int64) (0 : Int32) (0 : Int32) f0 f1 y0 y1 q0 q1 z0 z1 (0 : Int32) v1) := by
  refine start (ls := #[.val (.ref o), .unset]) (plainFor_of_name pn1) (fun m => by first | (simp [entryFrame, mkF, argsToLocals, Value.category]; done) | rfl) ?_
  intro p e s m below meth c T G w X
  have K := Keep.refl h [o, cn, rl]
  obtain ⟨E_o, F_chunks_o, F_counts_o, F_rowLengths_o, F_firstChunks_o, F_firsts_o, F_lastChunks_o, F_lasts_o, F_receivers_o, F_chunk_o, F_length_o, F_receiverCount_o, F_total_o, F_rowLength_o, R_ck, V_rl, V_cn, V_fc, V_fs, V_lc, V_la, V_rv, bs, V_ch, hbs⟩ := OB
  obtain ⟨ne_o_ck, ne_o_ch, ne_o_cn, ne_o_rl, ne_o_fc, ne_o_fs, ne_o_lc, ne_o_la, ne_o_rv, ne_ck_ch, ne_ck_cn, ne_ck_rl, ne_ck_fc, ne_ck_fs, ne_ck_lc, ne_ck_la, ne_ck_rv, ne_ch_cn, ne_ch_rl, ne_ch_fc, ne_ch_fs, ne_ch_lc, ne_ch_la, ne_ch_rv, ne_cn_rl, ne_cn_fc, ne_cn_fs, ne_cn_lc, ne_cn_la, ne_cn_rv, ne_rl_fc, ne_rl_fs, ne_rl_lc, ne_rl_la, ne_rl_rv, ne_fc_fs, ne_fc_lc, ne_fc_la, ne_fc_rv, ne_fs_lc, ne_fs_la, ne_fs_rv, ne_lc_la, ne_lc_rv, ne_la_rv⟩ := NE
  obtain ⟨g_o, g_ck, g_ch, g_cn, g_rl, g_fc, g_fs, g_lc, g_la, g_rv⟩ := GE
  refine iconst w X (0 : Int32) d5_0 1 rfl rfl ?_
  refine istoreN w X (0 : Int32) d5_1 2 rfl rfl #[.val (.ref o), .val (.int (0 : Int32))] rfl ?_
  refine iloadN w X d5_2 3 rfl rfl ?_
  refine aloadN w X d5_3 4 rfl rfl rfl ?_
  refine getfield w X (wd47 hw) Via.refl F_receiverCount_o d5_4 7 rfl (fun T X => ?_)
  refine icmp_ge w X d5_7 40 10 (by decide) (by decide) rfl (fun q => absurd q (by decide)) (fun hc7_1 => ?_)
  refine aloadN w X d5_10 11 rfl rfl rfl ?_
  refine getfield w X (wd17 hw) Via.refl F_counts_o d5_11 14 rfl (fun T X => ?_)
  refine aloadN w X d5_14 15 rfl rfl rfl ?_
  refine getfield w X (wd30 hw) Via.refl F_receivers_o d5_15 18 rfl (fun T X => ?_)
  refine iloadN w X d5_18 19 rfl rfl ?_
  refine iaload w X V_rv (by decide) 0 rfl (Nat.le_of_ble_eq_true rfl) d5_19 20 rfl (0 : Int32) rfl ?_
  refine iconst w X (0 : Int32) d5_20 21 rfl rfl ?_
  refine iastore w X V_cn (by decide) 0 rfl (Nat.le_of_ble_eq_true rfl) g_cn d5_21 22 rfl (0 : Int32) rfl (fun T h2 X W V_cn => ?_)
  have V_cn : PA Z h2 cn .int [(0 : Int32), (0 : Int32)] := V_cn
  have zn : n0 ≤ h2.size := W.size ▸ zn
  have E_o := E_o.wr W
  have F_chunks_o := F_chunks_o.other W (Or.inl ne_o_cn)
  have F_counts_o := F_counts_o.other W (Or.inl ne_o_cn)
  have F_rowLengths_o := F_rowLengths_o.other W (Or.inl ne_o_cn)
  have F_firstChunks_o := F_firstChunks_o.other W (Or.inl ne_o_cn)
  have F_firsts_o := F_firsts_o.other W (Or.inl ne_o_cn)
  have F_lastChunks_o := F_lastChunks_o.other W (Or.inl ne_o_cn)
  have F_lasts_o := F_lasts_o.other W (Or.inl ne_o_cn)
  have F_receivers_o := F_receivers_o.other W (Or.inl ne_o_cn)
  have F_chunk_o := F_chunk_o.other W (Or.inl ne_o_cn)
  have F_length_o := F_length_o.other W (Or.inl ne_o_cn)
  have F_receiverCount_o := F_receiverCount_o.other W (Or.inl ne_o_cn)
  have F_total_o := F_total_o.other W (Or.inl ne_o_cn)
  have F_rowLength_o := F_rowLength_o.other W (Or.inl ne_o_cn)
  have R_ck := R_ck.other W ne_ck_cn
  have V_rl := V_rl.other W (Ne.symm ne_cn_rl)
  have V_fc := V_fc.other W (Ne.symm ne_cn_fc)
  have V_fs := V_fs.other W (Ne.symm ne_cn_fs)
  have V_lc := V_lc.other W (Ne.symm ne_cn_lc)
  have V_la := V_la.other W (Ne.symm ne_cn_la)
  have V_rv := V_rv.other W (Ne.symm ne_cn_rv)
  have V_ch := V_ch.other W ne_ch_cn
  have K := K.wr W (Or.inl (List.mem_of_getElem? (i := 1) rfl))
  refine aloadN w X d5_22 23 rfl rfl rfl ?_
  refine getfield w X (wd20 hw) Via.refl F_rowLengths_o d5_23 26 rfl (fun T X => ?_)
  refine aloadN w X d5_26 27 rfl rfl rfl ?_
  refine getfield w X (wd30 hw) Via.refl F_receivers_o d5_27 30 rfl (fun T X => ?_)
  refine iloadN w X d5_30 31 rfl rfl ?_
  refine iaload w X V_rv (by decide) 0 rfl (Nat.le_of_ble_eq_true rfl) d5_31 32 rfl (0 : Int32) rfl ?_
  refine lconst w X (0 : Int64) d5_32 33 rfl rfl ?_
  refine lastore w X V_rl (by decide) 0 rfl (Nat.le_of_ble_eq_true rfl) g_rl d5_33 34 rfl (fun T h3 X W V_rl => ?_)
  have V_rl : PJ Z h3 rl [(0 : Int64), (0 : Int64)] := V_rl
  have zn : n0 ≤ h3.size := W.size ▸ zn
  have E_o := E_o.wr W
  have F_chunks_o := F_chunks_o.other W (Or.inl ne_o_rl)
  have F_counts_o := F_counts_o.other W (Or.inl ne_o_rl)
  have F_rowLengths_o := F_rowLengths_o.other W (Or.inl ne_o_rl)
  have F_firstChunks_o := F_firstChunks_o.other W (Or.inl ne_o_rl)
  have F_firsts_o := F_firsts_o.other W (Or.inl ne_o_rl)
  have F_lastChunks_o := F_lastChunks_o.other W (Or.inl ne_o_rl)
  have F_lasts_o := F_lasts_o.other W (Or.inl ne_o_rl)
  have F_receivers_o := F_receivers_o.other W (Or.inl ne_o_rl)
  have F_chunk_o := F_chunk_o.other W (Or.inl ne_o_rl)
  have F_length_o := F_length_o.other W (Or.inl ne_o_rl)
  have F_receiverCount_o := F_receiverCount_o.other W (Or.inl ne_o_rl)
  have F_total_o := F_total_o.other W (Or.inl ne_o_rl)
  have F_rowLength_o := F_rowLength_o.other W (Or.inl ne_o_rl)
  have R_ck := R_ck.other W ne_ck_rl
  have V_cn := V_cn.other W ne_cn_rl
  have V_fc := V_fc.other W (Ne.symm ne_rl_fc)
  have V_fs := V_fs.other W (Ne.symm ne_rl_fs)
  have V_lc := V_lc.other W (Ne.symm ne_rl_lc)
  have V_la := V_la.other W (Ne.symm ne_rl_la)
  have V_rv := V_rv.other W (Ne.symm ne_rl_rv)
  have V_ch := V_ch.other W ne_ch_rl
  have K := K.wr W (Or.inl (List.mem_of_getElem? (i := 2) rfl))
  refine iinc w X (1 : Int32) d5_34 37 rfl rfl (by decide) #[.val (.ref o), .val (.int (1 : Int32))] rfl ?_
  refine goto w X d5_37 2 (by decide) (by decide) ?_
  refine iloadN w X d5_2 3 rfl rfl ?_
  refine aloadN w X d5_3 4 rfl rfl rfl ?_
  refine getfield w X (wd47 hw) Via.refl F_receiverCount_o d5_4 7 rfl (fun T X => ?_)
  refine icmp_ge w X d5_7 40 10 (by decide) (by decide) rfl (fun hc7_4 => ?_) (fun q => absurd q (by decide))
  refine aloadN w X d5_40 41 rfl rfl rfl ?_
  refine iconst w X (0 : Int32) d5_41 42 rfl rfl ?_
  refine putfield w X (wd47 hw) Via.refl F_receiverCount_o E_o (Or.inl (wd48 hw)) (wd2 hw) (ty := .int) (by decide) rfl rfl g_o d5_42 45 rfl (fun T h5 X W => ?_)
  have zn : n0 ≤ h5.size := W.size ▸ zn
  have E_o := E_o.wr W
  have F_chunks_o := F_chunks_o.other W (Or.inr (slot_ne (Or.inl (wd13 hw)) (Or.inl (wd48 hw)) (by decide) (t := (.array (.array .int))) (t' := .int) (by decide) (by decide)))
  have F_counts_o := F_counts_o.other W (Or.inr (slot_ne (Or.inr (wd18 hw)) (Or.inl (wd48 hw)) (by decide) (t := (.array .int)) (t' := .int) (by decide) (by decide)))
  have F_rowLengths_o := F_rowLengths_o.other W (Or.inr (slot_ne (Or.inr (wd21 hw)) (Or.inl (wd48 hw)) (by decide) (t := (.array .long)) (t' := .int) (by decide) (by decide)))
  have F_firstChunks_o := F_firstChunks_o.other W (Or.inr (slot_ne (Or.inr (wd23 hw)) (Or.inl (wd48 hw)) (by decide) (t := (.array .int)) (t' := .int) (by decide) (by decide)))
  have F_firsts_o := F_firsts_o.other W (Or.inr (slot_ne (Or.inr (wd25 hw)) (Or.inl (wd48 hw)) (by decide) (t := (.array .int)) (t' := .int) (by decide) (by decide)))
  have F_lastChunks_o := F_lastChunks_o.other W (Or.inr (slot_ne (Or.inr (wd27 hw)) (Or.inl (wd48 hw)) (by decide) (t := (.array .int)) (t' := .int) (by decide) (by decide)))
  have F_lasts_o := F_lasts_o.other W (Or.inr (slot_ne (Or.inr (wd29 hw)) (Or.inl (wd48 hw)) (by decide) (t := (.array .int)) (t' := .int) (by decide) (by decide)))
  have F_receivers_o := F_receivers_o.other W (Or.inr (slot_ne (Or.inr (wd31 hw)) (Or.inl (wd48 hw)) (by decide) (t := (.array .int)) (t' := .int) (by decide) (by decide)))
  have F_chunk_o := F_chunk_o.other W (Or.inr (slot_ne (Or.inl (wd46 hw)) (Or.inl (wd48 hw)) (by decide) (t := .int) (t' := .int) (by decide) (by decide)))
  have F_length_o := F_length_o.other W (Or.inr (slot_ne (Or.inl (wd44 hw)) (Or.inl (wd48 hw)) (by decide) (t := .int) (t' := .int) (by decide) (by decide)))
  have F_receiverCount_o := F_receiverCount_o.same W
  have F_total_o := F_total_o.other W (Or.inr (slot_ne (Or.inl (wd54 hw)) (Or.inl (wd48 hw)) (by decide) (t := .int) (t' := .int) (by decide) (by decide)))
  have F_rowLength_o := F_rowLength_o.other W (Or.inr (slot_ne (Or.inl (wd56 hw)) (Or.inl (wd48 hw)) (by decide) (t := .long) (t' := .int) (by decide) (by decide)))
  have R_ck := R_ck.other W (Ne.symm ne_o_ck)
  have V_rl := V_rl.other W (Ne.symm ne_o_rl)
  have V_cn := V_cn.other W (Ne.symm ne_o_cn)
  have V_fc := V_fc.other W (Ne.symm ne_o_fc)
  have V_fs := V_fs.other W (Ne.symm ne_o_fs)
  have V_lc := V_lc.other W (Ne.symm ne_o_lc)
  have V_la := V_la.other W (Ne.symm ne_o_la)
  have V_rv := V_rv.other W (Ne.symm ne_o_rv)
  have V_ch := V_ch.other W (Ne.symm ne_o_ch)
  have K := K.wr W (Or.inl (List.mem_of_getElem? (i := 0) rfl))
  refine aloadN w X d5_45 46 rfl rfl rfl ?_
  refine iconst w X (0 : Int32) d5_46 47 rfl rfl ?_
  refine putfield w X (wd45 hw) Via.refl F_chunk_o E_o (Or.inl (wd46 hw)) (wd2 hw) (ty := .int) (by decide) rfl rfl g_o d5_47 50 rfl (fun T h6 X W => ?_)
  have zn : n0 ≤ h6.size := W.size ▸ zn
  have E_o := E_o.wr W
  have F_chunks_o := F_chunks_o.other W (Or.inr (slot_ne (Or.inl (wd13 hw)) (Or.inl (wd46 hw)) (by decide) (t := (.array (.array .int))) (t' := .int) (by decide) (by decide)))
  have F_counts_o := F_counts_o.other W (Or.inr (slot_ne (Or.inr (wd18 hw)) (Or.inl (wd46 hw)) (by decide) (t := (.array .int)) (t' := .int) (by decide) (by decide)))
  have F_rowLengths_o := F_rowLengths_o.other W (Or.inr (slot_ne (Or.inr (wd21 hw)) (Or.inl (wd46 hw)) (by decide) (t := (.array .long)) (t' := .int) (by decide) (by decide)))
  have F_firstChunks_o := F_firstChunks_o.other W (Or.inr (slot_ne (Or.inr (wd23 hw)) (Or.inl (wd46 hw)) (by decide) (t := (.array .int)) (t' := .int) (by decide) (by decide)))
  have F_firsts_o := F_firsts_o.other W (Or.inr (slot_ne (Or.inr (wd25 hw)) (Or.inl (wd46 hw)) (by decide) (t := (.array .int)) (t' := .int) (by decide) (by decide)))
  have F_lastChunks_o := F_lastChunks_o.other W (Or.inr (slot_ne (Or.inr (wd27 hw)) (Or.inl (wd46 hw)) (by decide) (t := (.array .int)) (t' := .int) (by decide) (by decide)))
  have F_lasts_o := F_lasts_o.other W (Or.inr (slot_ne (Or.inr (wd29 hw)) (Or.inl (wd46 hw)) (by decide) (t := (.array .int)) (t' := .int) (by decide) (by decide)))
  have F_receivers_o := F_receivers_o.other W (Or.inr (slot_ne (Or.inr (wd31 hw)) (Or.inl (wd46 hw)) (by decide) (t := (.array .int)) (t' := .int) (by decide) (by decide)))
  have F_chunk_o := F_chunk_o.same W
  have F_length_o := F_length_o.other W (Or.inr (slot_ne (Or.inl (wd44 hw)) (Or.inl (wd46 hw)) (by decide) (t := .int) (t' := .int) (by decide) (by decide)))
  have F_receiverCount_o := F_receiverCount_o.other W (Or.inr (slot_ne (Or.inl (wd48 hw)) (Or.inl (wd46 hw)) (by decide) (t := .int) (t' := .int) (by decide) (by decide)))
  have F_total_o := F_total_o.other W (Or.inr (slot_ne (Or.inl (wd54 hw)) (Or.inl (wd46 hw)) (by decide) (t := .int) (t' := .int) (by decide) (by decide)))
  have F_rowLength_o := F_rowLength_o.other W (Or.inr (slot_ne (Or.inl (wd56 hw)) (Or.inl (wd46 hw)) (by decide) (t := .long) (t' := .int) (by decide) (by decide)))
  have R_ck := R_ck.other W (Ne.symm ne_o_ck)
  have V_rl := V_rl.other W (Ne.symm ne_o_rl)
  have V_cn := V_cn.other W (Ne.symm ne_o_cn)
  have V_fc := V_fc.other W (Ne.symm ne_o_fc)
  have V_fs := V_fs.other W (Ne.symm ne_o_fs)
  have V_lc := V_lc.other W (Ne.symm ne_o_lc)
  have V_la := V_la.other W (Ne.symm ne_o_la)
  have V_rv := V_rv.other W (Ne.symm ne_o_rv)
  have V_ch := V_ch.other W (Ne.symm ne_o_ch)
  have K := K.wr W (Or.inl (List.mem_of_getElem? (i := 0) rfl))
  refine aloadN w X d5_50 51 rfl rfl rfl ?_
  refine iconst w X (0 : Int32) d5_51 52 rfl rfl ?_
  refine putfield w X (wd43 hw) Via.refl F_length_o E_o (Or.inl (wd44 hw)) (wd2 hw) (ty := .int) (by decide) rfl rfl g_o d5_52 55 rfl (fun T h7 X W => ?_)
  have zn : n0 ≤ h7.size := W.size ▸ zn
  have E_o := E_o.wr W
  have F_chunks_o := F_chunks_o.other W (Or.inr (slot_ne (Or.inl (wd13 hw)) (Or.inl (wd44 hw)) (by decide) (t := (.array (.array .int))) (t' := .int) (by decide) (by decide)))
  have F_counts_o := F_counts_o.other W (Or.inr (slot_ne (Or.inr (wd18 hw)) (Or.inl (wd44 hw)) (by decide) (t := (.array .int)) (t' := .int) (by decide) (by decide)))
  have F_rowLengths_o := F_rowLengths_o.other W (Or.inr (slot_ne (Or.inr (wd21 hw)) (Or.inl (wd44 hw)) (by decide) (t := (.array .long)) (t' := .int) (by decide) (by decide)))
  have F_firstChunks_o := F_firstChunks_o.other W (Or.inr (slot_ne (Or.inr (wd23 hw)) (Or.inl (wd44 hw)) (by decide) (t := (.array .int)) (t' := .int) (by decide) (by decide)))
  have F_firsts_o := F_firsts_o.other W (Or.inr (slot_ne (Or.inr (wd25 hw)) (Or.inl (wd44 hw)) (by decide) (t := (.array .int)) (t' := .int) (by decide) (by decide)))
  have F_lastChunks_o := F_lastChunks_o.other W (Or.inr (slot_ne (Or.inr (wd27 hw)) (Or.inl (wd44 hw)) (by decide) (t := (.array .int)) (t' := .int) (by decide) (by decide)))
  have F_lasts_o := F_lasts_o.other W (Or.inr (slot_ne (Or.inr (wd29 hw)) (Or.inl (wd44 hw)) (by decide) (t := (.array .int)) (t' := .int) (by decide) (by decide)))
  have F_receivers_o := F_receivers_o.other W (Or.inr (slot_ne (Or.inr (wd31 hw)) (Or.inl (wd44 hw)) (by decide) (t := (.array .int)) (t' := .int) (by decide) (by decide)))
  have F_chunk_o := F_chunk_o.other W (Or.inr (slot_ne (Or.inl (wd46 hw)) (Or.inl (wd44 hw)) (by decide) (t := .int) (t' := .int) (by decide) (by decide)))
  have F_length_o := F_length_o.same W
  have F_receiverCount_o := F_receiverCount_o.other W (Or.inr (slot_ne (Or.inl (wd48 hw)) (Or.inl (wd44 hw)) (by decide) (t := .int) (t' := .int) (by decide) (by decide)))
  have F_total_o := F_total_o.other W (Or.inr (slot_ne (Or.inl (wd54 hw)) (Or.inl (wd44 hw)) (by decide) (t := .int) (t' := .int) (by decide) (by decide)))
  have F_rowLength_o := F_rowLength_o.other W (Or.inr (slot_ne (Or.inl (wd56 hw)) (Or.inl (wd44 hw)) (by decide) (t := .long) (t' := .int) (by decide) (by decide)))
  have R_ck := R_ck.other W (Ne.symm ne_o_ck)
  have V_rl := V_rl.other W (Ne.symm ne_o_rl)
  have V_cn := V_cn.other W (Ne.symm ne_o_cn)
  have V_fc := V_fc.other W (Ne.symm ne_o_fc)
  have V_fs := V_fs.other W (Ne.symm ne_o_fs)
  have V_lc := V_lc.other W (Ne.symm ne_o_lc)
  have V_la := V_la.other W (Ne.symm ne_o_la)
  have V_rv := V_rv.other W (Ne.symm ne_o_rv)
  have V_ch := V_ch.other W (Ne.symm ne_o_ch)
  have K := K.wr W (Or.inl (List.mem_of_getElem? (i := 0) rfl))
  refine aloadN w X d5_55 56 rfl rfl rfl ?_
  refine iconst w X (0 : Int32) d5_56 57 rfl rfl ?_
  refine putfield w X (wd53 hw) Via.refl F_total_o E_o (Or.inl (wd54 hw)) (wd2 hw) (ty := .int) (by decide) rfl rfl g_o d5_57 60 rfl (fun T h8 X W => ?_)
  have zn : n0 ≤ h8.size := W.size ▸ zn
  have E_o := E_o.wr W
  have F_chunks_o := F_chunks_o.other W (Or.inr (slot_ne (Or.inl (wd13 hw)) (Or.inl (wd54 hw)) (by decide) (t := (.array (.array .int))) (t' := .int) (by decide) (by decide)))
  have F_counts_o := F_counts_o.other W (Or.inr (slot_ne (Or.inr (wd18 hw)) (Or.inl (wd54 hw)) (by decide) (t := (.array .int)) (t' := .int) (by decide) (by decide)))
  have F_rowLengths_o := F_rowLengths_o.other W (Or.inr (slot_ne (Or.inr (wd21 hw)) (Or.inl (wd54 hw)) (by decide) (t := (.array .long)) (t' := .int) (by decide) (by decide)))
  have F_firstChunks_o := F_firstChunks_o.other W (Or.inr (slot_ne (Or.inr (wd23 hw)) (Or.inl (wd54 hw)) (by decide) (t := (.array .int)) (t' := .int) (by decide) (by decide)))
  have F_firsts_o := F_firsts_o.other W (Or.inr (slot_ne (Or.inr (wd25 hw)) (Or.inl (wd54 hw)) (by decide) (t := (.array .int)) (t' := .int) (by decide) (by decide)))
  have F_lastChunks_o := F_lastChunks_o.other W (Or.inr (slot_ne (Or.inr (wd27 hw)) (Or.inl (wd54 hw)) (by decide) (t := (.array .int)) (t' := .int) (by decide) (by decide)))
  have F_lasts_o := F_lasts_o.other W (Or.inr (slot_ne (Or.inr (wd29 hw)) (Or.inl (wd54 hw)) (by decide) (t := (.array .int)) (t' := .int) (by decide) (by decide)))
  have F_receivers_o := F_receivers_o.other W (Or.inr (slot_ne (Or.inr (wd31 hw)) (Or.inl (wd54 hw)) (by decide) (t := (.array .int)) (t' := .int) (by decide) (by decide)))
  have F_chunk_o := F_chunk_o.other W (Or.inr (slot_ne (Or.inl (wd46 hw)) (Or.inl (wd54 hw)) (by decide) (t := .int) (t' := .int) (by decide) (by decide)))
  have F_length_o := F_length_o.other W (Or.inr (slot_ne (Or.inl (wd44 hw)) (Or.inl (wd54 hw)) (by decide) (t := .int) (t' := .int) (by decide) (by decide)))
  have F_receiverCount_o := F_receiverCount_o.other W (Or.inr (slot_ne (Or.inl (wd48 hw)) (Or.inl (wd54 hw)) (by decide) (t := .int) (t' := .int) (by decide) (by decide)))
  have F_total_o := F_total_o.same W
  have F_rowLength_o := F_rowLength_o.other W (Or.inr (slot_ne (Or.inl (wd56 hw)) (Or.inl (wd54 hw)) (by decide) (t := .long) (t' := .int) (by decide) (by decide)))
  have R_ck := R_ck.other W (Ne.symm ne_o_ck)
  have V_rl := V_rl.other W (Ne.symm ne_o_rl)
  have V_cn := V_cn.other W (Ne.symm ne_o_cn)
  have V_fc := V_fc.other W (Ne.symm ne_o_fc)
  have V_fs := V_fs.other W (Ne.symm ne_o_fs)
  have V_lc := V_lc.other W (Ne.symm ne_o_lc)
  have V_la := V_la.other W (Ne.symm ne_o_la)
  have V_rv := V_rv.other W (Ne.symm ne_o_rv)
  have V_ch := V_ch.other W (Ne.symm ne_o_ch)
  have K := K.wr W (Or.inl (List.mem_of_getElem? (i := 0) rfl))
  refine aloadN w X d5_60 61 rfl rfl rfl ?_
  refine lconst w X (0 : Int64) d5_61 62 rfl rfl ?_
  refine putfield w X (wd55 hw) Via.refl F_rowLength_o E_o (Or.inl (wd56 hw)) (wd2 hw) (ty := .long) (by decide) rfl rfl g_o d5_62 65 rfl (fun T h9 X W => ?_)
  have zn : n0 ≤ h9.size := W.size ▸ zn
  have E_o := E_o.wr W
  have F_chunks_o := F_chunks_o.other W (Or.inr (slot_ne (Or.inl (wd13 hw)) (Or.inl (wd56 hw)) (by decide) (t := (.array (.array .int))) (t' := .long) (by decide) (by decide)))
  have F_counts_o := F_counts_o.other W (Or.inr (slot_ne (Or.inr (wd18 hw)) (Or.inl (wd56 hw)) (by decide) (t := (.array .int)) (t' := .long) (by decide) (by decide)))
  have F_rowLengths_o := F_rowLengths_o.other W (Or.inr (slot_ne (Or.inr (wd21 hw)) (Or.inl (wd56 hw)) (by decide) (t := (.array .long)) (t' := .long) (by decide) (by decide)))
  have F_firstChunks_o := F_firstChunks_o.other W (Or.inr (slot_ne (Or.inr (wd23 hw)) (Or.inl (wd56 hw)) (by decide) (t := (.array .int)) (t' := .long) (by decide) (by decide)))
  have F_firsts_o := F_firsts_o.other W (Or.inr (slot_ne (Or.inr (wd25 hw)) (Or.inl (wd56 hw)) (by decide) (t := (.array .int)) (t' := .long) (by decide) (by decide)))
  have F_lastChunks_o := F_lastChunks_o.other W (Or.inr (slot_ne (Or.inr (wd27 hw)) (Or.inl (wd56 hw)) (by decide) (t := (.array .int)) (t' := .long) (by decide) (by decide)))
  have F_lasts_o := F_lasts_o.other W (Or.inr (slot_ne (Or.inr (wd29 hw)) (Or.inl (wd56 hw)) (by decide) (t := (.array .int)) (t' := .long) (by decide) (by decide)))
  have F_receivers_o := F_receivers_o.other W (Or.inr (slot_ne (Or.inr (wd31 hw)) (Or.inl (wd56 hw)) (by decide) (t := (.array .int)) (t' := .long) (by decide) (by decide)))
  have F_chunk_o := F_chunk_o.other W (Or.inr (slot_ne (Or.inl (wd46 hw)) (Or.inl (wd56 hw)) (by decide) (t := .int) (t' := .long) (by decide) (by decide)))
  have F_length_o := F_length_o.other W (Or.inr (slot_ne (Or.inl (wd44 hw)) (Or.inl (wd56 hw)) (by decide) (t := .int) (t' := .long) (by decide) (by decide)))
  have F_receiverCount_o := F_receiverCount_o.other W (Or.inr (slot_ne (Or.inl (wd48 hw)) (Or.inl (wd56 hw)) (by decide) (t := .int) (t' := .long) (by decide) (by decide)))
  have F_total_o := F_total_o.other W (Or.inr (slot_ne (Or.inl (wd54 hw)) (Or.inl (wd56 hw)) (by decide) (t := .int) (t' := .long) (by decide) (by decide)))
  have F_rowLength_o := F_rowLength_o.same W
  have R_ck := R_ck.other W (Ne.symm ne_o_ck)
  have V_rl := V_rl.other W (Ne.symm ne_o_rl)
  have V_cn := V_cn.other W (Ne.symm ne_o_cn)
  have V_fc := V_fc.other W (Ne.symm ne_o_fc)
  have V_fs := V_fs.other W (Ne.symm ne_o_fs)
  have V_lc := V_lc.other W (Ne.symm ne_o_lc)
  have V_la := V_la.other W (Ne.symm ne_o_la)
  have V_rv := V_rv.other W (Ne.symm ne_o_rv)
  have V_ch := V_ch.other W (Ne.symm ne_o_ch)
  have K := K.wr W (Or.inl (List.mem_of_getElem? (i := 0) rfl))
  refine retV w X rfl d5_65 (by decide) (by decide) ?_
  exact ⟨rfl, K, ⟨E_o, F_chunks_o, F_counts_o, F_rowLengths_o, F_firstChunks_o, F_firsts_o, F_lastChunks_o, F_lasts_o, F_receivers_o, F_chunk_o, F_length_o, F_receiverCount_o, F_total_o, F_rowLength_o, R_ck, V_rl, V_cn, V_fc, V_fs, V_lc, V_la, V_rv, _, V_ch, hbs⟩⟩
set_option maxRecDepth 65536 in
set_option maxHeartbeats 40000000 in
theorem rm_cl_1 {l : Launch} {Z : State} {a0 : Array Value} (hw : ∀ d ∈ tables_1, d.before a0 Z = true) (o ck ch cn rl fc fs lc la rv : Addr) (c1 f0 f1 y0 y1 q0 q1 z0 z1 v1 ck0 len tot : Int32) (tl x1 : Int64) (h : Heap) (n0 : Nat) (zn : n0 ≤ h.size) (OB : own_ob Z h o ck ch cn rl fc fs lc la rv ck0 len (1 : Int32) tot tl (0 : Int64) x1 (0 : Int32) c1 f0 f1 y0 y1 q0 q1 z0 z1 (1 : Int32) v1) (NE : own_ne o ck ch cn rl fc fs lc la rv) (GE : own_ge n0 o ck ch cn rl fc fs lc la rv) :
    Met l Z (⟨"com/example/vigilant_mailbox/vigilantmailbox/engine/Sends", "clear", "()V"⟩ : MethodName) prog_37_method_2_code 2 none [] ({ frames := 0, cells := 0, slots := 0, locals := 0 } : Room) #[(.ref o)] h n0 (RV fun h' => Keep h h' [o, cn, rl] ∧ own_ob Z h' o ck ch cn rl fc fs lc la rv (0 : Int32) (0 : Int32) (0 : Int32) (0 : Int32) (0 : Int64) (0 : Int64) (0 : Int64) (0 : Int32) (0 : Int32) f0 f1 y0 y1 q0 q1 z0 z1 (1 : Int32) v1) := by
  refine start (ls := #[.val (.ref o), .unset]) (plainFor_of_name pn1) (fun m => by first | (simp [entryFrame, mkF, argsToLocals, Value.category]; done) | rfl) ?_
  intro p e s m below meth c T G w X
  have K := Keep.refl h [o, cn, rl]
  obtain ⟨E_o, F_chunks_o, F_counts_o, F_rowLengths_o, F_firstChunks_o, F_firsts_o, F_lastChunks_o, F_lasts_o, F_receivers_o, F_chunk_o, F_length_o, F_receiverCount_o, F_total_o, F_rowLength_o, R_ck, V_rl, V_cn, V_fc, V_fs, V_lc, V_la, V_rv, bs, V_ch, hbs⟩ := OB
  obtain ⟨ne_o_ck, ne_o_ch, ne_o_cn, ne_o_rl, ne_o_fc, ne_o_fs, ne_o_lc, ne_o_la, ne_o_rv, ne_ck_ch, ne_ck_cn, ne_ck_rl, ne_ck_fc, ne_ck_fs, ne_ck_lc, ne_ck_la, ne_ck_rv, ne_ch_cn, ne_ch_rl, ne_ch_fc, ne_ch_fs, ne_ch_lc, ne_ch_la, ne_ch_rv, ne_cn_rl, ne_cn_fc, ne_cn_fs, ne_cn_lc, ne_cn_la, ne_cn_rv, ne_rl_fc, ne_rl_fs, ne_rl_lc, ne_rl_la, ne_rl_rv, ne_fc_fs, ne_fc_lc, ne_fc_la, ne_fc_rv, ne_fs_lc, ne_fs_la, ne_fs_rv, ne_lc_la, ne_lc_rv, ne_la_rv⟩ := NE
  obtain ⟨g_o, g_ck, g_ch, g_cn, g_rl, g_fc, g_fs, g_lc, g_la, g_rv⟩ := GE
  refine iconst w X (0 : Int32) d5_0 1 rfl rfl ?_
  refine istoreN w X (0 : Int32) d5_1 2 rfl rfl #[.val (.ref o), .val (.int (0 : Int32))] rfl ?_
  refine iloadN w X d5_2 3 rfl rfl ?_
  refine aloadN w X d5_3 4 rfl rfl rfl ?_
  refine getfield w X (wd47 hw) Via.refl F_receiverCount_o d5_4 7 rfl (fun T X => ?_)
  refine icmp_ge w X d5_7 40 10 (by decide) (by decide) rfl (fun q => absurd q (by decide)) (fun hc7_1 => ?_)
  refine aloadN w X d5_10 11 rfl rfl rfl ?_
  refine getfield w X (wd17 hw) Via.refl F_counts_o d5_11 14 rfl (fun T X => ?_)
  refine aloadN w X d5_14 15 rfl rfl rfl ?_
  refine getfield w X (wd30 hw) Via.refl F_receivers_o d5_15 18 rfl (fun T X => ?_)
  refine iloadN w X d5_18 19 rfl rfl ?_
  refine iaload w X V_rv (by decide) 0 rfl (Nat.le_of_ble_eq_true rfl) d5_19 20 rfl (1 : Int32) rfl ?_
  refine iconst w X (0 : Int32) d5_20 21 rfl rfl ?_
  refine iastore w X V_cn (by decide) 1 rfl (Nat.le_of_ble_eq_true rfl) g_cn d5_21 22 rfl (0 : Int32) rfl (fun T h2 X W V_cn => ?_)
  have V_cn : PA Z h2 cn .int [(0 : Int32), (0 : Int32)] := V_cn
  have zn : n0 ≤ h2.size := W.size ▸ zn
  have E_o := E_o.wr W
  have F_chunks_o := F_chunks_o.other W (Or.inl ne_o_cn)
  have F_counts_o := F_counts_o.other W (Or.inl ne_o_cn)
  have F_rowLengths_o := F_rowLengths_o.other W (Or.inl ne_o_cn)
  have F_firstChunks_o := F_firstChunks_o.other W (Or.inl ne_o_cn)
  have F_firsts_o := F_firsts_o.other W (Or.inl ne_o_cn)
  have F_lastChunks_o := F_lastChunks_o.other W (Or.inl ne_o_cn)
  have F_lasts_o := F_lasts_o.other W (Or.inl ne_o_cn)
  have F_receivers_o := F_receivers_o.other W (Or.inl ne_o_cn)
  have F_chunk_o := F_chunk_o.other W (Or.inl ne_o_cn)
  have F_length_o := F_length_o.other W (Or.inl ne_o_cn)
  have F_receiverCount_o := F_receiverCount_o.other W (Or.inl ne_o_cn)
  have F_total_o := F_total_o.other W (Or.inl ne_o_cn)
  have F_rowLength_o := F_rowLength_o.other W (Or.inl ne_o_cn)
  have R_ck := R_ck.other W ne_ck_cn
  have V_rl := V_rl.other W (Ne.symm ne_cn_rl)
  have V_fc := V_fc.other W (Ne.symm ne_cn_fc)
  have V_fs := V_fs.other W (Ne.symm ne_cn_fs)
  have V_lc := V_lc.other W (Ne.symm ne_cn_lc)
  have V_la := V_la.other W (Ne.symm ne_cn_la)
  have V_rv := V_rv.other W (Ne.symm ne_cn_rv)
  have V_ch := V_ch.other W ne_ch_cn
  have K := K.wr W (Or.inl (List.mem_of_getElem? (i := 1) rfl))
  refine aloadN w X d5_22 23 rfl rfl rfl ?_
  refine getfield w X (wd20 hw) Via.refl F_rowLengths_o d5_23 26 rfl (fun T X => ?_)
  refine aloadN w X d5_26 27 rfl rfl rfl ?_
  refine getfield w X (wd30 hw) Via.refl F_receivers_o d5_27 30 rfl (fun T X => ?_)
  refine iloadN w X d5_30 31 rfl rfl ?_
  refine iaload w X V_rv (by decide) 0 rfl (Nat.le_of_ble_eq_true rfl) d5_31 32 rfl (1 : Int32) rfl ?_
  refine lconst w X (0 : Int64) d5_32 33 rfl rfl ?_
  refine lastore w X V_rl (by decide) 1 rfl (Nat.le_of_ble_eq_true rfl) g_rl d5_33 34 rfl (fun T h3 X W V_rl => ?_)
  have V_rl : PJ Z h3 rl [(0 : Int64), (0 : Int64)] := V_rl
  have zn : n0 ≤ h3.size := W.size ▸ zn
  have E_o := E_o.wr W
  have F_chunks_o := F_chunks_o.other W (Or.inl ne_o_rl)
  have F_counts_o := F_counts_o.other W (Or.inl ne_o_rl)
  have F_rowLengths_o := F_rowLengths_o.other W (Or.inl ne_o_rl)
  have F_firstChunks_o := F_firstChunks_o.other W (Or.inl ne_o_rl)
  have F_firsts_o := F_firsts_o.other W (Or.inl ne_o_rl)
  have F_lastChunks_o := F_lastChunks_o.other W (Or.inl ne_o_rl)
  have F_lasts_o := F_lasts_o.other W (Or.inl ne_o_rl)
  have F_receivers_o := F_receivers_o.other W (Or.inl ne_o_rl)
  have F_chunk_o := F_chunk_o.other W (Or.inl ne_o_rl)
  have F_length_o := F_length_o.other W (Or.inl ne_o_rl)
  have F_receiverCount_o := F_receiverCount_o.other W (Or.inl ne_o_rl)
  have F_total_o := F_total_o.other W (Or.inl ne_o_rl)
  have F_rowLength_o := F_rowLength_o.other W (Or.inl ne_o_rl)
  have R_ck := R_ck.other W ne_ck_rl
  have V_cn := V_cn.other W ne_cn_rl
  have V_fc := V_fc.other W (Ne.symm ne_rl_fc)
  have V_fs := V_fs.other W (Ne.symm ne_rl_fs)
  have V_lc := V_lc.other W (Ne.symm ne_rl_lc)
  have V_la := V_la.other W (Ne.symm ne_rl_la)
  have V_rv := V_rv.other W (Ne.symm ne_rl_rv)
  have V_ch := V_ch.other W ne_ch_rl
  have K := K.wr W (Or.inl (List.mem_of_getElem? (i := 2) rfl))
  refine iinc w X (1 : Int32) d5_34 37 rfl rfl (by decide) #[.val (.ref o), .val (.int (1 : Int32))] rfl ?_
  refine goto w X d5_37 2 (by decide) (by decide) ?_
  refine iloadN w X d5_2 3 rfl rfl ?_
  refine aloadN w X d5_3 4 rfl rfl rfl ?_
  refine getfield w X (wd47 hw) Via.refl F_receiverCount_o d5_4 7 rfl (fun T X => ?_)
  refine icmp_ge w X d5_7 40 10 (by decide) (by decide) rfl (fun hc7_4 => ?_) (fun q => absurd q (by decide))
  refine aloadN w X d5_40 41 rfl rfl rfl ?_
  refine iconst w X (0 : Int32) d5_41 42 rfl rfl ?_
  refine putfield w X (wd47 hw) Via.refl F_receiverCount_o E_o (Or.inl (wd48 hw)) (wd2 hw) (ty := .int) (by decide) rfl rfl g_o d5_42 45 rfl (fun T h5 X W => ?_)
  have zn : n0 ≤ h5.size := W.size ▸ zn
  have E_o := E_o.wr W
  have F_chunks_o := F_chunks_o.other W (Or.inr (slot_ne (Or.inl (wd13 hw)) (Or.inl (wd48 hw)) (by decide) (t := (.array (.array .int))) (t' := .int) (by decide) (by decide)))
  have F_counts_o := F_counts_o.other W (Or.inr (slot_ne (Or.inr (wd18 hw)) (Or.inl (wd48 hw)) (by decide) (t := (.array .int)) (t' := .int) (by decide) (by decide)))
  have F_rowLengths_o := F_rowLengths_o.other W (Or.inr (slot_ne (Or.inr (wd21 hw)) (Or.inl (wd48 hw)) (by decide) (t := (.array .long)) (t' := .int) (by decide) (by decide)))
  have F_firstChunks_o := F_firstChunks_o.other W (Or.inr (slot_ne (Or.inr (wd23 hw)) (Or.inl (wd48 hw)) (by decide) (t := (.array .int)) (t' := .int) (by decide) (by decide)))
  have F_firsts_o := F_firsts_o.other W (Or.inr (slot_ne (Or.inr (wd25 hw)) (Or.inl (wd48 hw)) (by decide) (t := (.array .int)) (t' := .int) (by decide) (by decide)))
  have F_lastChunks_o := F_lastChunks_o.other W (Or.inr (slot_ne (Or.inr (wd27 hw)) (Or.inl (wd48 hw)) (by decide) (t := (.array .int)) (t' := .int) (by decide) (by decide)))
  have F_lasts_o := F_lasts_o.other W (Or.inr (slot_ne (Or.inr (wd29 hw)) (Or.inl (wd48 hw)) (by decide) (t := (.array .int)) (t' := .int) (by decide) (by decide)))
  have F_receivers_o := F_receivers_o.other W (Or.inr (slot_ne (Or.inr (wd31 hw)) (Or.inl (wd48 hw)) (by decide) (t := (.array .int)) (t' := .int) (by decide) (by decide)))
  have F_chunk_o := F_chunk_o.other W (Or.inr (slot_ne (Or.inl (wd46 hw)) (Or.inl (wd48 hw)) (by decide) (t := .int) (t' := .int) (by decide) (by decide)))
  have F_length_o := F_length_o.other W (Or.inr (slot_ne (Or.inl (wd44 hw)) (Or.inl (wd48 hw)) (by decide) (t := .int) (t' := .int) (by decide) (by decide)))
  have F_receiverCount_o := F_receiverCount_o.same W
  have F_total_o := F_total_o.other W (Or.inr (slot_ne (Or.inl (wd54 hw)) (Or.inl (wd48 hw)) (by decide) (t := .int) (t' := .int) (by decide) (by decide)))
  have F_rowLength_o := F_rowLength_o.other W (Or.inr (slot_ne (Or.inl (wd56 hw)) (Or.inl (wd48 hw)) (by decide) (t := .long) (t' := .int) (by decide) (by decide)))
  have R_ck := R_ck.other W (Ne.symm ne_o_ck)
  have V_rl := V_rl.other W (Ne.symm ne_o_rl)
  have V_cn := V_cn.other W (Ne.symm ne_o_cn)
  have V_fc := V_fc.other W (Ne.symm ne_o_fc)
  have V_fs := V_fs.other W (Ne.symm ne_o_fs)
  have V_lc := V_lc.other W (Ne.symm ne_o_lc)
  have V_la := V_la.other W (Ne.symm ne_o_la)
  have V_rv := V_rv.other W (Ne.symm ne_o_rv)
  have V_ch := V_ch.other W (Ne.symm ne_o_ch)
  have K := K.wr W (Or.inl (List.mem_of_getElem? (i := 0) rfl))
  refine aloadN w X d5_45 46 rfl rfl rfl ?_
  refine iconst w X (0 : Int32) d5_46 47 rfl rfl ?_
  refine putfield w X (wd45 hw) Via.refl F_chunk_o E_o (Or.inl (wd46 hw)) (wd2 hw) (ty := .int) (by decide) rfl rfl g_o d5_47 50 rfl (fun T h6 X W => ?_)
  have zn : n0 ≤ h6.size := W.size ▸ zn
  have E_o := E_o.wr W
  have F_chunks_o := F_chunks_o.other W (Or.inr (slot_ne (Or.inl (wd13 hw)) (Or.inl (wd46 hw)) (by decide) (t := (.array (.array .int))) (t' := .int) (by decide) (by decide)))
  have F_counts_o := F_counts_o.other W (Or.inr (slot_ne (Or.inr (wd18 hw)) (Or.inl (wd46 hw)) (by decide) (t := (.array .int)) (t' := .int) (by decide) (by decide)))
  have F_rowLengths_o := F_rowLengths_o.other W (Or.inr (slot_ne (Or.inr (wd21 hw)) (Or.inl (wd46 hw)) (by decide) (t := (.array .long)) (t' := .int) (by decide) (by decide)))
  have F_firstChunks_o := F_firstChunks_o.other W (Or.inr (slot_ne (Or.inr (wd23 hw)) (Or.inl (wd46 hw)) (by decide) (t := (.array .int)) (t' := .int) (by decide) (by decide)))
  have F_firsts_o := F_firsts_o.other W (Or.inr (slot_ne (Or.inr (wd25 hw)) (Or.inl (wd46 hw)) (by decide) (t := (.array .int)) (t' := .int) (by decide) (by decide)))
  have F_lastChunks_o := F_lastChunks_o.other W (Or.inr (slot_ne (Or.inr (wd27 hw)) (Or.inl (wd46 hw)) (by decide) (t := (.array .int)) (t' := .int) (by decide) (by decide)))
  have F_lasts_o := F_lasts_o.other W (Or.inr (slot_ne (Or.inr (wd29 hw)) (Or.inl (wd46 hw)) (by decide) (t := (.array .int)) (t' := .int) (by decide) (by decide)))
  have F_receivers_o := F_receivers_o.other W (Or.inr (slot_ne (Or.inr (wd31 hw)) (Or.inl (wd46 hw)) (by decide) (t := (.array .int)) (t' := .int) (by decide) (by decide)))
  have F_chunk_o := F_chunk_o.same W
  have F_length_o := F_length_o.other W (Or.inr (slot_ne (Or.inl (wd44 hw)) (Or.inl (wd46 hw)) (by decide) (t := .int) (t' := .int) (by decide) (by decide)))
  have F_receiverCount_o := F_receiverCount_o.other W (Or.inr (slot_ne (Or.inl (wd48 hw)) (Or.inl (wd46 hw)) (by decide) (t := .int) (t' := .int) (by decide) (by decide)))
  have F_total_o := F_total_o.other W (Or.inr (slot_ne (Or.inl (wd54 hw)) (Or.inl (wd46 hw)) (by decide) (t := .int) (t' := .int) (by decide) (by decide)))
  have F_rowLength_o := F_rowLength_o.other W (Or.inr (slot_ne (Or.inl (wd56 hw)) (Or.inl (wd46 hw)) (by decide) (t := .long) (t' := .int) (by decide) (by decide)))
  have R_ck := R_ck.other W (Ne.symm ne_o_ck)
  have V_rl := V_rl.other W (Ne.symm ne_o_rl)
  have V_cn := V_cn.other W (Ne.symm ne_o_cn)
  have V_fc := V_fc.other W (Ne.symm ne_o_fc)
  have V_fs := V_fs.other W (Ne.symm ne_o_fs)
  have V_lc := V_lc.other W (Ne.symm ne_o_lc)
  have V_la := V_la.other W (Ne.symm ne_o_la)
  have V_rv := V_rv.other W (Ne.symm ne_o_rv)
  have V_ch := V_ch.other W (Ne.symm ne_o_ch)
  have K := K.wr W (Or.inl (List.mem_of_getElem? (i := 0) rfl))
  refine aloadN w X d5_50 51 rfl rfl rfl ?_
  refine iconst w X (0 : Int32) d5_51 52 rfl rfl ?_
  refine putfield w X (wd43 hw) Via.refl F_length_o E_o (Or.inl (wd44 hw)) (wd2 hw) (ty := .int) (by decide) rfl rfl g_o d5_52 55 rfl (fun T h7 X W => ?_)
  have zn : n0 ≤ h7.size := W.size ▸ zn
  have E_o := E_o.wr W
  have F_chunks_o := F_chunks_o.other W (Or.inr (slot_ne (Or.inl (wd13 hw)) (Or.inl (wd44 hw)) (by decide) (t := (.array (.array .int))) (t' := .int) (by decide) (by decide)))
  have F_counts_o := F_counts_o.other W (Or.inr (slot_ne (Or.inr (wd18 hw)) (Or.inl (wd44 hw)) (by decide) (t := (.array .int)) (t' := .int) (by decide) (by decide)))
  have F_rowLengths_o := F_rowLengths_o.other W (Or.inr (slot_ne (Or.inr (wd21 hw)) (Or.inl (wd44 hw)) (by decide) (t := (.array .long)) (t' := .int) (by decide) (by decide)))
  have F_firstChunks_o := F_firstChunks_o.other W (Or.inr (slot_ne (Or.inr (wd23 hw)) (Or.inl (wd44 hw)) (by decide) (t := (.array .int)) (t' := .int) (by decide) (by decide)))
  have F_firsts_o := F_firsts_o.other W (Or.inr (slot_ne (Or.inr (wd25 hw)) (Or.inl (wd44 hw)) (by decide) (t := (.array .int)) (t' := .int) (by decide) (by decide)))
  have F_lastChunks_o := F_lastChunks_o.other W (Or.inr (slot_ne (Or.inr (wd27 hw)) (Or.inl (wd44 hw)) (by decide) (t := (.array .int)) (t' := .int) (by decide) (by decide)))
  have F_lasts_o := F_lasts_o.other W (Or.inr (slot_ne (Or.inr (wd29 hw)) (Or.inl (wd44 hw)) (by decide) (t := (.array .int)) (t' := .int) (by decide) (by decide)))
  have F_receivers_o := F_receivers_o.other W (Or.inr (slot_ne (Or.inr (wd31 hw)) (Or.inl (wd44 hw)) (by decide) (t := (.array .int)) (t' := .int) (by decide) (by decide)))
  have F_chunk_o := F_chunk_o.other W (Or.inr (slot_ne (Or.inl (wd46 hw)) (Or.inl (wd44 hw)) (by decide) (t := .int) (t' := .int) (by decide) (by decide)))
  have F_length_o := F_length_o.same W
  have F_receiverCount_o := F_receiverCount_o.other W (Or.inr (slot_ne (Or.inl (wd48 hw)) (Or.inl (wd44 hw)) (by decide) (t := .int) (t' := .int) (by decide) (by decide)))
  have F_total_o := F_total_o.other W (Or.inr (slot_ne (Or.inl (wd54 hw)) (Or.inl (wd44 hw)) (by decide) (t := .int) (t' := .int) (by decide) (by decide)))
  have F_rowLength_o := F_rowLength_o.other W (Or.inr (slot_ne (Or.inl (wd56 hw)) (Or.inl (wd44 hw)) (by decide) (t := .long) (t' := .int) (by decide) (by decide)))
  have R_ck := R_ck.other W (Ne.symm ne_o_ck)
  have V_rl := V_rl.other W (Ne.symm ne_o_rl)
  have V_cn := V_cn.other W (Ne.symm ne_o_cn)
  have V_fc := V_fc.other W (Ne.symm ne_o_fc)
  have V_fs := V_fs.other W (Ne.symm ne_o_fs)
  have V_lc := V_lc.other W (Ne.symm ne_o_lc)
  have V_la := V_la.other W (Ne.symm ne_o_la)
  have V_rv := V_rv.other W (Ne.symm ne_o_rv)
  have V_ch := V_ch.other W (Ne.symm ne_o_ch)
  have K := K.wr W (Or.inl (List.mem_of_getElem? (i := 0) rfl))
  refine aloadN w X d5_55 56 rfl rfl rfl ?_
  refine iconst w X (0 : Int32) d5_56 57 rfl rfl ?_
  refine putfield w X (wd53 hw) Via.refl F_total_o E_o (Or.inl (wd54 hw)) (wd2 hw) (ty := .int) (by decide) rfl rfl g_o d5_57 60 rfl (fun T h8 X W => ?_)
  have zn : n0 ≤ h8.size := W.size ▸ zn
  have E_o := E_o.wr W
  have F_chunks_o := F_chunks_o.other W (Or.inr (slot_ne (Or.inl (wd13 hw)) (Or.inl (wd54 hw)) (by decide) (t := (.array (.array .int))) (t' := .int) (by decide) (by decide)))
  have F_counts_o := F_counts_o.other W (Or.inr (slot_ne (Or.inr (wd18 hw)) (Or.inl (wd54 hw)) (by decide) (t := (.array .int)) (t' := .int) (by decide) (by decide)))
  have F_rowLengths_o := F_rowLengths_o.other W (Or.inr (slot_ne (Or.inr (wd21 hw)) (Or.inl (wd54 hw)) (by decide) (t := (.array .long)) (t' := .int) (by decide) (by decide)))
  have F_firstChunks_o := F_firstChunks_o.other W (Or.inr (slot_ne (Or.inr (wd23 hw)) (Or.inl (wd54 hw)) (by decide) (t := (.array .int)) (t' := .int) (by decide) (by decide)))
  have F_firsts_o := F_firsts_o.other W (Or.inr (slot_ne (Or.inr (wd25 hw)) (Or.inl (wd54 hw)) (by decide) (t := (.array .int)) (t' := .int) (by decide) (by decide)))
  have F_lastChunks_o := F_lastChunks_o.other W (Or.inr (slot_ne (Or.inr (wd27 hw)) (Or.inl (wd54 hw)) (by decide) (t := (.array .int)) (t' := .int) (by decide) (by decide)))
  have F_lasts_o := F_lasts_o.other W (Or.inr (slot_ne (Or.inr (wd29 hw)) (Or.inl (wd54 hw)) (by decide) (t := (.array .int)) (t' := .int) (by decide) (by decide)))
  have F_receivers_o := F_receivers_o.other W (Or.inr (slot_ne (Or.inr (wd31 hw)) (Or.inl (wd54 hw)) (by decide) (t := (.array .int)) (t' := .int) (by decide) (by decide)))
  have F_chunk_o := F_chunk_o.other W (Or.inr (slot_ne (Or.inl (wd46 hw)) (Or.inl (wd54 hw)) (by decide) (t := .int) (t' := .int) (by decide) (by decide)))
  have F_length_o := F_length_o.other W (Or.inr (slot_ne (Or.inl (wd44 hw)) (Or.inl (wd54 hw)) (by decide) (t := .int) (t' := .int) (by decide) (by decide)))
  have F_receiverCount_o := F_receiverCount_o.other W (Or.inr (slot_ne (Or.inl (wd48 hw)) (Or.inl (wd54 hw)) (by decide) (t := .int) (t' := .int) (by decide) (by decide)))
  have F_total_o := F_total_o.same W
  have F_rowLength_o := F_rowLength_o.other W (Or.inr (slot_ne (Or.inl (wd56 hw)) (Or.inl (wd54 hw)) (by decide) (t := .long) (t' := .int) (by decide) (by decide)))
  have R_ck := R_ck.other W (Ne.symm ne_o_ck)
  have V_rl := V_rl.other W (Ne.symm ne_o_rl)
  have V_cn := V_cn.other W (Ne.symm ne_o_cn)
  have V_fc := V_fc.other W (Ne.symm ne_o_fc)
  have V_fs := V_fs.other W (Ne.symm ne_o_fs)
  have V_lc := V_lc.other W (Ne.symm ne_o_lc)
  have V_la := V_la.other W (Ne.symm ne_o_la)
  have V_rv := V_rv.other W (Ne.symm ne_o_rv)
  have V_ch := V_ch.other W (Ne.symm ne_o_ch)
  have K := K.wr W (Or.inl (List.mem_of_getElem? (i := 0) rfl))
  refine aloadN w X d5_60 61 rfl rfl rfl ?_
  refine lconst w X (0 : Int64) d5_61 62 rfl rfl ?_
  refine putfield w X (wd55 hw) Via.refl F_rowLength_o E_o (Or.inl (wd56 hw)) (wd2 hw) (ty := .long) (by decide) rfl rfl g_o d5_62 65 rfl (fun T h9 X W => ?_)
  have zn : n0 ≤ h9.size := W.size ▸ zn
  have E_o := E_o.wr W
  have F_chunks_o := F_chunks_o.other W (Or.inr (slot_ne (Or.inl (wd13 hw)) (Or.inl (wd56 hw)) (by decide) (t := (.array (.array .int))) (t' := .long) (by decide) (by decide)))
  have F_counts_o := F_counts_o.other W (Or.inr (slot_ne (Or.inr (wd18 hw)) (Or.inl (wd56 hw)) (by decide) (t := (.array .int)) (t' := .long) (by decide) (by decide)))
  have F_rowLengths_o := F_rowLengths_o.other W (Or.inr (slot_ne (Or.inr (wd21 hw)) (Or.inl (wd56 hw)) (by decide) (t := (.array .long)) (t' := .long) (by decide) (by decide)))
  have F_firstChunks_o := F_firstChunks_o.other W (Or.inr (slot_ne (Or.inr (wd23 hw)) (Or.inl (wd56 hw)) (by decide) (t := (.array .int)) (t' := .long) (by decide) (by decide)))
  have F_firsts_o := F_firsts_o.other W (Or.inr (slot_ne (Or.inr (wd25 hw)) (Or.inl (wd56 hw)) (by decide) (t := (.array .int)) (t' := .long) (by decide) (by decide)))
  have F_lastChunks_o := F_lastChunks_o.other W (Or.inr (slot_ne (Or.inr (wd27 hw)) (Or.inl (wd56 hw)) (by decide) (t := (.array .int)) (t' := .long) (by decide) (by decide)))
  have F_lasts_o := F_lasts_o.other W (Or.inr (slot_ne (Or.inr (wd29 hw)) (Or.inl (wd56 hw)) (by decide) (t := (.array .int)) (t' := .long) (by decide) (by decide)))
  have F_receivers_o := F_receivers_o.other W (Or.inr (slot_ne (Or.inr (wd31 hw)) (Or.inl (wd56 hw)) (by decide) (t := (.array .int)) (t' := .long) (by decide) (by decide)))
  have F_chunk_o := F_chunk_o.other W (Or.inr (slot_ne (Or.inl (wd46 hw)) (Or.inl (wd56 hw)) (by decide) (t := .int) (t' := .long) (by decide) (by decide)))
  have F_length_o := F_length_o.other W (Or.inr (slot_ne (Or.inl (wd44 hw)) (Or.inl (wd56 hw)) (by decide) (t := .int) (t' := .long) (by decide) (by decide)))
  have F_receiverCount_o := F_receiverCount_o.other W (Or.inr (slot_ne (Or.inl (wd48 hw)) (Or.inl (wd56 hw)) (by decide) (t := .int) (t' := .long) (by decide) (by decide)))
  have F_total_o := F_total_o.other W (Or.inr (slot_ne (Or.inl (wd54 hw)) (Or.inl (wd56 hw)) (by decide) (t := .int) (t' := .long) (by decide) (by decide)))
  have F_rowLength_o := F_rowLength_o.same W
  have R_ck := R_ck.other W (Ne.symm ne_o_ck)
  have V_rl := V_rl.other W (Ne.symm ne_o_rl)
  have V_cn := V_cn.other W (Ne.symm ne_o_cn)
  have V_fc := V_fc.other W (Ne.symm ne_o_fc)
  have V_fs := V_fs.other W (Ne.symm ne_o_fs)
  have V_lc := V_lc.other W (Ne.symm ne_o_lc)
  have V_la := V_la.other W (Ne.symm ne_o_la)
  have V_rv := V_rv.other W (Ne.symm ne_o_rv)
  have V_ch := V_ch.other W (Ne.symm ne_o_ch)
  have K := K.wr W (Or.inl (List.mem_of_getElem? (i := 0) rfl))
  refine retV w X rfl d5_65 (by decide) (by decide) ?_
  exact ⟨rfl, K, ⟨E_o, F_chunks_o, F_counts_o, F_rowLengths_o, F_firstChunks_o, F_firsts_o, F_lastChunks_o, F_lasts_o, F_receivers_o, F_chunk_o, F_length_o, F_receiverCount_o, F_total_o, F_rowLength_o, R_ck, V_rl, V_cn, V_fc, V_fs, V_lc, V_la, V_rv, _, V_ch, hbs⟩⟩
set_option maxRecDepth 65536 in
set_option maxHeartbeats 40000000 in
theorem rm_cl_01 {l : Launch} {Z : State} {a0 : Array Value} (hw : ∀ d ∈ tables_1, d.before a0 Z = true) (o ck ch cn rl fc fs lc la rv : Addr) (c0 c1 f0 f1 y0 y1 q0 q1 z0 z1 ck0 len tot : Int32) (tl x0 x1 : Int64) (h : Heap) (n0 : Nat) (zn : n0 ≤ h.size) (OB : own_ob Z h o ck ch cn rl fc fs lc la rv ck0 len (2 : Int32) tot tl x0 x1 c0 c1 f0 f1 y0 y1 q0 q1 z0 z1 (0 : Int32) (1 : Int32)) (NE : own_ne o ck ch cn rl fc fs lc la rv) (GE : own_ge n0 o ck ch cn rl fc fs lc la rv) :
    Met l Z (⟨"com/example/vigilant_mailbox/vigilantmailbox/engine/Sends", "clear", "()V"⟩ : MethodName) prog_37_method_2_code 2 none [] ({ frames := 0, cells := 0, slots := 0, locals := 0 } : Room) #[(.ref o)] h n0 (RV fun h' => Keep h h' [o, cn, rl] ∧ own_ob Z h' o ck ch cn rl fc fs lc la rv (0 : Int32) (0 : Int32) (0 : Int32) (0 : Int32) (0 : Int64) (0 : Int64) (0 : Int64) (0 : Int32) (0 : Int32) f0 f1 y0 y1 q0 q1 z0 z1 (0 : Int32) (1 : Int32)) := by
  refine start (ls := #[.val (.ref o), .unset]) (plainFor_of_name pn1) (fun m => by first | (simp [entryFrame, mkF, argsToLocals, Value.category]; done) | rfl) ?_
  intro p e s m below meth c T G w X
  have K := Keep.refl h [o, cn, rl]
  obtain ⟨E_o, F_chunks_o, F_counts_o, F_rowLengths_o, F_firstChunks_o, F_firsts_o, F_lastChunks_o, F_lasts_o, F_receivers_o, F_chunk_o, F_length_o, F_receiverCount_o, F_total_o, F_rowLength_o, R_ck, V_rl, V_cn, V_fc, V_fs, V_lc, V_la, V_rv, bs, V_ch, hbs⟩ := OB
  obtain ⟨ne_o_ck, ne_o_ch, ne_o_cn, ne_o_rl, ne_o_fc, ne_o_fs, ne_o_lc, ne_o_la, ne_o_rv, ne_ck_ch, ne_ck_cn, ne_ck_rl, ne_ck_fc, ne_ck_fs, ne_ck_lc, ne_ck_la, ne_ck_rv, ne_ch_cn, ne_ch_rl, ne_ch_fc, ne_ch_fs, ne_ch_lc, ne_ch_la, ne_ch_rv, ne_cn_rl, ne_cn_fc, ne_cn_fs, ne_cn_lc, ne_cn_la, ne_cn_rv, ne_rl_fc, ne_rl_fs, ne_rl_lc, ne_rl_la, ne_rl_rv, ne_fc_fs, ne_fc_lc, ne_fc_la, ne_fc_rv, ne_fs_lc, ne_fs_la, ne_fs_rv, ne_lc_la, ne_lc_rv, ne_la_rv⟩ := NE
  obtain ⟨g_o, g_ck, g_ch, g_cn, g_rl, g_fc, g_fs, g_lc, g_la, g_rv⟩ := GE
  refine iconst w X (0 : Int32) d5_0 1 rfl rfl ?_
  refine istoreN w X (0 : Int32) d5_1 2 rfl rfl #[.val (.ref o), .val (.int (0 : Int32))] rfl ?_
  refine iloadN w X d5_2 3 rfl rfl ?_
  refine aloadN w X d5_3 4 rfl rfl rfl ?_
  refine getfield w X (wd47 hw) Via.refl F_receiverCount_o d5_4 7 rfl (fun T X => ?_)
  refine icmp_ge w X d5_7 40 10 (by decide) (by decide) rfl (fun q => absurd q (by decide)) (fun hc7_1 => ?_)
  refine aloadN w X d5_10 11 rfl rfl rfl ?_
  refine getfield w X (wd17 hw) Via.refl F_counts_o d5_11 14 rfl (fun T X => ?_)
  refine aloadN w X d5_14 15 rfl rfl rfl ?_
  refine getfield w X (wd30 hw) Via.refl F_receivers_o d5_15 18 rfl (fun T X => ?_)
  refine iloadN w X d5_18 19 rfl rfl ?_
  refine iaload w X V_rv (by decide) 0 rfl (Nat.le_of_ble_eq_true rfl) d5_19 20 rfl (0 : Int32) rfl ?_
  refine iconst w X (0 : Int32) d5_20 21 rfl rfl ?_
  refine iastore w X V_cn (by decide) 0 rfl (Nat.le_of_ble_eq_true rfl) g_cn d5_21 22 rfl (0 : Int32) rfl (fun T h2 X W V_cn => ?_)
  have V_cn : PA Z h2 cn .int [(0 : Int32), c1] := V_cn
  have zn : n0 ≤ h2.size := W.size ▸ zn
  have E_o := E_o.wr W
  have F_chunks_o := F_chunks_o.other W (Or.inl ne_o_cn)
  have F_counts_o := F_counts_o.other W (Or.inl ne_o_cn)
  have F_rowLengths_o := F_rowLengths_o.other W (Or.inl ne_o_cn)
  have F_firstChunks_o := F_firstChunks_o.other W (Or.inl ne_o_cn)
  have F_firsts_o := F_firsts_o.other W (Or.inl ne_o_cn)
  have F_lastChunks_o := F_lastChunks_o.other W (Or.inl ne_o_cn)
  have F_lasts_o := F_lasts_o.other W (Or.inl ne_o_cn)
  have F_receivers_o := F_receivers_o.other W (Or.inl ne_o_cn)
  have F_chunk_o := F_chunk_o.other W (Or.inl ne_o_cn)
  have F_length_o := F_length_o.other W (Or.inl ne_o_cn)
  have F_receiverCount_o := F_receiverCount_o.other W (Or.inl ne_o_cn)
  have F_total_o := F_total_o.other W (Or.inl ne_o_cn)
  have F_rowLength_o := F_rowLength_o.other W (Or.inl ne_o_cn)
  have R_ck := R_ck.other W ne_ck_cn
  have V_rl := V_rl.other W (Ne.symm ne_cn_rl)
  have V_fc := V_fc.other W (Ne.symm ne_cn_fc)
  have V_fs := V_fs.other W (Ne.symm ne_cn_fs)
  have V_lc := V_lc.other W (Ne.symm ne_cn_lc)
  have V_la := V_la.other W (Ne.symm ne_cn_la)
  have V_rv := V_rv.other W (Ne.symm ne_cn_rv)
  have V_ch := V_ch.other W ne_ch_cn
  have K := K.wr W (Or.inl (List.mem_of_getElem? (i := 1) rfl))
  refine aloadN w X d5_22 23 rfl rfl rfl ?_
  refine getfield w X (wd20 hw) Via.refl F_rowLengths_o d5_23 26 rfl (fun T X => ?_)
  refine aloadN w X d5_26 27 rfl rfl rfl ?_
  refine getfield w X (wd30 hw) Via.refl F_receivers_o d5_27 30 rfl (fun T X => ?_)
  refine iloadN w X d5_30 31 rfl rfl ?_
  refine iaload w X V_rv (by decide) 0 rfl (Nat.le_of_ble_eq_true rfl) d5_31 32 rfl (0 : Int32) rfl ?_
  refine lconst w X (0 : Int64) d5_32 33 rfl rfl ?_
  refine lastore w X V_rl (by decide) 0 rfl (Nat.le_of_ble_eq_true rfl) g_rl d5_33 34 rfl (fun T h3 X W V_rl => ?_)
  have V_rl : PJ Z h3 rl [(0 : Int64), x1] := V_rl
  have zn : n0 ≤ h3.size := W.size ▸ zn
  have E_o := E_o.wr W
  have F_chunks_o := F_chunks_o.other W (Or.inl ne_o_rl)
  have F_counts_o := F_counts_o.other W (Or.inl ne_o_rl)
  have F_rowLengths_o := F_rowLengths_o.other W (Or.inl ne_o_rl)
  have F_firstChunks_o := F_firstChunks_o.other W (Or.inl ne_o_rl)
  have F_firsts_o := F_firsts_o.other W (Or.inl ne_o_rl)
  have F_lastChunks_o := F_lastChunks_o.other W (Or.inl ne_o_rl)
  have F_lasts_o := F_lasts_o.other W (Or.inl ne_o_rl)
  have F_receivers_o := F_receivers_o.other W (Or.inl ne_o_rl)
  have F_chunk_o := F_chunk_o.other W (Or.inl ne_o_rl)
  have F_length_o := F_length_o.other W (Or.inl ne_o_rl)
  have F_receiverCount_o := F_receiverCount_o.other W (Or.inl ne_o_rl)
  have F_total_o := F_total_o.other W (Or.inl ne_o_rl)
  have F_rowLength_o := F_rowLength_o.other W (Or.inl ne_o_rl)
  have R_ck := R_ck.other W ne_ck_rl
  have V_cn := V_cn.other W ne_cn_rl
  have V_fc := V_fc.other W (Ne.symm ne_rl_fc)
  have V_fs := V_fs.other W (Ne.symm ne_rl_fs)
  have V_lc := V_lc.other W (Ne.symm ne_rl_lc)
  have V_la := V_la.other W (Ne.symm ne_rl_la)
  have V_rv := V_rv.other W (Ne.symm ne_rl_rv)
  have V_ch := V_ch.other W ne_ch_rl
  have K := K.wr W (Or.inl (List.mem_of_getElem? (i := 2) rfl))
  refine iinc w X (1 : Int32) d5_34 37 rfl rfl (by decide) #[.val (.ref o), .val (.int (1 : Int32))] rfl ?_
  refine goto w X d5_37 2 (by decide) (by decide) ?_
  refine iloadN w X d5_2 3 rfl rfl ?_
  refine aloadN w X d5_3 4 rfl rfl rfl ?_
  refine getfield w X (wd47 hw) Via.refl F_receiverCount_o d5_4 7 rfl (fun T X => ?_)
  refine icmp_ge w X d5_7 40 10 (by decide) (by decide) rfl (fun q => absurd q (by decide)) (fun hc7_4 => ?_)
  refine aloadN w X d5_10 11 rfl rfl rfl ?_
  refine getfield w X (wd17 hw) Via.refl F_counts_o d5_11 14 rfl (fun T X => ?_)
  refine aloadN w X d5_14 15 rfl rfl rfl ?_
  refine getfield w X (wd30 hw) Via.refl F_receivers_o d5_15 18 rfl (fun T X => ?_)
  refine iloadN w X d5_18 19 rfl rfl ?_
  refine iaload w X V_rv (by decide) 1 rfl (Nat.le_of_ble_eq_true rfl) d5_19 20 rfl (1 : Int32) rfl ?_
  refine iconst w X (0 : Int32) d5_20 21 rfl rfl ?_
  refine iastore w X V_cn (by decide) 1 rfl (Nat.le_of_ble_eq_true rfl) g_cn d5_21 22 rfl (0 : Int32) rfl (fun T h5 X W V_cn => ?_)
  have V_cn : PA Z h5 cn .int [(0 : Int32), (0 : Int32)] := V_cn
  have zn : n0 ≤ h5.size := W.size ▸ zn
  have E_o := E_o.wr W
  have F_chunks_o := F_chunks_o.other W (Or.inl ne_o_cn)
  have F_counts_o := F_counts_o.other W (Or.inl ne_o_cn)
  have F_rowLengths_o := F_rowLengths_o.other W (Or.inl ne_o_cn)
  have F_firstChunks_o := F_firstChunks_o.other W (Or.inl ne_o_cn)
  have F_firsts_o := F_firsts_o.other W (Or.inl ne_o_cn)
  have F_lastChunks_o := F_lastChunks_o.other W (Or.inl ne_o_cn)
  have F_lasts_o := F_lasts_o.other W (Or.inl ne_o_cn)
  have F_receivers_o := F_receivers_o.other W (Or.inl ne_o_cn)
  have F_chunk_o := F_chunk_o.other W (Or.inl ne_o_cn)
  have F_length_o := F_length_o.other W (Or.inl ne_o_cn)
  have F_receiverCount_o := F_receiverCount_o.other W (Or.inl ne_o_cn)
  have F_total_o := F_total_o.other W (Or.inl ne_o_cn)
  have F_rowLength_o := F_rowLength_o.other W (Or.inl ne_o_cn)
  have R_ck := R_ck.other W ne_ck_cn
  have V_rl := V_rl.other W (Ne.symm ne_cn_rl)
  have V_fc := V_fc.other W (Ne.symm ne_cn_fc)
  have V_fs := V_fs.other W (Ne.symm ne_cn_fs)
  have V_lc := V_lc.other W (Ne.symm ne_cn_lc)
  have V_la := V_la.other W (Ne.symm ne_cn_la)
  have V_rv := V_rv.other W (Ne.symm ne_cn_rv)
  have V_ch := V_ch.other W ne_ch_cn
  have K := K.wr W (Or.inl (List.mem_of_getElem? (i := 1) rfl))
  refine aloadN w X d5_22 23 rfl rfl rfl ?_
  refine getfield w X (wd20 hw) Via.refl F_rowLengths_o d5_23 26 rfl (fun T X => ?_)
  refine aloadN w X d5_26 27 rfl rfl rfl ?_
  refine getfield w X (wd30 hw) Via.refl F_receivers_o d5_27 30 rfl (fun T X => ?_)
  refine iloadN w X d5_30 31 rfl rfl ?_
  refine iaload w X V_rv (by decide) 1 rfl (Nat.le_of_ble_eq_true rfl) d5_31 32 rfl (1 : Int32) rfl ?_
  refine lconst w X (0 : Int64) d5_32 33 rfl rfl ?_
  refine lastore w X V_rl (by decide) 1 rfl (Nat.le_of_ble_eq_true rfl) g_rl d5_33 34 rfl (fun T h6 X W V_rl => ?_)
  have V_rl : PJ Z h6 rl [(0 : Int64), (0 : Int64)] := V_rl
  have zn : n0 ≤ h6.size := W.size ▸ zn
  have E_o := E_o.wr W
  have F_chunks_o := F_chunks_o.other W (Or.inl ne_o_rl)
  have F_counts_o := F_counts_o.other W (Or.inl ne_o_rl)
  have F_rowLengths_o := F_rowLengths_o.other W (Or.inl ne_o_rl)
  have F_firstChunks_o := F_firstChunks_o.other W (Or.inl ne_o_rl)
  have F_firsts_o := F_firsts_o.other W (Or.inl ne_o_rl)
  have F_lastChunks_o := F_lastChunks_o.other W (Or.inl ne_o_rl)
  have F_lasts_o := F_lasts_o.other W (Or.inl ne_o_rl)
  have F_receivers_o := F_receivers_o.other W (Or.inl ne_o_rl)
  have F_chunk_o := F_chunk_o.other W (Or.inl ne_o_rl)
  have F_length_o := F_length_o.other W (Or.inl ne_o_rl)
  have F_receiverCount_o := F_receiverCount_o.other W (Or.inl ne_o_rl)
  have F_total_o := F_total_o.other W (Or.inl ne_o_rl)
  have F_rowLength_o := F_rowLength_o.other W (Or.inl ne_o_rl)
  have R_ck := R_ck.other W ne_ck_rl
  have V_cn := V_cn.other W ne_cn_rl
  have V_fc := V_fc.other W (Ne.symm ne_rl_fc)
  have V_fs := V_fs.other W (Ne.symm ne_rl_fs)
  have V_lc := V_lc.other W (Ne.symm ne_rl_lc)
  have V_la := V_la.other W (Ne.symm ne_rl_la)
  have V_rv := V_rv.other W (Ne.symm ne_rl_rv)
  have V_ch := V_ch.other W ne_ch_rl
  have K := K.wr W (Or.inl (List.mem_of_getElem? (i := 2) rfl))
  refine iinc w X (2 : Int32) d5_34 37 rfl rfl (by decide) #[.val (.ref o), .val (.int (2 : Int32))] rfl ?_
  refine goto w X d5_37 2 (by decide) (by decide) ?_
  refine iloadN w X d5_2 3 rfl rfl ?_
  refine aloadN w X d5_3 4 rfl rfl rfl ?_
  refine getfield w X (wd47 hw) Via.refl F_receiverCount_o d5_4 7 rfl (fun T X => ?_)
  refine icmp_ge w X d5_7 40 10 (by decide) (by decide) rfl (fun hc7_7 => ?_) (fun q => absurd q (by decide))
  refine aloadN w X d5_40 41 rfl rfl rfl ?_
  refine iconst w X (0 : Int32) d5_41 42 rfl rfl ?_
  refine putfield w X (wd47 hw) Via.refl F_receiverCount_o E_o (Or.inl (wd48 hw)) (wd2 hw) (ty := .int) (by decide) rfl rfl g_o d5_42 45 rfl (fun T h8 X W => ?_)
  have zn : n0 ≤ h8.size := W.size ▸ zn
  have E_o := E_o.wr W
  have F_chunks_o := F_chunks_o.other W (Or.inr (slot_ne (Or.inl (wd13 hw)) (Or.inl (wd48 hw)) (by decide) (t := (.array (.array .int))) (t' := .int) (by decide) (by decide)))
  have F_counts_o := F_counts_o.other W (Or.inr (slot_ne (Or.inr (wd18 hw)) (Or.inl (wd48 hw)) (by decide) (t := (.array .int)) (t' := .int) (by decide) (by decide)))
  have F_rowLengths_o := F_rowLengths_o.other W (Or.inr (slot_ne (Or.inr (wd21 hw)) (Or.inl (wd48 hw)) (by decide) (t := (.array .long)) (t' := .int) (by decide) (by decide)))
  have F_firstChunks_o := F_firstChunks_o.other W (Or.inr (slot_ne (Or.inr (wd23 hw)) (Or.inl (wd48 hw)) (by decide) (t := (.array .int)) (t' := .int) (by decide) (by decide)))
  have F_firsts_o := F_firsts_o.other W (Or.inr (slot_ne (Or.inr (wd25 hw)) (Or.inl (wd48 hw)) (by decide) (t := (.array .int)) (t' := .int) (by decide) (by decide)))
  have F_lastChunks_o := F_lastChunks_o.other W (Or.inr (slot_ne (Or.inr (wd27 hw)) (Or.inl (wd48 hw)) (by decide) (t := (.array .int)) (t' := .int) (by decide) (by decide)))
  have F_lasts_o := F_lasts_o.other W (Or.inr (slot_ne (Or.inr (wd29 hw)) (Or.inl (wd48 hw)) (by decide) (t := (.array .int)) (t' := .int) (by decide) (by decide)))
  have F_receivers_o := F_receivers_o.other W (Or.inr (slot_ne (Or.inr (wd31 hw)) (Or.inl (wd48 hw)) (by decide) (t := (.array .int)) (t' := .int) (by decide) (by decide)))
  have F_chunk_o := F_chunk_o.other W (Or.inr (slot_ne (Or.inl (wd46 hw)) (Or.inl (wd48 hw)) (by decide) (t := .int) (t' := .int) (by decide) (by decide)))
  have F_length_o := F_length_o.other W (Or.inr (slot_ne (Or.inl (wd44 hw)) (Or.inl (wd48 hw)) (by decide) (t := .int) (t' := .int) (by decide) (by decide)))
  have F_receiverCount_o := F_receiverCount_o.same W
  have F_total_o := F_total_o.other W (Or.inr (slot_ne (Or.inl (wd54 hw)) (Or.inl (wd48 hw)) (by decide) (t := .int) (t' := .int) (by decide) (by decide)))
  have F_rowLength_o := F_rowLength_o.other W (Or.inr (slot_ne (Or.inl (wd56 hw)) (Or.inl (wd48 hw)) (by decide) (t := .long) (t' := .int) (by decide) (by decide)))
  have R_ck := R_ck.other W (Ne.symm ne_o_ck)
  have V_rl := V_rl.other W (Ne.symm ne_o_rl)
  have V_cn := V_cn.other W (Ne.symm ne_o_cn)
  have V_fc := V_fc.other W (Ne.symm ne_o_fc)
  have V_fs := V_fs.other W (Ne.symm ne_o_fs)
  have V_lc := V_lc.other W (Ne.symm ne_o_lc)
  have V_la := V_la.other W (Ne.symm ne_o_la)
  have V_rv := V_rv.other W (Ne.symm ne_o_rv)
  have V_ch := V_ch.other W (Ne.symm ne_o_ch)
  have K := K.wr W (Or.inl (List.mem_of_getElem? (i := 0) rfl))
  refine aloadN w X d5_45 46 rfl rfl rfl ?_
  refine iconst w X (0 : Int32) d5_46 47 rfl rfl ?_
  refine putfield w X (wd45 hw) Via.refl F_chunk_o E_o (Or.inl (wd46 hw)) (wd2 hw) (ty := .int) (by decide) rfl rfl g_o d5_47 50 rfl (fun T h9 X W => ?_)
  have zn : n0 ≤ h9.size := W.size ▸ zn
  have E_o := E_o.wr W
  have F_chunks_o := F_chunks_o.other W (Or.inr (slot_ne (Or.inl (wd13 hw)) (Or.inl (wd46 hw)) (by decide) (t := (.array (.array .int))) (t' := .int) (by decide) (by decide)))
  have F_counts_o := F_counts_o.other W (Or.inr (slot_ne (Or.inr (wd18 hw)) (Or.inl (wd46 hw)) (by decide) (t := (.array .int)) (t' := .int) (by decide) (by decide)))
  have F_rowLengths_o := F_rowLengths_o.other W (Or.inr (slot_ne (Or.inr (wd21 hw)) (Or.inl (wd46 hw)) (by decide) (t := (.array .long)) (t' := .int) (by decide) (by decide)))
  have F_firstChunks_o := F_firstChunks_o.other W (Or.inr (slot_ne (Or.inr (wd23 hw)) (Or.inl (wd46 hw)) (by decide) (t := (.array .int)) (t' := .int) (by decide) (by decide)))
  have F_firsts_o := F_firsts_o.other W (Or.inr (slot_ne (Or.inr (wd25 hw)) (Or.inl (wd46 hw)) (by decide) (t := (.array .int)) (t' := .int) (by decide) (by decide)))
  have F_lastChunks_o := F_lastChunks_o.other W (Or.inr (slot_ne (Or.inr (wd27 hw)) (Or.inl (wd46 hw)) (by decide) (t := (.array .int)) (t' := .int) (by decide) (by decide)))
  have F_lasts_o := F_lasts_o.other W (Or.inr (slot_ne (Or.inr (wd29 hw)) (Or.inl (wd46 hw)) (by decide) (t := (.array .int)) (t' := .int) (by decide) (by decide)))
  have F_receivers_o := F_receivers_o.other W (Or.inr (slot_ne (Or.inr (wd31 hw)) (Or.inl (wd46 hw)) (by decide) (t := (.array .int)) (t' := .int) (by decide) (by decide)))
  have F_chunk_o := F_chunk_o.same W
  have F_length_o := F_length_o.other W (Or.inr (slot_ne (Or.inl (wd44 hw)) (Or.inl (wd46 hw)) (by decide) (t := .int) (t' := .int) (by decide) (by decide)))
  have F_receiverCount_o := F_receiverCount_o.other W (Or.inr (slot_ne (Or.inl (wd48 hw)) (Or.inl (wd46 hw)) (by decide) (t := .int) (t' := .int) (by decide) (by decide)))
  have F_total_o := F_total_o.other W (Or.inr (slot_ne (Or.inl (wd54 hw)) (Or.inl (wd46 hw)) (by decide) (t := .int) (t' := .int) (by decide) (by decide)))
  have F_rowLength_o := F_rowLength_o.other W (Or.inr (slot_ne (Or.inl (wd56 hw)) (Or.inl (wd46 hw)) (by decide) (t := .long) (t' := .int) (by decide) (by decide)))
  have R_ck := R_ck.other W (Ne.symm ne_o_ck)
  have V_rl := V_rl.other W (Ne.symm ne_o_rl)
  have V_cn := V_cn.other W (Ne.symm ne_o_cn)
  have V_fc := V_fc.other W (Ne.symm ne_o_fc)
  have V_fs := V_fs.other W (Ne.symm ne_o_fs)
  have V_lc := V_lc.other W (Ne.symm ne_o_lc)
  have V_la := V_la.other W (Ne.symm ne_o_la)
  have V_rv := V_rv.other W (Ne.symm ne_o_rv)
  have V_ch := V_ch.other W (Ne.symm ne_o_ch)
  have K := K.wr W (Or.inl (List.mem_of_getElem? (i := 0) rfl))
  refine aloadN w X d5_50 51 rfl rfl rfl ?_
  refine iconst w X (0 : Int32) d5_51 52 rfl rfl ?_
  refine putfield w X (wd43 hw) Via.refl F_length_o E_o (Or.inl (wd44 hw)) (wd2 hw) (ty := .int) (by decide) rfl rfl g_o d5_52 55 rfl (fun T h10 X W => ?_)
  have zn : n0 ≤ h10.size := W.size ▸ zn
  have E_o := E_o.wr W
  have F_chunks_o := F_chunks_o.other W (Or.inr (slot_ne (Or.inl (wd13 hw)) (Or.inl (wd44 hw)) (by decide) (t := (.array (.array .int))) (t' := .int) (by decide) (by decide)))
  have F_counts_o := F_counts_o.other W (Or.inr (slot_ne (Or.inr (wd18 hw)) (Or.inl (wd44 hw)) (by decide) (t := (.array .int)) (t' := .int) (by decide) (by decide)))
  have F_rowLengths_o := F_rowLengths_o.other W (Or.inr (slot_ne (Or.inr (wd21 hw)) (Or.inl (wd44 hw)) (by decide) (t := (.array .long)) (t' := .int) (by decide) (by decide)))
  have F_firstChunks_o := F_firstChunks_o.other W (Or.inr (slot_ne (Or.inr (wd23 hw)) (Or.inl (wd44 hw)) (by decide) (t := (.array .int)) (t' := .int) (by decide) (by decide)))
  have F_firsts_o := F_firsts_o.other W (Or.inr (slot_ne (Or.inr (wd25 hw)) (Or.inl (wd44 hw)) (by decide) (t := (.array .int)) (t' := .int) (by decide) (by decide)))
  have F_lastChunks_o := F_lastChunks_o.other W (Or.inr (slot_ne (Or.inr (wd27 hw)) (Or.inl (wd44 hw)) (by decide) (t := (.array .int)) (t' := .int) (by decide) (by decide)))
  have F_lasts_o := F_lasts_o.other W (Or.inr (slot_ne (Or.inr (wd29 hw)) (Or.inl (wd44 hw)) (by decide) (t := (.array .int)) (t' := .int) (by decide) (by decide)))
  have F_receivers_o := F_receivers_o.other W (Or.inr (slot_ne (Or.inr (wd31 hw)) (Or.inl (wd44 hw)) (by decide) (t := (.array .int)) (t' := .int) (by decide) (by decide)))
  have F_chunk_o := F_chunk_o.other W (Or.inr (slot_ne (Or.inl (wd46 hw)) (Or.inl (wd44 hw)) (by decide) (t := .int) (t' := .int) (by decide) (by decide)))
  have F_length_o := F_length_o.same W
  have F_receiverCount_o := F_receiverCount_o.other W (Or.inr (slot_ne (Or.inl (wd48 hw)) (Or.inl (wd44 hw)) (by decide) (t := .int) (t' := .int) (by decide) (by decide)))
  have F_total_o := F_total_o.other W (Or.inr (slot_ne (Or.inl (wd54 hw)) (Or.inl (wd44 hw)) (by decide) (t := .int) (t' := .int) (by decide) (by decide)))
  have F_rowLength_o := F_rowLength_o.other W (Or.inr (slot_ne (Or.inl (wd56 hw)) (Or.inl (wd44 hw)) (by decide) (t := .long) (t' := .int) (by decide) (by decide)))
  have R_ck := R_ck.other W (Ne.symm ne_o_ck)
  have V_rl := V_rl.other W (Ne.symm ne_o_rl)
  have V_cn := V_cn.other W (Ne.symm ne_o_cn)
  have V_fc := V_fc.other W (Ne.symm ne_o_fc)
  have V_fs := V_fs.other W (Ne.symm ne_o_fs)
  have V_lc := V_lc.other W (Ne.symm ne_o_lc)
  have V_la := V_la.other W (Ne.symm ne_o_la)
  have V_rv := V_rv.other W (Ne.symm ne_o_rv)
  have V_ch := V_ch.other W (Ne.symm ne_o_ch)
  have K := K.wr W (Or.inl (List.mem_of_getElem? (i := 0) rfl))
  refine aloadN w X d5_55 56 rfl rfl rfl ?_
  refine iconst w X (0 : Int32) d5_56 57 rfl rfl ?_
  refine putfield w X (wd53 hw) Via.refl F_total_o E_o (Or.inl (wd54 hw)) (wd2 hw) (ty := .int) (by decide) rfl rfl g_o d5_57 60 rfl (fun T h11 X W => ?_)
  have zn : n0 ≤ h11.size := W.size ▸ zn
  have E_o := E_o.wr W
  have F_chunks_o := F_chunks_o.other W (Or.inr (slot_ne (Or.inl (wd13 hw)) (Or.inl (wd54 hw)) (by decide) (t := (.array (.array .int))) (t' := .int) (by decide) (by decide)))
  have F_counts_o := F_counts_o.other W (Or.inr (slot_ne (Or.inr (wd18 hw)) (Or.inl (wd54 hw)) (by decide) (t := (.array .int)) (t' := .int) (by decide) (by decide)))
  have F_rowLengths_o := F_rowLengths_o.other W (Or.inr (slot_ne (Or.inr (wd21 hw)) (Or.inl (wd54 hw)) (by decide) (t := (.array .long)) (t' := .int) (by decide) (by decide)))
  have F_firstChunks_o := F_firstChunks_o.other W (Or.inr (slot_ne (Or.inr (wd23 hw)) (Or.inl (wd54 hw)) (by decide) (t := (.array .int)) (t' := .int) (by decide) (by decide)))
  have F_firsts_o := F_firsts_o.other W (Or.inr (slot_ne (Or.inr (wd25 hw)) (Or.inl (wd54 hw)) (by decide) (t := (.array .int)) (t' := .int) (by decide) (by decide)))
  have F_lastChunks_o := F_lastChunks_o.other W (Or.inr (slot_ne (Or.inr (wd27 hw)) (Or.inl (wd54 hw)) (by decide) (t := (.array .int)) (t' := .int) (by decide) (by decide)))
  have F_lasts_o := F_lasts_o.other W (Or.inr (slot_ne (Or.inr (wd29 hw)) (Or.inl (wd54 hw)) (by decide) (t := (.array .int)) (t' := .int) (by decide) (by decide)))
  have F_receivers_o := F_receivers_o.other W (Or.inr (slot_ne (Or.inr (wd31 hw)) (Or.inl (wd54 hw)) (by decide) (t := (.array .int)) (t' := .int) (by decide) (by decide)))
  have F_chunk_o := F_chunk_o.other W (Or.inr (slot_ne (Or.inl (wd46 hw)) (Or.inl (wd54 hw)) (by decide) (t := .int) (t' := .int) (by decide) (by decide)))
  have F_length_o := F_length_o.other W (Or.inr (slot_ne (Or.inl (wd44 hw)) (Or.inl (wd54 hw)) (by decide) (t := .int) (t' := .int) (by decide) (by decide)))
  have F_receiverCount_o := F_receiverCount_o.other W (Or.inr (slot_ne (Or.inl (wd48 hw)) (Or.inl (wd54 hw)) (by decide) (t := .int) (t' := .int) (by decide) (by decide)))
  have F_total_o := F_total_o.same W
  have F_rowLength_o := F_rowLength_o.other W (Or.inr (slot_ne (Or.inl (wd56 hw)) (Or.inl (wd54 hw)) (by decide) (t := .long) (t' := .int) (by decide) (by decide)))
  have R_ck := R_ck.other W (Ne.symm ne_o_ck)
  have V_rl := V_rl.other W (Ne.symm ne_o_rl)
  have V_cn := V_cn.other W (Ne.symm ne_o_cn)
  have V_fc := V_fc.other W (Ne.symm ne_o_fc)
  have V_fs := V_fs.other W (Ne.symm ne_o_fs)
  have V_lc := V_lc.other W (Ne.symm ne_o_lc)
  have V_la := V_la.other W (Ne.symm ne_o_la)
  have V_rv := V_rv.other W (Ne.symm ne_o_rv)
  have V_ch := V_ch.other W (Ne.symm ne_o_ch)
  have K := K.wr W (Or.inl (List.mem_of_getElem? (i := 0) rfl))
  refine aloadN w X d5_60 61 rfl rfl rfl ?_
  refine lconst w X (0 : Int64) d5_61 62 rfl rfl ?_
  refine putfield w X (wd55 hw) Via.refl F_rowLength_o E_o (Or.inl (wd56 hw)) (wd2 hw) (ty := .long) (by decide) rfl rfl g_o d5_62 65 rfl (fun T h12 X W => ?_)
  have zn : n0 ≤ h12.size := W.size ▸ zn
  have E_o := E_o.wr W
  have F_chunks_o := F_chunks_o.other W (Or.inr (slot_ne (Or.inl (wd13 hw)) (Or.inl (wd56 hw)) (by decide) (t := (.array (.array .int))) (t' := .long) (by decide) (by decide)))
  have F_counts_o := F_counts_o.other W (Or.inr (slot_ne (Or.inr (wd18 hw)) (Or.inl (wd56 hw)) (by decide) (t := (.array .int)) (t' := .long) (by decide) (by decide)))
  have F_rowLengths_o := F_rowLengths_o.other W (Or.inr (slot_ne (Or.inr (wd21 hw)) (Or.inl (wd56 hw)) (by decide) (t := (.array .long)) (t' := .long) (by decide) (by decide)))
  have F_firstChunks_o := F_firstChunks_o.other W (Or.inr (slot_ne (Or.inr (wd23 hw)) (Or.inl (wd56 hw)) (by decide) (t := (.array .int)) (t' := .long) (by decide) (by decide)))
  have F_firsts_o := F_firsts_o.other W (Or.inr (slot_ne (Or.inr (wd25 hw)) (Or.inl (wd56 hw)) (by decide) (t := (.array .int)) (t' := .long) (by decide) (by decide)))
  have F_lastChunks_o := F_lastChunks_o.other W (Or.inr (slot_ne (Or.inr (wd27 hw)) (Or.inl (wd56 hw)) (by decide) (t := (.array .int)) (t' := .long) (by decide) (by decide)))
  have F_lasts_o := F_lasts_o.other W (Or.inr (slot_ne (Or.inr (wd29 hw)) (Or.inl (wd56 hw)) (by decide) (t := (.array .int)) (t' := .long) (by decide) (by decide)))
  have F_receivers_o := F_receivers_o.other W (Or.inr (slot_ne (Or.inr (wd31 hw)) (Or.inl (wd56 hw)) (by decide) (t := (.array .int)) (t' := .long) (by decide) (by decide)))
  have F_chunk_o := F_chunk_o.other W (Or.inr (slot_ne (Or.inl (wd46 hw)) (Or.inl (wd56 hw)) (by decide) (t := .int) (t' := .long) (by decide) (by decide)))
  have F_length_o := F_length_o.other W (Or.inr (slot_ne (Or.inl (wd44 hw)) (Or.inl (wd56 hw)) (by decide) (t := .int) (t' := .long) (by decide) (by decide)))
  have F_receiverCount_o := F_receiverCount_o.other W (Or.inr (slot_ne (Or.inl (wd48 hw)) (Or.inl (wd56 hw)) (by decide) (t := .int) (t' := .long) (by decide) (by decide)))
  have F_total_o := F_total_o.other W (Or.inr (slot_ne (Or.inl (wd54 hw)) (Or.inl (wd56 hw)) (by decide) (t := .int) (t' := .long) (by decide) (by decide)))
  have F_rowLength_o := F_rowLength_o.same W
  have R_ck := R_ck.other W (Ne.symm ne_o_ck)
  have V_rl := V_rl.other W (Ne.symm ne_o_rl)
  have V_cn := V_cn.other W (Ne.symm ne_o_cn)
  have V_fc := V_fc.other W (Ne.symm ne_o_fc)
  have V_fs := V_fs.other W (Ne.symm ne_o_fs)
  have V_lc := V_lc.other W (Ne.symm ne_o_lc)
  have V_la := V_la.other W (Ne.symm ne_o_la)
  have V_rv := V_rv.other W (Ne.symm ne_o_rv)
  have V_ch := V_ch.other W (Ne.symm ne_o_ch)
  have K := K.wr W (Or.inl (List.mem_of_getElem? (i := 0) rfl))
  refine retV w X rfl d5_65 (by decide) (by decide) ?_
  exact ⟨rfl, K, ⟨E_o, F_chunks_o, F_counts_o, F_rowLengths_o, F_firstChunks_o, F_firsts_o, F_lastChunks_o, F_lasts_o, F_receivers_o, F_chunk_o, F_length_o, F_receiverCount_o, F_total_o, F_rowLength_o, R_ck, V_rl, V_cn, V_fc, V_fs, V_lc, V_la, V_rv, _, V_ch, hbs⟩⟩
set_option maxRecDepth 65536 in
set_option maxHeartbeats 40000000 in
theorem rm_cl_10 {l : Launch} {Z : State} {a0 : Array Value} (hw : ∀ d ∈ tables_1, d.before a0 Z = true) (o ck ch cn rl fc fs lc la rv : Addr) (c0 c1 f0 f1 y0 y1 q0 q1 z0 z1 ck0 len tot : Int32) (tl x0 x1 : Int64) (h : Heap) (n0 : Nat) (zn : n0 ≤ h.size) (OB : own_ob Z h o ck ch cn rl fc fs lc la rv ck0 len (2 : Int32) tot tl x0 x1 c0 c1 f0 f1 y0 y1 q0 q1 z0 z1 (1 : Int32) (0 : Int32)) (NE : own_ne o ck ch cn rl fc fs lc la rv) (GE : own_ge n0 o ck ch cn rl fc fs lc la rv) :
    Met l Z (⟨"com/example/vigilant_mailbox/vigilantmailbox/engine/Sends", "clear", "()V"⟩ : MethodName) prog_37_method_2_code 2 none [] ({ frames := 0, cells := 0, slots := 0, locals := 0 } : Room) #[(.ref o)] h n0 (RV fun h' => Keep h h' [o, cn, rl] ∧ own_ob Z h' o ck ch cn rl fc fs lc la rv (0 : Int32) (0 : Int32) (0 : Int32) (0 : Int32) (0 : Int64) (0 : Int64) (0 : Int64) (0 : Int32) (0 : Int32) f0 f1 y0 y1 q0 q1 z0 z1 (1 : Int32) (0 : Int32)) := by
  refine start (ls := #[.val (.ref o), .unset]) (plainFor_of_name pn1) (fun m => by first | (simp [entryFrame, mkF, argsToLocals, Value.category]; done) | rfl) ?_
  intro p e s m below meth c T G w X
  have K := Keep.refl h [o, cn, rl]
  obtain ⟨E_o, F_chunks_o, F_counts_o, F_rowLengths_o, F_firstChunks_o, F_firsts_o, F_lastChunks_o, F_lasts_o, F_receivers_o, F_chunk_o, F_length_o, F_receiverCount_o, F_total_o, F_rowLength_o, R_ck, V_rl, V_cn, V_fc, V_fs, V_lc, V_la, V_rv, bs, V_ch, hbs⟩ := OB
  obtain ⟨ne_o_ck, ne_o_ch, ne_o_cn, ne_o_rl, ne_o_fc, ne_o_fs, ne_o_lc, ne_o_la, ne_o_rv, ne_ck_ch, ne_ck_cn, ne_ck_rl, ne_ck_fc, ne_ck_fs, ne_ck_lc, ne_ck_la, ne_ck_rv, ne_ch_cn, ne_ch_rl, ne_ch_fc, ne_ch_fs, ne_ch_lc, ne_ch_la, ne_ch_rv, ne_cn_rl, ne_cn_fc, ne_cn_fs, ne_cn_lc, ne_cn_la, ne_cn_rv, ne_rl_fc, ne_rl_fs, ne_rl_lc, ne_rl_la, ne_rl_rv, ne_fc_fs, ne_fc_lc, ne_fc_la, ne_fc_rv, ne_fs_lc, ne_fs_la, ne_fs_rv, ne_lc_la, ne_lc_rv, ne_la_rv⟩ := NE
  obtain ⟨g_o, g_ck, g_ch, g_cn, g_rl, g_fc, g_fs, g_lc, g_la, g_rv⟩ := GE
  refine iconst w X (0 : Int32) d5_0 1 rfl rfl ?_
  refine istoreN w X (0 : Int32) d5_1 2 rfl rfl #[.val (.ref o), .val (.int (0 : Int32))] rfl ?_
  refine iloadN w X d5_2 3 rfl rfl ?_
  refine aloadN w X d5_3 4 rfl rfl rfl ?_
  refine getfield w X (wd47 hw) Via.refl F_receiverCount_o d5_4 7 rfl (fun T X => ?_)
  refine icmp_ge w X d5_7 40 10 (by decide) (by decide) rfl (fun q => absurd q (by decide)) (fun hc7_1 => ?_)
  refine aloadN w X d5_10 11 rfl rfl rfl ?_
  refine getfield w X (wd17 hw) Via.refl F_counts_o d5_11 14 rfl (fun T X => ?_)
  refine aloadN w X d5_14 15 rfl rfl rfl ?_
  refine getfield w X (wd30 hw) Via.refl F_receivers_o d5_15 18 rfl (fun T X => ?_)
  refine iloadN w X d5_18 19 rfl rfl ?_
  refine iaload w X V_rv (by decide) 0 rfl (Nat.le_of_ble_eq_true rfl) d5_19 20 rfl (1 : Int32) rfl ?_
  refine iconst w X (0 : Int32) d5_20 21 rfl rfl ?_
  refine iastore w X V_cn (by decide) 1 rfl (Nat.le_of_ble_eq_true rfl) g_cn d5_21 22 rfl (0 : Int32) rfl (fun T h2 X W V_cn => ?_)
  have V_cn : PA Z h2 cn .int [c0, (0 : Int32)] := V_cn
  have zn : n0 ≤ h2.size := W.size ▸ zn
  have E_o := E_o.wr W
  have F_chunks_o := F_chunks_o.other W (Or.inl ne_o_cn)
  have F_counts_o := F_counts_o.other W (Or.inl ne_o_cn)
  have F_rowLengths_o := F_rowLengths_o.other W (Or.inl ne_o_cn)
  have F_firstChunks_o := F_firstChunks_o.other W (Or.inl ne_o_cn)
  have F_firsts_o := F_firsts_o.other W (Or.inl ne_o_cn)
  have F_lastChunks_o := F_lastChunks_o.other W (Or.inl ne_o_cn)
  have F_lasts_o := F_lasts_o.other W (Or.inl ne_o_cn)
  have F_receivers_o := F_receivers_o.other W (Or.inl ne_o_cn)
  have F_chunk_o := F_chunk_o.other W (Or.inl ne_o_cn)
  have F_length_o := F_length_o.other W (Or.inl ne_o_cn)
  have F_receiverCount_o := F_receiverCount_o.other W (Or.inl ne_o_cn)
  have F_total_o := F_total_o.other W (Or.inl ne_o_cn)
  have F_rowLength_o := F_rowLength_o.other W (Or.inl ne_o_cn)
  have R_ck := R_ck.other W ne_ck_cn
  have V_rl := V_rl.other W (Ne.symm ne_cn_rl)
  have V_fc := V_fc.other W (Ne.symm ne_cn_fc)
  have V_fs := V_fs.other W (Ne.symm ne_cn_fs)
  have V_lc := V_lc.other W (Ne.symm ne_cn_lc)
  have V_la := V_la.other W (Ne.symm ne_cn_la)
  have V_rv := V_rv.other W (Ne.symm ne_cn_rv)
  have V_ch := V_ch.other W ne_ch_cn
  have K := K.wr W (Or.inl (List.mem_of_getElem? (i := 1) rfl))
  refine aloadN w X d5_22 23 rfl rfl rfl ?_
  refine getfield w X (wd20 hw) Via.refl F_rowLengths_o d5_23 26 rfl (fun T X => ?_)
  refine aloadN w X d5_26 27 rfl rfl rfl ?_
  refine getfield w X (wd30 hw) Via.refl F_receivers_o d5_27 30 rfl (fun T X => ?_)
  refine iloadN w X d5_30 31 rfl rfl ?_
  refine iaload w X V_rv (by decide) 0 rfl (Nat.le_of_ble_eq_true rfl) d5_31 32 rfl (1 : Int32) rfl ?_
  refine lconst w X (0 : Int64) d5_32 33 rfl rfl ?_
  refine lastore w X V_rl (by decide) 1 rfl (Nat.le_of_ble_eq_true rfl) g_rl d5_33 34 rfl (fun T h3 X W V_rl => ?_)
  have V_rl : PJ Z h3 rl [x0, (0 : Int64)] := V_rl
  have zn : n0 ≤ h3.size := W.size ▸ zn
  have E_o := E_o.wr W
  have F_chunks_o := F_chunks_o.other W (Or.inl ne_o_rl)
  have F_counts_o := F_counts_o.other W (Or.inl ne_o_rl)
  have F_rowLengths_o := F_rowLengths_o.other W (Or.inl ne_o_rl)
  have F_firstChunks_o := F_firstChunks_o.other W (Or.inl ne_o_rl)
  have F_firsts_o := F_firsts_o.other W (Or.inl ne_o_rl)
  have F_lastChunks_o := F_lastChunks_o.other W (Or.inl ne_o_rl)
  have F_lasts_o := F_lasts_o.other W (Or.inl ne_o_rl)
  have F_receivers_o := F_receivers_o.other W (Or.inl ne_o_rl)
  have F_chunk_o := F_chunk_o.other W (Or.inl ne_o_rl)
  have F_length_o := F_length_o.other W (Or.inl ne_o_rl)
  have F_receiverCount_o := F_receiverCount_o.other W (Or.inl ne_o_rl)
  have F_total_o := F_total_o.other W (Or.inl ne_o_rl)
  have F_rowLength_o := F_rowLength_o.other W (Or.inl ne_o_rl)
  have R_ck := R_ck.other W ne_ck_rl
  have V_cn := V_cn.other W ne_cn_rl
  have V_fc := V_fc.other W (Ne.symm ne_rl_fc)
  have V_fs := V_fs.other W (Ne.symm ne_rl_fs)
  have V_lc := V_lc.other W (Ne.symm ne_rl_lc)
  have V_la := V_la.other W (Ne.symm ne_rl_la)
  have V_rv := V_rv.other W (Ne.symm ne_rl_rv)
  have V_ch := V_ch.other W ne_ch_rl
  have K := K.wr W (Or.inl (List.mem_of_getElem? (i := 2) rfl))
  refine iinc w X (1 : Int32) d5_34 37 rfl rfl (by decide) #[.val (.ref o), .val (.int (1 : Int32))] rfl ?_
  refine goto w X d5_37 2 (by decide) (by decide) ?_
  refine iloadN w X d5_2 3 rfl rfl ?_
  refine aloadN w X d5_3 4 rfl rfl rfl ?_
  refine getfield w X (wd47 hw) Via.refl F_receiverCount_o d5_4 7 rfl (fun T X => ?_)
  refine icmp_ge w X d5_7 40 10 (by decide) (by decide) rfl (fun q => absurd q (by decide)) (fun hc7_4 => ?_)
  refine aloadN w X d5_10 11 rfl rfl rfl ?_
  refine getfield w X (wd17 hw) Via.refl F_counts_o d5_11 14 rfl (fun T X => ?_)
  refine aloadN w X d5_14 15 rfl rfl rfl ?_
  refine getfield w X (wd30 hw) Via.refl F_receivers_o d5_15 18 rfl (fun T X => ?_)
  refine iloadN w X d5_18 19 rfl rfl ?_
  refine iaload w X V_rv (by decide) 1 rfl (Nat.le_of_ble_eq_true rfl) d5_19 20 rfl (0 : Int32) rfl ?_
  refine iconst w X (0 : Int32) d5_20 21 rfl rfl ?_
  refine iastore w X V_cn (by decide) 0 rfl (Nat.le_of_ble_eq_true rfl) g_cn d5_21 22 rfl (0 : Int32) rfl (fun T h5 X W V_cn => ?_)
  have V_cn : PA Z h5 cn .int [(0 : Int32), (0 : Int32)] := V_cn
  have zn : n0 ≤ h5.size := W.size ▸ zn
  have E_o := E_o.wr W
  have F_chunks_o := F_chunks_o.other W (Or.inl ne_o_cn)
  have F_counts_o := F_counts_o.other W (Or.inl ne_o_cn)
  have F_rowLengths_o := F_rowLengths_o.other W (Or.inl ne_o_cn)
  have F_firstChunks_o := F_firstChunks_o.other W (Or.inl ne_o_cn)
  have F_firsts_o := F_firsts_o.other W (Or.inl ne_o_cn)
  have F_lastChunks_o := F_lastChunks_o.other W (Or.inl ne_o_cn)
  have F_lasts_o := F_lasts_o.other W (Or.inl ne_o_cn)
  have F_receivers_o := F_receivers_o.other W (Or.inl ne_o_cn)
  have F_chunk_o := F_chunk_o.other W (Or.inl ne_o_cn)
  have F_length_o := F_length_o.other W (Or.inl ne_o_cn)
  have F_receiverCount_o := F_receiverCount_o.other W (Or.inl ne_o_cn)
  have F_total_o := F_total_o.other W (Or.inl ne_o_cn)
  have F_rowLength_o := F_rowLength_o.other W (Or.inl ne_o_cn)
  have R_ck := R_ck.other W ne_ck_cn
  have V_rl := V_rl.other W (Ne.symm ne_cn_rl)
  have V_fc := V_fc.other W (Ne.symm ne_cn_fc)
  have V_fs := V_fs.other W (Ne.symm ne_cn_fs)
  have V_lc := V_lc.other W (Ne.symm ne_cn_lc)
  have V_la := V_la.other W (Ne.symm ne_cn_la)
  have V_rv := V_rv.other W (Ne.symm ne_cn_rv)
  have V_ch := V_ch.other W ne_ch_cn
  have K := K.wr W (Or.inl (List.mem_of_getElem? (i := 1) rfl))
  refine aloadN w X d5_22 23 rfl rfl rfl ?_
  refine getfield w X (wd20 hw) Via.refl F_rowLengths_o d5_23 26 rfl (fun T X => ?_)
  refine aloadN w X d5_26 27 rfl rfl rfl ?_
  refine getfield w X (wd30 hw) Via.refl F_receivers_o d5_27 30 rfl (fun T X => ?_)
  refine iloadN w X d5_30 31 rfl rfl ?_
  refine iaload w X V_rv (by decide) 1 rfl (Nat.le_of_ble_eq_true rfl) d5_31 32 rfl (0 : Int32) rfl ?_
  refine lconst w X (0 : Int64) d5_32 33 rfl rfl ?_
  refine lastore w X V_rl (by decide) 0 rfl (Nat.le_of_ble_eq_true rfl) g_rl d5_33 34 rfl (fun T h6 X W V_rl => ?_)
  have V_rl : PJ Z h6 rl [(0 : Int64), (0 : Int64)] := V_rl
  have zn : n0 ≤ h6.size := W.size ▸ zn
  have E_o := E_o.wr W
  have F_chunks_o := F_chunks_o.other W (Or.inl ne_o_rl)
  have F_counts_o := F_counts_o.other W (Or.inl ne_o_rl)
  have F_rowLengths_o := F_rowLengths_o.other W (Or.inl ne_o_rl)
  have F_firstChunks_o := F_firstChunks_o.other W (Or.inl ne_o_rl)
  have F_firsts_o := F_firsts_o.other W (Or.inl ne_o_rl)
  have F_lastChunks_o := F_lastChunks_o.other W (Or.inl ne_o_rl)
  have F_lasts_o := F_lasts_o.other W (Or.inl ne_o_rl)
  have F_receivers_o := F_receivers_o.other W (Or.inl ne_o_rl)
  have F_chunk_o := F_chunk_o.other W (Or.inl ne_o_rl)
  have F_length_o := F_length_o.other W (Or.inl ne_o_rl)
  have F_receiverCount_o := F_receiverCount_o.other W (Or.inl ne_o_rl)
  have F_total_o := F_total_o.other W (Or.inl ne_o_rl)
  have F_rowLength_o := F_rowLength_o.other W (Or.inl ne_o_rl)
  have R_ck := R_ck.other W ne_ck_rl
  have V_cn := V_cn.other W ne_cn_rl
  have V_fc := V_fc.other W (Ne.symm ne_rl_fc)
  have V_fs := V_fs.other W (Ne.symm ne_rl_fs)
  have V_lc := V_lc.other W (Ne.symm ne_rl_lc)
  have V_la := V_la.other W (Ne.symm ne_rl_la)
  have V_rv := V_rv.other W (Ne.symm ne_rl_rv)
  have V_ch := V_ch.other W ne_ch_rl
  have K := K.wr W (Or.inl (List.mem_of_getElem? (i := 2) rfl))
  refine iinc w X (2 : Int32) d5_34 37 rfl rfl (by decide) #[.val (.ref o), .val (.int (2 : Int32))] rfl ?_
  refine goto w X d5_37 2 (by decide) (by decide) ?_
  refine iloadN w X d5_2 3 rfl rfl ?_
  refine aloadN w X d5_3 4 rfl rfl rfl ?_
  refine getfield w X (wd47 hw) Via.refl F_receiverCount_o d5_4 7 rfl (fun T X => ?_)
  refine icmp_ge w X d5_7 40 10 (by decide) (by decide) rfl (fun hc7_7 => ?_) (fun q => absurd q (by decide))
  refine aloadN w X d5_40 41 rfl rfl rfl ?_
  refine iconst w X (0 : Int32) d5_41 42 rfl rfl ?_
  refine putfield w X (wd47 hw) Via.refl F_receiverCount_o E_o (Or.inl (wd48 hw)) (wd2 hw) (ty := .int) (by decide) rfl rfl g_o d5_42 45 rfl (fun T h8 X W => ?_)
  have zn : n0 ≤ h8.size := W.size ▸ zn
  have E_o := E_o.wr W
  have F_chunks_o := F_chunks_o.other W (Or.inr (slot_ne (Or.inl (wd13 hw)) (Or.inl (wd48 hw)) (by decide) (t := (.array (.array .int))) (t' := .int) (by decide) (by decide)))
  have F_counts_o := F_counts_o.other W (Or.inr (slot_ne (Or.inr (wd18 hw)) (Or.inl (wd48 hw)) (by decide) (t := (.array .int)) (t' := .int) (by decide) (by decide)))
  have F_rowLengths_o := F_rowLengths_o.other W (Or.inr (slot_ne (Or.inr (wd21 hw)) (Or.inl (wd48 hw)) (by decide) (t := (.array .long)) (t' := .int) (by decide) (by decide)))
  have F_firstChunks_o := F_firstChunks_o.other W (Or.inr (slot_ne (Or.inr (wd23 hw)) (Or.inl (wd48 hw)) (by decide) (t := (.array .int)) (t' := .int) (by decide) (by decide)))
  have F_firsts_o := F_firsts_o.other W (Or.inr (slot_ne (Or.inr (wd25 hw)) (Or.inl (wd48 hw)) (by decide) (t := (.array .int)) (t' := .int) (by decide) (by decide)))
  have F_lastChunks_o := F_lastChunks_o.other W (Or.inr (slot_ne (Or.inr (wd27 hw)) (Or.inl (wd48 hw)) (by decide) (t := (.array .int)) (t' := .int) (by decide) (by decide)))
  have F_lasts_o := F_lasts_o.other W (Or.inr (slot_ne (Or.inr (wd29 hw)) (Or.inl (wd48 hw)) (by decide) (t := (.array .int)) (t' := .int) (by decide) (by decide)))
  have F_receivers_o := F_receivers_o.other W (Or.inr (slot_ne (Or.inr (wd31 hw)) (Or.inl (wd48 hw)) (by decide) (t := (.array .int)) (t' := .int) (by decide) (by decide)))
  have F_chunk_o := F_chunk_o.other W (Or.inr (slot_ne (Or.inl (wd46 hw)) (Or.inl (wd48 hw)) (by decide) (t := .int) (t' := .int) (by decide) (by decide)))
  have F_length_o := F_length_o.other W (Or.inr (slot_ne (Or.inl (wd44 hw)) (Or.inl (wd48 hw)) (by decide) (t := .int) (t' := .int) (by decide) (by decide)))
  have F_receiverCount_o := F_receiverCount_o.same W
  have F_total_o := F_total_o.other W (Or.inr (slot_ne (Or.inl (wd54 hw)) (Or.inl (wd48 hw)) (by decide) (t := .int) (t' := .int) (by decide) (by decide)))
  have F_rowLength_o := F_rowLength_o.other W (Or.inr (slot_ne (Or.inl (wd56 hw)) (Or.inl (wd48 hw)) (by decide) (t := .long) (t' := .int) (by decide) (by decide)))
  have R_ck := R_ck.other W (Ne.symm ne_o_ck)
  have V_rl := V_rl.other W (Ne.symm ne_o_rl)
  have V_cn := V_cn.other W (Ne.symm ne_o_cn)
  have V_fc := V_fc.other W (Ne.symm ne_o_fc)
  have V_fs := V_fs.other W (Ne.symm ne_o_fs)
  have V_lc := V_lc.other W (Ne.symm ne_o_lc)
  have V_la := V_la.other W (Ne.symm ne_o_la)
  have V_rv := V_rv.other W (Ne.symm ne_o_rv)
  have V_ch := V_ch.other W (Ne.symm ne_o_ch)
  have K := K.wr W (Or.inl (List.mem_of_getElem? (i := 0) rfl))
  refine aloadN w X d5_45 46 rfl rfl rfl ?_
  refine iconst w X (0 : Int32) d5_46 47 rfl rfl ?_
  refine putfield w X (wd45 hw) Via.refl F_chunk_o E_o (Or.inl (wd46 hw)) (wd2 hw) (ty := .int) (by decide) rfl rfl g_o d5_47 50 rfl (fun T h9 X W => ?_)
  have zn : n0 ≤ h9.size := W.size ▸ zn
  have E_o := E_o.wr W
  have F_chunks_o := F_chunks_o.other W (Or.inr (slot_ne (Or.inl (wd13 hw)) (Or.inl (wd46 hw)) (by decide) (t := (.array (.array .int))) (t' := .int) (by decide) (by decide)))
  have F_counts_o := F_counts_o.other W (Or.inr (slot_ne (Or.inr (wd18 hw)) (Or.inl (wd46 hw)) (by decide) (t := (.array .int)) (t' := .int) (by decide) (by decide)))
  have F_rowLengths_o := F_rowLengths_o.other W (Or.inr (slot_ne (Or.inr (wd21 hw)) (Or.inl (wd46 hw)) (by decide) (t := (.array .long)) (t' := .int) (by decide) (by decide)))
  have F_firstChunks_o := F_firstChunks_o.other W (Or.inr (slot_ne (Or.inr (wd23 hw)) (Or.inl (wd46 hw)) (by decide) (t := (.array .int)) (t' := .int) (by decide) (by decide)))
  have F_firsts_o := F_firsts_o.other W (Or.inr (slot_ne (Or.inr (wd25 hw)) (Or.inl (wd46 hw)) (by decide) (t := (.array .int)) (t' := .int) (by decide) (by decide)))
  have F_lastChunks_o := F_lastChunks_o.other W (Or.inr (slot_ne (Or.inr (wd27 hw)) (Or.inl (wd46 hw)) (by decide) (t := (.array .int)) (t' := .int) (by decide) (by decide)))
  have F_lasts_o := F_lasts_o.other W (Or.inr (slot_ne (Or.inr (wd29 hw)) (Or.inl (wd46 hw)) (by decide) (t := (.array .int)) (t' := .int) (by decide) (by decide)))
  have F_receivers_o := F_receivers_o.other W (Or.inr (slot_ne (Or.inr (wd31 hw)) (Or.inl (wd46 hw)) (by decide) (t := (.array .int)) (t' := .int) (by decide) (by decide)))
  have F_chunk_o := F_chunk_o.same W
  have F_length_o := F_length_o.other W (Or.inr (slot_ne (Or.inl (wd44 hw)) (Or.inl (wd46 hw)) (by decide) (t := .int) (t' := .int) (by decide) (by decide)))
  have F_receiverCount_o := F_receiverCount_o.other W (Or.inr (slot_ne (Or.inl (wd48 hw)) (Or.inl (wd46 hw)) (by decide) (t := .int) (t' := .int) (by decide) (by decide)))
  have F_total_o := F_total_o.other W (Or.inr (slot_ne (Or.inl (wd54 hw)) (Or.inl (wd46 hw)) (by decide) (t := .int) (t' := .int) (by decide) (by decide)))
  have F_rowLength_o := F_rowLength_o.other W (Or.inr (slot_ne (Or.inl (wd56 hw)) (Or.inl (wd46 hw)) (by decide) (t := .long) (t' := .int) (by decide) (by decide)))
  have R_ck := R_ck.other W (Ne.symm ne_o_ck)
  have V_rl := V_rl.other W (Ne.symm ne_o_rl)
  have V_cn := V_cn.other W (Ne.symm ne_o_cn)
  have V_fc := V_fc.other W (Ne.symm ne_o_fc)
  have V_fs := V_fs.other W (Ne.symm ne_o_fs)
  have V_lc := V_lc.other W (Ne.symm ne_o_lc)
  have V_la := V_la.other W (Ne.symm ne_o_la)
  have V_rv := V_rv.other W (Ne.symm ne_o_rv)
  have V_ch := V_ch.other W (Ne.symm ne_o_ch)
  have K := K.wr W (Or.inl (List.mem_of_getElem? (i := 0) rfl))
  refine aloadN w X d5_50 51 rfl rfl rfl ?_
  refine iconst w X (0 : Int32) d5_51 52 rfl rfl ?_
  refine putfield w X (wd43 hw) Via.refl F_length_o E_o (Or.inl (wd44 hw)) (wd2 hw) (ty := .int) (by decide) rfl rfl g_o d5_52 55 rfl (fun T h10 X W => ?_)
  have zn : n0 ≤ h10.size := W.size ▸ zn
  have E_o := E_o.wr W
  have F_chunks_o := F_chunks_o.other W (Or.inr (slot_ne (Or.inl (wd13 hw)) (Or.inl (wd44 hw)) (by decide) (t := (.array (.array .int))) (t' := .int) (by decide) (by decide)))
  have F_counts_o := F_counts_o.other W (Or.inr (slot_ne (Or.inr (wd18 hw)) (Or.inl (wd44 hw)) (by decide) (t := (.array .int)) (t' := .int) (by decide) (by decide)))
  have F_rowLengths_o := F_rowLengths_o.other W (Or.inr (slot_ne (Or.inr (wd21 hw)) (Or.inl (wd44 hw)) (by decide) (t := (.array .long)) (t' := .int) (by decide) (by decide)))
  have F_firstChunks_o := F_firstChunks_o.other W (Or.inr (slot_ne (Or.inr (wd23 hw)) (Or.inl (wd44 hw)) (by decide) (t := (.array .int)) (t' := .int) (by decide) (by decide)))
  have F_firsts_o := F_firsts_o.other W (Or.inr (slot_ne (Or.inr (wd25 hw)) (Or.inl (wd44 hw)) (by decide) (t := (.array .int)) (t' := .int) (by decide) (by decide)))
  have F_lastChunks_o := F_lastChunks_o.other W (Or.inr (slot_ne (Or.inr (wd27 hw)) (Or.inl (wd44 hw)) (by decide) (t := (.array .int)) (t' := .int) (by decide) (by decide)))
  have F_lasts_o := F_lasts_o.other W (Or.inr (slot_ne (Or.inr (wd29 hw)) (Or.inl (wd44 hw)) (by decide) (t := (.array .int)) (t' := .int) (by decide) (by decide)))
  have F_receivers_o := F_receivers_o.other W (Or.inr (slot_ne (Or.inr (wd31 hw)) (Or.inl (wd44 hw)) (by decide) (t := (.array .int)) (t' := .int) (by decide) (by decide)))
  have F_chunk_o := F_chunk_o.other W (Or.inr (slot_ne (Or.inl (wd46 hw)) (Or.inl (wd44 hw)) (by decide) (t := .int) (t' := .int) (by decide) (by decide)))
  have F_length_o := F_length_o.same W
  have F_receiverCount_o := F_receiverCount_o.other W (Or.inr (slot_ne (Or.inl (wd48 hw)) (Or.inl (wd44 hw)) (by decide) (t := .int) (t' := .int) (by decide) (by decide)))
  have F_total_o := F_total_o.other W (Or.inr (slot_ne (Or.inl (wd54 hw)) (Or.inl (wd44 hw)) (by decide) (t := .int) (t' := .int) (by decide) (by decide)))
  have F_rowLength_o := F_rowLength_o.other W (Or.inr (slot_ne (Or.inl (wd56 hw)) (Or.inl (wd44 hw)) (by decide) (t := .long) (t' := .int) (by decide) (by decide)))
  have R_ck := R_ck.other W (Ne.symm ne_o_ck)
  have V_rl := V_rl.other W (Ne.symm ne_o_rl)
  have V_cn := V_cn.other W (Ne.symm ne_o_cn)
  have V_fc := V_fc.other W (Ne.symm ne_o_fc)
  have V_fs := V_fs.other W (Ne.symm ne_o_fs)
  have V_lc := V_lc.other W (Ne.symm ne_o_lc)
  have V_la := V_la.other W (Ne.symm ne_o_la)
  have V_rv := V_rv.other W (Ne.symm ne_o_rv)
  have V_ch := V_ch.other W (Ne.symm ne_o_ch)
  have K := K.wr W (Or.inl (List.mem_of_getElem? (i := 0) rfl))
  refine aloadN w X d5_55 56 rfl rfl rfl ?_
  refine iconst w X (0 : Int32) d5_56 57 rfl rfl ?_
  refine putfield w X (wd53 hw) Via.refl F_total_o E_o (Or.inl (wd54 hw)) (wd2 hw) (ty := .int) (by decide) rfl rfl g_o d5_57 60 rfl (fun T h11 X W => ?_)
  have zn : n0 ≤ h11.size := W.size ▸ zn
  have E_o := E_o.wr W
  have F_chunks_o := F_chunks_o.other W (Or.inr (slot_ne (Or.inl (wd13 hw)) (Or.inl (wd54 hw)) (by decide) (t := (.array (.array .int))) (t' := .int) (by decide) (by decide)))
  have F_counts_o := F_counts_o.other W (Or.inr (slot_ne (Or.inr (wd18 hw)) (Or.inl (wd54 hw)) (by decide) (t := (.array .int)) (t' := .int) (by decide) (by decide)))
  have F_rowLengths_o := F_rowLengths_o.other W (Or.inr (slot_ne (Or.inr (wd21 hw)) (Or.inl (wd54 hw)) (by decide) (t := (.array .long)) (t' := .int) (by decide) (by decide)))
  have F_firstChunks_o := F_firstChunks_o.other W (Or.inr (slot_ne (Or.inr (wd23 hw)) (Or.inl (wd54 hw)) (by decide) (t := (.array .int)) (t' := .int) (by decide) (by decide)))
  have F_firsts_o := F_firsts_o.other W (Or.inr (slot_ne (Or.inr (wd25 hw)) (Or.inl (wd54 hw)) (by decide) (t := (.array .int)) (t' := .int) (by decide) (by decide)))
  have F_lastChunks_o := F_lastChunks_o.other W (Or.inr (slot_ne (Or.inr (wd27 hw)) (Or.inl (wd54 hw)) (by decide) (t := (.array .int)) (t' := .int) (by decide) (by decide)))
  have F_lasts_o := F_lasts_o.other W (Or.inr (slot_ne (Or.inr (wd29 hw)) (Or.inl (wd54 hw)) (by decide) (t := (.array .int)) (t' := .int) (by decide) (by decide)))
  have F_receivers_o := F_receivers_o.other W (Or.inr (slot_ne (Or.inr (wd31 hw)) (Or.inl (wd54 hw)) (by decide) (t := (.array .int)) (t' := .int) (by decide) (by decide)))
  have F_chunk_o := F_chunk_o.other W (Or.inr (slot_ne (Or.inl (wd46 hw)) (Or.inl (wd54 hw)) (by decide) (t := .int) (t' := .int) (by decide) (by decide)))
  have F_length_o := F_length_o.other W (Or.inr (slot_ne (Or.inl (wd44 hw)) (Or.inl (wd54 hw)) (by decide) (t := .int) (t' := .int) (by decide) (by decide)))
  have F_receiverCount_o := F_receiverCount_o.other W (Or.inr (slot_ne (Or.inl (wd48 hw)) (Or.inl (wd54 hw)) (by decide) (t := .int) (t' := .int) (by decide) (by decide)))
  have F_total_o := F_total_o.same W
  have F_rowLength_o := F_rowLength_o.other W (Or.inr (slot_ne (Or.inl (wd56 hw)) (Or.inl (wd54 hw)) (by decide) (t := .long) (t' := .int) (by decide) (by decide)))
  have R_ck := R_ck.other W (Ne.symm ne_o_ck)
  have V_rl := V_rl.other W (Ne.symm ne_o_rl)
  have V_cn := V_cn.other W (Ne.symm ne_o_cn)
  have V_fc := V_fc.other W (Ne.symm ne_o_fc)
  have V_fs := V_fs.other W (Ne.symm ne_o_fs)
  have V_lc := V_lc.other W (Ne.symm ne_o_lc)
  have V_la := V_la.other W (Ne.symm ne_o_la)
  have V_rv := V_rv.other W (Ne.symm ne_o_rv)
  have V_ch := V_ch.other W (Ne.symm ne_o_ch)
  have K := K.wr W (Or.inl (List.mem_of_getElem? (i := 0) rfl))
  refine aloadN w X d5_60 61 rfl rfl rfl ?_
  refine lconst w X (0 : Int64) d5_61 62 rfl rfl ?_
  refine putfield w X (wd55 hw) Via.refl F_rowLength_o E_o (Or.inl (wd56 hw)) (wd2 hw) (ty := .long) (by decide) rfl rfl g_o d5_62 65 rfl (fun T h12 X W => ?_)
  have zn : n0 ≤ h12.size := W.size ▸ zn
  have E_o := E_o.wr W
  have F_chunks_o := F_chunks_o.other W (Or.inr (slot_ne (Or.inl (wd13 hw)) (Or.inl (wd56 hw)) (by decide) (t := (.array (.array .int))) (t' := .long) (by decide) (by decide)))
  have F_counts_o := F_counts_o.other W (Or.inr (slot_ne (Or.inr (wd18 hw)) (Or.inl (wd56 hw)) (by decide) (t := (.array .int)) (t' := .long) (by decide) (by decide)))
  have F_rowLengths_o := F_rowLengths_o.other W (Or.inr (slot_ne (Or.inr (wd21 hw)) (Or.inl (wd56 hw)) (by decide) (t := (.array .long)) (t' := .long) (by decide) (by decide)))
  have F_firstChunks_o := F_firstChunks_o.other W (Or.inr (slot_ne (Or.inr (wd23 hw)) (Or.inl (wd56 hw)) (by decide) (t := (.array .int)) (t' := .long) (by decide) (by decide)))
  have F_firsts_o := F_firsts_o.other W (Or.inr (slot_ne (Or.inr (wd25 hw)) (Or.inl (wd56 hw)) (by decide) (t := (.array .int)) (t' := .long) (by decide) (by decide)))
  have F_lastChunks_o := F_lastChunks_o.other W (Or.inr (slot_ne (Or.inr (wd27 hw)) (Or.inl (wd56 hw)) (by decide) (t := (.array .int)) (t' := .long) (by decide) (by decide)))
  have F_lasts_o := F_lasts_o.other W (Or.inr (slot_ne (Or.inr (wd29 hw)) (Or.inl (wd56 hw)) (by decide) (t := (.array .int)) (t' := .long) (by decide) (by decide)))
  have F_receivers_o := F_receivers_o.other W (Or.inr (slot_ne (Or.inr (wd31 hw)) (Or.inl (wd56 hw)) (by decide) (t := (.array .int)) (t' := .long) (by decide) (by decide)))
  have F_chunk_o := F_chunk_o.other W (Or.inr (slot_ne (Or.inl (wd46 hw)) (Or.inl (wd56 hw)) (by decide) (t := .int) (t' := .long) (by decide) (by decide)))
  have F_length_o := F_length_o.other W (Or.inr (slot_ne (Or.inl (wd44 hw)) (Or.inl (wd56 hw)) (by decide) (t := .int) (t' := .long) (by decide) (by decide)))
  have F_receiverCount_o := F_receiverCount_o.other W (Or.inr (slot_ne (Or.inl (wd48 hw)) (Or.inl (wd56 hw)) (by decide) (t := .int) (t' := .long) (by decide) (by decide)))
  have F_total_o := F_total_o.other W (Or.inr (slot_ne (Or.inl (wd54 hw)) (Or.inl (wd56 hw)) (by decide) (t := .int) (t' := .long) (by decide) (by decide)))
  have F_rowLength_o := F_rowLength_o.same W
  have R_ck := R_ck.other W (Ne.symm ne_o_ck)
  have V_rl := V_rl.other W (Ne.symm ne_o_rl)
  have V_cn := V_cn.other W (Ne.symm ne_o_cn)
  have V_fc := V_fc.other W (Ne.symm ne_o_fc)
  have V_fs := V_fs.other W (Ne.symm ne_o_fs)
  have V_lc := V_lc.other W (Ne.symm ne_o_lc)
  have V_la := V_la.other W (Ne.symm ne_o_la)
  have V_rv := V_rv.other W (Ne.symm ne_o_rv)
  have V_ch := V_ch.other W (Ne.symm ne_o_ch)
  have K := K.wr W (Or.inl (List.mem_of_getElem? (i := 0) rfl))
  refine retV w X rfl d5_65 (by decide) (by decide) ?_
  exact ⟨rfl, K, ⟨E_o, F_chunks_o, F_counts_o, F_rowLengths_o, F_firstChunks_o, F_firsts_o, F_lastChunks_o, F_lasts_o, F_receivers_o, F_chunk_o, F_length_o, F_receiverCount_o, F_total_o, F_rowLength_o, R_ck, V_rl, V_cn, V_fc, V_fs, V_lc, V_la, V_rv, _, V_ch, hbs⟩⟩
theorem d6_0 : decode prog_37_method_3_code 0 = .ok (.aload_n 0, 1) := by decide +kernel
theorem d6_1 : decode prog_37_method_3_code 1 = .ok (.getfield 20, 3) := by decide +kernel
theorem d6_4 : decode prog_37_method_3_code 4 = .ok (.iload_n 1, 1) := by decide +kernel
theorem d6_5 : decode prog_37_method_3_code 5 = .ok (.iaload, 1) := by decide +kernel
theorem d6_6 : decode prog_37_method_3_code 6 = .ok (.ireturn, 1) := by decide +kernel
set_option maxRecDepth 65536 in
set_option maxHeartbeats 40000000 in
theorem rm_ct0 {l : Launch} {Z : State} {a0 : Array Value} (hw : ∀ d ∈ tables_1, d.before a0 Z = true) (o cn : Addr) (c0 c1 : Int32) (h : Heap) (n0 : Nat) (zn : n0 ≤ h.size) (F_counts_o : Fld Z h o "com/example/vigilant_mailbox/vigilantmailbox/engine/Sends" "counts" "[I" (.ref cn)) (V_cn : PA Z h cn .int [c0, c1]) :
    Met l Z (⟨"com/example/vigilant_mailbox/vigilantmailbox/engine/Sends", "count", "(I)I"⟩ : MethodName) prog_37_method_3_code 2 (some .int) [] ({ frames := 0, cells := 0, slots := 0, locals := 0 } : Room) #[(.ref o), (.int (0 : Int32))] h n0 (RI fun r h' => h' = h ∧ r = c0) := by
  refine start (ls := #[.val (.ref o), .val (.int (0 : Int32))]) (plainFor_of_name pn1) (fun m => by first | (simp [entryFrame, mkF, argsToLocals, Value.category]; done) | rfl) ?_
  intro p e s m below meth c T G w X
  refine aloadN w X d6_0 1 rfl rfl rfl ?_
  refine getfield w X (wd17 hw) Via.refl F_counts_o d6_1 4 rfl (fun T X => ?_)
  refine iloadN w X d6_4 5 rfl rfl ?_
  refine iaload w X V_cn (by decide) 0 rfl (Nat.le_of_ble_eq_true rfl) d6_5 6 rfl c0 rfl ?_
  refine retI w X rfl d6_6 (by decide) (by decide) ?_
  exact ⟨_, rfl, rfl, rfl⟩
theorem d7_0 : decode prog_37_method_7_code 0 = .ok (.aload_n 0, 1) := by decide +kernel
theorem d7_1 : decode prog_37_method_7_code 1 = .ok (.getfield 24, 3) := by decide +kernel
theorem d7_4 : decode prog_37_method_7_code 4 = .ok (.iload_n 1, 1) := by decide +kernel
theorem d7_5 : decode prog_37_method_7_code 5 = .ok (.laload, 1) := by decide +kernel
theorem d7_6 : decode prog_37_method_7_code 6 = .ok (.lreturn, 1) := by decide +kernel
set_option maxRecDepth 65536 in
set_option maxHeartbeats 40000000 in
theorem rm_rw0 {l : Launch} {Z : State} {a0 : Array Value} (hw : ∀ d ∈ tables_1, d.before a0 Z = true) (o rl : Addr) (x0 x1 : Int64) (h : Heap) (n0 : Nat) (zn : n0 ≤ h.size) (F_rowLengths_o : Fld Z h o "com/example/vigilant_mailbox/vigilantmailbox/engine/Sends" "rowLengths" "[J" (.ref rl)) (V_rl : PJ Z h rl [x0, x1]) :
    Met l Z (⟨"com/example/vigilant_mailbox/vigilantmailbox/engine/Sends", "rowLength", "(I)J"⟩ : MethodName) prog_37_method_7_code 2 (some .long) [] ({ frames := 0, cells := 0, slots := 0, locals := 0 } : Room) #[(.ref o), (.int (0 : Int32))] h n0 (RJ fun r h' => h' = h ∧ r = x0) := by
  refine start (ls := #[.val (.ref o), .val (.int (0 : Int32))]) (plainFor_of_name pn1) (fun m => by first | (simp [entryFrame, mkF, argsToLocals, Value.category]; done) | rfl) ?_
  intro p e s m below meth c T G w X
  refine aloadN w X d7_0 1 rfl rfl rfl ?_
  refine getfield w X (wd20 hw) Via.refl F_rowLengths_o d7_1 4 rfl (fun T X => ?_)
  refine iloadN w X d7_4 5 rfl rfl ?_
  refine laload w X V_rl (by decide) 0 rfl (Nat.le_of_ble_eq_true rfl) d7_5 6 rfl x0 rfl ?_
  refine retJ w X rfl d7_6 (by decide) (by decide) ?_
  exact ⟨_, rfl, rfl, rfl⟩
set_option maxRecDepth 65536 in
set_option maxHeartbeats 40000000 in
theorem rm_ct1 {l : Launch} {Z : State} {a0 : Array Value} (hw : ∀ d ∈ tables_1, d.before a0 Z = true) (o cn : Addr) (c0 c1 : Int32) (h : Heap) (n0 : Nat) (zn : n0 ≤ h.size) (F_counts_o : Fld Z h o "com/example/vigilant_mailbox/vigilantmailbox/engine/Sends" "counts" "[I" (.ref cn)) (V_cn : PA Z h cn .int [c0, c1]) :
    Met l Z (⟨"com/example/vigilant_mailbox/vigilantmailbox/engine/Sends", "count", "(I)I"⟩ : MethodName) prog_37_method_3_code 2 (some .int) [] ({ frames := 0, cells := 0, slots := 0, locals := 0 } : Room) #[(.ref o), (.int (1 : Int32))] h n0 (RI fun r h' => h' = h ∧ r = c1) := by
  refine start (ls := #[.val (.ref o), .val (.int (1 : Int32))]) (plainFor_of_name pn1) (fun m => by first | (simp [entryFrame, mkF, argsToLocals, Value.category]; done) | rfl) ?_
  intro p e s m below meth c T G w X
  refine aloadN w X d6_0 1 rfl rfl rfl ?_
  refine getfield w X (wd17 hw) Via.refl F_counts_o d6_1 4 rfl (fun T X => ?_)
  refine iloadN w X d6_4 5 rfl rfl ?_
  refine iaload w X V_cn (by decide) 1 rfl (Nat.le_of_ble_eq_true rfl) d6_5 6 rfl c1 rfl ?_
  refine retI w X rfl d6_6 (by decide) (by decide) ?_
  exact ⟨_, rfl, rfl, rfl⟩
set_option maxRecDepth 65536 in
set_option maxHeartbeats 40000000 in
theorem rm_rw1 {l : Launch} {Z : State} {a0 : Array Value} (hw : ∀ d ∈ tables_1, d.before a0 Z = true) (o rl : Addr) (x0 x1 : Int64) (h : Heap) (n0 : Nat) (zn : n0 ≤ h.size) (F_rowLengths_o : Fld Z h o "com/example/vigilant_mailbox/vigilantmailbox/engine/Sends" "rowLengths" "[J" (.ref rl)) (V_rl : PJ Z h rl [x0, x1]) :
    Met l Z (⟨"com/example/vigilant_mailbox/vigilantmailbox/engine/Sends", "rowLength", "(I)J"⟩ : MethodName) prog_37_method_7_code 2 (some .long) [] ({ frames := 0, cells := 0, slots := 0, locals := 0 } : Room) #[(.ref o), (.int (1 : Int32))] h n0 (RJ fun r h' => h' = h ∧ r = x1) := by
  refine start (ls := #[.val (.ref o), .val (.int (1 : Int32))]) (plainFor_of_name pn1) (fun m => by first | (simp [entryFrame, mkF, argsToLocals, Value.category]; done) | rfl) ?_
  intro p e s m below meth c T G w X
  refine aloadN w X d7_0 1 rfl rfl rfl ?_
  refine getfield w X (wd20 hw) Via.refl F_rowLengths_o d7_1 4 rfl (fun T X => ?_)
  refine iloadN w X d7_4 5 rfl rfl ?_
  refine laload w X V_rl (by decide) 1 rfl (Nat.le_of_ble_eq_true rfl) d7_5 6 rfl x1 rfl ?_
  refine retJ w X rfl d7_6 (by decide) (by decide) ?_
  exact ⟨_, rfl, rfl, rfl⟩
theorem d8_0 : decode prog_37_method_4_code 0 = .ok (.aload_n 0, 1) := by decide +kernel
theorem d8_1 : decode prog_37_method_4_code 1 = .ok (.getfield 53, 3) := by decide +kernel
theorem d8_4 : decode prog_37_method_4_code 4 = .ok (.ireturn, 1) := by decide +kernel
set_option maxRecDepth 65536 in
set_option maxHeartbeats 40000000 in
theorem rm_to {l : Launch} {Z : State} {a0 : Array Value} (hw : ∀ d ∈ tables_1, d.before a0 Z = true) (o : Addr) (tot : Int32) (h : Heap) (n0 : Nat) (zn : n0 ≤ h.size) (F_total_o : Fld Z h o "com/example/vigilant_mailbox/vigilantmailbox/engine/Sends" "total" "I" (.int tot)) :
    Met l Z (⟨"com/example/vigilant_mailbox/vigilantmailbox/engine/Sends", "total", "()I"⟩ : MethodName) prog_37_method_4_code 1 (some .int) [] ({ frames := 0, cells := 0, slots := 0, locals := 0 } : Room) #[(.ref o)] h n0 (RI fun r h' => h' = h ∧ r = tot) := by
  refine start (ls := #[.val (.ref o)]) (plainFor_of_name pn1) (fun m => by first | (simp [entryFrame, mkF, argsToLocals, Value.category]; done) | rfl) ?_
  intro p e s m below meth c T G w X
  refine aloadN w X d8_0 1 rfl rfl rfl ?_
  refine getfield w X (wd53 hw) Via.refl F_total_o d8_1 4 rfl (fun T X => ?_)
  refine retI w X rfl d8_4 (by decide) (by decide) ?_
  exact ⟨_, rfl, rfl, rfl⟩
theorem d9_0 : decode prog_37_method_6_code 0 = .ok (.aload_n 0, 1) := by decide +kernel
theorem d9_1 : decode prog_37_method_6_code 1 = .ok (.getfield 56, 3) := by decide +kernel
theorem d9_4 : decode prog_37_method_6_code 4 = .ok (.lreturn, 1) := by decide +kernel
set_option maxRecDepth 65536 in
set_option maxHeartbeats 40000000 in
theorem rm_tl {l : Launch} {Z : State} {a0 : Array Value} (hw : ∀ d ∈ tables_1, d.before a0 Z = true) (o : Addr) (tl : Int64) (h : Heap) (n0 : Nat) (zn : n0 ≤ h.size) (F_rowLength_o : Fld Z h o "com/example/vigilant_mailbox/vigilantmailbox/engine/Sends" "rowLength" "J" (.long tl)) :
    Met l Z (⟨"com/example/vigilant_mailbox/vigilantmailbox/engine/Sends", "rowLength", "()J"⟩ : MethodName) prog_37_method_6_code 1 (some .long) [] ({ frames := 0, cells := 0, slots := 0, locals := 0 } : Room) #[(.ref o)] h n0 (RJ fun r h' => h' = h ∧ r = tl) := by
  refine start (ls := #[.val (.ref o)]) (plainFor_of_name pn1) (fun m => by first | (simp [entryFrame, mkF, argsToLocals, Value.category]; done) | rfl) ?_
  intro p e s m below meth c T G w X
  refine aloadN w X d9_0 1 rfl rfl rfl ?_
  refine getfield w X (wd55 hw) Via.refl F_rowLength_o d9_1 4 rfl (fun T X => ?_)
  refine retJ w X rfl d9_4 (by decide) (by decide) ?_
  exact ⟨_, rfl, rfl, rfl⟩
theorem pn0 : plainName "com/example/vigilant_mailbox/vigilantmailbox/engine/SendsClearPinLaw" = true := by first | (simp [plainName, overriddenIn]; done) | decide +kernel
set_option maxRecDepth 65536 in
set_option maxHeartbeats 40000000 in
theorem rm_law {l : Launch} {Z : State} {a0 : Array Value} (hw : ∀ d ∈ tables_1, d.before a0 Z = true) (fl hh a0 a1 a2 gg : Int32) (h : Heap) (n0 : Nat) (zn : n0 ≤ h.size) :
    Met l Z x code maxLocals ret tables_1 room_1 #[(.int fl), (.int hh), (.int a0), (.int a1), (.int a2), (.int gg)] h n0 (RI fun r _ => r = 1) := by
  refine start (ls := #[.val (.int fl), .val (.int hh), .val (.int a0), .val (.int a1), .val (.int a2), .val (.int gg), .unset, .unset, .unset, .unset, .unset, .unset, .unset, .unset, .unset, .unset, .unset]) (plainFor_of_name pn0) (fun m => by first | (simp [entryFrame, mkF, argsToLocals, Value.category, maxLocals]; done) | rfl) ?_
  intro p e s m below meth c T G w X
  refine iloadN w X at_0 1 rfl rfl ?_
  refine iconst w X (1 : Int32) at_1 2 rfl rfl ?_
  refine iand w X (fl &&& (1 : Int32)) at_2 3 rfl rfl ?_
  obtain ⟨i6_1, hi6_1⟩ : ∃ z : Int32, z = (fl &&& (1 : Int32)) := ⟨_, rfl⟩
  refine istore w X i6_1 at_3 5 rfl hi6_1 #[.val (.int fl), .val (.int hh), .val (.int a0), .val (.int a1), .val (.int a2), .val (.int gg), .val (.int i6_1), .unset, .unset, .unset, .unset, .unset, .unset, .unset, .unset, .unset, .unset] rfl ?_
  refine iloadN w X at_5 6 rfl rfl ?_
  refine iconst w X (1 : Int32) at_6 7 rfl rfl ?_
  refine ishr w X (fl >>> ((1 : Int32) &&& 31)) at_7 8 rfl rfl ?_
  refine iconst w X (1 : Int32) at_8 9 rfl rfl ?_
  refine iand w X ((fl >>> ((1 : Int32) &&& 31)) &&& (1 : Int32)) at_9 10 rfl rfl ?_
  obtain ⟨i7_2, hi7_2⟩ : ∃ z : Int32, z = ((fl >>> ((1 : Int32) &&& 31)) &&& (1 : Int32)) := ⟨_, rfl⟩
  refine istore w X i7_2 at_10 12 rfl hi7_2 #[.val (.int fl), .val (.int hh), .val (.int a0), .val (.int a1), .val (.int a2), .val (.int gg), .val (.int i6_1), .val (.int i7_2), .unset, .unset, .unset, .unset, .unset, .unset, .unset, .unset, .unset] rfl ?_
  refine iloadN w X at_12 13 rfl rfl ?_
  refine iconst w X (2 : Int32) at_13 14 rfl rfl ?_
  refine ishr w X (fl >>> ((2 : Int32) &&& 31)) at_14 15 rfl rfl ?_
  refine iconst w X (1 : Int32) at_15 16 rfl rfl ?_
  refine iand w X ((fl >>> ((2 : Int32) &&& 31)) &&& (1 : Int32)) at_16 17 rfl rfl ?_
  refine if_eq w X at_17 24 20 (by decide) (by decide) rfl (fun hc17_3 => ?_) (fun hc17_3 => ?_)
  ·
    refine iconst w X (0 : Int32) at_24 25 rfl rfl ?_
    refine istore w X (0 : Int32) at_25 27 rfl rfl #[.val (.int fl), .val (.int hh), .val (.int a0), .val (.int a1), .val (.int a2), .val (.int gg), .val (.int i6_1), .val (.int i7_2), .val (.int (0 : Int32)), .unset, .unset, .unset, .unset, .unset, .unset, .unset, .unset] rfl ?_
    refine iloadN w X at_27 28 rfl rfl ?_
    refine iconst w X (3 : Int32) at_28 29 rfl rfl ?_
    refine ishr w X (fl >>> ((3 : Int32) &&& 31)) at_29 30 rfl rfl ?_
    refine iconst w X (3 : Int32) at_30 31 rfl rfl ?_
    refine iand w X ((fl >>> ((3 : Int32) &&& 31)) &&& (3 : Int32)) at_31 32 rfl rfl ?_
    obtain ⟨i9_4, hi9_4⟩ : ∃ z : Int32, z = ((fl >>> ((3 : Int32) &&& 31)) &&& (3 : Int32)) := ⟨_, rfl⟩
    refine istore w X i9_4 at_32 34 rfl hi9_4 #[.val (.int fl), .val (.int hh), .val (.int a0), .val (.int a1), .val (.int a2), .val (.int gg), .val (.int i6_1), .val (.int i7_2), .val (.int (0 : Int32)), .val (.int i9_4), .unset, .unset, .unset, .unset, .unset, .unset, .unset] rfl ?_
    refine iloadN w X at_34 35 rfl rfl ?_
    refine iconst w X (5 : Int32) at_35 36 rfl rfl ?_
    refine ishr w X (fl >>> ((5 : Int32) &&& 31)) at_36 37 rfl rfl ?_
    refine iconst w X (3 : Int32) at_37 38 rfl rfl ?_
    refine iand w X ((fl >>> ((5 : Int32) &&& 31)) &&& (3 : Int32)) at_38 39 rfl rfl ?_
    obtain ⟨i10_5, hi10_5⟩ : ∃ z : Int32, z = ((fl >>> ((5 : Int32) &&& 31)) &&& (3 : Int32)) := ⟨_, rfl⟩
    refine istore w X i10_5 at_39 41 rfl hi10_5 #[.val (.int fl), .val (.int hh), .val (.int a0), .val (.int a1), .val (.int a2), .val (.int gg), .val (.int i6_1), .val (.int i7_2), .val (.int (0 : Int32)), .val (.int i9_4), .val (.int i10_5), .unset, .unset, .unset, .unset, .unset, .unset] rfl ?_
    refine iloadN w X at_41 42 rfl rfl ?_
    refine bipush w X (7 : Int32) at_42 44 rfl rfl ?_
    refine ishr w X (fl >>> ((7 : Int32) &&& 31)) at_44 45 rfl rfl ?_
    refine iconst w X (3 : Int32) at_45 46 rfl rfl ?_
    refine iand w X ((fl >>> ((7 : Int32) &&& 31)) &&& (3 : Int32)) at_46 47 rfl rfl ?_
    obtain ⟨i11_6, hi11_6⟩ : ∃ z : Int32, z = ((fl >>> ((7 : Int32) &&& 31)) &&& (3 : Int32)) := ⟨_, rfl⟩
    refine istore w X i11_6 at_47 49 rfl hi11_6 #[.val (.int fl), .val (.int hh), .val (.int a0), .val (.int a1), .val (.int a2), .val (.int gg), .val (.int i6_1), .val (.int i7_2), .val (.int (0 : Int32)), .val (.int i9_4), .val (.int i10_5), .val (.int i11_6), .unset, .unset, .unset, .unset, .unset] rfl ?_
    refine iloadN w X at_49 50 rfl rfl ?_
    refine bipush w X (9 : Int32) at_50 52 rfl rfl ?_
    refine ishr w X (fl >>> ((9 : Int32) &&& 31)) at_52 53 rfl rfl ?_
    refine iconst w X (1 : Int32) at_53 54 rfl rfl ?_
    refine iand w X ((fl >>> ((9 : Int32) &&& 31)) &&& (1 : Int32)) at_54 55 rfl rfl ?_
    obtain ⟨i12_7, hi12_7⟩ : ∃ z : Int32, z = ((fl >>> ((9 : Int32) &&& 31)) &&& (1 : Int32)) := ⟨_, rfl⟩
    refine istore w X i12_7 at_55 57 rfl hi12_7 #[.val (.int fl), .val (.int hh), .val (.int a0), .val (.int a1), .val (.int a2), .val (.int gg), .val (.int i6_1), .val (.int i7_2), .val (.int (0 : Int32)), .val (.int i9_4), .val (.int i10_5), .val (.int i11_6), .val (.int i12_7), .unset, .unset, .unset, .unset] rfl ?_
    refine iconst w X (1 : Int32) at_57 58 rfl rfl ?_
    refine iload w X at_58 60 rfl rfl ?_
    refine isub w X ((1 : Int32) - i12_7) at_60 61 rfl rfl ?_
    obtain ⟨i13_8, hi13_8⟩ : ∃ z : Int32, z = ((1 : Int32) - i12_7) := ⟨_, rfl⟩
    refine istore w X i13_8 at_61 63 rfl hi13_8 #[.val (.int fl), .val (.int hh), .val (.int a0), .val (.int a1), .val (.int a2), .val (.int gg), .val (.int i6_1), .val (.int i7_2), .val (.int (0 : Int32)), .val (.int i9_4), .val (.int i10_5), .val (.int i11_6), .val (.int i12_7), .val (.int i13_8), .unset, .unset, .unset] rfl ?_
    refine iconst w X (3 : Int32) at_63 64 rfl rfl ?_
    refine newarr (aty := .int) w X (wd0 hw) at_64 66 rfl (by decide) 3 (by decide) (by decide) (by decide) (by decide) (fun T h9 b10 cA X hnb10 E A => ?_)
    have g_b10 : n0 ≤ b10 := by rw [hnb10]; exact zn
    have zn : n0 ≤ h9.size := Nat.le_trans zn E.1
    have V_b10 : PA Z h9 b10 .int [(0 : Int32), (0 : Int32), (0 : Int32)] := PA.new .int rfl rfl 3 A (by decide)
    refine dup w X at_66 67 rfl rfl ?_
    refine iconst w X (0 : Int32) at_67 68 rfl rfl ?_
    refine iloadN w X at_68 69 rfl rfl ?_
    refine iastore w X V_b10 (by decide) 0 rfl (Nat.le_of_ble_eq_true rfl) g_b10 at_69 70 rfl a0 rfl (fun T h11 X W V_b10 => ?_)
    have V_b10 : PA Z h11 b10 .int [a0, (0 : Int32), (0 : Int32)] := V_b10
    have zn : n0 ≤ h11.size := W.size ▸ zn
    refine dup w X at_70 71 rfl rfl ?_
    refine iconst w X (1 : Int32) at_71 72 rfl rfl ?_
    refine iloadN w X at_72 73 rfl rfl ?_
    refine iastore w X V_b10 (by decide) 1 rfl (Nat.le_of_ble_eq_true rfl) g_b10 at_73 74 rfl a1 rfl (fun T h12 X W V_b10 => ?_)
    have V_b10 : PA Z h12 b10 .int [a0, a1, (0 : Int32)] := V_b10
    have zn : n0 ≤ h12.size := W.size ▸ zn
    refine dup w X at_74 75 rfl rfl ?_
    refine iconst w X (2 : Int32) at_75 76 rfl rfl ?_
    refine iload w X at_76 78 rfl rfl ?_
    refine iastore w X V_b10 (by decide) 2 rfl (Nat.le_of_ble_eq_true rfl) g_b10 at_78 79 rfl a2 rfl (fun T h13 X W V_b10 => ?_)
    have V_b10 : PA Z h13 b10 .int [a0, a1, a2] := V_b10
    have zn : n0 ≤ h13.size := W.size ▸ zn
    refine astore w X at_79 81 rfl rfl #[.val (.int fl), .val (.int hh), .val (.int a0), .val (.int a1), .val (.int a2), .val (.int gg), .val (.int i6_1), .val (.int i7_2), .val (.int (0 : Int32)), .val (.int i9_4), .val (.int i10_5), .val (.int i11_6), .val (.int i12_7), .val (.int i13_8), .val (.ref b10), .unset, .unset] rfl ?_
    refine new w X (wd1 hw) (wd2 hw) (wd3 hw) at_81 84 rfl (by decide) (by decide) (fun T h14 b15 X hnb15 E A D => ?_)
    have ne_b10_b15 : b10 ≠ b15 := fun q => absurd (q ▸ V_b10.lt) (by rw [hnb15]; exact Nat.lt_irrefl _)
    have g_b15 : n0 ≤ b15 := by rw [hnb15]; exact zn
    have zn : n0 ≤ h14.size := Nat.le_trans zn E.1
    have V_b10 := V_b10.ext E
    have E_b15 := A
    have F_chunks_b15 : Fld Z h14 b15 "com/example/vigilant_mailbox/vigilantmailbox/engine/Sends" "chunks" "[[I" .null := D (Or.inl (wd13 hw)) (ty := (.array (.array .int))) (by decide)
    have F_chunkValues_b15 : Fld Z h14 b15 "com/example/vigilant_mailbox/vigilantmailbox/engine/Sends" "chunkValues" "J" (.long (0 : Int64)) := D (Or.inl (wd16 hw)) (ty := .long) (by decide)
    have F_counts_b15 : Fld Z h14 b15 "com/example/vigilant_mailbox/vigilantmailbox/engine/Sends" "counts" "[I" .null := D (Or.inr (wd18 hw)) (ty := (.array .int)) (by decide)
    have F_rowLengths_b15 : Fld Z h14 b15 "com/example/vigilant_mailbox/vigilantmailbox/engine/Sends" "rowLengths" "[J" .null := D (Or.inr (wd21 hw)) (ty := (.array .long)) (by decide)
    have F_firstChunks_b15 : Fld Z h14 b15 "com/example/vigilant_mailbox/vigilantmailbox/engine/Sends" "firstChunks" "[I" .null := D (Or.inr (wd23 hw)) (ty := (.array .int)) (by decide)
    have F_firsts_b15 : Fld Z h14 b15 "com/example/vigilant_mailbox/vigilantmailbox/engine/Sends" "firsts" "[I" .null := D (Or.inr (wd25 hw)) (ty := (.array .int)) (by decide)
    have F_lastChunks_b15 : Fld Z h14 b15 "com/example/vigilant_mailbox/vigilantmailbox/engine/Sends" "lastChunks" "[I" .null := D (Or.inr (wd27 hw)) (ty := (.array .int)) (by decide)
    have F_lasts_b15 : Fld Z h14 b15 "com/example/vigilant_mailbox/vigilantmailbox/engine/Sends" "lasts" "[I" .null := D (Or.inr (wd29 hw)) (ty := (.array .int)) (by decide)
    have F_receivers_b15 : Fld Z h14 b15 "com/example/vigilant_mailbox/vigilantmailbox/engine/Sends" "receivers" "[I" .null := D (Or.inr (wd31 hw)) (ty := (.array .int)) (by decide)
    have F_length_b15 : Fld Z h14 b15 "com/example/vigilant_mailbox/vigilantmailbox/engine/Sends" "length" "I" (.int (0 : Int32)) := D (Or.inl (wd44 hw)) (ty := .int) (by decide)
    have F_chunk_b15 : Fld Z h14 b15 "com/example/vigilant_mailbox/vigilantmailbox/engine/Sends" "chunk" "I" (.int (0 : Int32)) := D (Or.inl (wd46 hw)) (ty := .int) (by decide)
    have F_receiverCount_b15 : Fld Z h14 b15 "com/example/vigilant_mailbox/vigilantmailbox/engine/Sends" "receiverCount" "I" (.int (0 : Int32)) := D (Or.inl (wd48 hw)) (ty := .int) (by decide)
    have F_total_b15 : Fld Z h14 b15 "com/example/vigilant_mailbox/vigilantmailbox/engine/Sends" "total" "I" (.int (0 : Int32)) := D (Or.inl (wd54 hw)) (ty := .int) (by decide)
    have F_rowLength_b15 : Fld Z h14 b15 "com/example/vigilant_mailbox/vigilantmailbox/engine/Sends" "rowLength" "J" (.long (0 : Int64)) := D (Or.inl (wd56 hw)) (ty := .long) (by decide)
    refine dup w X at_84 85 rfl rfl ?_
    refine iconst w X (2 : Int32) at_85 86 rfl rfl ?_
    refine callNV w X [(.int (2 : Int32))] (wd4 hw) (wd5 hw) (wd3 hw) (wd6 hw) rfl (by decide) (rm_in hw b15 h14 n0 zn g_b15 E_b15 F_chunks_b15 F_counts_b15 F_rowLengths_b15 F_firstChunks_b15 F_firsts_b15 F_lastChunks_b15 F_lasts_b15 F_receivers_b15 F_chunk_b15 F_length_b15 F_receiverCount_b15 F_total_b15 F_rowLength_b15 F_chunkValues_b15) at_86 89 rfl 1 (by decide) (by decide) (lenOf pd1 rfl) rfl (Nat.le_of_eq rfl) rfl (by decide) (by decide) (fun T h16 X hq => ?_)
    obtain ⟨ck, ch, cn, rl, fc, fs, lc, la, rv, Kq, OB, NE, GE, SZ⟩ := hq
    obtain ⟨szck, szch, szcn, szrl, szfc, szfs, szlc, szla, szrv⟩ := SZ
    have na_ck : b10 ≠ ck := fun q => absurd (Nat.lt_of_lt_of_le (q ▸ V_b10.lt) szck) (Nat.lt_irrefl _)
    have na_ch : b10 ≠ ch := fun q => absurd (Nat.lt_of_lt_of_le (q ▸ V_b10.lt) szch) (Nat.lt_irrefl _)
    have na_cn : b10 ≠ cn := fun q => absurd (Nat.lt_of_lt_of_le (q ▸ V_b10.lt) szcn) (Nat.lt_irrefl _)
    have na_rl : b10 ≠ rl := fun q => absurd (Nat.lt_of_lt_of_le (q ▸ V_b10.lt) szrl) (Nat.lt_irrefl _)
    have na_fc : b10 ≠ fc := fun q => absurd (Nat.lt_of_lt_of_le (q ▸ V_b10.lt) szfc) (Nat.lt_irrefl _)
    have na_fs : b10 ≠ fs := fun q => absurd (Nat.lt_of_lt_of_le (q ▸ V_b10.lt) szfs) (Nat.lt_irrefl _)
    have na_lc : b10 ≠ lc := fun q => absurd (Nat.lt_of_lt_of_le (q ▸ V_b10.lt) szlc) (Nat.lt_irrefl _)
    have na_la : b10 ≠ la := fun q => absurd (Nat.lt_of_lt_of_le (q ▸ V_b10.lt) szla) (Nat.lt_irrefl _)
    have na_rv : b10 ≠ rv := fun q => absurd (Nat.lt_of_lt_of_le (q ▸ V_b10.lt) szrv) (Nat.lt_irrefl _)
    have NA : b10 ≠ b15 ∧ b10 ≠ ck ∧ b10 ≠ ch ∧ b10 ≠ cn ∧ b10 ≠ rl ∧ b10 ≠ fc ∧ b10 ≠ fs ∧ b10 ≠ lc ∧ b10 ≠ la ∧ b10 ≠ rv := ⟨ne_b10_b15, na_ck, na_ch, na_cn, na_rl, na_fc, na_fs, na_lc, na_la, na_rv⟩
    have ne_b10_ck := na_ck
    have ne_b10_ch := na_ch
    have ne_b10_cn := na_cn
    have ne_b10_rl := na_rl
    have ne_b10_fc := na_fc
    have ne_b10_fs := na_fs
    have ne_b10_lc := na_lc
    have ne_b10_la := na_la
    have ne_b10_rv := na_rv
    have zn : n0 ≤ h16.size := Nat.le_trans zn Kq.1
    have V_b10 := V_b10.keep Kq (ninS ne_b10_b15 nin0)
    refine astore w X at_89 91 rfl rfl #[.val (.int fl), .val (.int hh), .val (.int a0), .val (.int a1), .val (.int a2), .val (.int gg), .val (.int i6_1), .val (.int i7_2), .val (.int (0 : Int32)), .val (.int i9_4), .val (.int i10_5), .val (.int i11_6), .val (.int i12_7), .val (.int i13_8), .val (.ref b10), .val (.ref b15), .unset] rfl ?_
    have bw_i9_4 : 0 ≤ i9_4.toInt ∧ i9_4.toInt ≤ 3 := by rw [hi9_4]; exact own_m3 _
    have bw_i10_5 : 0 ≤ i10_5.toInt ∧ i10_5.toInt ≤ 3 := by rw [hi10_5]; exact own_m3 _
    have bw_i11_6 : 0 ≤ i11_6.toInt ∧ i11_6.toInt ≤ 3 := by rw [hi11_6]; exact own_m3 _
    have hs6 : i6_1 = 0 ∨ i6_1 = 1 := by rw [hi6_1]; exact own_m1 _
    rcases hs6 with hs6 | hs6
    ·
      clear hi6_1
      subst hs6
      refine aload w X at_91 93 rfl rfl rfl ?_
      refine iload w X at_93 95 rfl rfl ?_
      refine iloadN w X at_95 96 rfl rfl ?_
      refine aload w X at_96 98 rfl rfl rfl ?_
      refine iconst w X (0 : Int32) at_98 99 rfl rfl ?_
      refine iload w X at_99 101 rfl rfl ?_
      refine callVV w X [(.int (0 : Int32)), (.int hh), (.ref b10), (.int (0 : Int32)), (.int i9_4)] (wd32 hw) (wd33 hw) (notFace_of_selects (args := #[]) (mvT w.2.2.2.2.1 (wd35 hw))) (wd35 hw) (wd34 hw) (wd3 hw) (wd36 hw) (by decide) OB.1 (rm_a1_0 hw b15 ck ch cn rl fc fs lc la rv b10 hh i9_4 a0 a1 a2 (0 : Int32) (0 : Int32) (0 : Int32) (0 : Int32) (0 : Int32) (0 : Int32) (0 : Int32) (0 : Int32) (0 : Int32) (0 : Int32) h16 n0 zn OB NE GE V_b10 NA bw_i9_4) at_101 104 rfl 0 (by decide) (by decide) (lenOf pd2 rfl) rfl (Nat.le_of_eq rfl) rfl (by decide) (by decide) (fun T h17 X hq => ?_)
      obtain ⟨Kq, len_k18, hlen, f0_k18, f1_k18, y0_k18, y1_k18, q1_k18, z1_k18, v1_k18, OB⟩ := hq
      have zn : n0 ≤ h17.size := Nat.le_trans zn Kq.1
      have V_b10 := V_b10.keep Kq (ninS ne_b10_b15 (ninS ne_b10_ch (ninS ne_b10_cn (ninS ne_b10_rl (ninS ne_b10_fc (ninS ne_b10_fs (ninS ne_b10_lc (ninS ne_b10_la (ninS ne_b10_rv nin0)))))))))
      refine iload w X at_104 106 rfl rfl ?_
      refine if_eq w X at_106 123 109 (by decide) (by decide) rfl (fun hc106_19 => ?_) (fun q => absurd q (by decide))
      refine aload w X at_123 125 rfl rfl rfl ?_
      refine callVV w X [] (wd57 hw) (wd58 hw) (notFace_of_selects (args := #[]) (mvT w.2.2.2.2.1 (wd60 hw))) (wd60 hw) (wd59 hw) (wd3 hw) (wd61 hw) (by decide) OB.1 (rm_cl_0 hw b15 ck ch cn rl fc fs lc la rv (1 : Int32) f0_k18 f1_k18 y0_k18 y1_k18 (0 : Int32) q1_k18 (0 : Int32) z1_k18 v1_k18 (0 : Int32) len_k18 (1 : Int32) (own_rl (0 : Int64) i9_4) (own_rl (0 : Int64) i9_4) h17 n0 zn OB NE GE) at_125 128 rfl 0 (by decide) (by decide) (lenOf pd3 rfl) rfl (Nat.le_of_eq rfl) rfl (by decide) (by decide) (fun T h20 X hq => ?_)
      obtain ⟨Kq, OB⟩ := hq
      have zn : n0 ≤ h20.size := Nat.le_trans zn Kq.1
      have V_b10 := V_b10.keep Kq (ninS ne_b10_b15 (ninS ne_b10_cn (ninS ne_b10_rl nin0)))
      have hs12 : i12_7 = 0 ∨ i12_7 = 1 := by rw [hi12_7]; exact own_m1 _
      rcases hs12 with hs12 | hs12
      ·
        have ho12 : i13_8 = (1 : Int32) := by rw [hi13_8, hs12]; decide
        clear hi13_8
        subst ho12
        clear hi12_7
        subst hs12
        refine aload w X at_128 130 rfl rfl rfl ?_
        refine iload w X at_130 132 rfl rfl ?_
        refine iload w X at_132 134 rfl rfl ?_
        refine aload w X at_134 136 rfl rfl rfl ?_
        refine iconst w X (0 : Int32) at_136 137 rfl rfl ?_
        refine iload w X at_137 139 rfl rfl ?_
        refine callVV w X [(.int (0 : Int32)), (.int gg), (.ref b10), (.int (0 : Int32)), (.int i11_6)] (wd32 hw) (wd33 hw) (notFace_of_selects (args := #[]) (mvT w.2.2.2.2.1 (wd35 hw))) (wd35 hw) (wd34 hw) (wd3 hw) (wd36 hw) (by decide) OB.1 (rm_a1_0 hw b15 ck ch cn rl fc fs lc la rv b10 gg i11_6 a0 a1 a2 f0_k18 f1_k18 y0_k18 y1_k18 (0 : Int32) q1_k18 (0 : Int32) z1_k18 (0 : Int32) v1_k18 h20 n0 zn OB NE GE V_b10 NA bw_i11_6) at_139 142 rfl 0 (by decide) (by decide) (lenOf pd2 rfl) rfl (Nat.le_of_eq rfl) rfl (by decide) (by decide) (fun T h21 X hq => ?_)
        obtain ⟨Kq, len_k22, hlen, f0_k22, f1_k22, y0_k22, y1_k22, q1_k22, z1_k22, v1_k22, OB⟩ := hq
        have zn : n0 ≤ h21.size := Nat.le_trans zn Kq.1
        have V_b10 := V_b10.keep Kq (ninS ne_b10_b15 (ninS ne_b10_ch (ninS ne_b10_cn (ninS ne_b10_rl (ninS ne_b10_fc (ninS ne_b10_fs (ninS ne_b10_lc (ninS ne_b10_la (ninS ne_b10_rv nin0)))))))))
        refine aload w X at_142 144 rfl rfl rfl ?_
        refine iload w X at_144 146 rfl rfl ?_
        refine iloadN w X at_146 147 rfl rfl ?_
        refine aload w X at_147 149 rfl rfl rfl ?_
        refine iconst w X (0 : Int32) at_149 150 rfl rfl ?_
        refine iload w X at_150 152 rfl rfl ?_
        refine callVV w X [(.int (1 : Int32)), (.int hh), (.ref b10), (.int (0 : Int32)), (.int i9_4)] (wd32 hw) (wd33 hw) (notFace_of_selects (args := #[]) (mvT w.2.2.2.2.1 (wd35 hw))) (wd35 hw) (wd34 hw) (wd3 hw) (wd36 hw) (by decide) OB.1 (rm_a2_01 hw b15 ck ch cn rl fc fs lc la rv b10 hh i9_4 a0 a1 a2 len_k22 f0_k22 f1_k22 y0_k22 y1_k22 (0 : Int32) q1_k22 (0 : Int32) z1_k22 v1_k22 (own_rl (0 : Int64) i11_6) (own_rl (0 : Int64) i11_6) (0 : Int64) h21 n0 zn OB NE GE V_b10 NA bw_i9_4 hlen) at_152 155 rfl 0 (by decide) (by decide) (lenOf pd2 rfl) rfl (Nat.le_of_eq rfl) rfl (by decide) (by decide) (fun T h23 X hq => ?_)
        obtain ⟨Kq, len_k24, hlen, f0_k24, f1_k24, y0_k24, y1_k24, q0_k24, q1_k24, z0_k24, z1_k24, OB⟩ := hq
        have zn : n0 ≤ h23.size := Nat.le_trans zn Kq.1
        have V_b10 := V_b10.keep Kq (ninS ne_b10_b15 (ninS ne_b10_ch (ninS ne_b10_cn (ninS ne_b10_rl (ninS ne_b10_fc (ninS ne_b10_fs (ninS ne_b10_lc (ninS ne_b10_la (ninS ne_b10_rv nin0)))))))))
        refine aload w X at_155 157 rfl rfl rfl ?_
        refine iload w X at_157 159 rfl rfl ?_
        refine callVPI w X [(.int (0 : Int32))] (wd62 hw) (wd63 hw) (notFace_of_selects (args := #[]) (mvT w.2.2.2.2.1 (wd65 hw))) (wd65 hw) (wd64 hw) (wd3 hw) (wd66 hw) (by decide) OB.1 (rm_ct0 hw b15 cn (1 : Int32) (1 : Int32) h23 n0 zn OB.2.2.1 OB.2.2.2.2.2.2.2.2.2.2.2.2.2.2.2.2.1) at_159 162 rfl 0 (by decide) (by decide) (lenOf pd4 rfl) rfl (Nat.le_of_eq rfl) rfl (by decide) (by decide) (fun r25 T X hq => ?_)
        have hr25 := hq
        refine iconst w X (1 : Int32) at_162 163 rfl rfl ?_
        refine icmp_ne w X at_163 170 166 (by decide) (by decide) rfl (fun q => False.elim (by exact q (hr25))) (fun hc163_26 => ?_)
        refine iconst w X (1 : Int32) at_166 167 rfl rfl ?_
        refine goto w X at_167 171 (by decide) (by decide) ?_
        refine istore w X (1 : Int32) at_171 173 rfl rfl #[.val (.int fl), .val (.int hh), .val (.int a0), .val (.int a1), .val (.int a2), .val (.int gg), .val (.int (0 : Int32)), .val (.int i7_2), .val (.int (0 : Int32)), .val (.int i9_4), .val (.int i10_5), .val (.int i11_6), .val (.int (0 : Int32)), .val (.int (1 : Int32)), .val (.ref b10), .val (.ref b15), .val (.int (1 : Int32))] rfl ?_
        refine iload w X at_173 175 rfl rfl ?_
        refine if_eq w X at_175 198 178 (by decide) (by decide) rfl (fun q => absurd q (by decide)) (fun hc175_27 => ?_)
        refine aload w X at_178 180 rfl rfl rfl ?_
        refine iload w X at_180 182 rfl rfl ?_
        refine callVPJ w X [(.int (0 : Int32))] (wd67 hw) (wd68 hw) (notFace_of_selects (args := #[]) (mvT w.2.2.2.2.1 (wd70 hw))) (wd70 hw) (wd69 hw) (wd3 hw) (wd71 hw) (by decide) OB.1 (rm_rw0 hw b15 rl (own_rl (0 : Int64) i11_6) (own_rl (0 : Int64) i9_4) h23 n0 zn OB.2.2.2.1 OB.2.2.2.2.2.2.2.2.2.2.2.2.2.2.2.1) at_182 185 rfl 0 (by decide) (by decide) (lenOf pd5 rfl) rfl (Nat.le_of_eq rfl) rfl (by decide) (by decide) (fun r28 T X hq => ?_)
        have hr28 := hq
        refine iconst w X (2 : Int32) at_185 186 rfl rfl ?_
        refine iload w X at_186 188 rfl rfl ?_
        refine iadd w X ((2 : Int32) + i11_6) at_188 189 rfl rfl ?_
        refine i2l w X (((2 : Int32) + i11_6).toInt64) at_189 190 rfl rfl ?_
        refine lcmp w X (lcmpW r28 (((2 : Int32) + i11_6).toInt64)) at_190 191 rfl rfl ?_
        refine if_ne w X at_191 198 194 (by decide) (by decide) rfl (fun q => False.elim (by rw [hr28] at q; exact q (own_f1 _))) (fun hc191_29 => ?_)
        refine iconst w X (1 : Int32) at_194 195 rfl rfl ?_
        refine goto w X at_195 199 (by decide) (by decide) ?_
        refine istore w X (1 : Int32) at_199 201 rfl rfl #[.val (.int fl), .val (.int hh), .val (.int a0), .val (.int a1), .val (.int a2), .val (.int gg), .val (.int (0 : Int32)), .val (.int i7_2), .val (.int (0 : Int32)), .val (.int i9_4), .val (.int i10_5), .val (.int i11_6), .val (.int (0 : Int32)), .val (.int (1 : Int32)), .val (.ref b10), .val (.ref b15), .val (.int (1 : Int32))] rfl ?_
        refine iload w X at_201 203 rfl rfl ?_
        refine if_eq w X at_203 219 206 (by decide) (by decide) rfl (fun q => absurd q (by decide)) (fun hc203_30 => ?_)
        refine aload w X at_206 208 rfl rfl rfl ?_
        refine callVPI w X [] (wd72 hw) (wd73 hw) (notFace_of_selects (args := #[]) (mvT w.2.2.2.2.1 (wd75 hw))) (wd75 hw) (wd74 hw) (wd3 hw) (wd76 hw) (by decide) OB.1 (rm_to hw b15 (2 : Int32) h23 n0 zn OB.2.2.2.2.2.2.2.2.2.2.2.2.1) at_208 211 rfl 0 (by decide) (by decide) (lenOf pd6 rfl) rfl (Nat.le_of_eq rfl) rfl (by decide) (by decide) (fun r31 T X hq => ?_)
        have hr31 := hq
        refine iconst w X (2 : Int32) at_211 212 rfl rfl ?_
        refine icmp_ne w X at_212 219 215 (by decide) (by decide) rfl (fun q => False.elim (by exact q (hr31))) (fun hc212_32 => ?_)
        refine iconst w X (1 : Int32) at_215 216 rfl rfl ?_
        refine goto w X at_216 220 (by decide) (by decide) ?_
        refine istore w X (1 : Int32) at_220 222 rfl rfl #[.val (.int fl), .val (.int hh), .val (.int a0), .val (.int a1), .val (.int a2), .val (.int gg), .val (.int (0 : Int32)), .val (.int i7_2), .val (.int (0 : Int32)), .val (.int i9_4), .val (.int i10_5), .val (.int i11_6), .val (.int (0 : Int32)), .val (.int (1 : Int32)), .val (.ref b10), .val (.ref b15), .val (.int (1 : Int32))] rfl ?_
        refine iload w X at_222 224 rfl rfl ?_
        refine if_eq w X at_224 248 227 (by decide) (by decide) rfl (fun q => absurd q (by decide)) (fun hc224_33 => ?_)
        refine aload w X at_227 229 rfl rfl rfl ?_
        refine callVPJ w X [] (wd77 hw) (wd78 hw) (notFace_of_selects (args := #[]) (mvT w.2.2.2.2.1 (wd80 hw))) (wd80 hw) (wd79 hw) (wd3 hw) (wd81 hw) (by decide) OB.1 (rm_tl hw b15 (own_rl (own_rl (0 : Int64) i11_6) i9_4) h23 n0 zn OB.2.2.2.2.2.2.2.2.2.2.2.2.2.1) at_229 232 rfl 0 (by decide) (by decide) (lenOf pd7 rfl) rfl (Nat.le_of_eq rfl) rfl (by decide) (by decide) (fun r34 T X hq => ?_)
        have hr34 := hq
        refine iconst w X (4 : Int32) at_232 233 rfl rfl ?_
        refine iload w X at_233 235 rfl rfl ?_
        refine iadd w X ((4 : Int32) + i11_6) at_235 236 rfl rfl ?_
        refine iload w X at_236 238 rfl rfl ?_
        refine iadd w X (((4 : Int32) + i11_6) + i9_4) at_238 239 rfl rfl ?_
        refine i2l w X ((((4 : Int32) + i11_6) + i9_4).toInt64) at_239 240 rfl rfl ?_
        refine lcmp w X (lcmpW r34 ((((4 : Int32) + i11_6) + i9_4).toInt64)) at_240 241 rfl rfl ?_
        refine if_ne w X at_241 248 244 (by decide) (by decide) rfl (fun q => False.elim (by rw [hr34] at q; exact q (own_f2 bw_i11_6 bw_i9_4))) (fun hc241_35 => ?_)
        refine iconst w X (1 : Int32) at_244 245 rfl rfl ?_
        refine goto w X at_245 249 (by decide) (by decide) ?_
        refine istore w X (1 : Int32) at_249 251 rfl rfl #[.val (.int fl), .val (.int hh), .val (.int a0), .val (.int a1), .val (.int a2), .val (.int gg), .val (.int (0 : Int32)), .val (.int i7_2), .val (.int (0 : Int32)), .val (.int i9_4), .val (.int i10_5), .val (.int i11_6), .val (.int (0 : Int32)), .val (.int (1 : Int32)), .val (.ref b10), .val (.ref b15), .val (.int (1 : Int32))] rfl ?_
        refine iload w X at_251 253 rfl rfl ?_
        refine retN w X (t := .boolean) rfl (by simp) at_253 (by decide) (by decide) ?_
        exact ⟨_, rfl, rfl⟩
      ·
        have ho12 : i13_8 = (0 : Int32) := by rw [hi13_8, hs12]; decide
        clear hi13_8
        subst ho12
        clear hi12_7
        subst hs12
        refine aload w X at_128 130 rfl rfl rfl ?_
        refine iload w X at_130 132 rfl rfl ?_
        refine iload w X at_132 134 rfl rfl ?_
        refine aload w X at_134 136 rfl rfl rfl ?_
        refine iconst w X (0 : Int32) at_136 137 rfl rfl ?_
        refine iload w X at_137 139 rfl rfl ?_
        refine callVV w X [(.int (1 : Int32)), (.int gg), (.ref b10), (.int (0 : Int32)), (.int i11_6)] (wd32 hw) (wd33 hw) (notFace_of_selects (args := #[]) (mvT w.2.2.2.2.1 (wd35 hw))) (wd35 hw) (wd34 hw) (wd3 hw) (wd36 hw) (by decide) OB.1 (rm_a1_1 hw b15 ck ch cn rl fc fs lc la rv b10 gg i11_6 a0 a1 a2 f0_k18 f1_k18 y0_k18 y1_k18 (0 : Int32) q1_k18 (0 : Int32) z1_k18 (0 : Int32) v1_k18 h20 n0 zn OB NE GE V_b10 NA bw_i11_6) at_139 142 rfl 0 (by decide) (by decide) (lenOf pd2 rfl) rfl (Nat.le_of_eq rfl) rfl (by decide) (by decide) (fun T h36 X hq => ?_)
        obtain ⟨Kq, len_k37, hlen, f0_k37, f1_k37, y0_k37, y1_k37, q0_k37, z0_k37, v1_k37, OB⟩ := hq
        have zn : n0 ≤ h36.size := Nat.le_trans zn Kq.1
        have V_b10 := V_b10.keep Kq (ninS ne_b10_b15 (ninS ne_b10_ch (ninS ne_b10_cn (ninS ne_b10_rl (ninS ne_b10_fc (ninS ne_b10_fs (ninS ne_b10_lc (ninS ne_b10_la (ninS ne_b10_rv nin0)))))))))
        refine aload w X at_142 144 rfl rfl rfl ?_
        refine iload w X at_144 146 rfl rfl ?_
        refine iloadN w X at_146 147 rfl rfl ?_
        refine aload w X at_147 149 rfl rfl rfl ?_
        refine iconst w X (0 : Int32) at_149 150 rfl rfl ?_
        refine iload w X at_150 152 rfl rfl ?_
        refine callVV w X [(.int (0 : Int32)), (.int hh), (.ref b10), (.int (0 : Int32)), (.int i9_4)] (wd32 hw) (wd33 hw) (notFace_of_selects (args := #[]) (mvT w.2.2.2.2.1 (wd35 hw))) (wd35 hw) (wd34 hw) (wd3 hw) (wd36 hw) (by decide) OB.1 (rm_a2_10 hw b15 ck ch cn rl fc fs lc la rv b10 hh i9_4 a0 a1 a2 len_k37 f0_k37 f1_k37 y0_k37 y1_k37 q0_k37 (0 : Int32) z0_k37 (0 : Int32) v1_k37 (own_rl (0 : Int64) i11_6) (0 : Int64) (own_rl (0 : Int64) i11_6) h36 n0 zn OB NE GE V_b10 NA bw_i9_4 hlen) at_152 155 rfl 0 (by decide) (by decide) (lenOf pd2 rfl) rfl (Nat.le_of_eq rfl) rfl (by decide) (by decide) (fun T h38 X hq => ?_)
        obtain ⟨Kq, len_k39, hlen, f0_k39, f1_k39, y0_k39, y1_k39, q0_k39, q1_k39, z0_k39, z1_k39, OB⟩ := hq
        have zn : n0 ≤ h38.size := Nat.le_trans zn Kq.1
        have V_b10 := V_b10.keep Kq (ninS ne_b10_b15 (ninS ne_b10_ch (ninS ne_b10_cn (ninS ne_b10_rl (ninS ne_b10_fc (ninS ne_b10_fs (ninS ne_b10_lc (ninS ne_b10_la (ninS ne_b10_rv nin0)))))))))
        refine aload w X at_155 157 rfl rfl rfl ?_
        refine iload w X at_157 159 rfl rfl ?_
        refine callVPI w X [(.int (1 : Int32))] (wd62 hw) (wd63 hw) (notFace_of_selects (args := #[]) (mvT w.2.2.2.2.1 (wd65 hw))) (wd65 hw) (wd64 hw) (wd3 hw) (wd66 hw) (by decide) OB.1 (rm_ct1 hw b15 cn (1 : Int32) (1 : Int32) h38 n0 zn OB.2.2.1 OB.2.2.2.2.2.2.2.2.2.2.2.2.2.2.2.2.1) at_159 162 rfl 0 (by decide) (by decide) (lenOf pd4 rfl) rfl (Nat.le_of_eq rfl) rfl (by decide) (by decide) (fun r40 T X hq => ?_)
        have hr40 := hq
        refine iconst w X (1 : Int32) at_162 163 rfl rfl ?_
        refine icmp_ne w X at_163 170 166 (by decide) (by decide) rfl (fun q => False.elim (by exact q (hr40))) (fun hc163_41 => ?_)
        refine iconst w X (1 : Int32) at_166 167 rfl rfl ?_
        refine goto w X at_167 171 (by decide) (by decide) ?_
        refine istore w X (1 : Int32) at_171 173 rfl rfl #[.val (.int fl), .val (.int hh), .val (.int a0), .val (.int a1), .val (.int a2), .val (.int gg), .val (.int (0 : Int32)), .val (.int i7_2), .val (.int (0 : Int32)), .val (.int i9_4), .val (.int i10_5), .val (.int i11_6), .val (.int (1 : Int32)), .val (.int (0 : Int32)), .val (.ref b10), .val (.ref b15), .val (.int (1 : Int32))] rfl ?_
        refine iload w X at_173 175 rfl rfl ?_
        refine if_eq w X at_175 198 178 (by decide) (by decide) rfl (fun q => absurd q (by decide)) (fun hc175_42 => ?_)
        refine aload w X at_178 180 rfl rfl rfl ?_
        refine iload w X at_180 182 rfl rfl ?_
        refine callVPJ w X [(.int (1 : Int32))] (wd67 hw) (wd68 hw) (notFace_of_selects (args := #[]) (mvT w.2.2.2.2.1 (wd70 hw))) (wd70 hw) (wd69 hw) (wd3 hw) (wd71 hw) (by decide) OB.1 (rm_rw1 hw b15 rl (own_rl (0 : Int64) i9_4) (own_rl (0 : Int64) i11_6) h38 n0 zn OB.2.2.2.1 OB.2.2.2.2.2.2.2.2.2.2.2.2.2.2.2.1) at_182 185 rfl 0 (by decide) (by decide) (lenOf pd5 rfl) rfl (Nat.le_of_eq rfl) rfl (by decide) (by decide) (fun r43 T X hq => ?_)
        have hr43 := hq
        refine iconst w X (2 : Int32) at_185 186 rfl rfl ?_
        refine iload w X at_186 188 rfl rfl ?_
        refine iadd w X ((2 : Int32) + i11_6) at_188 189 rfl rfl ?_
        refine i2l w X (((2 : Int32) + i11_6).toInt64) at_189 190 rfl rfl ?_
        refine lcmp w X (lcmpW r43 (((2 : Int32) + i11_6).toInt64)) at_190 191 rfl rfl ?_
        refine if_ne w X at_191 198 194 (by decide) (by decide) rfl (fun q => False.elim (by rw [hr43] at q; exact q (own_f1 _))) (fun hc191_44 => ?_)
        refine iconst w X (1 : Int32) at_194 195 rfl rfl ?_
        refine goto w X at_195 199 (by decide) (by decide) ?_
        refine istore w X (1 : Int32) at_199 201 rfl rfl #[.val (.int fl), .val (.int hh), .val (.int a0), .val (.int a1), .val (.int a2), .val (.int gg), .val (.int (0 : Int32)), .val (.int i7_2), .val (.int (0 : Int32)), .val (.int i9_4), .val (.int i10_5), .val (.int i11_6), .val (.int (1 : Int32)), .val (.int (0 : Int32)), .val (.ref b10), .val (.ref b15), .val (.int (1 : Int32))] rfl ?_
        refine iload w X at_201 203 rfl rfl ?_
        refine if_eq w X at_203 219 206 (by decide) (by decide) rfl (fun q => absurd q (by decide)) (fun hc203_45 => ?_)
        refine aload w X at_206 208 rfl rfl rfl ?_
        refine callVPI w X [] (wd72 hw) (wd73 hw) (notFace_of_selects (args := #[]) (mvT w.2.2.2.2.1 (wd75 hw))) (wd75 hw) (wd74 hw) (wd3 hw) (wd76 hw) (by decide) OB.1 (rm_to hw b15 (2 : Int32) h38 n0 zn OB.2.2.2.2.2.2.2.2.2.2.2.2.1) at_208 211 rfl 0 (by decide) (by decide) (lenOf pd6 rfl) rfl (Nat.le_of_eq rfl) rfl (by decide) (by decide) (fun r46 T X hq => ?_)
        have hr46 := hq
        refine iconst w X (2 : Int32) at_211 212 rfl rfl ?_
        refine icmp_ne w X at_212 219 215 (by decide) (by decide) rfl (fun q => False.elim (by exact q (hr46))) (fun hc212_47 => ?_)
        refine iconst w X (1 : Int32) at_215 216 rfl rfl ?_
        refine goto w X at_216 220 (by decide) (by decide) ?_
        refine istore w X (1 : Int32) at_220 222 rfl rfl #[.val (.int fl), .val (.int hh), .val (.int a0), .val (.int a1), .val (.int a2), .val (.int gg), .val (.int (0 : Int32)), .val (.int i7_2), .val (.int (0 : Int32)), .val (.int i9_4), .val (.int i10_5), .val (.int i11_6), .val (.int (1 : Int32)), .val (.int (0 : Int32)), .val (.ref b10), .val (.ref b15), .val (.int (1 : Int32))] rfl ?_
        refine iload w X at_222 224 rfl rfl ?_
        refine if_eq w X at_224 248 227 (by decide) (by decide) rfl (fun q => absurd q (by decide)) (fun hc224_48 => ?_)
        refine aload w X at_227 229 rfl rfl rfl ?_
        refine callVPJ w X [] (wd77 hw) (wd78 hw) (notFace_of_selects (args := #[]) (mvT w.2.2.2.2.1 (wd80 hw))) (wd80 hw) (wd79 hw) (wd3 hw) (wd81 hw) (by decide) OB.1 (rm_tl hw b15 (own_rl (own_rl (0 : Int64) i11_6) i9_4) h38 n0 zn OB.2.2.2.2.2.2.2.2.2.2.2.2.2.1) at_229 232 rfl 0 (by decide) (by decide) (lenOf pd7 rfl) rfl (Nat.le_of_eq rfl) rfl (by decide) (by decide) (fun r49 T X hq => ?_)
        have hr49 := hq
        refine iconst w X (4 : Int32) at_232 233 rfl rfl ?_
        refine iload w X at_233 235 rfl rfl ?_
        refine iadd w X ((4 : Int32) + i11_6) at_235 236 rfl rfl ?_
        refine iload w X at_236 238 rfl rfl ?_
        refine iadd w X (((4 : Int32) + i11_6) + i9_4) at_238 239 rfl rfl ?_
        refine i2l w X ((((4 : Int32) + i11_6) + i9_4).toInt64) at_239 240 rfl rfl ?_
        refine lcmp w X (lcmpW r49 ((((4 : Int32) + i11_6) + i9_4).toInt64)) at_240 241 rfl rfl ?_
        refine if_ne w X at_241 248 244 (by decide) (by decide) rfl (fun q => False.elim (by rw [hr49] at q; exact q (own_f2 bw_i11_6 bw_i9_4))) (fun hc241_50 => ?_)
        refine iconst w X (1 : Int32) at_244 245 rfl rfl ?_
        refine goto w X at_245 249 (by decide) (by decide) ?_
        refine istore w X (1 : Int32) at_249 251 rfl rfl #[.val (.int fl), .val (.int hh), .val (.int a0), .val (.int a1), .val (.int a2), .val (.int gg), .val (.int (0 : Int32)), .val (.int i7_2), .val (.int (0 : Int32)), .val (.int i9_4), .val (.int i10_5), .val (.int i11_6), .val (.int (1 : Int32)), .val (.int (0 : Int32)), .val (.ref b10), .val (.ref b15), .val (.int (1 : Int32))] rfl ?_
        refine iload w X at_251 253 rfl rfl ?_
        refine retN w X (t := .boolean) rfl (by simp) at_253 (by decide) (by decide) ?_
        exact ⟨_, rfl, rfl⟩
    ·
      clear hi6_1
      subst hs6
      refine aload w X at_91 93 rfl rfl rfl ?_
      refine iload w X at_93 95 rfl rfl ?_
      refine iloadN w X at_95 96 rfl rfl ?_
      refine aload w X at_96 98 rfl rfl rfl ?_
      refine iconst w X (0 : Int32) at_98 99 rfl rfl ?_
      refine iload w X at_99 101 rfl rfl ?_
      refine callVV w X [(.int (1 : Int32)), (.int hh), (.ref b10), (.int (0 : Int32)), (.int i9_4)] (wd32 hw) (wd33 hw) (notFace_of_selects (args := #[]) (mvT w.2.2.2.2.1 (wd35 hw))) (wd35 hw) (wd34 hw) (wd3 hw) (wd36 hw) (by decide) OB.1 (rm_a1_1 hw b15 ck ch cn rl fc fs lc la rv b10 hh i9_4 a0 a1 a2 (0 : Int32) (0 : Int32) (0 : Int32) (0 : Int32) (0 : Int32) (0 : Int32) (0 : Int32) (0 : Int32) (0 : Int32) (0 : Int32) h16 n0 zn OB NE GE V_b10 NA bw_i9_4) at_101 104 rfl 0 (by decide) (by decide) (lenOf pd2 rfl) rfl (Nat.le_of_eq rfl) rfl (by decide) (by decide) (fun T h51 X hq => ?_)
      obtain ⟨Kq, len_k52, hlen, f0_k52, f1_k52, y0_k52, y1_k52, q0_k52, z0_k52, v1_k52, OB⟩ := hq
      have zn : n0 ≤ h51.size := Nat.le_trans zn Kq.1
      have V_b10 := V_b10.keep Kq (ninS ne_b10_b15 (ninS ne_b10_ch (ninS ne_b10_cn (ninS ne_b10_rl (ninS ne_b10_fc (ninS ne_b10_fs (ninS ne_b10_lc (ninS ne_b10_la (ninS ne_b10_rv nin0)))))))))
      refine iload w X at_104 106 rfl rfl ?_
      refine if_eq w X at_106 123 109 (by decide) (by decide) rfl (fun hc106_53 => ?_) (fun q => absurd q (by decide))
      refine aload w X at_123 125 rfl rfl rfl ?_
      refine callVV w X [] (wd57 hw) (wd58 hw) (notFace_of_selects (args := #[]) (mvT w.2.2.2.2.1 (wd60 hw))) (wd60 hw) (wd59 hw) (wd3 hw) (wd61 hw) (by decide) OB.1 (rm_cl_1 hw b15 ck ch cn rl fc fs lc la rv (1 : Int32) f0_k52 f1_k52 y0_k52 y1_k52 q0_k52 (0 : Int32) z0_k52 (0 : Int32) v1_k52 (0 : Int32) len_k52 (1 : Int32) (own_rl (0 : Int64) i9_4) (own_rl (0 : Int64) i9_4) h51 n0 zn OB NE GE) at_125 128 rfl 0 (by decide) (by decide) (lenOf pd3 rfl) rfl (Nat.le_of_eq rfl) rfl (by decide) (by decide) (fun T h54 X hq => ?_)
      obtain ⟨Kq, OB⟩ := hq
      have zn : n0 ≤ h54.size := Nat.le_trans zn Kq.1
      have V_b10 := V_b10.keep Kq (ninS ne_b10_b15 (ninS ne_b10_cn (ninS ne_b10_rl nin0)))
      have hs12 : i12_7 = 0 ∨ i12_7 = 1 := by rw [hi12_7]; exact own_m1 _
      rcases hs12 with hs12 | hs12
      ·
        have ho12 : i13_8 = (1 : Int32) := by rw [hi13_8, hs12]; decide
        clear hi13_8
        subst ho12
        clear hi12_7
        subst hs12
        refine aload w X at_128 130 rfl rfl rfl ?_
        refine iload w X at_130 132 rfl rfl ?_
        refine iload w X at_132 134 rfl rfl ?_
        refine aload w X at_134 136 rfl rfl rfl ?_
        refine iconst w X (0 : Int32) at_136 137 rfl rfl ?_
        refine iload w X at_137 139 rfl rfl ?_
        refine callVV w X [(.int (0 : Int32)), (.int gg), (.ref b10), (.int (0 : Int32)), (.int i11_6)] (wd32 hw) (wd33 hw) (notFace_of_selects (args := #[]) (mvT w.2.2.2.2.1 (wd35 hw))) (wd35 hw) (wd34 hw) (wd3 hw) (wd36 hw) (by decide) OB.1 (rm_a1_0 hw b15 ck ch cn rl fc fs lc la rv b10 gg i11_6 a0 a1 a2 f0_k52 f1_k52 y0_k52 y1_k52 q0_k52 (0 : Int32) z0_k52 (0 : Int32) (1 : Int32) v1_k52 h54 n0 zn OB NE GE V_b10 NA bw_i11_6) at_139 142 rfl 0 (by decide) (by decide) (lenOf pd2 rfl) rfl (Nat.le_of_eq rfl) rfl (by decide) (by decide) (fun T h55 X hq => ?_)
        obtain ⟨Kq, len_k56, hlen, f0_k56, f1_k56, y0_k56, y1_k56, q1_k56, z1_k56, v1_k56, OB⟩ := hq
        have zn : n0 ≤ h55.size := Nat.le_trans zn Kq.1
        have V_b10 := V_b10.keep Kq (ninS ne_b10_b15 (ninS ne_b10_ch (ninS ne_b10_cn (ninS ne_b10_rl (ninS ne_b10_fc (ninS ne_b10_fs (ninS ne_b10_lc (ninS ne_b10_la (ninS ne_b10_rv nin0)))))))))
        refine aload w X at_142 144 rfl rfl rfl ?_
        refine iload w X at_144 146 rfl rfl ?_
        refine iloadN w X at_146 147 rfl rfl ?_
        refine aload w X at_147 149 rfl rfl rfl ?_
        refine iconst w X (0 : Int32) at_149 150 rfl rfl ?_
        refine iload w X at_150 152 rfl rfl ?_
        refine callVV w X [(.int (1 : Int32)), (.int hh), (.ref b10), (.int (0 : Int32)), (.int i9_4)] (wd32 hw) (wd33 hw) (notFace_of_selects (args := #[]) (mvT w.2.2.2.2.1 (wd35 hw))) (wd35 hw) (wd34 hw) (wd3 hw) (wd36 hw) (by decide) OB.1 (rm_a2_01 hw b15 ck ch cn rl fc fs lc la rv b10 hh i9_4 a0 a1 a2 len_k56 f0_k56 f1_k56 y0_k56 y1_k56 (0 : Int32) q1_k56 (0 : Int32) z1_k56 v1_k56 (own_rl (0 : Int64) i11_6) (own_rl (0 : Int64) i11_6) (0 : Int64) h55 n0 zn OB NE GE V_b10 NA bw_i9_4 hlen) at_152 155 rfl 0 (by decide) (by decide) (lenOf pd2 rfl) rfl (Nat.le_of_eq rfl) rfl (by decide) (by decide) (fun T h57 X hq => ?_)
        obtain ⟨Kq, len_k58, hlen, f0_k58, f1_k58, y0_k58, y1_k58, q0_k58, q1_k58, z0_k58, z1_k58, OB⟩ := hq
        have zn : n0 ≤ h57.size := Nat.le_trans zn Kq.1
        have V_b10 := V_b10.keep Kq (ninS ne_b10_b15 (ninS ne_b10_ch (ninS ne_b10_cn (ninS ne_b10_rl (ninS ne_b10_fc (ninS ne_b10_fs (ninS ne_b10_lc (ninS ne_b10_la (ninS ne_b10_rv nin0)))))))))
        refine aload w X at_155 157 rfl rfl rfl ?_
        refine iload w X at_157 159 rfl rfl ?_
        refine callVPI w X [(.int (0 : Int32))] (wd62 hw) (wd63 hw) (notFace_of_selects (args := #[]) (mvT w.2.2.2.2.1 (wd65 hw))) (wd65 hw) (wd64 hw) (wd3 hw) (wd66 hw) (by decide) OB.1 (rm_ct0 hw b15 cn (1 : Int32) (1 : Int32) h57 n0 zn OB.2.2.1 OB.2.2.2.2.2.2.2.2.2.2.2.2.2.2.2.2.1) at_159 162 rfl 0 (by decide) (by decide) (lenOf pd4 rfl) rfl (Nat.le_of_eq rfl) rfl (by decide) (by decide) (fun r59 T X hq => ?_)
        have hr59 := hq
        refine iconst w X (1 : Int32) at_162 163 rfl rfl ?_
        refine icmp_ne w X at_163 170 166 (by decide) (by decide) rfl (fun q => False.elim (by exact q (hr59))) (fun hc163_60 => ?_)
        refine iconst w X (1 : Int32) at_166 167 rfl rfl ?_
        refine goto w X at_167 171 (by decide) (by decide) ?_
        refine istore w X (1 : Int32) at_171 173 rfl rfl #[.val (.int fl), .val (.int hh), .val (.int a0), .val (.int a1), .val (.int a2), .val (.int gg), .val (.int (1 : Int32)), .val (.int i7_2), .val (.int (0 : Int32)), .val (.int i9_4), .val (.int i10_5), .val (.int i11_6), .val (.int (0 : Int32)), .val (.int (1 : Int32)), .val (.ref b10), .val (.ref b15), .val (.int (1 : Int32))] rfl ?_
        refine iload w X at_173 175 rfl rfl ?_
        refine if_eq w X at_175 198 178 (by decide) (by decide) rfl (fun q => absurd q (by decide)) (fun hc175_61 => ?_)
        refine aload w X at_178 180 rfl rfl rfl ?_
        refine iload w X at_180 182 rfl rfl ?_
        refine callVPJ w X [(.int (0 : Int32))] (wd67 hw) (wd68 hw) (notFace_of_selects (args := #[]) (mvT w.2.2.2.2.1 (wd70 hw))) (wd70 hw) (wd69 hw) (wd3 hw) (wd71 hw) (by decide) OB.1 (rm_rw0 hw b15 rl (own_rl (0 : Int64) i11_6) (own_rl (0 : Int64) i9_4) h57 n0 zn OB.2.2.2.1 OB.2.2.2.2.2.2.2.2.2.2.2.2.2.2.2.1) at_182 185 rfl 0 (by decide) (by decide) (lenOf pd5 rfl) rfl (Nat.le_of_eq rfl) rfl (by decide) (by decide) (fun r62 T X hq => ?_)
        have hr62 := hq
        refine iconst w X (2 : Int32) at_185 186 rfl rfl ?_
        refine iload w X at_186 188 rfl rfl ?_
        refine iadd w X ((2 : Int32) + i11_6) at_188 189 rfl rfl ?_
        refine i2l w X (((2 : Int32) + i11_6).toInt64) at_189 190 rfl rfl ?_
        refine lcmp w X (lcmpW r62 (((2 : Int32) + i11_6).toInt64)) at_190 191 rfl rfl ?_
        refine if_ne w X at_191 198 194 (by decide) (by decide) rfl (fun q => False.elim (by rw [hr62] at q; exact q (own_f1 _))) (fun hc191_63 => ?_)
        refine iconst w X (1 : Int32) at_194 195 rfl rfl ?_
        refine goto w X at_195 199 (by decide) (by decide) ?_
        refine istore w X (1 : Int32) at_199 201 rfl rfl #[.val (.int fl), .val (.int hh), .val (.int a0), .val (.int a1), .val (.int a2), .val (.int gg), .val (.int (1 : Int32)), .val (.int i7_2), .val (.int (0 : Int32)), .val (.int i9_4), .val (.int i10_5), .val (.int i11_6), .val (.int (0 : Int32)), .val (.int (1 : Int32)), .val (.ref b10), .val (.ref b15), .val (.int (1 : Int32))] rfl ?_
        refine iload w X at_201 203 rfl rfl ?_
        refine if_eq w X at_203 219 206 (by decide) (by decide) rfl (fun q => absurd q (by decide)) (fun hc203_64 => ?_)
        refine aload w X at_206 208 rfl rfl rfl ?_
        refine callVPI w X [] (wd72 hw) (wd73 hw) (notFace_of_selects (args := #[]) (mvT w.2.2.2.2.1 (wd75 hw))) (wd75 hw) (wd74 hw) (wd3 hw) (wd76 hw) (by decide) OB.1 (rm_to hw b15 (2 : Int32) h57 n0 zn OB.2.2.2.2.2.2.2.2.2.2.2.2.1) at_208 211 rfl 0 (by decide) (by decide) (lenOf pd6 rfl) rfl (Nat.le_of_eq rfl) rfl (by decide) (by decide) (fun r65 T X hq => ?_)
        have hr65 := hq
        refine iconst w X (2 : Int32) at_211 212 rfl rfl ?_
        refine icmp_ne w X at_212 219 215 (by decide) (by decide) rfl (fun q => False.elim (by exact q (hr65))) (fun hc212_66 => ?_)
        refine iconst w X (1 : Int32) at_215 216 rfl rfl ?_
        refine goto w X at_216 220 (by decide) (by decide) ?_
        refine istore w X (1 : Int32) at_220 222 rfl rfl #[.val (.int fl), .val (.int hh), .val (.int a0), .val (.int a1), .val (.int a2), .val (.int gg), .val (.int (1 : Int32)), .val (.int i7_2), .val (.int (0 : Int32)), .val (.int i9_4), .val (.int i10_5), .val (.int i11_6), .val (.int (0 : Int32)), .val (.int (1 : Int32)), .val (.ref b10), .val (.ref b15), .val (.int (1 : Int32))] rfl ?_
        refine iload w X at_222 224 rfl rfl ?_
        refine if_eq w X at_224 248 227 (by decide) (by decide) rfl (fun q => absurd q (by decide)) (fun hc224_67 => ?_)
        refine aload w X at_227 229 rfl rfl rfl ?_
        refine callVPJ w X [] (wd77 hw) (wd78 hw) (notFace_of_selects (args := #[]) (mvT w.2.2.2.2.1 (wd80 hw))) (wd80 hw) (wd79 hw) (wd3 hw) (wd81 hw) (by decide) OB.1 (rm_tl hw b15 (own_rl (own_rl (0 : Int64) i11_6) i9_4) h57 n0 zn OB.2.2.2.2.2.2.2.2.2.2.2.2.2.1) at_229 232 rfl 0 (by decide) (by decide) (lenOf pd7 rfl) rfl (Nat.le_of_eq rfl) rfl (by decide) (by decide) (fun r68 T X hq => ?_)
        have hr68 := hq
        refine iconst w X (4 : Int32) at_232 233 rfl rfl ?_
        refine iload w X at_233 235 rfl rfl ?_
        refine iadd w X ((4 : Int32) + i11_6) at_235 236 rfl rfl ?_
        refine iload w X at_236 238 rfl rfl ?_
        refine iadd w X (((4 : Int32) + i11_6) + i9_4) at_238 239 rfl rfl ?_
        refine i2l w X ((((4 : Int32) + i11_6) + i9_4).toInt64) at_239 240 rfl rfl ?_
        refine lcmp w X (lcmpW r68 ((((4 : Int32) + i11_6) + i9_4).toInt64)) at_240 241 rfl rfl ?_
        refine if_ne w X at_241 248 244 (by decide) (by decide) rfl (fun q => False.elim (by rw [hr68] at q; exact q (own_f2 bw_i11_6 bw_i9_4))) (fun hc241_69 => ?_)
        refine iconst w X (1 : Int32) at_244 245 rfl rfl ?_
        refine goto w X at_245 249 (by decide) (by decide) ?_
        refine istore w X (1 : Int32) at_249 251 rfl rfl #[.val (.int fl), .val (.int hh), .val (.int a0), .val (.int a1), .val (.int a2), .val (.int gg), .val (.int (1 : Int32)), .val (.int i7_2), .val (.int (0 : Int32)), .val (.int i9_4), .val (.int i10_5), .val (.int i11_6), .val (.int (0 : Int32)), .val (.int (1 : Int32)), .val (.ref b10), .val (.ref b15), .val (.int (1 : Int32))] rfl ?_
        refine iload w X at_251 253 rfl rfl ?_
        refine retN w X (t := .boolean) rfl (by simp) at_253 (by decide) (by decide) ?_
        exact ⟨_, rfl, rfl⟩
      ·
        have ho12 : i13_8 = (0 : Int32) := by rw [hi13_8, hs12]; decide
        clear hi13_8
        subst ho12
        clear hi12_7
        subst hs12
        refine aload w X at_128 130 rfl rfl rfl ?_
        refine iload w X at_130 132 rfl rfl ?_
        refine iload w X at_132 134 rfl rfl ?_
        refine aload w X at_134 136 rfl rfl rfl ?_
        refine iconst w X (0 : Int32) at_136 137 rfl rfl ?_
        refine iload w X at_137 139 rfl rfl ?_
        refine callVV w X [(.int (1 : Int32)), (.int gg), (.ref b10), (.int (0 : Int32)), (.int i11_6)] (wd32 hw) (wd33 hw) (notFace_of_selects (args := #[]) (mvT w.2.2.2.2.1 (wd35 hw))) (wd35 hw) (wd34 hw) (wd3 hw) (wd36 hw) (by decide) OB.1 (rm_a1_1 hw b15 ck ch cn rl fc fs lc la rv b10 gg i11_6 a0 a1 a2 f0_k52 f1_k52 y0_k52 y1_k52 q0_k52 (0 : Int32) z0_k52 (0 : Int32) (1 : Int32) v1_k52 h54 n0 zn OB NE GE V_b10 NA bw_i11_6) at_139 142 rfl 0 (by decide) (by decide) (lenOf pd2 rfl) rfl (Nat.le_of_eq rfl) rfl (by decide) (by decide) (fun T h70 X hq => ?_)
        obtain ⟨Kq, len_k71, hlen, f0_k71, f1_k71, y0_k71, y1_k71, q0_k71, z0_k71, v1_k71, OB⟩ := hq
        have zn : n0 ≤ h70.size := Nat.le_trans zn Kq.1
        have V_b10 := V_b10.keep Kq (ninS ne_b10_b15 (ninS ne_b10_ch (ninS ne_b10_cn (ninS ne_b10_rl (ninS ne_b10_fc (ninS ne_b10_fs (ninS ne_b10_lc (ninS ne_b10_la (ninS ne_b10_rv nin0)))))))))
        refine aload w X at_142 144 rfl rfl rfl ?_
        refine iload w X at_144 146 rfl rfl ?_
        refine iloadN w X at_146 147 rfl rfl ?_
        refine aload w X at_147 149 rfl rfl rfl ?_
        refine iconst w X (0 : Int32) at_149 150 rfl rfl ?_
        refine iload w X at_150 152 rfl rfl ?_
        refine callVV w X [(.int (0 : Int32)), (.int hh), (.ref b10), (.int (0 : Int32)), (.int i9_4)] (wd32 hw) (wd33 hw) (notFace_of_selects (args := #[]) (mvT w.2.2.2.2.1 (wd35 hw))) (wd35 hw) (wd34 hw) (wd3 hw) (wd36 hw) (by decide) OB.1 (rm_a2_10 hw b15 ck ch cn rl fc fs lc la rv b10 hh i9_4 a0 a1 a2 len_k71 f0_k71 f1_k71 y0_k71 y1_k71 q0_k71 (0 : Int32) z0_k71 (0 : Int32) v1_k71 (own_rl (0 : Int64) i11_6) (0 : Int64) (own_rl (0 : Int64) i11_6) h70 n0 zn OB NE GE V_b10 NA bw_i9_4 hlen) at_152 155 rfl 0 (by decide) (by decide) (lenOf pd2 rfl) rfl (Nat.le_of_eq rfl) rfl (by decide) (by decide) (fun T h72 X hq => ?_)
        obtain ⟨Kq, len_k73, hlen, f0_k73, f1_k73, y0_k73, y1_k73, q0_k73, q1_k73, z0_k73, z1_k73, OB⟩ := hq
        have zn : n0 ≤ h72.size := Nat.le_trans zn Kq.1
        have V_b10 := V_b10.keep Kq (ninS ne_b10_b15 (ninS ne_b10_ch (ninS ne_b10_cn (ninS ne_b10_rl (ninS ne_b10_fc (ninS ne_b10_fs (ninS ne_b10_lc (ninS ne_b10_la (ninS ne_b10_rv nin0)))))))))
        refine aload w X at_155 157 rfl rfl rfl ?_
        refine iload w X at_157 159 rfl rfl ?_
        refine callVPI w X [(.int (1 : Int32))] (wd62 hw) (wd63 hw) (notFace_of_selects (args := #[]) (mvT w.2.2.2.2.1 (wd65 hw))) (wd65 hw) (wd64 hw) (wd3 hw) (wd66 hw) (by decide) OB.1 (rm_ct1 hw b15 cn (1 : Int32) (1 : Int32) h72 n0 zn OB.2.2.1 OB.2.2.2.2.2.2.2.2.2.2.2.2.2.2.2.2.1) at_159 162 rfl 0 (by decide) (by decide) (lenOf pd4 rfl) rfl (Nat.le_of_eq rfl) rfl (by decide) (by decide) (fun r74 T X hq => ?_)
        have hr74 := hq
        refine iconst w X (1 : Int32) at_162 163 rfl rfl ?_
        refine icmp_ne w X at_163 170 166 (by decide) (by decide) rfl (fun q => False.elim (by exact q (hr74))) (fun hc163_75 => ?_)
        refine iconst w X (1 : Int32) at_166 167 rfl rfl ?_
        refine goto w X at_167 171 (by decide) (by decide) ?_
        refine istore w X (1 : Int32) at_171 173 rfl rfl #[.val (.int fl), .val (.int hh), .val (.int a0), .val (.int a1), .val (.int a2), .val (.int gg), .val (.int (1 : Int32)), .val (.int i7_2), .val (.int (0 : Int32)), .val (.int i9_4), .val (.int i10_5), .val (.int i11_6), .val (.int (1 : Int32)), .val (.int (0 : Int32)), .val (.ref b10), .val (.ref b15), .val (.int (1 : Int32))] rfl ?_
        refine iload w X at_173 175 rfl rfl ?_
        refine if_eq w X at_175 198 178 (by decide) (by decide) rfl (fun q => absurd q (by decide)) (fun hc175_76 => ?_)
        refine aload w X at_178 180 rfl rfl rfl ?_
        refine iload w X at_180 182 rfl rfl ?_
        refine callVPJ w X [(.int (1 : Int32))] (wd67 hw) (wd68 hw) (notFace_of_selects (args := #[]) (mvT w.2.2.2.2.1 (wd70 hw))) (wd70 hw) (wd69 hw) (wd3 hw) (wd71 hw) (by decide) OB.1 (rm_rw1 hw b15 rl (own_rl (0 : Int64) i9_4) (own_rl (0 : Int64) i11_6) h72 n0 zn OB.2.2.2.1 OB.2.2.2.2.2.2.2.2.2.2.2.2.2.2.2.1) at_182 185 rfl 0 (by decide) (by decide) (lenOf pd5 rfl) rfl (Nat.le_of_eq rfl) rfl (by decide) (by decide) (fun r77 T X hq => ?_)
        have hr77 := hq
        refine iconst w X (2 : Int32) at_185 186 rfl rfl ?_
        refine iload w X at_186 188 rfl rfl ?_
        refine iadd w X ((2 : Int32) + i11_6) at_188 189 rfl rfl ?_
        refine i2l w X (((2 : Int32) + i11_6).toInt64) at_189 190 rfl rfl ?_
        refine lcmp w X (lcmpW r77 (((2 : Int32) + i11_6).toInt64)) at_190 191 rfl rfl ?_
        refine if_ne w X at_191 198 194 (by decide) (by decide) rfl (fun q => False.elim (by rw [hr77] at q; exact q (own_f1 _))) (fun hc191_78 => ?_)
        refine iconst w X (1 : Int32) at_194 195 rfl rfl ?_
        refine goto w X at_195 199 (by decide) (by decide) ?_
        refine istore w X (1 : Int32) at_199 201 rfl rfl #[.val (.int fl), .val (.int hh), .val (.int a0), .val (.int a1), .val (.int a2), .val (.int gg), .val (.int (1 : Int32)), .val (.int i7_2), .val (.int (0 : Int32)), .val (.int i9_4), .val (.int i10_5), .val (.int i11_6), .val (.int (1 : Int32)), .val (.int (0 : Int32)), .val (.ref b10), .val (.ref b15), .val (.int (1 : Int32))] rfl ?_
        refine iload w X at_201 203 rfl rfl ?_
        refine if_eq w X at_203 219 206 (by decide) (by decide) rfl (fun q => absurd q (by decide)) (fun hc203_79 => ?_)
        refine aload w X at_206 208 rfl rfl rfl ?_
        refine callVPI w X [] (wd72 hw) (wd73 hw) (notFace_of_selects (args := #[]) (mvT w.2.2.2.2.1 (wd75 hw))) (wd75 hw) (wd74 hw) (wd3 hw) (wd76 hw) (by decide) OB.1 (rm_to hw b15 (2 : Int32) h72 n0 zn OB.2.2.2.2.2.2.2.2.2.2.2.2.1) at_208 211 rfl 0 (by decide) (by decide) (lenOf pd6 rfl) rfl (Nat.le_of_eq rfl) rfl (by decide) (by decide) (fun r80 T X hq => ?_)
        have hr80 := hq
        refine iconst w X (2 : Int32) at_211 212 rfl rfl ?_
        refine icmp_ne w X at_212 219 215 (by decide) (by decide) rfl (fun q => False.elim (by exact q (hr80))) (fun hc212_81 => ?_)
        refine iconst w X (1 : Int32) at_215 216 rfl rfl ?_
        refine goto w X at_216 220 (by decide) (by decide) ?_
        refine istore w X (1 : Int32) at_220 222 rfl rfl #[.val (.int fl), .val (.int hh), .val (.int a0), .val (.int a1), .val (.int a2), .val (.int gg), .val (.int (1 : Int32)), .val (.int i7_2), .val (.int (0 : Int32)), .val (.int i9_4), .val (.int i10_5), .val (.int i11_6), .val (.int (1 : Int32)), .val (.int (0 : Int32)), .val (.ref b10), .val (.ref b15), .val (.int (1 : Int32))] rfl ?_
        refine iload w X at_222 224 rfl rfl ?_
        refine if_eq w X at_224 248 227 (by decide) (by decide) rfl (fun q => absurd q (by decide)) (fun hc224_82 => ?_)
        refine aload w X at_227 229 rfl rfl rfl ?_
        refine callVPJ w X [] (wd77 hw) (wd78 hw) (notFace_of_selects (args := #[]) (mvT w.2.2.2.2.1 (wd80 hw))) (wd80 hw) (wd79 hw) (wd3 hw) (wd81 hw) (by decide) OB.1 (rm_tl hw b15 (own_rl (own_rl (0 : Int64) i11_6) i9_4) h72 n0 zn OB.2.2.2.2.2.2.2.2.2.2.2.2.2.1) at_229 232 rfl 0 (by decide) (by decide) (lenOf pd7 rfl) rfl (Nat.le_of_eq rfl) rfl (by decide) (by decide) (fun r83 T X hq => ?_)
        have hr83 := hq
        refine iconst w X (4 : Int32) at_232 233 rfl rfl ?_
        refine iload w X at_233 235 rfl rfl ?_
        refine iadd w X ((4 : Int32) + i11_6) at_235 236 rfl rfl ?_
        refine iload w X at_236 238 rfl rfl ?_
        refine iadd w X (((4 : Int32) + i11_6) + i9_4) at_238 239 rfl rfl ?_
        refine i2l w X ((((4 : Int32) + i11_6) + i9_4).toInt64) at_239 240 rfl rfl ?_
        refine lcmp w X (lcmpW r83 ((((4 : Int32) + i11_6) + i9_4).toInt64)) at_240 241 rfl rfl ?_
        refine if_ne w X at_241 248 244 (by decide) (by decide) rfl (fun q => False.elim (by rw [hr83] at q; exact q (own_f2 bw_i11_6 bw_i9_4))) (fun hc241_84 => ?_)
        refine iconst w X (1 : Int32) at_244 245 rfl rfl ?_
        refine goto w X at_245 249 (by decide) (by decide) ?_
        refine istore w X (1 : Int32) at_249 251 rfl rfl #[.val (.int fl), .val (.int hh), .val (.int a0), .val (.int a1), .val (.int a2), .val (.int gg), .val (.int (1 : Int32)), .val (.int i7_2), .val (.int (0 : Int32)), .val (.int i9_4), .val (.int i10_5), .val (.int i11_6), .val (.int (1 : Int32)), .val (.int (0 : Int32)), .val (.ref b10), .val (.ref b15), .val (.int (1 : Int32))] rfl ?_
        refine iload w X at_251 253 rfl rfl ?_
        refine retN w X (t := .boolean) rfl (by simp) at_253 (by decide) (by decide) ?_
        exact ⟨_, rfl, rfl⟩
  ·
    refine iconst w X (1 : Int32) at_20 21 rfl rfl ?_
    refine goto w X at_21 25 (by decide) (by decide) ?_
    refine istore w X (1 : Int32) at_25 27 rfl rfl #[.val (.int fl), .val (.int hh), .val (.int a0), .val (.int a1), .val (.int a2), .val (.int gg), .val (.int i6_1), .val (.int i7_2), .val (.int (1 : Int32)), .unset, .unset, .unset, .unset, .unset, .unset, .unset, .unset] rfl ?_
    refine iloadN w X at_27 28 rfl rfl ?_
    refine iconst w X (3 : Int32) at_28 29 rfl rfl ?_
    refine ishr w X (fl >>> ((3 : Int32) &&& 31)) at_29 30 rfl rfl ?_
    refine iconst w X (3 : Int32) at_30 31 rfl rfl ?_
    refine iand w X ((fl >>> ((3 : Int32) &&& 31)) &&& (3 : Int32)) at_31 32 rfl rfl ?_
    obtain ⟨i9_85, hi9_85⟩ : ∃ z : Int32, z = ((fl >>> ((3 : Int32) &&& 31)) &&& (3 : Int32)) := ⟨_, rfl⟩
    refine istore w X i9_85 at_32 34 rfl hi9_85 #[.val (.int fl), .val (.int hh), .val (.int a0), .val (.int a1), .val (.int a2), .val (.int gg), .val (.int i6_1), .val (.int i7_2), .val (.int (1 : Int32)), .val (.int i9_85), .unset, .unset, .unset, .unset, .unset, .unset, .unset] rfl ?_
    refine iloadN w X at_34 35 rfl rfl ?_
    refine iconst w X (5 : Int32) at_35 36 rfl rfl ?_
    refine ishr w X (fl >>> ((5 : Int32) &&& 31)) at_36 37 rfl rfl ?_
    refine iconst w X (3 : Int32) at_37 38 rfl rfl ?_
    refine iand w X ((fl >>> ((5 : Int32) &&& 31)) &&& (3 : Int32)) at_38 39 rfl rfl ?_
    obtain ⟨i10_86, hi10_86⟩ : ∃ z : Int32, z = ((fl >>> ((5 : Int32) &&& 31)) &&& (3 : Int32)) := ⟨_, rfl⟩
    refine istore w X i10_86 at_39 41 rfl hi10_86 #[.val (.int fl), .val (.int hh), .val (.int a0), .val (.int a1), .val (.int a2), .val (.int gg), .val (.int i6_1), .val (.int i7_2), .val (.int (1 : Int32)), .val (.int i9_85), .val (.int i10_86), .unset, .unset, .unset, .unset, .unset, .unset] rfl ?_
    refine iloadN w X at_41 42 rfl rfl ?_
    refine bipush w X (7 : Int32) at_42 44 rfl rfl ?_
    refine ishr w X (fl >>> ((7 : Int32) &&& 31)) at_44 45 rfl rfl ?_
    refine iconst w X (3 : Int32) at_45 46 rfl rfl ?_
    refine iand w X ((fl >>> ((7 : Int32) &&& 31)) &&& (3 : Int32)) at_46 47 rfl rfl ?_
    obtain ⟨i11_87, hi11_87⟩ : ∃ z : Int32, z = ((fl >>> ((7 : Int32) &&& 31)) &&& (3 : Int32)) := ⟨_, rfl⟩
    refine istore w X i11_87 at_47 49 rfl hi11_87 #[.val (.int fl), .val (.int hh), .val (.int a0), .val (.int a1), .val (.int a2), .val (.int gg), .val (.int i6_1), .val (.int i7_2), .val (.int (1 : Int32)), .val (.int i9_85), .val (.int i10_86), .val (.int i11_87), .unset, .unset, .unset, .unset, .unset] rfl ?_
    refine iloadN w X at_49 50 rfl rfl ?_
    refine bipush w X (9 : Int32) at_50 52 rfl rfl ?_
    refine ishr w X (fl >>> ((9 : Int32) &&& 31)) at_52 53 rfl rfl ?_
    refine iconst w X (1 : Int32) at_53 54 rfl rfl ?_
    refine iand w X ((fl >>> ((9 : Int32) &&& 31)) &&& (1 : Int32)) at_54 55 rfl rfl ?_
    obtain ⟨i12_88, hi12_88⟩ : ∃ z : Int32, z = ((fl >>> ((9 : Int32) &&& 31)) &&& (1 : Int32)) := ⟨_, rfl⟩
    refine istore w X i12_88 at_55 57 rfl hi12_88 #[.val (.int fl), .val (.int hh), .val (.int a0), .val (.int a1), .val (.int a2), .val (.int gg), .val (.int i6_1), .val (.int i7_2), .val (.int (1 : Int32)), .val (.int i9_85), .val (.int i10_86), .val (.int i11_87), .val (.int i12_88), .unset, .unset, .unset, .unset] rfl ?_
    refine iconst w X (1 : Int32) at_57 58 rfl rfl ?_
    refine iload w X at_58 60 rfl rfl ?_
    refine isub w X ((1 : Int32) - i12_88) at_60 61 rfl rfl ?_
    obtain ⟨i13_89, hi13_89⟩ : ∃ z : Int32, z = ((1 : Int32) - i12_88) := ⟨_, rfl⟩
    refine istore w X i13_89 at_61 63 rfl hi13_89 #[.val (.int fl), .val (.int hh), .val (.int a0), .val (.int a1), .val (.int a2), .val (.int gg), .val (.int i6_1), .val (.int i7_2), .val (.int (1 : Int32)), .val (.int i9_85), .val (.int i10_86), .val (.int i11_87), .val (.int i12_88), .val (.int i13_89), .unset, .unset, .unset] rfl ?_
    refine iconst w X (3 : Int32) at_63 64 rfl rfl ?_
    refine newarr (aty := .int) w X (wd0 hw) at_64 66 rfl (by decide) 3 (by decide) (by decide) (by decide) (by decide) (fun T h90 b91 cA X hnb91 E A => ?_)
    have g_b91 : n0 ≤ b91 := by rw [hnb91]; exact zn
    have zn : n0 ≤ h90.size := Nat.le_trans zn E.1
    have V_b91 : PA Z h90 b91 .int [(0 : Int32), (0 : Int32), (0 : Int32)] := PA.new .int rfl rfl 3 A (by decide)
    refine dup w X at_66 67 rfl rfl ?_
    refine iconst w X (0 : Int32) at_67 68 rfl rfl ?_
    refine iloadN w X at_68 69 rfl rfl ?_
    refine iastore w X V_b91 (by decide) 0 rfl (Nat.le_of_ble_eq_true rfl) g_b91 at_69 70 rfl a0 rfl (fun T h92 X W V_b91 => ?_)
    have V_b91 : PA Z h92 b91 .int [a0, (0 : Int32), (0 : Int32)] := V_b91
    have zn : n0 ≤ h92.size := W.size ▸ zn
    refine dup w X at_70 71 rfl rfl ?_
    refine iconst w X (1 : Int32) at_71 72 rfl rfl ?_
    refine iloadN w X at_72 73 rfl rfl ?_
    refine iastore w X V_b91 (by decide) 1 rfl (Nat.le_of_ble_eq_true rfl) g_b91 at_73 74 rfl a1 rfl (fun T h93 X W V_b91 => ?_)
    have V_b91 : PA Z h93 b91 .int [a0, a1, (0 : Int32)] := V_b91
    have zn : n0 ≤ h93.size := W.size ▸ zn
    refine dup w X at_74 75 rfl rfl ?_
    refine iconst w X (2 : Int32) at_75 76 rfl rfl ?_
    refine iload w X at_76 78 rfl rfl ?_
    refine iastore w X V_b91 (by decide) 2 rfl (Nat.le_of_ble_eq_true rfl) g_b91 at_78 79 rfl a2 rfl (fun T h94 X W V_b91 => ?_)
    have V_b91 : PA Z h94 b91 .int [a0, a1, a2] := V_b91
    have zn : n0 ≤ h94.size := W.size ▸ zn
    refine astore w X at_79 81 rfl rfl #[.val (.int fl), .val (.int hh), .val (.int a0), .val (.int a1), .val (.int a2), .val (.int gg), .val (.int i6_1), .val (.int i7_2), .val (.int (1 : Int32)), .val (.int i9_85), .val (.int i10_86), .val (.int i11_87), .val (.int i12_88), .val (.int i13_89), .val (.ref b91), .unset, .unset] rfl ?_
    refine new w X (wd1 hw) (wd2 hw) (wd3 hw) at_81 84 rfl (by decide) (by decide) (fun T h95 b96 X hnb96 E A D => ?_)
    have ne_b91_b96 : b91 ≠ b96 := fun q => absurd (q ▸ V_b91.lt) (by rw [hnb96]; exact Nat.lt_irrefl _)
    have g_b96 : n0 ≤ b96 := by rw [hnb96]; exact zn
    have zn : n0 ≤ h95.size := Nat.le_trans zn E.1
    have V_b91 := V_b91.ext E
    have E_b96 := A
    have F_chunks_b96 : Fld Z h95 b96 "com/example/vigilant_mailbox/vigilantmailbox/engine/Sends" "chunks" "[[I" .null := D (Or.inl (wd13 hw)) (ty := (.array (.array .int))) (by decide)
    have F_chunkValues_b96 : Fld Z h95 b96 "com/example/vigilant_mailbox/vigilantmailbox/engine/Sends" "chunkValues" "J" (.long (0 : Int64)) := D (Or.inl (wd16 hw)) (ty := .long) (by decide)
    have F_counts_b96 : Fld Z h95 b96 "com/example/vigilant_mailbox/vigilantmailbox/engine/Sends" "counts" "[I" .null := D (Or.inr (wd18 hw)) (ty := (.array .int)) (by decide)
    have F_rowLengths_b96 : Fld Z h95 b96 "com/example/vigilant_mailbox/vigilantmailbox/engine/Sends" "rowLengths" "[J" .null := D (Or.inr (wd21 hw)) (ty := (.array .long)) (by decide)
    have F_firstChunks_b96 : Fld Z h95 b96 "com/example/vigilant_mailbox/vigilantmailbox/engine/Sends" "firstChunks" "[I" .null := D (Or.inr (wd23 hw)) (ty := (.array .int)) (by decide)
    have F_firsts_b96 : Fld Z h95 b96 "com/example/vigilant_mailbox/vigilantmailbox/engine/Sends" "firsts" "[I" .null := D (Or.inr (wd25 hw)) (ty := (.array .int)) (by decide)
    have F_lastChunks_b96 : Fld Z h95 b96 "com/example/vigilant_mailbox/vigilantmailbox/engine/Sends" "lastChunks" "[I" .null := D (Or.inr (wd27 hw)) (ty := (.array .int)) (by decide)
    have F_lasts_b96 : Fld Z h95 b96 "com/example/vigilant_mailbox/vigilantmailbox/engine/Sends" "lasts" "[I" .null := D (Or.inr (wd29 hw)) (ty := (.array .int)) (by decide)
    have F_receivers_b96 : Fld Z h95 b96 "com/example/vigilant_mailbox/vigilantmailbox/engine/Sends" "receivers" "[I" .null := D (Or.inr (wd31 hw)) (ty := (.array .int)) (by decide)
    have F_length_b96 : Fld Z h95 b96 "com/example/vigilant_mailbox/vigilantmailbox/engine/Sends" "length" "I" (.int (0 : Int32)) := D (Or.inl (wd44 hw)) (ty := .int) (by decide)
    have F_chunk_b96 : Fld Z h95 b96 "com/example/vigilant_mailbox/vigilantmailbox/engine/Sends" "chunk" "I" (.int (0 : Int32)) := D (Or.inl (wd46 hw)) (ty := .int) (by decide)
    have F_receiverCount_b96 : Fld Z h95 b96 "com/example/vigilant_mailbox/vigilantmailbox/engine/Sends" "receiverCount" "I" (.int (0 : Int32)) := D (Or.inl (wd48 hw)) (ty := .int) (by decide)
    have F_total_b96 : Fld Z h95 b96 "com/example/vigilant_mailbox/vigilantmailbox/engine/Sends" "total" "I" (.int (0 : Int32)) := D (Or.inl (wd54 hw)) (ty := .int) (by decide)
    have F_rowLength_b96 : Fld Z h95 b96 "com/example/vigilant_mailbox/vigilantmailbox/engine/Sends" "rowLength" "J" (.long (0 : Int64)) := D (Or.inl (wd56 hw)) (ty := .long) (by decide)
    refine dup w X at_84 85 rfl rfl ?_
    refine iconst w X (2 : Int32) at_85 86 rfl rfl ?_
    refine callNV w X [(.int (2 : Int32))] (wd4 hw) (wd5 hw) (wd3 hw) (wd6 hw) rfl (by decide) (rm_in hw b96 h95 n0 zn g_b96 E_b96 F_chunks_b96 F_counts_b96 F_rowLengths_b96 F_firstChunks_b96 F_firsts_b96 F_lastChunks_b96 F_lasts_b96 F_receivers_b96 F_chunk_b96 F_length_b96 F_receiverCount_b96 F_total_b96 F_rowLength_b96 F_chunkValues_b96) at_86 89 rfl 1 (by decide) (by decide) (lenOf pd1 rfl) rfl (Nat.le_of_eq rfl) rfl (by decide) (by decide) (fun T h97 X hq => ?_)
    obtain ⟨ck, ch, cn, rl, fc, fs, lc, la, rv, Kq, OB, NE, GE, SZ⟩ := hq
    obtain ⟨szck, szch, szcn, szrl, szfc, szfs, szlc, szla, szrv⟩ := SZ
    have na_ck : b91 ≠ ck := fun q => absurd (Nat.lt_of_lt_of_le (q ▸ V_b91.lt) szck) (Nat.lt_irrefl _)
    have na_ch : b91 ≠ ch := fun q => absurd (Nat.lt_of_lt_of_le (q ▸ V_b91.lt) szch) (Nat.lt_irrefl _)
    have na_cn : b91 ≠ cn := fun q => absurd (Nat.lt_of_lt_of_le (q ▸ V_b91.lt) szcn) (Nat.lt_irrefl _)
    have na_rl : b91 ≠ rl := fun q => absurd (Nat.lt_of_lt_of_le (q ▸ V_b91.lt) szrl) (Nat.lt_irrefl _)
    have na_fc : b91 ≠ fc := fun q => absurd (Nat.lt_of_lt_of_le (q ▸ V_b91.lt) szfc) (Nat.lt_irrefl _)
    have na_fs : b91 ≠ fs := fun q => absurd (Nat.lt_of_lt_of_le (q ▸ V_b91.lt) szfs) (Nat.lt_irrefl _)
    have na_lc : b91 ≠ lc := fun q => absurd (Nat.lt_of_lt_of_le (q ▸ V_b91.lt) szlc) (Nat.lt_irrefl _)
    have na_la : b91 ≠ la := fun q => absurd (Nat.lt_of_lt_of_le (q ▸ V_b91.lt) szla) (Nat.lt_irrefl _)
    have na_rv : b91 ≠ rv := fun q => absurd (Nat.lt_of_lt_of_le (q ▸ V_b91.lt) szrv) (Nat.lt_irrefl _)
    have NA : b91 ≠ b96 ∧ b91 ≠ ck ∧ b91 ≠ ch ∧ b91 ≠ cn ∧ b91 ≠ rl ∧ b91 ≠ fc ∧ b91 ≠ fs ∧ b91 ≠ lc ∧ b91 ≠ la ∧ b91 ≠ rv := ⟨ne_b91_b96, na_ck, na_ch, na_cn, na_rl, na_fc, na_fs, na_lc, na_la, na_rv⟩
    have ne_b91_ck := na_ck
    have ne_b91_ch := na_ch
    have ne_b91_cn := na_cn
    have ne_b91_rl := na_rl
    have ne_b91_fc := na_fc
    have ne_b91_fs := na_fs
    have ne_b91_lc := na_lc
    have ne_b91_la := na_la
    have ne_b91_rv := na_rv
    have zn : n0 ≤ h97.size := Nat.le_trans zn Kq.1
    have V_b91 := V_b91.keep Kq (ninS ne_b91_b96 nin0)
    refine astore w X at_89 91 rfl rfl #[.val (.int fl), .val (.int hh), .val (.int a0), .val (.int a1), .val (.int a2), .val (.int gg), .val (.int i6_1), .val (.int i7_2), .val (.int (1 : Int32)), .val (.int i9_85), .val (.int i10_86), .val (.int i11_87), .val (.int i12_88), .val (.int i13_89), .val (.ref b91), .val (.ref b96), .unset] rfl ?_
    have bw_i9_85 : 0 ≤ i9_85.toInt ∧ i9_85.toInt ≤ 3 := by rw [hi9_85]; exact own_m3 _
    have bw_i10_86 : 0 ≤ i10_86.toInt ∧ i10_86.toInt ≤ 3 := by rw [hi10_86]; exact own_m3 _
    have bw_i11_87 : 0 ≤ i11_87.toInt ∧ i11_87.toInt ≤ 3 := by rw [hi11_87]; exact own_m3 _
    have hs6 : i6_1 = 0 ∨ i6_1 = 1 := by rw [hi6_1]; exact own_m1 _
    rcases hs6 with hs6 | hs6
    ·
      clear hi6_1
      subst hs6
      refine aload w X at_91 93 rfl rfl rfl ?_
      refine iload w X at_93 95 rfl rfl ?_
      refine iloadN w X at_95 96 rfl rfl ?_
      refine aload w X at_96 98 rfl rfl rfl ?_
      refine iconst w X (0 : Int32) at_98 99 rfl rfl ?_
      refine iload w X at_99 101 rfl rfl ?_
      refine callVV w X [(.int (0 : Int32)), (.int hh), (.ref b91), (.int (0 : Int32)), (.int i9_85)] (wd32 hw) (wd33 hw) (notFace_of_selects (args := #[]) (mvT w.2.2.2.2.1 (wd35 hw))) (wd35 hw) (wd34 hw) (wd3 hw) (wd36 hw) (by decide) OB.1 (rm_a1_0 hw b96 ck ch cn rl fc fs lc la rv b91 hh i9_85 a0 a1 a2 (0 : Int32) (0 : Int32) (0 : Int32) (0 : Int32) (0 : Int32) (0 : Int32) (0 : Int32) (0 : Int32) (0 : Int32) (0 : Int32) h97 n0 zn OB NE GE V_b91 NA bw_i9_85) at_101 104 rfl 0 (by decide) (by decide) (lenOf pd2 rfl) rfl (Nat.le_of_eq rfl) rfl (by decide) (by decide) (fun T h98 X hq => ?_)
      obtain ⟨Kq, len_k99, hlen, f0_k99, f1_k99, y0_k99, y1_k99, q1_k99, z1_k99, v1_k99, OB⟩ := hq
      have zn : n0 ≤ h98.size := Nat.le_trans zn Kq.1
      have V_b91 := V_b91.keep Kq (ninS ne_b91_b96 (ninS ne_b91_ch (ninS ne_b91_cn (ninS ne_b91_rl (ninS ne_b91_fc (ninS ne_b91_fs (ninS ne_b91_lc (ninS ne_b91_la (ninS ne_b91_rv nin0)))))))))
      refine iload w X at_104 106 rfl rfl ?_
      refine if_eq w X at_106 123 109 (by decide) (by decide) rfl (fun q => absurd q (by decide)) (fun hc106_100 => ?_)
      have hs7 : i7_2 = 0 ∨ i7_2 = 1 := by rw [hi7_2]; exact own_m1 _
      rcases hs7 with hs7 | hs7
      ·
        clear hi7_2
        subst hs7
        refine aload w X at_109 111 rfl rfl rfl ?_
        refine iload w X at_111 113 rfl rfl ?_
        refine iload w X at_113 115 rfl rfl ?_
        refine aload w X at_115 117 rfl rfl rfl ?_
        refine iconst w X (0 : Int32) at_117 118 rfl rfl ?_
        refine iload w X at_118 120 rfl rfl ?_
        refine callVV w X [(.int (0 : Int32)), (.int gg), (.ref b91), (.int (0 : Int32)), (.int i10_86)] (wd32 hw) (wd33 hw) (notFace_of_selects (args := #[]) (mvT w.2.2.2.2.1 (wd35 hw))) (wd35 hw) (wd34 hw) (wd3 hw) (wd36 hw) (by decide) OB.1 (rm_a2_00 hw b96 ck ch cn rl fc fs lc la rv b91 gg i10_86 a0 a1 a2 len_k99 f0_k99 f1_k99 y0_k99 y1_k99 q1_k99 z1_k99 v1_k99 (own_rl (0 : Int64) i9_85) (own_rl (0 : Int64) i9_85) (0 : Int64) h98 n0 zn OB NE GE V_b91 NA bw_i10_86 hlen) at_120 123 rfl 0 (by decide) (by decide) (lenOf pd2 rfl) rfl (Nat.le_of_eq rfl) rfl (by decide) (by decide) (fun T h101 X hq => ?_)
        obtain ⟨Kq, len_k102, hlen, f0_k102, f1_k102, y0_k102, y1_k102, q0_k102, q1_k102, z0_k102, z1_k102, v1_k102, OB⟩ := hq
        have zn : n0 ≤ h101.size := Nat.le_trans zn Kq.1
        have V_b91 := V_b91.keep Kq (ninS ne_b91_b96 (ninS ne_b91_ch (ninS ne_b91_cn (ninS ne_b91_rl (ninS ne_b91_fc (ninS ne_b91_fs (ninS ne_b91_lc (ninS ne_b91_la (ninS ne_b91_rv nin0)))))))))
        refine aload w X at_123 125 rfl rfl rfl ?_
        refine callVV w X [] (wd57 hw) (wd58 hw) (notFace_of_selects (args := #[]) (mvT w.2.2.2.2.1 (wd60 hw))) (wd60 hw) (wd59 hw) (wd3 hw) (wd61 hw) (by decide) OB.1 (rm_cl_0 hw b96 ck ch cn rl fc fs lc la rv (2 : Int32) f0_k102 f1_k102 y0_k102 y1_k102 q0_k102 q1_k102 z0_k102 z1_k102 v1_k102 (0 : Int32) len_k102 (2 : Int32) (own_rl (own_rl (0 : Int64) i9_85) i10_86) (own_rl (own_rl (0 : Int64) i9_85) i10_86) h101 n0 zn OB NE GE) at_125 128 rfl 0 (by decide) (by decide) (lenOf pd3 rfl) rfl (Nat.le_of_eq rfl) rfl (by decide) (by decide) (fun T h103 X hq => ?_)
        obtain ⟨Kq, OB⟩ := hq
        have zn : n0 ≤ h103.size := Nat.le_trans zn Kq.1
        have V_b91 := V_b91.keep Kq (ninS ne_b91_b96 (ninS ne_b91_cn (ninS ne_b91_rl nin0)))
        have hs12 : i12_88 = 0 ∨ i12_88 = 1 := by rw [hi12_88]; exact own_m1 _
        rcases hs12 with hs12 | hs12
        ·
          have ho12 : i13_89 = (1 : Int32) := by rw [hi13_89, hs12]; decide
          clear hi13_89
          subst ho12
          clear hi12_88
          subst hs12
          refine aload w X at_128 130 rfl rfl rfl ?_
          refine iload w X at_130 132 rfl rfl ?_
          refine iload w X at_132 134 rfl rfl ?_
          refine aload w X at_134 136 rfl rfl rfl ?_
          refine iconst w X (0 : Int32) at_136 137 rfl rfl ?_
          refine iload w X at_137 139 rfl rfl ?_
          refine callVV w X [(.int (0 : Int32)), (.int gg), (.ref b91), (.int (0 : Int32)), (.int i11_87)] (wd32 hw) (wd33 hw) (notFace_of_selects (args := #[]) (mvT w.2.2.2.2.1 (wd35 hw))) (wd35 hw) (wd34 hw) (wd3 hw) (wd36 hw) (by decide) OB.1 (rm_a1_0 hw b96 ck ch cn rl fc fs lc la rv b91 gg i11_87 a0 a1 a2 f0_k102 f1_k102 y0_k102 y1_k102 q0_k102 q1_k102 z0_k102 z1_k102 (0 : Int32) v1_k102 h103 n0 zn OB NE GE V_b91 NA bw_i11_87) at_139 142 rfl 0 (by decide) (by decide) (lenOf pd2 rfl) rfl (Nat.le_of_eq rfl) rfl (by decide) (by decide) (fun T h104 X hq => ?_)
          obtain ⟨Kq, len_k105, hlen, f0_k105, f1_k105, y0_k105, y1_k105, q1_k105, z1_k105, v1_k105, OB⟩ := hq
          have zn : n0 ≤ h104.size := Nat.le_trans zn Kq.1
          have V_b91 := V_b91.keep Kq (ninS ne_b91_b96 (ninS ne_b91_ch (ninS ne_b91_cn (ninS ne_b91_rl (ninS ne_b91_fc (ninS ne_b91_fs (ninS ne_b91_lc (ninS ne_b91_la (ninS ne_b91_rv nin0)))))))))
          refine aload w X at_142 144 rfl rfl rfl ?_
          refine iload w X at_144 146 rfl rfl ?_
          refine iloadN w X at_146 147 rfl rfl ?_
          refine aload w X at_147 149 rfl rfl rfl ?_
          refine iconst w X (0 : Int32) at_149 150 rfl rfl ?_
          refine iload w X at_150 152 rfl rfl ?_
          refine callVV w X [(.int (1 : Int32)), (.int hh), (.ref b91), (.int (0 : Int32)), (.int i9_85)] (wd32 hw) (wd33 hw) (notFace_of_selects (args := #[]) (mvT w.2.2.2.2.1 (wd35 hw))) (wd35 hw) (wd34 hw) (wd3 hw) (wd36 hw) (by decide) OB.1 (rm_a2_01 hw b96 ck ch cn rl fc fs lc la rv b91 hh i9_85 a0 a1 a2 len_k105 f0_k105 f1_k105 y0_k105 y1_k105 (0 : Int32) q1_k105 (0 : Int32) z1_k105 v1_k105 (own_rl (0 : Int64) i11_87) (own_rl (0 : Int64) i11_87) (0 : Int64) h104 n0 zn OB NE GE V_b91 NA bw_i9_85 hlen) at_152 155 rfl 0 (by decide) (by decide) (lenOf pd2 rfl) rfl (Nat.le_of_eq rfl) rfl (by decide) (by decide) (fun T h106 X hq => ?_)
          obtain ⟨Kq, len_k107, hlen, f0_k107, f1_k107, y0_k107, y1_k107, q0_k107, q1_k107, z0_k107, z1_k107, OB⟩ := hq
          have zn : n0 ≤ h106.size := Nat.le_trans zn Kq.1
          have V_b91 := V_b91.keep Kq (ninS ne_b91_b96 (ninS ne_b91_ch (ninS ne_b91_cn (ninS ne_b91_rl (ninS ne_b91_fc (ninS ne_b91_fs (ninS ne_b91_lc (ninS ne_b91_la (ninS ne_b91_rv nin0)))))))))
          refine aload w X at_155 157 rfl rfl rfl ?_
          refine iload w X at_157 159 rfl rfl ?_
          refine callVPI w X [(.int (0 : Int32))] (wd62 hw) (wd63 hw) (notFace_of_selects (args := #[]) (mvT w.2.2.2.2.1 (wd65 hw))) (wd65 hw) (wd64 hw) (wd3 hw) (wd66 hw) (by decide) OB.1 (rm_ct0 hw b96 cn (1 : Int32) (1 : Int32) h106 n0 zn OB.2.2.1 OB.2.2.2.2.2.2.2.2.2.2.2.2.2.2.2.2.1) at_159 162 rfl 0 (by decide) (by decide) (lenOf pd4 rfl) rfl (Nat.le_of_eq rfl) rfl (by decide) (by decide) (fun r108 T X hq => ?_)
          have hr108 := hq
          refine iconst w X (1 : Int32) at_162 163 rfl rfl ?_
          refine icmp_ne w X at_163 170 166 (by decide) (by decide) rfl (fun q => False.elim (by exact q (hr108))) (fun hc163_109 => ?_)
          refine iconst w X (1 : Int32) at_166 167 rfl rfl ?_
          refine goto w X at_167 171 (by decide) (by decide) ?_
          refine istore w X (1 : Int32) at_171 173 rfl rfl #[.val (.int fl), .val (.int hh), .val (.int a0), .val (.int a1), .val (.int a2), .val (.int gg), .val (.int (0 : Int32)), .val (.int (0 : Int32)), .val (.int (1 : Int32)), .val (.int i9_85), .val (.int i10_86), .val (.int i11_87), .val (.int (0 : Int32)), .val (.int (1 : Int32)), .val (.ref b91), .val (.ref b96), .val (.int (1 : Int32))] rfl ?_
          refine iload w X at_173 175 rfl rfl ?_
          refine if_eq w X at_175 198 178 (by decide) (by decide) rfl (fun q => absurd q (by decide)) (fun hc175_110 => ?_)
          refine aload w X at_178 180 rfl rfl rfl ?_
          refine iload w X at_180 182 rfl rfl ?_
          refine callVPJ w X [(.int (0 : Int32))] (wd67 hw) (wd68 hw) (notFace_of_selects (args := #[]) (mvT w.2.2.2.2.1 (wd70 hw))) (wd70 hw) (wd69 hw) (wd3 hw) (wd71 hw) (by decide) OB.1 (rm_rw0 hw b96 rl (own_rl (0 : Int64) i11_87) (own_rl (0 : Int64) i9_85) h106 n0 zn OB.2.2.2.1 OB.2.2.2.2.2.2.2.2.2.2.2.2.2.2.2.1) at_182 185 rfl 0 (by decide) (by decide) (lenOf pd5 rfl) rfl (Nat.le_of_eq rfl) rfl (by decide) (by decide) (fun r111 T X hq => ?_)
          have hr111 := hq
          refine iconst w X (2 : Int32) at_185 186 rfl rfl ?_
          refine iload w X at_186 188 rfl rfl ?_
          refine iadd w X ((2 : Int32) + i11_87) at_188 189 rfl rfl ?_
          refine i2l w X (((2 : Int32) + i11_87).toInt64) at_189 190 rfl rfl ?_
          refine lcmp w X (lcmpW r111 (((2 : Int32) + i11_87).toInt64)) at_190 191 rfl rfl ?_
          refine if_ne w X at_191 198 194 (by decide) (by decide) rfl (fun q => False.elim (by rw [hr111] at q; exact q (own_f1 _))) (fun hc191_112 => ?_)
          refine iconst w X (1 : Int32) at_194 195 rfl rfl ?_
          refine goto w X at_195 199 (by decide) (by decide) ?_
          refine istore w X (1 : Int32) at_199 201 rfl rfl #[.val (.int fl), .val (.int hh), .val (.int a0), .val (.int a1), .val (.int a2), .val (.int gg), .val (.int (0 : Int32)), .val (.int (0 : Int32)), .val (.int (1 : Int32)), .val (.int i9_85), .val (.int i10_86), .val (.int i11_87), .val (.int (0 : Int32)), .val (.int (1 : Int32)), .val (.ref b91), .val (.ref b96), .val (.int (1 : Int32))] rfl ?_
          refine iload w X at_201 203 rfl rfl ?_
          refine if_eq w X at_203 219 206 (by decide) (by decide) rfl (fun q => absurd q (by decide)) (fun hc203_113 => ?_)
          refine aload w X at_206 208 rfl rfl rfl ?_
          refine callVPI w X [] (wd72 hw) (wd73 hw) (notFace_of_selects (args := #[]) (mvT w.2.2.2.2.1 (wd75 hw))) (wd75 hw) (wd74 hw) (wd3 hw) (wd76 hw) (by decide) OB.1 (rm_to hw b96 (2 : Int32) h106 n0 zn OB.2.2.2.2.2.2.2.2.2.2.2.2.1) at_208 211 rfl 0 (by decide) (by decide) (lenOf pd6 rfl) rfl (Nat.le_of_eq rfl) rfl (by decide) (by decide) (fun r114 T X hq => ?_)
          have hr114 := hq
          refine iconst w X (2 : Int32) at_211 212 rfl rfl ?_
          refine icmp_ne w X at_212 219 215 (by decide) (by decide) rfl (fun q => False.elim (by exact q (hr114))) (fun hc212_115 => ?_)
          refine iconst w X (1 : Int32) at_215 216 rfl rfl ?_
          refine goto w X at_216 220 (by decide) (by decide) ?_
          refine istore w X (1 : Int32) at_220 222 rfl rfl #[.val (.int fl), .val (.int hh), .val (.int a0), .val (.int a1), .val (.int a2), .val (.int gg), .val (.int (0 : Int32)), .val (.int (0 : Int32)), .val (.int (1 : Int32)), .val (.int i9_85), .val (.int i10_86), .val (.int i11_87), .val (.int (0 : Int32)), .val (.int (1 : Int32)), .val (.ref b91), .val (.ref b96), .val (.int (1 : Int32))] rfl ?_
          refine iload w X at_222 224 rfl rfl ?_
          refine if_eq w X at_224 248 227 (by decide) (by decide) rfl (fun q => absurd q (by decide)) (fun hc224_116 => ?_)
          refine aload w X at_227 229 rfl rfl rfl ?_
          refine callVPJ w X [] (wd77 hw) (wd78 hw) (notFace_of_selects (args := #[]) (mvT w.2.2.2.2.1 (wd80 hw))) (wd80 hw) (wd79 hw) (wd3 hw) (wd81 hw) (by decide) OB.1 (rm_tl hw b96 (own_rl (own_rl (0 : Int64) i11_87) i9_85) h106 n0 zn OB.2.2.2.2.2.2.2.2.2.2.2.2.2.1) at_229 232 rfl 0 (by decide) (by decide) (lenOf pd7 rfl) rfl (Nat.le_of_eq rfl) rfl (by decide) (by decide) (fun r117 T X hq => ?_)
          have hr117 := hq
          refine iconst w X (4 : Int32) at_232 233 rfl rfl ?_
          refine iload w X at_233 235 rfl rfl ?_
          refine iadd w X ((4 : Int32) + i11_87) at_235 236 rfl rfl ?_
          refine iload w X at_236 238 rfl rfl ?_
          refine iadd w X (((4 : Int32) + i11_87) + i9_85) at_238 239 rfl rfl ?_
          refine i2l w X ((((4 : Int32) + i11_87) + i9_85).toInt64) at_239 240 rfl rfl ?_
          refine lcmp w X (lcmpW r117 ((((4 : Int32) + i11_87) + i9_85).toInt64)) at_240 241 rfl rfl ?_
          refine if_ne w X at_241 248 244 (by decide) (by decide) rfl (fun q => False.elim (by rw [hr117] at q; exact q (own_f2 bw_i11_87 bw_i9_85))) (fun hc241_118 => ?_)
          refine iconst w X (1 : Int32) at_244 245 rfl rfl ?_
          refine goto w X at_245 249 (by decide) (by decide) ?_
          refine istore w X (1 : Int32) at_249 251 rfl rfl #[.val (.int fl), .val (.int hh), .val (.int a0), .val (.int a1), .val (.int a2), .val (.int gg), .val (.int (0 : Int32)), .val (.int (0 : Int32)), .val (.int (1 : Int32)), .val (.int i9_85), .val (.int i10_86), .val (.int i11_87), .val (.int (0 : Int32)), .val (.int (1 : Int32)), .val (.ref b91), .val (.ref b96), .val (.int (1 : Int32))] rfl ?_
          refine iload w X at_251 253 rfl rfl ?_
          refine retN w X (t := .boolean) rfl (by simp) at_253 (by decide) (by decide) ?_
          exact ⟨_, rfl, rfl⟩
        ·
          have ho12 : i13_89 = (0 : Int32) := by rw [hi13_89, hs12]; decide
          clear hi13_89
          subst ho12
          clear hi12_88
          subst hs12
          refine aload w X at_128 130 rfl rfl rfl ?_
          refine iload w X at_130 132 rfl rfl ?_
          refine iload w X at_132 134 rfl rfl ?_
          refine aload w X at_134 136 rfl rfl rfl ?_
          refine iconst w X (0 : Int32) at_136 137 rfl rfl ?_
          refine iload w X at_137 139 rfl rfl ?_
          refine callVV w X [(.int (1 : Int32)), (.int gg), (.ref b91), (.int (0 : Int32)), (.int i11_87)] (wd32 hw) (wd33 hw) (notFace_of_selects (args := #[]) (mvT w.2.2.2.2.1 (wd35 hw))) (wd35 hw) (wd34 hw) (wd3 hw) (wd36 hw) (by decide) OB.1 (rm_a1_1 hw b96 ck ch cn rl fc fs lc la rv b91 gg i11_87 a0 a1 a2 f0_k102 f1_k102 y0_k102 y1_k102 q0_k102 q1_k102 z0_k102 z1_k102 (0 : Int32) v1_k102 h103 n0 zn OB NE GE V_b91 NA bw_i11_87) at_139 142 rfl 0 (by decide) (by decide) (lenOf pd2 rfl) rfl (Nat.le_of_eq rfl) rfl (by decide) (by decide) (fun T h119 X hq => ?_)
          obtain ⟨Kq, len_k120, hlen, f0_k120, f1_k120, y0_k120, y1_k120, q0_k120, z0_k120, v1_k120, OB⟩ := hq
          have zn : n0 ≤ h119.size := Nat.le_trans zn Kq.1
          have V_b91 := V_b91.keep Kq (ninS ne_b91_b96 (ninS ne_b91_ch (ninS ne_b91_cn (ninS ne_b91_rl (ninS ne_b91_fc (ninS ne_b91_fs (ninS ne_b91_lc (ninS ne_b91_la (ninS ne_b91_rv nin0)))))))))
          refine aload w X at_142 144 rfl rfl rfl ?_
          refine iload w X at_144 146 rfl rfl ?_
          refine iloadN w X at_146 147 rfl rfl ?_
          refine aload w X at_147 149 rfl rfl rfl ?_
          refine iconst w X (0 : Int32) at_149 150 rfl rfl ?_
          refine iload w X at_150 152 rfl rfl ?_
          refine callVV w X [(.int (0 : Int32)), (.int hh), (.ref b91), (.int (0 : Int32)), (.int i9_85)] (wd32 hw) (wd33 hw) (notFace_of_selects (args := #[]) (mvT w.2.2.2.2.1 (wd35 hw))) (wd35 hw) (wd34 hw) (wd3 hw) (wd36 hw) (by decide) OB.1 (rm_a2_10 hw b96 ck ch cn rl fc fs lc la rv b91 hh i9_85 a0 a1 a2 len_k120 f0_k120 f1_k120 y0_k120 y1_k120 q0_k120 (0 : Int32) z0_k120 (0 : Int32) v1_k120 (own_rl (0 : Int64) i11_87) (0 : Int64) (own_rl (0 : Int64) i11_87) h119 n0 zn OB NE GE V_b91 NA bw_i9_85 hlen) at_152 155 rfl 0 (by decide) (by decide) (lenOf pd2 rfl) rfl (Nat.le_of_eq rfl) rfl (by decide) (by decide) (fun T h121 X hq => ?_)
          obtain ⟨Kq, len_k122, hlen, f0_k122, f1_k122, y0_k122, y1_k122, q0_k122, q1_k122, z0_k122, z1_k122, OB⟩ := hq
          have zn : n0 ≤ h121.size := Nat.le_trans zn Kq.1
          have V_b91 := V_b91.keep Kq (ninS ne_b91_b96 (ninS ne_b91_ch (ninS ne_b91_cn (ninS ne_b91_rl (ninS ne_b91_fc (ninS ne_b91_fs (ninS ne_b91_lc (ninS ne_b91_la (ninS ne_b91_rv nin0)))))))))
          refine aload w X at_155 157 rfl rfl rfl ?_
          refine iload w X at_157 159 rfl rfl ?_
          refine callVPI w X [(.int (1 : Int32))] (wd62 hw) (wd63 hw) (notFace_of_selects (args := #[]) (mvT w.2.2.2.2.1 (wd65 hw))) (wd65 hw) (wd64 hw) (wd3 hw) (wd66 hw) (by decide) OB.1 (rm_ct1 hw b96 cn (1 : Int32) (1 : Int32) h121 n0 zn OB.2.2.1 OB.2.2.2.2.2.2.2.2.2.2.2.2.2.2.2.2.1) at_159 162 rfl 0 (by decide) (by decide) (lenOf pd4 rfl) rfl (Nat.le_of_eq rfl) rfl (by decide) (by decide) (fun r123 T X hq => ?_)
          have hr123 := hq
          refine iconst w X (1 : Int32) at_162 163 rfl rfl ?_
          refine icmp_ne w X at_163 170 166 (by decide) (by decide) rfl (fun q => False.elim (by exact q (hr123))) (fun hc163_124 => ?_)
          refine iconst w X (1 : Int32) at_166 167 rfl rfl ?_
          refine goto w X at_167 171 (by decide) (by decide) ?_
          refine istore w X (1 : Int32) at_171 173 rfl rfl #[.val (.int fl), .val (.int hh), .val (.int a0), .val (.int a1), .val (.int a2), .val (.int gg), .val (.int (0 : Int32)), .val (.int (0 : Int32)), .val (.int (1 : Int32)), .val (.int i9_85), .val (.int i10_86), .val (.int i11_87), .val (.int (1 : Int32)), .val (.int (0 : Int32)), .val (.ref b91), .val (.ref b96), .val (.int (1 : Int32))] rfl ?_
          refine iload w X at_173 175 rfl rfl ?_
          refine if_eq w X at_175 198 178 (by decide) (by decide) rfl (fun q => absurd q (by decide)) (fun hc175_125 => ?_)
          refine aload w X at_178 180 rfl rfl rfl ?_
          refine iload w X at_180 182 rfl rfl ?_
          refine callVPJ w X [(.int (1 : Int32))] (wd67 hw) (wd68 hw) (notFace_of_selects (args := #[]) (mvT w.2.2.2.2.1 (wd70 hw))) (wd70 hw) (wd69 hw) (wd3 hw) (wd71 hw) (by decide) OB.1 (rm_rw1 hw b96 rl (own_rl (0 : Int64) i9_85) (own_rl (0 : Int64) i11_87) h121 n0 zn OB.2.2.2.1 OB.2.2.2.2.2.2.2.2.2.2.2.2.2.2.2.1) at_182 185 rfl 0 (by decide) (by decide) (lenOf pd5 rfl) rfl (Nat.le_of_eq rfl) rfl (by decide) (by decide) (fun r126 T X hq => ?_)
          have hr126 := hq
          refine iconst w X (2 : Int32) at_185 186 rfl rfl ?_
          refine iload w X at_186 188 rfl rfl ?_
          refine iadd w X ((2 : Int32) + i11_87) at_188 189 rfl rfl ?_
          refine i2l w X (((2 : Int32) + i11_87).toInt64) at_189 190 rfl rfl ?_
          refine lcmp w X (lcmpW r126 (((2 : Int32) + i11_87).toInt64)) at_190 191 rfl rfl ?_
          refine if_ne w X at_191 198 194 (by decide) (by decide) rfl (fun q => False.elim (by rw [hr126] at q; exact q (own_f1 _))) (fun hc191_127 => ?_)
          refine iconst w X (1 : Int32) at_194 195 rfl rfl ?_
          refine goto w X at_195 199 (by decide) (by decide) ?_
          refine istore w X (1 : Int32) at_199 201 rfl rfl #[.val (.int fl), .val (.int hh), .val (.int a0), .val (.int a1), .val (.int a2), .val (.int gg), .val (.int (0 : Int32)), .val (.int (0 : Int32)), .val (.int (1 : Int32)), .val (.int i9_85), .val (.int i10_86), .val (.int i11_87), .val (.int (1 : Int32)), .val (.int (0 : Int32)), .val (.ref b91), .val (.ref b96), .val (.int (1 : Int32))] rfl ?_
          refine iload w X at_201 203 rfl rfl ?_
          refine if_eq w X at_203 219 206 (by decide) (by decide) rfl (fun q => absurd q (by decide)) (fun hc203_128 => ?_)
          refine aload w X at_206 208 rfl rfl rfl ?_
          refine callVPI w X [] (wd72 hw) (wd73 hw) (notFace_of_selects (args := #[]) (mvT w.2.2.2.2.1 (wd75 hw))) (wd75 hw) (wd74 hw) (wd3 hw) (wd76 hw) (by decide) OB.1 (rm_to hw b96 (2 : Int32) h121 n0 zn OB.2.2.2.2.2.2.2.2.2.2.2.2.1) at_208 211 rfl 0 (by decide) (by decide) (lenOf pd6 rfl) rfl (Nat.le_of_eq rfl) rfl (by decide) (by decide) (fun r129 T X hq => ?_)
          have hr129 := hq
          refine iconst w X (2 : Int32) at_211 212 rfl rfl ?_
          refine icmp_ne w X at_212 219 215 (by decide) (by decide) rfl (fun q => False.elim (by exact q (hr129))) (fun hc212_130 => ?_)
          refine iconst w X (1 : Int32) at_215 216 rfl rfl ?_
          refine goto w X at_216 220 (by decide) (by decide) ?_
          refine istore w X (1 : Int32) at_220 222 rfl rfl #[.val (.int fl), .val (.int hh), .val (.int a0), .val (.int a1), .val (.int a2), .val (.int gg), .val (.int (0 : Int32)), .val (.int (0 : Int32)), .val (.int (1 : Int32)), .val (.int i9_85), .val (.int i10_86), .val (.int i11_87), .val (.int (1 : Int32)), .val (.int (0 : Int32)), .val (.ref b91), .val (.ref b96), .val (.int (1 : Int32))] rfl ?_
          refine iload w X at_222 224 rfl rfl ?_
          refine if_eq w X at_224 248 227 (by decide) (by decide) rfl (fun q => absurd q (by decide)) (fun hc224_131 => ?_)
          refine aload w X at_227 229 rfl rfl rfl ?_
          refine callVPJ w X [] (wd77 hw) (wd78 hw) (notFace_of_selects (args := #[]) (mvT w.2.2.2.2.1 (wd80 hw))) (wd80 hw) (wd79 hw) (wd3 hw) (wd81 hw) (by decide) OB.1 (rm_tl hw b96 (own_rl (own_rl (0 : Int64) i11_87) i9_85) h121 n0 zn OB.2.2.2.2.2.2.2.2.2.2.2.2.2.1) at_229 232 rfl 0 (by decide) (by decide) (lenOf pd7 rfl) rfl (Nat.le_of_eq rfl) rfl (by decide) (by decide) (fun r132 T X hq => ?_)
          have hr132 := hq
          refine iconst w X (4 : Int32) at_232 233 rfl rfl ?_
          refine iload w X at_233 235 rfl rfl ?_
          refine iadd w X ((4 : Int32) + i11_87) at_235 236 rfl rfl ?_
          refine iload w X at_236 238 rfl rfl ?_
          refine iadd w X (((4 : Int32) + i11_87) + i9_85) at_238 239 rfl rfl ?_
          refine i2l w X ((((4 : Int32) + i11_87) + i9_85).toInt64) at_239 240 rfl rfl ?_
          refine lcmp w X (lcmpW r132 ((((4 : Int32) + i11_87) + i9_85).toInt64)) at_240 241 rfl rfl ?_
          refine if_ne w X at_241 248 244 (by decide) (by decide) rfl (fun q => False.elim (by rw [hr132] at q; exact q (own_f2 bw_i11_87 bw_i9_85))) (fun hc241_133 => ?_)
          refine iconst w X (1 : Int32) at_244 245 rfl rfl ?_
          refine goto w X at_245 249 (by decide) (by decide) ?_
          refine istore w X (1 : Int32) at_249 251 rfl rfl #[.val (.int fl), .val (.int hh), .val (.int a0), .val (.int a1), .val (.int a2), .val (.int gg), .val (.int (0 : Int32)), .val (.int (0 : Int32)), .val (.int (1 : Int32)), .val (.int i9_85), .val (.int i10_86), .val (.int i11_87), .val (.int (1 : Int32)), .val (.int (0 : Int32)), .val (.ref b91), .val (.ref b96), .val (.int (1 : Int32))] rfl ?_
          refine iload w X at_251 253 rfl rfl ?_
          refine retN w X (t := .boolean) rfl (by simp) at_253 (by decide) (by decide) ?_
          exact ⟨_, rfl, rfl⟩
      ·
        clear hi7_2
        subst hs7
        refine aload w X at_109 111 rfl rfl rfl ?_
        refine iload w X at_111 113 rfl rfl ?_
        refine iload w X at_113 115 rfl rfl ?_
        refine aload w X at_115 117 rfl rfl rfl ?_
        refine iconst w X (0 : Int32) at_117 118 rfl rfl ?_
        refine iload w X at_118 120 rfl rfl ?_
        refine callVV w X [(.int (1 : Int32)), (.int gg), (.ref b91), (.int (0 : Int32)), (.int i10_86)] (wd32 hw) (wd33 hw) (notFace_of_selects (args := #[]) (mvT w.2.2.2.2.1 (wd35 hw))) (wd35 hw) (wd34 hw) (wd3 hw) (wd36 hw) (by decide) OB.1 (rm_a2_01 hw b96 ck ch cn rl fc fs lc la rv b91 gg i10_86 a0 a1 a2 len_k99 f0_k99 f1_k99 y0_k99 y1_k99 (0 : Int32) q1_k99 (0 : Int32) z1_k99 v1_k99 (own_rl (0 : Int64) i9_85) (own_rl (0 : Int64) i9_85) (0 : Int64) h98 n0 zn OB NE GE V_b91 NA bw_i10_86 hlen) at_120 123 rfl 0 (by decide) (by decide) (lenOf pd2 rfl) rfl (Nat.le_of_eq rfl) rfl (by decide) (by decide) (fun T h134 X hq => ?_)
        obtain ⟨Kq, len_k135, hlen, f0_k135, f1_k135, y0_k135, y1_k135, q0_k135, q1_k135, z0_k135, z1_k135, OB⟩ := hq
        have zn : n0 ≤ h134.size := Nat.le_trans zn Kq.1
        have V_b91 := V_b91.keep Kq (ninS ne_b91_b96 (ninS ne_b91_ch (ninS ne_b91_cn (ninS ne_b91_rl (ninS ne_b91_fc (ninS ne_b91_fs (ninS ne_b91_lc (ninS ne_b91_la (ninS ne_b91_rv nin0)))))))))
        refine aload w X at_123 125 rfl rfl rfl ?_
        refine callVV w X [] (wd57 hw) (wd58 hw) (notFace_of_selects (args := #[]) (mvT w.2.2.2.2.1 (wd60 hw))) (wd60 hw) (wd59 hw) (wd3 hw) (wd61 hw) (by decide) OB.1 (rm_cl_01 hw b96 ck ch cn rl fc fs lc la rv (1 : Int32) (1 : Int32) f0_k135 f1_k135 y0_k135 y1_k135 q0_k135 q1_k135 z0_k135 z1_k135 (0 : Int32) len_k135 (2 : Int32) (own_rl (own_rl (0 : Int64) i9_85) i10_86) (own_rl (0 : Int64) i9_85) (own_rl (0 : Int64) i10_86) h134 n0 zn OB NE GE) at_125 128 rfl 0 (by decide) (by decide) (lenOf pd3 rfl) rfl (Nat.le_of_eq rfl) rfl (by decide) (by decide) (fun T h136 X hq => ?_)
        obtain ⟨Kq, OB⟩ := hq
        have zn : n0 ≤ h136.size := Nat.le_trans zn Kq.1
        have V_b91 := V_b91.keep Kq (ninS ne_b91_b96 (ninS ne_b91_cn (ninS ne_b91_rl nin0)))
        have hs12 : i12_88 = 0 ∨ i12_88 = 1 := by rw [hi12_88]; exact own_m1 _
        rcases hs12 with hs12 | hs12
        ·
          have ho12 : i13_89 = (1 : Int32) := by rw [hi13_89, hs12]; decide
          clear hi13_89
          subst ho12
          clear hi12_88
          subst hs12
          refine aload w X at_128 130 rfl rfl rfl ?_
          refine iload w X at_130 132 rfl rfl ?_
          refine iload w X at_132 134 rfl rfl ?_
          refine aload w X at_134 136 rfl rfl rfl ?_
          refine iconst w X (0 : Int32) at_136 137 rfl rfl ?_
          refine iload w X at_137 139 rfl rfl ?_
          refine callVV w X [(.int (0 : Int32)), (.int gg), (.ref b91), (.int (0 : Int32)), (.int i11_87)] (wd32 hw) (wd33 hw) (notFace_of_selects (args := #[]) (mvT w.2.2.2.2.1 (wd35 hw))) (wd35 hw) (wd34 hw) (wd3 hw) (wd36 hw) (by decide) OB.1 (rm_a1_0 hw b96 ck ch cn rl fc fs lc la rv b91 gg i11_87 a0 a1 a2 f0_k135 f1_k135 y0_k135 y1_k135 q0_k135 q1_k135 z0_k135 z1_k135 (0 : Int32) (1 : Int32) h136 n0 zn OB NE GE V_b91 NA bw_i11_87) at_139 142 rfl 0 (by decide) (by decide) (lenOf pd2 rfl) rfl (Nat.le_of_eq rfl) rfl (by decide) (by decide) (fun T h137 X hq => ?_)
          obtain ⟨Kq, len_k138, hlen, f0_k138, f1_k138, y0_k138, y1_k138, q1_k138, z1_k138, v1_k138, OB⟩ := hq
          have zn : n0 ≤ h137.size := Nat.le_trans zn Kq.1
          have V_b91 := V_b91.keep Kq (ninS ne_b91_b96 (ninS ne_b91_ch (ninS ne_b91_cn (ninS ne_b91_rl (ninS ne_b91_fc (ninS ne_b91_fs (ninS ne_b91_lc (ninS ne_b91_la (ninS ne_b91_rv nin0)))))))))
          refine aload w X at_142 144 rfl rfl rfl ?_
          refine iload w X at_144 146 rfl rfl ?_
          refine iloadN w X at_146 147 rfl rfl ?_
          refine aload w X at_147 149 rfl rfl rfl ?_
          refine iconst w X (0 : Int32) at_149 150 rfl rfl ?_
          refine iload w X at_150 152 rfl rfl ?_
          refine callVV w X [(.int (1 : Int32)), (.int hh), (.ref b91), (.int (0 : Int32)), (.int i9_85)] (wd32 hw) (wd33 hw) (notFace_of_selects (args := #[]) (mvT w.2.2.2.2.1 (wd35 hw))) (wd35 hw) (wd34 hw) (wd3 hw) (wd36 hw) (by decide) OB.1 (rm_a2_01 hw b96 ck ch cn rl fc fs lc la rv b91 hh i9_85 a0 a1 a2 len_k138 f0_k138 f1_k138 y0_k138 y1_k138 (0 : Int32) q1_k138 (0 : Int32) z1_k138 v1_k138 (own_rl (0 : Int64) i11_87) (own_rl (0 : Int64) i11_87) (0 : Int64) h137 n0 zn OB NE GE V_b91 NA bw_i9_85 hlen) at_152 155 rfl 0 (by decide) (by decide) (lenOf pd2 rfl) rfl (Nat.le_of_eq rfl) rfl (by decide) (by decide) (fun T h139 X hq => ?_)
          obtain ⟨Kq, len_k140, hlen, f0_k140, f1_k140, y0_k140, y1_k140, q0_k140, q1_k140, z0_k140, z1_k140, OB⟩ := hq
          have zn : n0 ≤ h139.size := Nat.le_trans zn Kq.1
          have V_b91 := V_b91.keep Kq (ninS ne_b91_b96 (ninS ne_b91_ch (ninS ne_b91_cn (ninS ne_b91_rl (ninS ne_b91_fc (ninS ne_b91_fs (ninS ne_b91_lc (ninS ne_b91_la (ninS ne_b91_rv nin0)))))))))
          refine aload w X at_155 157 rfl rfl rfl ?_
          refine iload w X at_157 159 rfl rfl ?_
          refine callVPI w X [(.int (0 : Int32))] (wd62 hw) (wd63 hw) (notFace_of_selects (args := #[]) (mvT w.2.2.2.2.1 (wd65 hw))) (wd65 hw) (wd64 hw) (wd3 hw) (wd66 hw) (by decide) OB.1 (rm_ct0 hw b96 cn (1 : Int32) (1 : Int32) h139 n0 zn OB.2.2.1 OB.2.2.2.2.2.2.2.2.2.2.2.2.2.2.2.2.1) at_159 162 rfl 0 (by decide) (by decide) (lenOf pd4 rfl) rfl (Nat.le_of_eq rfl) rfl (by decide) (by decide) (fun r141 T X hq => ?_)
          have hr141 := hq
          refine iconst w X (1 : Int32) at_162 163 rfl rfl ?_
          refine icmp_ne w X at_163 170 166 (by decide) (by decide) rfl (fun q => False.elim (by exact q (hr141))) (fun hc163_142 => ?_)
          refine iconst w X (1 : Int32) at_166 167 rfl rfl ?_
          refine goto w X at_167 171 (by decide) (by decide) ?_
          refine istore w X (1 : Int32) at_171 173 rfl rfl #[.val (.int fl), .val (.int hh), .val (.int a0), .val (.int a1), .val (.int a2), .val (.int gg), .val (.int (0 : Int32)), .val (.int (1 : Int32)), .val (.int (1 : Int32)), .val (.int i9_85), .val (.int i10_86), .val (.int i11_87), .val (.int (0 : Int32)), .val (.int (1 : Int32)), .val (.ref b91), .val (.ref b96), .val (.int (1 : Int32))] rfl ?_
          refine iload w X at_173 175 rfl rfl ?_
          refine if_eq w X at_175 198 178 (by decide) (by decide) rfl (fun q => absurd q (by decide)) (fun hc175_143 => ?_)
          refine aload w X at_178 180 rfl rfl rfl ?_
          refine iload w X at_180 182 rfl rfl ?_
          refine callVPJ w X [(.int (0 : Int32))] (wd67 hw) (wd68 hw) (notFace_of_selects (args := #[]) (mvT w.2.2.2.2.1 (wd70 hw))) (wd70 hw) (wd69 hw) (wd3 hw) (wd71 hw) (by decide) OB.1 (rm_rw0 hw b96 rl (own_rl (0 : Int64) i11_87) (own_rl (0 : Int64) i9_85) h139 n0 zn OB.2.2.2.1 OB.2.2.2.2.2.2.2.2.2.2.2.2.2.2.2.1) at_182 185 rfl 0 (by decide) (by decide) (lenOf pd5 rfl) rfl (Nat.le_of_eq rfl) rfl (by decide) (by decide) (fun r144 T X hq => ?_)
          have hr144 := hq
          refine iconst w X (2 : Int32) at_185 186 rfl rfl ?_
          refine iload w X at_186 188 rfl rfl ?_
          refine iadd w X ((2 : Int32) + i11_87) at_188 189 rfl rfl ?_
          refine i2l w X (((2 : Int32) + i11_87).toInt64) at_189 190 rfl rfl ?_
          refine lcmp w X (lcmpW r144 (((2 : Int32) + i11_87).toInt64)) at_190 191 rfl rfl ?_
          refine if_ne w X at_191 198 194 (by decide) (by decide) rfl (fun q => False.elim (by rw [hr144] at q; exact q (own_f1 _))) (fun hc191_145 => ?_)
          refine iconst w X (1 : Int32) at_194 195 rfl rfl ?_
          refine goto w X at_195 199 (by decide) (by decide) ?_
          refine istore w X (1 : Int32) at_199 201 rfl rfl #[.val (.int fl), .val (.int hh), .val (.int a0), .val (.int a1), .val (.int a2), .val (.int gg), .val (.int (0 : Int32)), .val (.int (1 : Int32)), .val (.int (1 : Int32)), .val (.int i9_85), .val (.int i10_86), .val (.int i11_87), .val (.int (0 : Int32)), .val (.int (1 : Int32)), .val (.ref b91), .val (.ref b96), .val (.int (1 : Int32))] rfl ?_
          refine iload w X at_201 203 rfl rfl ?_
          refine if_eq w X at_203 219 206 (by decide) (by decide) rfl (fun q => absurd q (by decide)) (fun hc203_146 => ?_)
          refine aload w X at_206 208 rfl rfl rfl ?_
          refine callVPI w X [] (wd72 hw) (wd73 hw) (notFace_of_selects (args := #[]) (mvT w.2.2.2.2.1 (wd75 hw))) (wd75 hw) (wd74 hw) (wd3 hw) (wd76 hw) (by decide) OB.1 (rm_to hw b96 (2 : Int32) h139 n0 zn OB.2.2.2.2.2.2.2.2.2.2.2.2.1) at_208 211 rfl 0 (by decide) (by decide) (lenOf pd6 rfl) rfl (Nat.le_of_eq rfl) rfl (by decide) (by decide) (fun r147 T X hq => ?_)
          have hr147 := hq
          refine iconst w X (2 : Int32) at_211 212 rfl rfl ?_
          refine icmp_ne w X at_212 219 215 (by decide) (by decide) rfl (fun q => False.elim (by exact q (hr147))) (fun hc212_148 => ?_)
          refine iconst w X (1 : Int32) at_215 216 rfl rfl ?_
          refine goto w X at_216 220 (by decide) (by decide) ?_
          refine istore w X (1 : Int32) at_220 222 rfl rfl #[.val (.int fl), .val (.int hh), .val (.int a0), .val (.int a1), .val (.int a2), .val (.int gg), .val (.int (0 : Int32)), .val (.int (1 : Int32)), .val (.int (1 : Int32)), .val (.int i9_85), .val (.int i10_86), .val (.int i11_87), .val (.int (0 : Int32)), .val (.int (1 : Int32)), .val (.ref b91), .val (.ref b96), .val (.int (1 : Int32))] rfl ?_
          refine iload w X at_222 224 rfl rfl ?_
          refine if_eq w X at_224 248 227 (by decide) (by decide) rfl (fun q => absurd q (by decide)) (fun hc224_149 => ?_)
          refine aload w X at_227 229 rfl rfl rfl ?_
          refine callVPJ w X [] (wd77 hw) (wd78 hw) (notFace_of_selects (args := #[]) (mvT w.2.2.2.2.1 (wd80 hw))) (wd80 hw) (wd79 hw) (wd3 hw) (wd81 hw) (by decide) OB.1 (rm_tl hw b96 (own_rl (own_rl (0 : Int64) i11_87) i9_85) h139 n0 zn OB.2.2.2.2.2.2.2.2.2.2.2.2.2.1) at_229 232 rfl 0 (by decide) (by decide) (lenOf pd7 rfl) rfl (Nat.le_of_eq rfl) rfl (by decide) (by decide) (fun r150 T X hq => ?_)
          have hr150 := hq
          refine iconst w X (4 : Int32) at_232 233 rfl rfl ?_
          refine iload w X at_233 235 rfl rfl ?_
          refine iadd w X ((4 : Int32) + i11_87) at_235 236 rfl rfl ?_
          refine iload w X at_236 238 rfl rfl ?_
          refine iadd w X (((4 : Int32) + i11_87) + i9_85) at_238 239 rfl rfl ?_
          refine i2l w X ((((4 : Int32) + i11_87) + i9_85).toInt64) at_239 240 rfl rfl ?_
          refine lcmp w X (lcmpW r150 ((((4 : Int32) + i11_87) + i9_85).toInt64)) at_240 241 rfl rfl ?_
          refine if_ne w X at_241 248 244 (by decide) (by decide) rfl (fun q => False.elim (by rw [hr150] at q; exact q (own_f2 bw_i11_87 bw_i9_85))) (fun hc241_151 => ?_)
          refine iconst w X (1 : Int32) at_244 245 rfl rfl ?_
          refine goto w X at_245 249 (by decide) (by decide) ?_
          refine istore w X (1 : Int32) at_249 251 rfl rfl #[.val (.int fl), .val (.int hh), .val (.int a0), .val (.int a1), .val (.int a2), .val (.int gg), .val (.int (0 : Int32)), .val (.int (1 : Int32)), .val (.int (1 : Int32)), .val (.int i9_85), .val (.int i10_86), .val (.int i11_87), .val (.int (0 : Int32)), .val (.int (1 : Int32)), .val (.ref b91), .val (.ref b96), .val (.int (1 : Int32))] rfl ?_
          refine iload w X at_251 253 rfl rfl ?_
          refine retN w X (t := .boolean) rfl (by simp) at_253 (by decide) (by decide) ?_
          exact ⟨_, rfl, rfl⟩
        ·
          have ho12 : i13_89 = (0 : Int32) := by rw [hi13_89, hs12]; decide
          clear hi13_89
          subst ho12
          clear hi12_88
          subst hs12
          refine aload w X at_128 130 rfl rfl rfl ?_
          refine iload w X at_130 132 rfl rfl ?_
          refine iload w X at_132 134 rfl rfl ?_
          refine aload w X at_134 136 rfl rfl rfl ?_
          refine iconst w X (0 : Int32) at_136 137 rfl rfl ?_
          refine iload w X at_137 139 rfl rfl ?_
          refine callVV w X [(.int (1 : Int32)), (.int gg), (.ref b91), (.int (0 : Int32)), (.int i11_87)] (wd32 hw) (wd33 hw) (notFace_of_selects (args := #[]) (mvT w.2.2.2.2.1 (wd35 hw))) (wd35 hw) (wd34 hw) (wd3 hw) (wd36 hw) (by decide) OB.1 (rm_a1_1 hw b96 ck ch cn rl fc fs lc la rv b91 gg i11_87 a0 a1 a2 f0_k135 f1_k135 y0_k135 y1_k135 q0_k135 q1_k135 z0_k135 z1_k135 (0 : Int32) (1 : Int32) h136 n0 zn OB NE GE V_b91 NA bw_i11_87) at_139 142 rfl 0 (by decide) (by decide) (lenOf pd2 rfl) rfl (Nat.le_of_eq rfl) rfl (by decide) (by decide) (fun T h152 X hq => ?_)
          obtain ⟨Kq, len_k153, hlen, f0_k153, f1_k153, y0_k153, y1_k153, q0_k153, z0_k153, v1_k153, OB⟩ := hq
          have zn : n0 ≤ h152.size := Nat.le_trans zn Kq.1
          have V_b91 := V_b91.keep Kq (ninS ne_b91_b96 (ninS ne_b91_ch (ninS ne_b91_cn (ninS ne_b91_rl (ninS ne_b91_fc (ninS ne_b91_fs (ninS ne_b91_lc (ninS ne_b91_la (ninS ne_b91_rv nin0)))))))))
          refine aload w X at_142 144 rfl rfl rfl ?_
          refine iload w X at_144 146 rfl rfl ?_
          refine iloadN w X at_146 147 rfl rfl ?_
          refine aload w X at_147 149 rfl rfl rfl ?_
          refine iconst w X (0 : Int32) at_149 150 rfl rfl ?_
          refine iload w X at_150 152 rfl rfl ?_
          refine callVV w X [(.int (0 : Int32)), (.int hh), (.ref b91), (.int (0 : Int32)), (.int i9_85)] (wd32 hw) (wd33 hw) (notFace_of_selects (args := #[]) (mvT w.2.2.2.2.1 (wd35 hw))) (wd35 hw) (wd34 hw) (wd3 hw) (wd36 hw) (by decide) OB.1 (rm_a2_10 hw b96 ck ch cn rl fc fs lc la rv b91 hh i9_85 a0 a1 a2 len_k153 f0_k153 f1_k153 y0_k153 y1_k153 q0_k153 (0 : Int32) z0_k153 (0 : Int32) v1_k153 (own_rl (0 : Int64) i11_87) (0 : Int64) (own_rl (0 : Int64) i11_87) h152 n0 zn OB NE GE V_b91 NA bw_i9_85 hlen) at_152 155 rfl 0 (by decide) (by decide) (lenOf pd2 rfl) rfl (Nat.le_of_eq rfl) rfl (by decide) (by decide) (fun T h154 X hq => ?_)
          obtain ⟨Kq, len_k155, hlen, f0_k155, f1_k155, y0_k155, y1_k155, q0_k155, q1_k155, z0_k155, z1_k155, OB⟩ := hq
          have zn : n0 ≤ h154.size := Nat.le_trans zn Kq.1
          have V_b91 := V_b91.keep Kq (ninS ne_b91_b96 (ninS ne_b91_ch (ninS ne_b91_cn (ninS ne_b91_rl (ninS ne_b91_fc (ninS ne_b91_fs (ninS ne_b91_lc (ninS ne_b91_la (ninS ne_b91_rv nin0)))))))))
          refine aload w X at_155 157 rfl rfl rfl ?_
          refine iload w X at_157 159 rfl rfl ?_
          refine callVPI w X [(.int (1 : Int32))] (wd62 hw) (wd63 hw) (notFace_of_selects (args := #[]) (mvT w.2.2.2.2.1 (wd65 hw))) (wd65 hw) (wd64 hw) (wd3 hw) (wd66 hw) (by decide) OB.1 (rm_ct1 hw b96 cn (1 : Int32) (1 : Int32) h154 n0 zn OB.2.2.1 OB.2.2.2.2.2.2.2.2.2.2.2.2.2.2.2.2.1) at_159 162 rfl 0 (by decide) (by decide) (lenOf pd4 rfl) rfl (Nat.le_of_eq rfl) rfl (by decide) (by decide) (fun r156 T X hq => ?_)
          have hr156 := hq
          refine iconst w X (1 : Int32) at_162 163 rfl rfl ?_
          refine icmp_ne w X at_163 170 166 (by decide) (by decide) rfl (fun q => False.elim (by exact q (hr156))) (fun hc163_157 => ?_)
          refine iconst w X (1 : Int32) at_166 167 rfl rfl ?_
          refine goto w X at_167 171 (by decide) (by decide) ?_
          refine istore w X (1 : Int32) at_171 173 rfl rfl #[.val (.int fl), .val (.int hh), .val (.int a0), .val (.int a1), .val (.int a2), .val (.int gg), .val (.int (0 : Int32)), .val (.int (1 : Int32)), .val (.int (1 : Int32)), .val (.int i9_85), .val (.int i10_86), .val (.int i11_87), .val (.int (1 : Int32)), .val (.int (0 : Int32)), .val (.ref b91), .val (.ref b96), .val (.int (1 : Int32))] rfl ?_
          refine iload w X at_173 175 rfl rfl ?_
          refine if_eq w X at_175 198 178 (by decide) (by decide) rfl (fun q => absurd q (by decide)) (fun hc175_158 => ?_)
          refine aload w X at_178 180 rfl rfl rfl ?_
          refine iload w X at_180 182 rfl rfl ?_
          refine callVPJ w X [(.int (1 : Int32))] (wd67 hw) (wd68 hw) (notFace_of_selects (args := #[]) (mvT w.2.2.2.2.1 (wd70 hw))) (wd70 hw) (wd69 hw) (wd3 hw) (wd71 hw) (by decide) OB.1 (rm_rw1 hw b96 rl (own_rl (0 : Int64) i9_85) (own_rl (0 : Int64) i11_87) h154 n0 zn OB.2.2.2.1 OB.2.2.2.2.2.2.2.2.2.2.2.2.2.2.2.1) at_182 185 rfl 0 (by decide) (by decide) (lenOf pd5 rfl) rfl (Nat.le_of_eq rfl) rfl (by decide) (by decide) (fun r159 T X hq => ?_)
          have hr159 := hq
          refine iconst w X (2 : Int32) at_185 186 rfl rfl ?_
          refine iload w X at_186 188 rfl rfl ?_
          refine iadd w X ((2 : Int32) + i11_87) at_188 189 rfl rfl ?_
          refine i2l w X (((2 : Int32) + i11_87).toInt64) at_189 190 rfl rfl ?_
          refine lcmp w X (lcmpW r159 (((2 : Int32) + i11_87).toInt64)) at_190 191 rfl rfl ?_
          refine if_ne w X at_191 198 194 (by decide) (by decide) rfl (fun q => False.elim (by rw [hr159] at q; exact q (own_f1 _))) (fun hc191_160 => ?_)
          refine iconst w X (1 : Int32) at_194 195 rfl rfl ?_
          refine goto w X at_195 199 (by decide) (by decide) ?_
          refine istore w X (1 : Int32) at_199 201 rfl rfl #[.val (.int fl), .val (.int hh), .val (.int a0), .val (.int a1), .val (.int a2), .val (.int gg), .val (.int (0 : Int32)), .val (.int (1 : Int32)), .val (.int (1 : Int32)), .val (.int i9_85), .val (.int i10_86), .val (.int i11_87), .val (.int (1 : Int32)), .val (.int (0 : Int32)), .val (.ref b91), .val (.ref b96), .val (.int (1 : Int32))] rfl ?_
          refine iload w X at_201 203 rfl rfl ?_
          refine if_eq w X at_203 219 206 (by decide) (by decide) rfl (fun q => absurd q (by decide)) (fun hc203_161 => ?_)
          refine aload w X at_206 208 rfl rfl rfl ?_
          refine callVPI w X [] (wd72 hw) (wd73 hw) (notFace_of_selects (args := #[]) (mvT w.2.2.2.2.1 (wd75 hw))) (wd75 hw) (wd74 hw) (wd3 hw) (wd76 hw) (by decide) OB.1 (rm_to hw b96 (2 : Int32) h154 n0 zn OB.2.2.2.2.2.2.2.2.2.2.2.2.1) at_208 211 rfl 0 (by decide) (by decide) (lenOf pd6 rfl) rfl (Nat.le_of_eq rfl) rfl (by decide) (by decide) (fun r162 T X hq => ?_)
          have hr162 := hq
          refine iconst w X (2 : Int32) at_211 212 rfl rfl ?_
          refine icmp_ne w X at_212 219 215 (by decide) (by decide) rfl (fun q => False.elim (by exact q (hr162))) (fun hc212_163 => ?_)
          refine iconst w X (1 : Int32) at_215 216 rfl rfl ?_
          refine goto w X at_216 220 (by decide) (by decide) ?_
          refine istore w X (1 : Int32) at_220 222 rfl rfl #[.val (.int fl), .val (.int hh), .val (.int a0), .val (.int a1), .val (.int a2), .val (.int gg), .val (.int (0 : Int32)), .val (.int (1 : Int32)), .val (.int (1 : Int32)), .val (.int i9_85), .val (.int i10_86), .val (.int i11_87), .val (.int (1 : Int32)), .val (.int (0 : Int32)), .val (.ref b91), .val (.ref b96), .val (.int (1 : Int32))] rfl ?_
          refine iload w X at_222 224 rfl rfl ?_
          refine if_eq w X at_224 248 227 (by decide) (by decide) rfl (fun q => absurd q (by decide)) (fun hc224_164 => ?_)
          refine aload w X at_227 229 rfl rfl rfl ?_
          refine callVPJ w X [] (wd77 hw) (wd78 hw) (notFace_of_selects (args := #[]) (mvT w.2.2.2.2.1 (wd80 hw))) (wd80 hw) (wd79 hw) (wd3 hw) (wd81 hw) (by decide) OB.1 (rm_tl hw b96 (own_rl (own_rl (0 : Int64) i11_87) i9_85) h154 n0 zn OB.2.2.2.2.2.2.2.2.2.2.2.2.2.1) at_229 232 rfl 0 (by decide) (by decide) (lenOf pd7 rfl) rfl (Nat.le_of_eq rfl) rfl (by decide) (by decide) (fun r165 T X hq => ?_)
          have hr165 := hq
          refine iconst w X (4 : Int32) at_232 233 rfl rfl ?_
          refine iload w X at_233 235 rfl rfl ?_
          refine iadd w X ((4 : Int32) + i11_87) at_235 236 rfl rfl ?_
          refine iload w X at_236 238 rfl rfl ?_
          refine iadd w X (((4 : Int32) + i11_87) + i9_85) at_238 239 rfl rfl ?_
          refine i2l w X ((((4 : Int32) + i11_87) + i9_85).toInt64) at_239 240 rfl rfl ?_
          refine lcmp w X (lcmpW r165 ((((4 : Int32) + i11_87) + i9_85).toInt64)) at_240 241 rfl rfl ?_
          refine if_ne w X at_241 248 244 (by decide) (by decide) rfl (fun q => False.elim (by rw [hr165] at q; exact q (own_f2 bw_i11_87 bw_i9_85))) (fun hc241_166 => ?_)
          refine iconst w X (1 : Int32) at_244 245 rfl rfl ?_
          refine goto w X at_245 249 (by decide) (by decide) ?_
          refine istore w X (1 : Int32) at_249 251 rfl rfl #[.val (.int fl), .val (.int hh), .val (.int a0), .val (.int a1), .val (.int a2), .val (.int gg), .val (.int (0 : Int32)), .val (.int (1 : Int32)), .val (.int (1 : Int32)), .val (.int i9_85), .val (.int i10_86), .val (.int i11_87), .val (.int (1 : Int32)), .val (.int (0 : Int32)), .val (.ref b91), .val (.ref b96), .val (.int (1 : Int32))] rfl ?_
          refine iload w X at_251 253 rfl rfl ?_
          refine retN w X (t := .boolean) rfl (by simp) at_253 (by decide) (by decide) ?_
          exact ⟨_, rfl, rfl⟩
    ·
      clear hi6_1
      subst hs6
      refine aload w X at_91 93 rfl rfl rfl ?_
      refine iload w X at_93 95 rfl rfl ?_
      refine iloadN w X at_95 96 rfl rfl ?_
      refine aload w X at_96 98 rfl rfl rfl ?_
      refine iconst w X (0 : Int32) at_98 99 rfl rfl ?_
      refine iload w X at_99 101 rfl rfl ?_
      refine callVV w X [(.int (1 : Int32)), (.int hh), (.ref b91), (.int (0 : Int32)), (.int i9_85)] (wd32 hw) (wd33 hw) (notFace_of_selects (args := #[]) (mvT w.2.2.2.2.1 (wd35 hw))) (wd35 hw) (wd34 hw) (wd3 hw) (wd36 hw) (by decide) OB.1 (rm_a1_1 hw b96 ck ch cn rl fc fs lc la rv b91 hh i9_85 a0 a1 a2 (0 : Int32) (0 : Int32) (0 : Int32) (0 : Int32) (0 : Int32) (0 : Int32) (0 : Int32) (0 : Int32) (0 : Int32) (0 : Int32) h97 n0 zn OB NE GE V_b91 NA bw_i9_85) at_101 104 rfl 0 (by decide) (by decide) (lenOf pd2 rfl) rfl (Nat.le_of_eq rfl) rfl (by decide) (by decide) (fun T h167 X hq => ?_)
      obtain ⟨Kq, len_k168, hlen, f0_k168, f1_k168, y0_k168, y1_k168, q0_k168, z0_k168, v1_k168, OB⟩ := hq
      have zn : n0 ≤ h167.size := Nat.le_trans zn Kq.1
      have V_b91 := V_b91.keep Kq (ninS ne_b91_b96 (ninS ne_b91_ch (ninS ne_b91_cn (ninS ne_b91_rl (ninS ne_b91_fc (ninS ne_b91_fs (ninS ne_b91_lc (ninS ne_b91_la (ninS ne_b91_rv nin0)))))))))
      refine iload w X at_104 106 rfl rfl ?_
      refine if_eq w X at_106 123 109 (by decide) (by decide) rfl (fun q => absurd q (by decide)) (fun hc106_169 => ?_)
      have hs7 : i7_2 = 0 ∨ i7_2 = 1 := by rw [hi7_2]; exact own_m1 _
      rcases hs7 with hs7 | hs7
      ·
        clear hi7_2
        subst hs7
        refine aload w X at_109 111 rfl rfl rfl ?_
        refine iload w X at_111 113 rfl rfl ?_
        refine iload w X at_113 115 rfl rfl ?_
        refine aload w X at_115 117 rfl rfl rfl ?_
        refine iconst w X (0 : Int32) at_117 118 rfl rfl ?_
        refine iload w X at_118 120 rfl rfl ?_
        refine callVV w X [(.int (0 : Int32)), (.int gg), (.ref b91), (.int (0 : Int32)), (.int i10_86)] (wd32 hw) (wd33 hw) (notFace_of_selects (args := #[]) (mvT w.2.2.2.2.1 (wd35 hw))) (wd35 hw) (wd34 hw) (wd3 hw) (wd36 hw) (by decide) OB.1 (rm_a2_10 hw b96 ck ch cn rl fc fs lc la rv b91 gg i10_86 a0 a1 a2 len_k168 f0_k168 f1_k168 y0_k168 y1_k168 q0_k168 (0 : Int32) z0_k168 (0 : Int32) v1_k168 (own_rl (0 : Int64) i9_85) (0 : Int64) (own_rl (0 : Int64) i9_85) h167 n0 zn OB NE GE V_b91 NA bw_i10_86 hlen) at_120 123 rfl 0 (by decide) (by decide) (lenOf pd2 rfl) rfl (Nat.le_of_eq rfl) rfl (by decide) (by decide) (fun T h170 X hq => ?_)
        obtain ⟨Kq, len_k171, hlen, f0_k171, f1_k171, y0_k171, y1_k171, q0_k171, q1_k171, z0_k171, z1_k171, OB⟩ := hq
        have zn : n0 ≤ h170.size := Nat.le_trans zn Kq.1
        have V_b91 := V_b91.keep Kq (ninS ne_b91_b96 (ninS ne_b91_ch (ninS ne_b91_cn (ninS ne_b91_rl (ninS ne_b91_fc (ninS ne_b91_fs (ninS ne_b91_lc (ninS ne_b91_la (ninS ne_b91_rv nin0)))))))))
        refine aload w X at_123 125 rfl rfl rfl ?_
        refine callVV w X [] (wd57 hw) (wd58 hw) (notFace_of_selects (args := #[]) (mvT w.2.2.2.2.1 (wd60 hw))) (wd60 hw) (wd59 hw) (wd3 hw) (wd61 hw) (by decide) OB.1 (rm_cl_10 hw b96 ck ch cn rl fc fs lc la rv (1 : Int32) (1 : Int32) f0_k171 f1_k171 y0_k171 y1_k171 q0_k171 q1_k171 z0_k171 z1_k171 (0 : Int32) len_k171 (2 : Int32) (own_rl (own_rl (0 : Int64) i9_85) i10_86) (own_rl (0 : Int64) i10_86) (own_rl (0 : Int64) i9_85) h170 n0 zn OB NE GE) at_125 128 rfl 0 (by decide) (by decide) (lenOf pd3 rfl) rfl (Nat.le_of_eq rfl) rfl (by decide) (by decide) (fun T h172 X hq => ?_)
        obtain ⟨Kq, OB⟩ := hq
        have zn : n0 ≤ h172.size := Nat.le_trans zn Kq.1
        have V_b91 := V_b91.keep Kq (ninS ne_b91_b96 (ninS ne_b91_cn (ninS ne_b91_rl nin0)))
        have hs12 : i12_88 = 0 ∨ i12_88 = 1 := by rw [hi12_88]; exact own_m1 _
        rcases hs12 with hs12 | hs12
        ·
          have ho12 : i13_89 = (1 : Int32) := by rw [hi13_89, hs12]; decide
          clear hi13_89
          subst ho12
          clear hi12_88
          subst hs12
          refine aload w X at_128 130 rfl rfl rfl ?_
          refine iload w X at_130 132 rfl rfl ?_
          refine iload w X at_132 134 rfl rfl ?_
          refine aload w X at_134 136 rfl rfl rfl ?_
          refine iconst w X (0 : Int32) at_136 137 rfl rfl ?_
          refine iload w X at_137 139 rfl rfl ?_
          refine callVV w X [(.int (0 : Int32)), (.int gg), (.ref b91), (.int (0 : Int32)), (.int i11_87)] (wd32 hw) (wd33 hw) (notFace_of_selects (args := #[]) (mvT w.2.2.2.2.1 (wd35 hw))) (wd35 hw) (wd34 hw) (wd3 hw) (wd36 hw) (by decide) OB.1 (rm_a1_0 hw b96 ck ch cn rl fc fs lc la rv b91 gg i11_87 a0 a1 a2 f0_k171 f1_k171 y0_k171 y1_k171 q0_k171 q1_k171 z0_k171 z1_k171 (1 : Int32) (0 : Int32) h172 n0 zn OB NE GE V_b91 NA bw_i11_87) at_139 142 rfl 0 (by decide) (by decide) (lenOf pd2 rfl) rfl (Nat.le_of_eq rfl) rfl (by decide) (by decide) (fun T h173 X hq => ?_)
          obtain ⟨Kq, len_k174, hlen, f0_k174, f1_k174, y0_k174, y1_k174, q1_k174, z1_k174, v1_k174, OB⟩ := hq
          have zn : n0 ≤ h173.size := Nat.le_trans zn Kq.1
          have V_b91 := V_b91.keep Kq (ninS ne_b91_b96 (ninS ne_b91_ch (ninS ne_b91_cn (ninS ne_b91_rl (ninS ne_b91_fc (ninS ne_b91_fs (ninS ne_b91_lc (ninS ne_b91_la (ninS ne_b91_rv nin0)))))))))
          refine aload w X at_142 144 rfl rfl rfl ?_
          refine iload w X at_144 146 rfl rfl ?_
          refine iloadN w X at_146 147 rfl rfl ?_
          refine aload w X at_147 149 rfl rfl rfl ?_
          refine iconst w X (0 : Int32) at_149 150 rfl rfl ?_
          refine iload w X at_150 152 rfl rfl ?_
          refine callVV w X [(.int (1 : Int32)), (.int hh), (.ref b91), (.int (0 : Int32)), (.int i9_85)] (wd32 hw) (wd33 hw) (notFace_of_selects (args := #[]) (mvT w.2.2.2.2.1 (wd35 hw))) (wd35 hw) (wd34 hw) (wd3 hw) (wd36 hw) (by decide) OB.1 (rm_a2_01 hw b96 ck ch cn rl fc fs lc la rv b91 hh i9_85 a0 a1 a2 len_k174 f0_k174 f1_k174 y0_k174 y1_k174 (0 : Int32) q1_k174 (0 : Int32) z1_k174 v1_k174 (own_rl (0 : Int64) i11_87) (own_rl (0 : Int64) i11_87) (0 : Int64) h173 n0 zn OB NE GE V_b91 NA bw_i9_85 hlen) at_152 155 rfl 0 (by decide) (by decide) (lenOf pd2 rfl) rfl (Nat.le_of_eq rfl) rfl (by decide) (by decide) (fun T h175 X hq => ?_)
          obtain ⟨Kq, len_k176, hlen, f0_k176, f1_k176, y0_k176, y1_k176, q0_k176, q1_k176, z0_k176, z1_k176, OB⟩ := hq
          have zn : n0 ≤ h175.size := Nat.le_trans zn Kq.1
          have V_b91 := V_b91.keep Kq (ninS ne_b91_b96 (ninS ne_b91_ch (ninS ne_b91_cn (ninS ne_b91_rl (ninS ne_b91_fc (ninS ne_b91_fs (ninS ne_b91_lc (ninS ne_b91_la (ninS ne_b91_rv nin0)))))))))
          refine aload w X at_155 157 rfl rfl rfl ?_
          refine iload w X at_157 159 rfl rfl ?_
          refine callVPI w X [(.int (0 : Int32))] (wd62 hw) (wd63 hw) (notFace_of_selects (args := #[]) (mvT w.2.2.2.2.1 (wd65 hw))) (wd65 hw) (wd64 hw) (wd3 hw) (wd66 hw) (by decide) OB.1 (rm_ct0 hw b96 cn (1 : Int32) (1 : Int32) h175 n0 zn OB.2.2.1 OB.2.2.2.2.2.2.2.2.2.2.2.2.2.2.2.2.1) at_159 162 rfl 0 (by decide) (by decide) (lenOf pd4 rfl) rfl (Nat.le_of_eq rfl) rfl (by decide) (by decide) (fun r177 T X hq => ?_)
          have hr177 := hq
          refine iconst w X (1 : Int32) at_162 163 rfl rfl ?_
          refine icmp_ne w X at_163 170 166 (by decide) (by decide) rfl (fun q => False.elim (by exact q (hr177))) (fun hc163_178 => ?_)
          refine iconst w X (1 : Int32) at_166 167 rfl rfl ?_
          refine goto w X at_167 171 (by decide) (by decide) ?_
          refine istore w X (1 : Int32) at_171 173 rfl rfl #[.val (.int fl), .val (.int hh), .val (.int a0), .val (.int a1), .val (.int a2), .val (.int gg), .val (.int (1 : Int32)), .val (.int (0 : Int32)), .val (.int (1 : Int32)), .val (.int i9_85), .val (.int i10_86), .val (.int i11_87), .val (.int (0 : Int32)), .val (.int (1 : Int32)), .val (.ref b91), .val (.ref b96), .val (.int (1 : Int32))] rfl ?_
          refine iload w X at_173 175 rfl rfl ?_
          refine if_eq w X at_175 198 178 (by decide) (by decide) rfl (fun q => absurd q (by decide)) (fun hc175_179 => ?_)
          refine aload w X at_178 180 rfl rfl rfl ?_
          refine iload w X at_180 182 rfl rfl ?_
          refine callVPJ w X [(.int (0 : Int32))] (wd67 hw) (wd68 hw) (notFace_of_selects (args := #[]) (mvT w.2.2.2.2.1 (wd70 hw))) (wd70 hw) (wd69 hw) (wd3 hw) (wd71 hw) (by decide) OB.1 (rm_rw0 hw b96 rl (own_rl (0 : Int64) i11_87) (own_rl (0 : Int64) i9_85) h175 n0 zn OB.2.2.2.1 OB.2.2.2.2.2.2.2.2.2.2.2.2.2.2.2.1) at_182 185 rfl 0 (by decide) (by decide) (lenOf pd5 rfl) rfl (Nat.le_of_eq rfl) rfl (by decide) (by decide) (fun r180 T X hq => ?_)
          have hr180 := hq
          refine iconst w X (2 : Int32) at_185 186 rfl rfl ?_
          refine iload w X at_186 188 rfl rfl ?_
          refine iadd w X ((2 : Int32) + i11_87) at_188 189 rfl rfl ?_
          refine i2l w X (((2 : Int32) + i11_87).toInt64) at_189 190 rfl rfl ?_
          refine lcmp w X (lcmpW r180 (((2 : Int32) + i11_87).toInt64)) at_190 191 rfl rfl ?_
          refine if_ne w X at_191 198 194 (by decide) (by decide) rfl (fun q => False.elim (by rw [hr180] at q; exact q (own_f1 _))) (fun hc191_181 => ?_)
          refine iconst w X (1 : Int32) at_194 195 rfl rfl ?_
          refine goto w X at_195 199 (by decide) (by decide) ?_
          refine istore w X (1 : Int32) at_199 201 rfl rfl #[.val (.int fl), .val (.int hh), .val (.int a0), .val (.int a1), .val (.int a2), .val (.int gg), .val (.int (1 : Int32)), .val (.int (0 : Int32)), .val (.int (1 : Int32)), .val (.int i9_85), .val (.int i10_86), .val (.int i11_87), .val (.int (0 : Int32)), .val (.int (1 : Int32)), .val (.ref b91), .val (.ref b96), .val (.int (1 : Int32))] rfl ?_
          refine iload w X at_201 203 rfl rfl ?_
          refine if_eq w X at_203 219 206 (by decide) (by decide) rfl (fun q => absurd q (by decide)) (fun hc203_182 => ?_)
          refine aload w X at_206 208 rfl rfl rfl ?_
          refine callVPI w X [] (wd72 hw) (wd73 hw) (notFace_of_selects (args := #[]) (mvT w.2.2.2.2.1 (wd75 hw))) (wd75 hw) (wd74 hw) (wd3 hw) (wd76 hw) (by decide) OB.1 (rm_to hw b96 (2 : Int32) h175 n0 zn OB.2.2.2.2.2.2.2.2.2.2.2.2.1) at_208 211 rfl 0 (by decide) (by decide) (lenOf pd6 rfl) rfl (Nat.le_of_eq rfl) rfl (by decide) (by decide) (fun r183 T X hq => ?_)
          have hr183 := hq
          refine iconst w X (2 : Int32) at_211 212 rfl rfl ?_
          refine icmp_ne w X at_212 219 215 (by decide) (by decide) rfl (fun q => False.elim (by exact q (hr183))) (fun hc212_184 => ?_)
          refine iconst w X (1 : Int32) at_215 216 rfl rfl ?_
          refine goto w X at_216 220 (by decide) (by decide) ?_
          refine istore w X (1 : Int32) at_220 222 rfl rfl #[.val (.int fl), .val (.int hh), .val (.int a0), .val (.int a1), .val (.int a2), .val (.int gg), .val (.int (1 : Int32)), .val (.int (0 : Int32)), .val (.int (1 : Int32)), .val (.int i9_85), .val (.int i10_86), .val (.int i11_87), .val (.int (0 : Int32)), .val (.int (1 : Int32)), .val (.ref b91), .val (.ref b96), .val (.int (1 : Int32))] rfl ?_
          refine iload w X at_222 224 rfl rfl ?_
          refine if_eq w X at_224 248 227 (by decide) (by decide) rfl (fun q => absurd q (by decide)) (fun hc224_185 => ?_)
          refine aload w X at_227 229 rfl rfl rfl ?_
          refine callVPJ w X [] (wd77 hw) (wd78 hw) (notFace_of_selects (args := #[]) (mvT w.2.2.2.2.1 (wd80 hw))) (wd80 hw) (wd79 hw) (wd3 hw) (wd81 hw) (by decide) OB.1 (rm_tl hw b96 (own_rl (own_rl (0 : Int64) i11_87) i9_85) h175 n0 zn OB.2.2.2.2.2.2.2.2.2.2.2.2.2.1) at_229 232 rfl 0 (by decide) (by decide) (lenOf pd7 rfl) rfl (Nat.le_of_eq rfl) rfl (by decide) (by decide) (fun r186 T X hq => ?_)
          have hr186 := hq
          refine iconst w X (4 : Int32) at_232 233 rfl rfl ?_
          refine iload w X at_233 235 rfl rfl ?_
          refine iadd w X ((4 : Int32) + i11_87) at_235 236 rfl rfl ?_
          refine iload w X at_236 238 rfl rfl ?_
          refine iadd w X (((4 : Int32) + i11_87) + i9_85) at_238 239 rfl rfl ?_
          refine i2l w X ((((4 : Int32) + i11_87) + i9_85).toInt64) at_239 240 rfl rfl ?_
          refine lcmp w X (lcmpW r186 ((((4 : Int32) + i11_87) + i9_85).toInt64)) at_240 241 rfl rfl ?_
          refine if_ne w X at_241 248 244 (by decide) (by decide) rfl (fun q => False.elim (by rw [hr186] at q; exact q (own_f2 bw_i11_87 bw_i9_85))) (fun hc241_187 => ?_)
          refine iconst w X (1 : Int32) at_244 245 rfl rfl ?_
          refine goto w X at_245 249 (by decide) (by decide) ?_
          refine istore w X (1 : Int32) at_249 251 rfl rfl #[.val (.int fl), .val (.int hh), .val (.int a0), .val (.int a1), .val (.int a2), .val (.int gg), .val (.int (1 : Int32)), .val (.int (0 : Int32)), .val (.int (1 : Int32)), .val (.int i9_85), .val (.int i10_86), .val (.int i11_87), .val (.int (0 : Int32)), .val (.int (1 : Int32)), .val (.ref b91), .val (.ref b96), .val (.int (1 : Int32))] rfl ?_
          refine iload w X at_251 253 rfl rfl ?_
          refine retN w X (t := .boolean) rfl (by simp) at_253 (by decide) (by decide) ?_
          exact ⟨_, rfl, rfl⟩
        ·
          have ho12 : i13_89 = (0 : Int32) := by rw [hi13_89, hs12]; decide
          clear hi13_89
          subst ho12
          clear hi12_88
          subst hs12
          refine aload w X at_128 130 rfl rfl rfl ?_
          refine iload w X at_130 132 rfl rfl ?_
          refine iload w X at_132 134 rfl rfl ?_
          refine aload w X at_134 136 rfl rfl rfl ?_
          refine iconst w X (0 : Int32) at_136 137 rfl rfl ?_
          refine iload w X at_137 139 rfl rfl ?_
          refine callVV w X [(.int (1 : Int32)), (.int gg), (.ref b91), (.int (0 : Int32)), (.int i11_87)] (wd32 hw) (wd33 hw) (notFace_of_selects (args := #[]) (mvT w.2.2.2.2.1 (wd35 hw))) (wd35 hw) (wd34 hw) (wd3 hw) (wd36 hw) (by decide) OB.1 (rm_a1_1 hw b96 ck ch cn rl fc fs lc la rv b91 gg i11_87 a0 a1 a2 f0_k171 f1_k171 y0_k171 y1_k171 q0_k171 q1_k171 z0_k171 z1_k171 (1 : Int32) (0 : Int32) h172 n0 zn OB NE GE V_b91 NA bw_i11_87) at_139 142 rfl 0 (by decide) (by decide) (lenOf pd2 rfl) rfl (Nat.le_of_eq rfl) rfl (by decide) (by decide) (fun T h188 X hq => ?_)
          obtain ⟨Kq, len_k189, hlen, f0_k189, f1_k189, y0_k189, y1_k189, q0_k189, z0_k189, v1_k189, OB⟩ := hq
          have zn : n0 ≤ h188.size := Nat.le_trans zn Kq.1
          have V_b91 := V_b91.keep Kq (ninS ne_b91_b96 (ninS ne_b91_ch (ninS ne_b91_cn (ninS ne_b91_rl (ninS ne_b91_fc (ninS ne_b91_fs (ninS ne_b91_lc (ninS ne_b91_la (ninS ne_b91_rv nin0)))))))))
          refine aload w X at_142 144 rfl rfl rfl ?_
          refine iload w X at_144 146 rfl rfl ?_
          refine iloadN w X at_146 147 rfl rfl ?_
          refine aload w X at_147 149 rfl rfl rfl ?_
          refine iconst w X (0 : Int32) at_149 150 rfl rfl ?_
          refine iload w X at_150 152 rfl rfl ?_
          refine callVV w X [(.int (0 : Int32)), (.int hh), (.ref b91), (.int (0 : Int32)), (.int i9_85)] (wd32 hw) (wd33 hw) (notFace_of_selects (args := #[]) (mvT w.2.2.2.2.1 (wd35 hw))) (wd35 hw) (wd34 hw) (wd3 hw) (wd36 hw) (by decide) OB.1 (rm_a2_10 hw b96 ck ch cn rl fc fs lc la rv b91 hh i9_85 a0 a1 a2 len_k189 f0_k189 f1_k189 y0_k189 y1_k189 q0_k189 (0 : Int32) z0_k189 (0 : Int32) v1_k189 (own_rl (0 : Int64) i11_87) (0 : Int64) (own_rl (0 : Int64) i11_87) h188 n0 zn OB NE GE V_b91 NA bw_i9_85 hlen) at_152 155 rfl 0 (by decide) (by decide) (lenOf pd2 rfl) rfl (Nat.le_of_eq rfl) rfl (by decide) (by decide) (fun T h190 X hq => ?_)
          obtain ⟨Kq, len_k191, hlen, f0_k191, f1_k191, y0_k191, y1_k191, q0_k191, q1_k191, z0_k191, z1_k191, OB⟩ := hq
          have zn : n0 ≤ h190.size := Nat.le_trans zn Kq.1
          have V_b91 := V_b91.keep Kq (ninS ne_b91_b96 (ninS ne_b91_ch (ninS ne_b91_cn (ninS ne_b91_rl (ninS ne_b91_fc (ninS ne_b91_fs (ninS ne_b91_lc (ninS ne_b91_la (ninS ne_b91_rv nin0)))))))))
          refine aload w X at_155 157 rfl rfl rfl ?_
          refine iload w X at_157 159 rfl rfl ?_
          refine callVPI w X [(.int (1 : Int32))] (wd62 hw) (wd63 hw) (notFace_of_selects (args := #[]) (mvT w.2.2.2.2.1 (wd65 hw))) (wd65 hw) (wd64 hw) (wd3 hw) (wd66 hw) (by decide) OB.1 (rm_ct1 hw b96 cn (1 : Int32) (1 : Int32) h190 n0 zn OB.2.2.1 OB.2.2.2.2.2.2.2.2.2.2.2.2.2.2.2.2.1) at_159 162 rfl 0 (by decide) (by decide) (lenOf pd4 rfl) rfl (Nat.le_of_eq rfl) rfl (by decide) (by decide) (fun r192 T X hq => ?_)
          have hr192 := hq
          refine iconst w X (1 : Int32) at_162 163 rfl rfl ?_
          refine icmp_ne w X at_163 170 166 (by decide) (by decide) rfl (fun q => False.elim (by exact q (hr192))) (fun hc163_193 => ?_)
          refine iconst w X (1 : Int32) at_166 167 rfl rfl ?_
          refine goto w X at_167 171 (by decide) (by decide) ?_
          refine istore w X (1 : Int32) at_171 173 rfl rfl #[.val (.int fl), .val (.int hh), .val (.int a0), .val (.int a1), .val (.int a2), .val (.int gg), .val (.int (1 : Int32)), .val (.int (0 : Int32)), .val (.int (1 : Int32)), .val (.int i9_85), .val (.int i10_86), .val (.int i11_87), .val (.int (1 : Int32)), .val (.int (0 : Int32)), .val (.ref b91), .val (.ref b96), .val (.int (1 : Int32))] rfl ?_
          refine iload w X at_173 175 rfl rfl ?_
          refine if_eq w X at_175 198 178 (by decide) (by decide) rfl (fun q => absurd q (by decide)) (fun hc175_194 => ?_)
          refine aload w X at_178 180 rfl rfl rfl ?_
          refine iload w X at_180 182 rfl rfl ?_
          refine callVPJ w X [(.int (1 : Int32))] (wd67 hw) (wd68 hw) (notFace_of_selects (args := #[]) (mvT w.2.2.2.2.1 (wd70 hw))) (wd70 hw) (wd69 hw) (wd3 hw) (wd71 hw) (by decide) OB.1 (rm_rw1 hw b96 rl (own_rl (0 : Int64) i9_85) (own_rl (0 : Int64) i11_87) h190 n0 zn OB.2.2.2.1 OB.2.2.2.2.2.2.2.2.2.2.2.2.2.2.2.1) at_182 185 rfl 0 (by decide) (by decide) (lenOf pd5 rfl) rfl (Nat.le_of_eq rfl) rfl (by decide) (by decide) (fun r195 T X hq => ?_)
          have hr195 := hq
          refine iconst w X (2 : Int32) at_185 186 rfl rfl ?_
          refine iload w X at_186 188 rfl rfl ?_
          refine iadd w X ((2 : Int32) + i11_87) at_188 189 rfl rfl ?_
          refine i2l w X (((2 : Int32) + i11_87).toInt64) at_189 190 rfl rfl ?_
          refine lcmp w X (lcmpW r195 (((2 : Int32) + i11_87).toInt64)) at_190 191 rfl rfl ?_
          refine if_ne w X at_191 198 194 (by decide) (by decide) rfl (fun q => False.elim (by rw [hr195] at q; exact q (own_f1 _))) (fun hc191_196 => ?_)
          refine iconst w X (1 : Int32) at_194 195 rfl rfl ?_
          refine goto w X at_195 199 (by decide) (by decide) ?_
          refine istore w X (1 : Int32) at_199 201 rfl rfl #[.val (.int fl), .val (.int hh), .val (.int a0), .val (.int a1), .val (.int a2), .val (.int gg), .val (.int (1 : Int32)), .val (.int (0 : Int32)), .val (.int (1 : Int32)), .val (.int i9_85), .val (.int i10_86), .val (.int i11_87), .val (.int (1 : Int32)), .val (.int (0 : Int32)), .val (.ref b91), .val (.ref b96), .val (.int (1 : Int32))] rfl ?_
          refine iload w X at_201 203 rfl rfl ?_
          refine if_eq w X at_203 219 206 (by decide) (by decide) rfl (fun q => absurd q (by decide)) (fun hc203_197 => ?_)
          refine aload w X at_206 208 rfl rfl rfl ?_
          refine callVPI w X [] (wd72 hw) (wd73 hw) (notFace_of_selects (args := #[]) (mvT w.2.2.2.2.1 (wd75 hw))) (wd75 hw) (wd74 hw) (wd3 hw) (wd76 hw) (by decide) OB.1 (rm_to hw b96 (2 : Int32) h190 n0 zn OB.2.2.2.2.2.2.2.2.2.2.2.2.1) at_208 211 rfl 0 (by decide) (by decide) (lenOf pd6 rfl) rfl (Nat.le_of_eq rfl) rfl (by decide) (by decide) (fun r198 T X hq => ?_)
          have hr198 := hq
          refine iconst w X (2 : Int32) at_211 212 rfl rfl ?_
          refine icmp_ne w X at_212 219 215 (by decide) (by decide) rfl (fun q => False.elim (by exact q (hr198))) (fun hc212_199 => ?_)
          refine iconst w X (1 : Int32) at_215 216 rfl rfl ?_
          refine goto w X at_216 220 (by decide) (by decide) ?_
          refine istore w X (1 : Int32) at_220 222 rfl rfl #[.val (.int fl), .val (.int hh), .val (.int a0), .val (.int a1), .val (.int a2), .val (.int gg), .val (.int (1 : Int32)), .val (.int (0 : Int32)), .val (.int (1 : Int32)), .val (.int i9_85), .val (.int i10_86), .val (.int i11_87), .val (.int (1 : Int32)), .val (.int (0 : Int32)), .val (.ref b91), .val (.ref b96), .val (.int (1 : Int32))] rfl ?_
          refine iload w X at_222 224 rfl rfl ?_
          refine if_eq w X at_224 248 227 (by decide) (by decide) rfl (fun q => absurd q (by decide)) (fun hc224_200 => ?_)
          refine aload w X at_227 229 rfl rfl rfl ?_
          refine callVPJ w X [] (wd77 hw) (wd78 hw) (notFace_of_selects (args := #[]) (mvT w.2.2.2.2.1 (wd80 hw))) (wd80 hw) (wd79 hw) (wd3 hw) (wd81 hw) (by decide) OB.1 (rm_tl hw b96 (own_rl (own_rl (0 : Int64) i11_87) i9_85) h190 n0 zn OB.2.2.2.2.2.2.2.2.2.2.2.2.2.1) at_229 232 rfl 0 (by decide) (by decide) (lenOf pd7 rfl) rfl (Nat.le_of_eq rfl) rfl (by decide) (by decide) (fun r201 T X hq => ?_)
          have hr201 := hq
          refine iconst w X (4 : Int32) at_232 233 rfl rfl ?_
          refine iload w X at_233 235 rfl rfl ?_
          refine iadd w X ((4 : Int32) + i11_87) at_235 236 rfl rfl ?_
          refine iload w X at_236 238 rfl rfl ?_
          refine iadd w X (((4 : Int32) + i11_87) + i9_85) at_238 239 rfl rfl ?_
          refine i2l w X ((((4 : Int32) + i11_87) + i9_85).toInt64) at_239 240 rfl rfl ?_
          refine lcmp w X (lcmpW r201 ((((4 : Int32) + i11_87) + i9_85).toInt64)) at_240 241 rfl rfl ?_
          refine if_ne w X at_241 248 244 (by decide) (by decide) rfl (fun q => False.elim (by rw [hr201] at q; exact q (own_f2 bw_i11_87 bw_i9_85))) (fun hc241_202 => ?_)
          refine iconst w X (1 : Int32) at_244 245 rfl rfl ?_
          refine goto w X at_245 249 (by decide) (by decide) ?_
          refine istore w X (1 : Int32) at_249 251 rfl rfl #[.val (.int fl), .val (.int hh), .val (.int a0), .val (.int a1), .val (.int a2), .val (.int gg), .val (.int (1 : Int32)), .val (.int (0 : Int32)), .val (.int (1 : Int32)), .val (.int i9_85), .val (.int i10_86), .val (.int i11_87), .val (.int (1 : Int32)), .val (.int (0 : Int32)), .val (.ref b91), .val (.ref b96), .val (.int (1 : Int32))] rfl ?_
          refine iload w X at_251 253 rfl rfl ?_
          refine retN w X (t := .boolean) rfl (by simp) at_253 (by decide) (by decide) ?_
          exact ⟨_, rfl, rfl⟩
      ·
        clear hi7_2
        subst hs7
        refine aload w X at_109 111 rfl rfl rfl ?_
        refine iload w X at_111 113 rfl rfl ?_
        refine iload w X at_113 115 rfl rfl ?_
        refine aload w X at_115 117 rfl rfl rfl ?_
        refine iconst w X (0 : Int32) at_117 118 rfl rfl ?_
        refine iload w X at_118 120 rfl rfl ?_
        refine callVV w X [(.int (1 : Int32)), (.int gg), (.ref b91), (.int (0 : Int32)), (.int i10_86)] (wd32 hw) (wd33 hw) (notFace_of_selects (args := #[]) (mvT w.2.2.2.2.1 (wd35 hw))) (wd35 hw) (wd34 hw) (wd3 hw) (wd36 hw) (by decide) OB.1 (rm_a2_11 hw b96 ck ch cn rl fc fs lc la rv b91 gg i10_86 a0 a1 a2 len_k168 f0_k168 f1_k168 y0_k168 y1_k168 q0_k168 z0_k168 v1_k168 (own_rl (0 : Int64) i9_85) (0 : Int64) (own_rl (0 : Int64) i9_85) h167 n0 zn OB NE GE V_b91 NA bw_i10_86 hlen) at_120 123 rfl 0 (by decide) (by decide) (lenOf pd2 rfl) rfl (Nat.le_of_eq rfl) rfl (by decide) (by decide) (fun T h203 X hq => ?_)
        obtain ⟨Kq, len_k204, hlen, f0_k204, f1_k204, y0_k204, y1_k204, q0_k204, q1_k204, z0_k204, z1_k204, v1_k204, OB⟩ := hq
        have zn : n0 ≤ h203.size := Nat.le_trans zn Kq.1
        have V_b91 := V_b91.keep Kq (ninS ne_b91_b96 (ninS ne_b91_ch (ninS ne_b91_cn (ninS ne_b91_rl (ninS ne_b91_fc (ninS ne_b91_fs (ninS ne_b91_lc (ninS ne_b91_la (ninS ne_b91_rv nin0)))))))))
        refine aload w X at_123 125 rfl rfl rfl ?_
        refine callVV w X [] (wd57 hw) (wd58 hw) (notFace_of_selects (args := #[]) (mvT w.2.2.2.2.1 (wd60 hw))) (wd60 hw) (wd59 hw) (wd3 hw) (wd61 hw) (by decide) OB.1 (rm_cl_1 hw b96 ck ch cn rl fc fs lc la rv (2 : Int32) f0_k204 f1_k204 y0_k204 y1_k204 q0_k204 q1_k204 z0_k204 z1_k204 v1_k204 (0 : Int32) len_k204 (2 : Int32) (own_rl (own_rl (0 : Int64) i9_85) i10_86) (own_rl (own_rl (0 : Int64) i9_85) i10_86) h203 n0 zn OB NE GE) at_125 128 rfl 0 (by decide) (by decide) (lenOf pd3 rfl) rfl (Nat.le_of_eq rfl) rfl (by decide) (by decide) (fun T h205 X hq => ?_)
        obtain ⟨Kq, OB⟩ := hq
        have zn : n0 ≤ h205.size := Nat.le_trans zn Kq.1
        have V_b91 := V_b91.keep Kq (ninS ne_b91_b96 (ninS ne_b91_cn (ninS ne_b91_rl nin0)))
        have hs12 : i12_88 = 0 ∨ i12_88 = 1 := by rw [hi12_88]; exact own_m1 _
        rcases hs12 with hs12 | hs12
        ·
          have ho12 : i13_89 = (1 : Int32) := by rw [hi13_89, hs12]; decide
          clear hi13_89
          subst ho12
          clear hi12_88
          subst hs12
          refine aload w X at_128 130 rfl rfl rfl ?_
          refine iload w X at_130 132 rfl rfl ?_
          refine iload w X at_132 134 rfl rfl ?_
          refine aload w X at_134 136 rfl rfl rfl ?_
          refine iconst w X (0 : Int32) at_136 137 rfl rfl ?_
          refine iload w X at_137 139 rfl rfl ?_
          refine callVV w X [(.int (0 : Int32)), (.int gg), (.ref b91), (.int (0 : Int32)), (.int i11_87)] (wd32 hw) (wd33 hw) (notFace_of_selects (args := #[]) (mvT w.2.2.2.2.1 (wd35 hw))) (wd35 hw) (wd34 hw) (wd3 hw) (wd36 hw) (by decide) OB.1 (rm_a1_0 hw b96 ck ch cn rl fc fs lc la rv b91 gg i11_87 a0 a1 a2 f0_k204 f1_k204 y0_k204 y1_k204 q0_k204 q1_k204 z0_k204 z1_k204 (1 : Int32) v1_k204 h205 n0 zn OB NE GE V_b91 NA bw_i11_87) at_139 142 rfl 0 (by decide) (by decide) (lenOf pd2 rfl) rfl (Nat.le_of_eq rfl) rfl (by decide) (by decide) (fun T h206 X hq => ?_)
          obtain ⟨Kq, len_k207, hlen, f0_k207, f1_k207, y0_k207, y1_k207, q1_k207, z1_k207, v1_k207, OB⟩ := hq
          have zn : n0 ≤ h206.size := Nat.le_trans zn Kq.1
          have V_b91 := V_b91.keep Kq (ninS ne_b91_b96 (ninS ne_b91_ch (ninS ne_b91_cn (ninS ne_b91_rl (ninS ne_b91_fc (ninS ne_b91_fs (ninS ne_b91_lc (ninS ne_b91_la (ninS ne_b91_rv nin0)))))))))
          refine aload w X at_142 144 rfl rfl rfl ?_
          refine iload w X at_144 146 rfl rfl ?_
          refine iloadN w X at_146 147 rfl rfl ?_
          refine aload w X at_147 149 rfl rfl rfl ?_
          refine iconst w X (0 : Int32) at_149 150 rfl rfl ?_
          refine iload w X at_150 152 rfl rfl ?_
          refine callVV w X [(.int (1 : Int32)), (.int hh), (.ref b91), (.int (0 : Int32)), (.int i9_85)] (wd32 hw) (wd33 hw) (notFace_of_selects (args := #[]) (mvT w.2.2.2.2.1 (wd35 hw))) (wd35 hw) (wd34 hw) (wd3 hw) (wd36 hw) (by decide) OB.1 (rm_a2_01 hw b96 ck ch cn rl fc fs lc la rv b91 hh i9_85 a0 a1 a2 len_k207 f0_k207 f1_k207 y0_k207 y1_k207 (0 : Int32) q1_k207 (0 : Int32) z1_k207 v1_k207 (own_rl (0 : Int64) i11_87) (own_rl (0 : Int64) i11_87) (0 : Int64) h206 n0 zn OB NE GE V_b91 NA bw_i9_85 hlen) at_152 155 rfl 0 (by decide) (by decide) (lenOf pd2 rfl) rfl (Nat.le_of_eq rfl) rfl (by decide) (by decide) (fun T h208 X hq => ?_)
          obtain ⟨Kq, len_k209, hlen, f0_k209, f1_k209, y0_k209, y1_k209, q0_k209, q1_k209, z0_k209, z1_k209, OB⟩ := hq
          have zn : n0 ≤ h208.size := Nat.le_trans zn Kq.1
          have V_b91 := V_b91.keep Kq (ninS ne_b91_b96 (ninS ne_b91_ch (ninS ne_b91_cn (ninS ne_b91_rl (ninS ne_b91_fc (ninS ne_b91_fs (ninS ne_b91_lc (ninS ne_b91_la (ninS ne_b91_rv nin0)))))))))
          refine aload w X at_155 157 rfl rfl rfl ?_
          refine iload w X at_157 159 rfl rfl ?_
          refine callVPI w X [(.int (0 : Int32))] (wd62 hw) (wd63 hw) (notFace_of_selects (args := #[]) (mvT w.2.2.2.2.1 (wd65 hw))) (wd65 hw) (wd64 hw) (wd3 hw) (wd66 hw) (by decide) OB.1 (rm_ct0 hw b96 cn (1 : Int32) (1 : Int32) h208 n0 zn OB.2.2.1 OB.2.2.2.2.2.2.2.2.2.2.2.2.2.2.2.2.1) at_159 162 rfl 0 (by decide) (by decide) (lenOf pd4 rfl) rfl (Nat.le_of_eq rfl) rfl (by decide) (by decide) (fun r210 T X hq => ?_)
          have hr210 := hq
          refine iconst w X (1 : Int32) at_162 163 rfl rfl ?_
          refine icmp_ne w X at_163 170 166 (by decide) (by decide) rfl (fun q => False.elim (by exact q (hr210))) (fun hc163_211 => ?_)
          refine iconst w X (1 : Int32) at_166 167 rfl rfl ?_
          refine goto w X at_167 171 (by decide) (by decide) ?_
          refine istore w X (1 : Int32) at_171 173 rfl rfl #[.val (.int fl), .val (.int hh), .val (.int a0), .val (.int a1), .val (.int a2), .val (.int gg), .val (.int (1 : Int32)), .val (.int (1 : Int32)), .val (.int (1 : Int32)), .val (.int i9_85), .val (.int i10_86), .val (.int i11_87), .val (.int (0 : Int32)), .val (.int (1 : Int32)), .val (.ref b91), .val (.ref b96), .val (.int (1 : Int32))] rfl ?_
          refine iload w X at_173 175 rfl rfl ?_
          refine if_eq w X at_175 198 178 (by decide) (by decide) rfl (fun q => absurd q (by decide)) (fun hc175_212 => ?_)
          refine aload w X at_178 180 rfl rfl rfl ?_
          refine iload w X at_180 182 rfl rfl ?_
          refine callVPJ w X [(.int (0 : Int32))] (wd67 hw) (wd68 hw) (notFace_of_selects (args := #[]) (mvT w.2.2.2.2.1 (wd70 hw))) (wd70 hw) (wd69 hw) (wd3 hw) (wd71 hw) (by decide) OB.1 (rm_rw0 hw b96 rl (own_rl (0 : Int64) i11_87) (own_rl (0 : Int64) i9_85) h208 n0 zn OB.2.2.2.1 OB.2.2.2.2.2.2.2.2.2.2.2.2.2.2.2.1) at_182 185 rfl 0 (by decide) (by decide) (lenOf pd5 rfl) rfl (Nat.le_of_eq rfl) rfl (by decide) (by decide) (fun r213 T X hq => ?_)
          have hr213 := hq
          refine iconst w X (2 : Int32) at_185 186 rfl rfl ?_
          refine iload w X at_186 188 rfl rfl ?_
          refine iadd w X ((2 : Int32) + i11_87) at_188 189 rfl rfl ?_
          refine i2l w X (((2 : Int32) + i11_87).toInt64) at_189 190 rfl rfl ?_
          refine lcmp w X (lcmpW r213 (((2 : Int32) + i11_87).toInt64)) at_190 191 rfl rfl ?_
          refine if_ne w X at_191 198 194 (by decide) (by decide) rfl (fun q => False.elim (by rw [hr213] at q; exact q (own_f1 _))) (fun hc191_214 => ?_)
          refine iconst w X (1 : Int32) at_194 195 rfl rfl ?_
          refine goto w X at_195 199 (by decide) (by decide) ?_
          refine istore w X (1 : Int32) at_199 201 rfl rfl #[.val (.int fl), .val (.int hh), .val (.int a0), .val (.int a1), .val (.int a2), .val (.int gg), .val (.int (1 : Int32)), .val (.int (1 : Int32)), .val (.int (1 : Int32)), .val (.int i9_85), .val (.int i10_86), .val (.int i11_87), .val (.int (0 : Int32)), .val (.int (1 : Int32)), .val (.ref b91), .val (.ref b96), .val (.int (1 : Int32))] rfl ?_
          refine iload w X at_201 203 rfl rfl ?_
          refine if_eq w X at_203 219 206 (by decide) (by decide) rfl (fun q => absurd q (by decide)) (fun hc203_215 => ?_)
          refine aload w X at_206 208 rfl rfl rfl ?_
          refine callVPI w X [] (wd72 hw) (wd73 hw) (notFace_of_selects (args := #[]) (mvT w.2.2.2.2.1 (wd75 hw))) (wd75 hw) (wd74 hw) (wd3 hw) (wd76 hw) (by decide) OB.1 (rm_to hw b96 (2 : Int32) h208 n0 zn OB.2.2.2.2.2.2.2.2.2.2.2.2.1) at_208 211 rfl 0 (by decide) (by decide) (lenOf pd6 rfl) rfl (Nat.le_of_eq rfl) rfl (by decide) (by decide) (fun r216 T X hq => ?_)
          have hr216 := hq
          refine iconst w X (2 : Int32) at_211 212 rfl rfl ?_
          refine icmp_ne w X at_212 219 215 (by decide) (by decide) rfl (fun q => False.elim (by exact q (hr216))) (fun hc212_217 => ?_)
          refine iconst w X (1 : Int32) at_215 216 rfl rfl ?_
          refine goto w X at_216 220 (by decide) (by decide) ?_
          refine istore w X (1 : Int32) at_220 222 rfl rfl #[.val (.int fl), .val (.int hh), .val (.int a0), .val (.int a1), .val (.int a2), .val (.int gg), .val (.int (1 : Int32)), .val (.int (1 : Int32)), .val (.int (1 : Int32)), .val (.int i9_85), .val (.int i10_86), .val (.int i11_87), .val (.int (0 : Int32)), .val (.int (1 : Int32)), .val (.ref b91), .val (.ref b96), .val (.int (1 : Int32))] rfl ?_
          refine iload w X at_222 224 rfl rfl ?_
          refine if_eq w X at_224 248 227 (by decide) (by decide) rfl (fun q => absurd q (by decide)) (fun hc224_218 => ?_)
          refine aload w X at_227 229 rfl rfl rfl ?_
          refine callVPJ w X [] (wd77 hw) (wd78 hw) (notFace_of_selects (args := #[]) (mvT w.2.2.2.2.1 (wd80 hw))) (wd80 hw) (wd79 hw) (wd3 hw) (wd81 hw) (by decide) OB.1 (rm_tl hw b96 (own_rl (own_rl (0 : Int64) i11_87) i9_85) h208 n0 zn OB.2.2.2.2.2.2.2.2.2.2.2.2.2.1) at_229 232 rfl 0 (by decide) (by decide) (lenOf pd7 rfl) rfl (Nat.le_of_eq rfl) rfl (by decide) (by decide) (fun r219 T X hq => ?_)
          have hr219 := hq
          refine iconst w X (4 : Int32) at_232 233 rfl rfl ?_
          refine iload w X at_233 235 rfl rfl ?_
          refine iadd w X ((4 : Int32) + i11_87) at_235 236 rfl rfl ?_
          refine iload w X at_236 238 rfl rfl ?_
          refine iadd w X (((4 : Int32) + i11_87) + i9_85) at_238 239 rfl rfl ?_
          refine i2l w X ((((4 : Int32) + i11_87) + i9_85).toInt64) at_239 240 rfl rfl ?_
          refine lcmp w X (lcmpW r219 ((((4 : Int32) + i11_87) + i9_85).toInt64)) at_240 241 rfl rfl ?_
          refine if_ne w X at_241 248 244 (by decide) (by decide) rfl (fun q => False.elim (by rw [hr219] at q; exact q (own_f2 bw_i11_87 bw_i9_85))) (fun hc241_220 => ?_)
          refine iconst w X (1 : Int32) at_244 245 rfl rfl ?_
          refine goto w X at_245 249 (by decide) (by decide) ?_
          refine istore w X (1 : Int32) at_249 251 rfl rfl #[.val (.int fl), .val (.int hh), .val (.int a0), .val (.int a1), .val (.int a2), .val (.int gg), .val (.int (1 : Int32)), .val (.int (1 : Int32)), .val (.int (1 : Int32)), .val (.int i9_85), .val (.int i10_86), .val (.int i11_87), .val (.int (0 : Int32)), .val (.int (1 : Int32)), .val (.ref b91), .val (.ref b96), .val (.int (1 : Int32))] rfl ?_
          refine iload w X at_251 253 rfl rfl ?_
          refine retN w X (t := .boolean) rfl (by simp) at_253 (by decide) (by decide) ?_
          exact ⟨_, rfl, rfl⟩
        ·
          have ho12 : i13_89 = (0 : Int32) := by rw [hi13_89, hs12]; decide
          clear hi13_89
          subst ho12
          clear hi12_88
          subst hs12
          refine aload w X at_128 130 rfl rfl rfl ?_
          refine iload w X at_130 132 rfl rfl ?_
          refine iload w X at_132 134 rfl rfl ?_
          refine aload w X at_134 136 rfl rfl rfl ?_
          refine iconst w X (0 : Int32) at_136 137 rfl rfl ?_
          refine iload w X at_137 139 rfl rfl ?_
          refine callVV w X [(.int (1 : Int32)), (.int gg), (.ref b91), (.int (0 : Int32)), (.int i11_87)] (wd32 hw) (wd33 hw) (notFace_of_selects (args := #[]) (mvT w.2.2.2.2.1 (wd35 hw))) (wd35 hw) (wd34 hw) (wd3 hw) (wd36 hw) (by decide) OB.1 (rm_a1_1 hw b96 ck ch cn rl fc fs lc la rv b91 gg i11_87 a0 a1 a2 f0_k204 f1_k204 y0_k204 y1_k204 q0_k204 q1_k204 z0_k204 z1_k204 (1 : Int32) v1_k204 h205 n0 zn OB NE GE V_b91 NA bw_i11_87) at_139 142 rfl 0 (by decide) (by decide) (lenOf pd2 rfl) rfl (Nat.le_of_eq rfl) rfl (by decide) (by decide) (fun T h221 X hq => ?_)
          obtain ⟨Kq, len_k222, hlen, f0_k222, f1_k222, y0_k222, y1_k222, q0_k222, z0_k222, v1_k222, OB⟩ := hq
          have zn : n0 ≤ h221.size := Nat.le_trans zn Kq.1
          have V_b91 := V_b91.keep Kq (ninS ne_b91_b96 (ninS ne_b91_ch (ninS ne_b91_cn (ninS ne_b91_rl (ninS ne_b91_fc (ninS ne_b91_fs (ninS ne_b91_lc (ninS ne_b91_la (ninS ne_b91_rv nin0)))))))))
          refine aload w X at_142 144 rfl rfl rfl ?_
          refine iload w X at_144 146 rfl rfl ?_
          refine iloadN w X at_146 147 rfl rfl ?_
          refine aload w X at_147 149 rfl rfl rfl ?_
          refine iconst w X (0 : Int32) at_149 150 rfl rfl ?_
          refine iload w X at_150 152 rfl rfl ?_
          refine callVV w X [(.int (0 : Int32)), (.int hh), (.ref b91), (.int (0 : Int32)), (.int i9_85)] (wd32 hw) (wd33 hw) (notFace_of_selects (args := #[]) (mvT w.2.2.2.2.1 (wd35 hw))) (wd35 hw) (wd34 hw) (wd3 hw) (wd36 hw) (by decide) OB.1 (rm_a2_10 hw b96 ck ch cn rl fc fs lc la rv b91 hh i9_85 a0 a1 a2 len_k222 f0_k222 f1_k222 y0_k222 y1_k222 q0_k222 (0 : Int32) z0_k222 (0 : Int32) v1_k222 (own_rl (0 : Int64) i11_87) (0 : Int64) (own_rl (0 : Int64) i11_87) h221 n0 zn OB NE GE V_b91 NA bw_i9_85 hlen) at_152 155 rfl 0 (by decide) (by decide) (lenOf pd2 rfl) rfl (Nat.le_of_eq rfl) rfl (by decide) (by decide) (fun T h223 X hq => ?_)
          obtain ⟨Kq, len_k224, hlen, f0_k224, f1_k224, y0_k224, y1_k224, q0_k224, q1_k224, z0_k224, z1_k224, OB⟩ := hq
          have zn : n0 ≤ h223.size := Nat.le_trans zn Kq.1
          have V_b91 := V_b91.keep Kq (ninS ne_b91_b96 (ninS ne_b91_ch (ninS ne_b91_cn (ninS ne_b91_rl (ninS ne_b91_fc (ninS ne_b91_fs (ninS ne_b91_lc (ninS ne_b91_la (ninS ne_b91_rv nin0)))))))))
          refine aload w X at_155 157 rfl rfl rfl ?_
          refine iload w X at_157 159 rfl rfl ?_
          refine callVPI w X [(.int (1 : Int32))] (wd62 hw) (wd63 hw) (notFace_of_selects (args := #[]) (mvT w.2.2.2.2.1 (wd65 hw))) (wd65 hw) (wd64 hw) (wd3 hw) (wd66 hw) (by decide) OB.1 (rm_ct1 hw b96 cn (1 : Int32) (1 : Int32) h223 n0 zn OB.2.2.1 OB.2.2.2.2.2.2.2.2.2.2.2.2.2.2.2.2.1) at_159 162 rfl 0 (by decide) (by decide) (lenOf pd4 rfl) rfl (Nat.le_of_eq rfl) rfl (by decide) (by decide) (fun r225 T X hq => ?_)
          have hr225 := hq
          refine iconst w X (1 : Int32) at_162 163 rfl rfl ?_
          refine icmp_ne w X at_163 170 166 (by decide) (by decide) rfl (fun q => False.elim (by exact q (hr225))) (fun hc163_226 => ?_)
          refine iconst w X (1 : Int32) at_166 167 rfl rfl ?_
          refine goto w X at_167 171 (by decide) (by decide) ?_
          refine istore w X (1 : Int32) at_171 173 rfl rfl #[.val (.int fl), .val (.int hh), .val (.int a0), .val (.int a1), .val (.int a2), .val (.int gg), .val (.int (1 : Int32)), .val (.int (1 : Int32)), .val (.int (1 : Int32)), .val (.int i9_85), .val (.int i10_86), .val (.int i11_87), .val (.int (1 : Int32)), .val (.int (0 : Int32)), .val (.ref b91), .val (.ref b96), .val (.int (1 : Int32))] rfl ?_
          refine iload w X at_173 175 rfl rfl ?_
          refine if_eq w X at_175 198 178 (by decide) (by decide) rfl (fun q => absurd q (by decide)) (fun hc175_227 => ?_)
          refine aload w X at_178 180 rfl rfl rfl ?_
          refine iload w X at_180 182 rfl rfl ?_
          refine callVPJ w X [(.int (1 : Int32))] (wd67 hw) (wd68 hw) (notFace_of_selects (args := #[]) (mvT w.2.2.2.2.1 (wd70 hw))) (wd70 hw) (wd69 hw) (wd3 hw) (wd71 hw) (by decide) OB.1 (rm_rw1 hw b96 rl (own_rl (0 : Int64) i9_85) (own_rl (0 : Int64) i11_87) h223 n0 zn OB.2.2.2.1 OB.2.2.2.2.2.2.2.2.2.2.2.2.2.2.2.1) at_182 185 rfl 0 (by decide) (by decide) (lenOf pd5 rfl) rfl (Nat.le_of_eq rfl) rfl (by decide) (by decide) (fun r228 T X hq => ?_)
          have hr228 := hq
          refine iconst w X (2 : Int32) at_185 186 rfl rfl ?_
          refine iload w X at_186 188 rfl rfl ?_
          refine iadd w X ((2 : Int32) + i11_87) at_188 189 rfl rfl ?_
          refine i2l w X (((2 : Int32) + i11_87).toInt64) at_189 190 rfl rfl ?_
          refine lcmp w X (lcmpW r228 (((2 : Int32) + i11_87).toInt64)) at_190 191 rfl rfl ?_
          refine if_ne w X at_191 198 194 (by decide) (by decide) rfl (fun q => False.elim (by rw [hr228] at q; exact q (own_f1 _))) (fun hc191_229 => ?_)
          refine iconst w X (1 : Int32) at_194 195 rfl rfl ?_
          refine goto w X at_195 199 (by decide) (by decide) ?_
          refine istore w X (1 : Int32) at_199 201 rfl rfl #[.val (.int fl), .val (.int hh), .val (.int a0), .val (.int a1), .val (.int a2), .val (.int gg), .val (.int (1 : Int32)), .val (.int (1 : Int32)), .val (.int (1 : Int32)), .val (.int i9_85), .val (.int i10_86), .val (.int i11_87), .val (.int (1 : Int32)), .val (.int (0 : Int32)), .val (.ref b91), .val (.ref b96), .val (.int (1 : Int32))] rfl ?_
          refine iload w X at_201 203 rfl rfl ?_
          refine if_eq w X at_203 219 206 (by decide) (by decide) rfl (fun q => absurd q (by decide)) (fun hc203_230 => ?_)
          refine aload w X at_206 208 rfl rfl rfl ?_
          refine callVPI w X [] (wd72 hw) (wd73 hw) (notFace_of_selects (args := #[]) (mvT w.2.2.2.2.1 (wd75 hw))) (wd75 hw) (wd74 hw) (wd3 hw) (wd76 hw) (by decide) OB.1 (rm_to hw b96 (2 : Int32) h223 n0 zn OB.2.2.2.2.2.2.2.2.2.2.2.2.1) at_208 211 rfl 0 (by decide) (by decide) (lenOf pd6 rfl) rfl (Nat.le_of_eq rfl) rfl (by decide) (by decide) (fun r231 T X hq => ?_)
          have hr231 := hq
          refine iconst w X (2 : Int32) at_211 212 rfl rfl ?_
          refine icmp_ne w X at_212 219 215 (by decide) (by decide) rfl (fun q => False.elim (by exact q (hr231))) (fun hc212_232 => ?_)
          refine iconst w X (1 : Int32) at_215 216 rfl rfl ?_
          refine goto w X at_216 220 (by decide) (by decide) ?_
          refine istore w X (1 : Int32) at_220 222 rfl rfl #[.val (.int fl), .val (.int hh), .val (.int a0), .val (.int a1), .val (.int a2), .val (.int gg), .val (.int (1 : Int32)), .val (.int (1 : Int32)), .val (.int (1 : Int32)), .val (.int i9_85), .val (.int i10_86), .val (.int i11_87), .val (.int (1 : Int32)), .val (.int (0 : Int32)), .val (.ref b91), .val (.ref b96), .val (.int (1 : Int32))] rfl ?_
          refine iload w X at_222 224 rfl rfl ?_
          refine if_eq w X at_224 248 227 (by decide) (by decide) rfl (fun q => absurd q (by decide)) (fun hc224_233 => ?_)
          refine aload w X at_227 229 rfl rfl rfl ?_
          refine callVPJ w X [] (wd77 hw) (wd78 hw) (notFace_of_selects (args := #[]) (mvT w.2.2.2.2.1 (wd80 hw))) (wd80 hw) (wd79 hw) (wd3 hw) (wd81 hw) (by decide) OB.1 (rm_tl hw b96 (own_rl (own_rl (0 : Int64) i11_87) i9_85) h223 n0 zn OB.2.2.2.2.2.2.2.2.2.2.2.2.2.1) at_229 232 rfl 0 (by decide) (by decide) (lenOf pd7 rfl) rfl (Nat.le_of_eq rfl) rfl (by decide) (by decide) (fun r234 T X hq => ?_)
          have hr234 := hq
          refine iconst w X (4 : Int32) at_232 233 rfl rfl ?_
          refine iload w X at_233 235 rfl rfl ?_
          refine iadd w X ((4 : Int32) + i11_87) at_235 236 rfl rfl ?_
          refine iload w X at_236 238 rfl rfl ?_
          refine iadd w X (((4 : Int32) + i11_87) + i9_85) at_238 239 rfl rfl ?_
          refine i2l w X ((((4 : Int32) + i11_87) + i9_85).toInt64) at_239 240 rfl rfl ?_
          refine lcmp w X (lcmpW r234 ((((4 : Int32) + i11_87) + i9_85).toInt64)) at_240 241 rfl rfl ?_
          refine if_ne w X at_241 248 244 (by decide) (by decide) rfl (fun q => False.elim (by rw [hr234] at q; exact q (own_f2 bw_i11_87 bw_i9_85))) (fun hc241_235 => ?_)
          refine iconst w X (1 : Int32) at_244 245 rfl rfl ?_
          refine goto w X at_245 249 (by decide) (by decide) ?_
          refine istore w X (1 : Int32) at_249 251 rfl rfl #[.val (.int fl), .val (.int hh), .val (.int a0), .val (.int a1), .val (.int a2), .val (.int gg), .val (.int (1 : Int32)), .val (.int (1 : Int32)), .val (.int (1 : Int32)), .val (.int i9_85), .val (.int i10_86), .val (.int i11_87), .val (.int (1 : Int32)), .val (.int (0 : Int32)), .val (.ref b91), .val (.ref b96), .val (.int (1 : Int32))] rfl ?_
          refine iload w X at_251 253 rfl rfl ?_
          refine retN w X (t := .boolean) rfl (by simp) at_253 (by decide) (by decide) ?_
          exact ⟨_, rfl, rfl⟩
set_option maxRecDepth 65536 in
set_option maxHeartbeats 40000000 in
theorem comes_1 {Post : Tables → Env → Array Value → State → Outcome → State → Prop} (hpost : ∀ tb e args s v u, (limb_1_1.after args s (.returned v) u = true ∧ limb_1_2.after args s (.returned v) u = true ∧ True) → FrameEnd s (.returned v) u (Jvm.fieldLocs frame_1_writes args s ++ Jvm.arrayLocs frame_1_arrays args s ++ Jvm.staticLocs frame_1_statics s) 32 8320 → Post tb e args s (.returned v) u) :
    ArmFor flags0 classFile x code maxLocals ret World_1 tables_1 room_1 Calls_1 rest_1 Pre_1 Post := by
  intro l hfl _ _ p e ha hc hk s m args below hf hA hF happ hP
  obtain ⟨hcalls, hrest, hpre⟩ := hP
  obtain ⟨-, -, -, hnamed, -, -, -, hat⟩ := (Spec.applies_iff hf).mp happ
  obtain ⟨hg, hn⟩ := and_e (Cond.before_iff.mp (show (Jvm.Cond.and given_1 narrow_1).before args s = true from hpre))
  obtain ⟨g1, g2⟩ := and_e hg
  obtain ⟨g3, g4⟩ := and_e g2
  obtain ⟨g5, g6⟩ := and_e g4
  obtain ⟨g7, g8⟩ := and_e g6
  obtain ⟨g9, g10⟩ := and_e g8
  obtain ⟨g11, g12⟩ := and_e g10
  obtain ⟨w0, w1, w2, w3, w4, w5, rfl⟩ : ∃ w0 w1 w2 w3 w4 w5 : Value, args = #[w0, w1, w2, w3, w4, w5] := by
    have hs : args.size = 6 := by simpa [Cond.value, given_1] using g1
    obtain ⟨L⟩ := args
    match L, hs with
    | [w0, w1, w2, w3, w4, w5], _ => exact ⟨w0, w1, w2, w3, w4, w5, rfl⟩
  have hw := fun d (hd : d ∈ tables_1) => atoms_spec (ws := Jvm.Cond.code x code maxLocals ret :: tables_1) hat d (List.mem_cons_of_mem _ hd)
  obtain ⟨i0, ei0⟩ := is_v g3
  obtain rfl : w0 = (.int i0) := Option.some.inj ei0
  obtain ⟨i1, ei1⟩ := is_v g5
  obtain rfl : w1 = (.int i1) := Option.some.inj ei1
  obtain ⟨i2, ei2⟩ := is_v g7
  obtain rfl : w2 = (.int i2) := Option.some.inj ei2
  obtain ⟨i3, ei3⟩ := is_v g9
  obtain rfl : w3 = (.int i3) := Option.some.inj ei3
  obtain ⟨i4, ei4⟩ := is_v g11
  obtain rfl : w4 = (.int i4) := Option.some.inj ei4
  obtain ⟨i5, ei5⟩ := is_v g12
  obtain rfl : w5 = (.int i5) := Option.some.inj ei5
  obtain ⟨n, o, h1, h2, h3, _, L, rfl, ⟨⟨_, rfl, rfl⟩, N⟩, hq⟩ := rm_law (l := l) hw i0 i1 i2 i3 i4 i5 s.heap s.heap.size (Nat.le_refl _) p e ha hc hk s m _ below hf ((Spec.applies_iff_loose hf).mp happ).1 ⟨rfl, State.Warmed39.refl s, rfl⟩ trivial
  refine ⟨n, _, h1, h2, h3, hpost _ _ _ _ _ _ ⟨Cond.after_iff.mpr rfl, Cond.after_iff.mpr (eq_i res_at (Term.int_eval (1)) rfl), trivial⟩ ⟨hq.1, hq.2.1, (hq.2.2.sift fun y hy => Or.inr (N y hy)).mono (by decide) (by decide)⟩⟩
theorem main_1_1 : Claimed_1_1 := comes_1 fun _ _ _ _ _ _ h hF => ⟨h.1, hF⟩
theorem main_1_2 : Claimed_1_2 := comes_1 fun _ _ _ _ _ _ h hF => ⟨h.2.1, hF⟩
end Jvm.Pilot.@@N@@
namespace Jvm.Pilot.@@N@@
open Jvm Jvm.ClassFile Sem Op Lib Jvm.Free Jvm.Stand Jvm.Pilot.@@N@@.Jvm.D
/-! MADE BY PROGRAM (witnessworld.py) out of the Statement's table words and the real class files: 13 classes; the members and pool entries that the words name. The judged class is class 1, her method 1. -/
namespace start1
open Jvm.ClassFile
def u (s : String) : CpInfo := .utf8 (stringToUtf16 s)
/-- a pool by its gaps: so many unusable entries, then the entry; so many at the end -/
def gap : Nat → List CpInfo → List CpInfo
  | 0, r => r
  | n + 1, r => .unusable :: gap n r
def poolList (es : List (Nat × CpInfo)) (last : Nat) : List CpInfo := es.foldr (fun e r => gap e.1 (e.2 :: r)) (gap last [])
def pool (es : List (Nat × CpInfo)) (last : Nat) : Array CpInfo := ⟨poolList es last⟩
def fileOf (pool : Array CpInfo) (this : Nat) (attrs : Array Attribute := #[]) (ms : Array MethodInfo := #[]) (fl : Nat := 33) (sup : Nat := 0) (ifs : Array Nat := #[]) (fds : Array FieldInfo := #[]) : ClassFile where
  minorVersion := 0
  majorVersion := 65
  constantPool := pool
  accessFlags := fl
  thisClass := this
  superClass := sup
  interfaces := ifs
  fields := fds
  methods := ms
  attributes := attrs
def plain (name : String) (sup : Option ClassId) : Class where
  name := name
  kind := .ordinary
  loader := none
  accessFlags := 33
  super := sup
  interfaces := #[]
  cf := none
  fields := #[]
  methods := #[]
  instanceTypes := #[]
  staticTypes := #[]
  resolved := #[]
  callSites := []
  init := .initialized
  statics := none
  mirror := none

def pool0 : Array CpInfo := pool [(5, u "<init>"), (0, u "()V"), (1, .class_ 10), (1, u "java/lang/Object")] 113

def k0c0 : Code := { maxStack := 0, maxLocals := 1, code := object_method_1_code, exceptionTable := #[], attributes := #[] }
def k0m0 : Method := { name := "<init>", desc := "()V", sig := { parameters := [], returnType := none }, accessFlags := 1, code := some k0c0 }
/-- java/lang/Object -/
def k0 : Class := { plain "java/lang/Object" none with
  accessFlags := 33
  interfaces := #[]
  cf := some (fileOf pool0 8 #[] #[{ accessFlags := 1, nameIndex := 5, descriptorIndex := 6, attributes := #[] }] 33 0 #[] #[])
  fields := #[]
  methods := #[k0m0]
  instanceTypes := #[]
  staticTypes := #[]
  resolved := Array.replicate 124 none
  statics := none }

def pool1 : Array CpInfo := pool [(2, .class_ 4), (1, u "java/lang/Object"), (0, u "<init>"), (0, u "()V"), (0, .class_ 8), (0, u "com/example/vigilant_mailbox/vigilantmailbox/engine/Sends"), (0, .methodref 7 10), (0, .nameAndType 5 11), (0, u "(I)V"), (0, .methodref 7 13), (0, .nameAndType 14 15), (0, u "add"), (0, u "(II[III)V"), (0, .methodref 7 17), (0, .nameAndType 18 6), (0, u "clear"), (0, .methodref 7 20), (0, .nameAndType 21 22), (0, u "count"), (0, u "(I)I"), (0, .methodref 7 24), (0, .nameAndType 25 26), (0, u "rowLength"), (0, u "(I)J"), (0, .methodref 7 28), (0, .nameAndType 29 30), (0, u "total"), (0, u "()I"), (0, .methodref 7 32), (0, .nameAndType 25 33), (0, u "()J"), (0, .class_ 35), (0, u "com/example/vigilant_mailbox/vigilantmailbox/engine/SendsClearPinLaw"), (2, u "law"), (0, u "(IIIIII)Z")] 5

def k1m0 : Method := { name := "<init>", desc := "()V", sig := { parameters := [], returnType := none }, accessFlags := 1, code := none }
def k1c1 : Code := { maxStack := 6, maxLocals := 17, code := code, exceptionTable := #[], attributes := #[] }
def k1m1 : Method := { name := "law", desc := "(IIIIII)Z", sig := { parameters := [.int, .int, .int, .int, .int, .int], returnType := some .boolean }, accessFlags := 9, code := some k1c1 }
/-- com/example/vigilant_mailbox/vigilantmailbox/engine/SendsClearPinLaw -/
def k1 : Class := { plain "com/example/vigilant_mailbox/vigilantmailbox/engine/SendsClearPinLaw" (some 0) with
  accessFlags := 49
  interfaces := #[]
  cf := some (fileOf pool1 34 #[] #[{ accessFlags := 1, nameIndex := 5, descriptorIndex := 6, attributes := #[] }, { accessFlags := 9, nameIndex := 38, descriptorIndex := 39, attributes := #[] }] 49 2 #[] #[])
  fields := #[]
  methods := #[k1m0, k1m1]
  instanceTypes := #[]
  staticTypes := #[]
  resolved := Array.replicate 45 none
  statics := none }

def pool2 : Array CpInfo := pool [(1, .methodref 2 3), (0, .class_ 4), (0, .nameAndType 5 6), (0, u "java/lang/Object"), (0, u "<init>"), (0, u "()V"), (0, .class_ 8), (0, u "com/example/vigilant_mailbox/vigilantmailbox/engine/Sends"), (0, .class_ 10), (0, u "[[I"), (0, .fieldref 7 12), (0, .nameAndType 13 10), (0, u "chunks"), (0, .long 4096), (1, .fieldref 7 17), (0, .nameAndType 18 19), (0, u "chunkValues"), (0, u "J"), (0, .fieldref 7 21), (0, .nameAndType 22 23), (0, u "counts"), (0, u "[I"), (0, .fieldref 7 25), (0, .nameAndType 26 27), (0, u "rowLengths"), (0, u "[J"), (0, .fieldref 7 29), (0, .nameAndType 30 23), (0, u "firstChunks"), (0, .fieldref 7 32), (0, .nameAndType 33 23), (0, u "firsts"), (0, .fieldref 7 35), (0, .nameAndType 36 23), (0, u "lastChunks"), (0, .fieldref 7 38), (0, .nameAndType 39 23), (0, u "lasts"), (0, .fieldref 7 41), (0, .nameAndType 42 23), (0, u "receivers"), (0, .fieldref 7 44), (0, .nameAndType 45 46), (0, u "receiverCount"), (0, u "I"), (0, .fieldref 7 48), (0, .nameAndType 49 46), (0, u "chunk"), (0, .fieldref 7 51), (0, .nameAndType 52 46), (0, u "length"), (0, .fieldref 7 54), (0, .nameAndType 55 46), (0, u "total"), (0, .fieldref 7 57), (0, .nameAndType 58 19), (0, u "rowLength"), (0, .long 4), (1, .methodref 62 63), (0, .class_ 64), (0, .nameAndType 65 66), (0, u "com/example/vigilant_mailbox/vigilantmailbox/engine/Capacity"), (0, u "checked"), (0, u "(J)I"), (3, u "(I)V"), (0, .methodref 72 73), (0, .class_ 74), (0, .nameAndType 75 76), (0, u "java/lang/System"), (0, u "arraycopy"), (0, u "(Ljava/lang/Object;ILjava/lang/Object;II)V"), (7, u "CHUNK"), (2, u "HEADER"), (3, u "clear"), (1, u "count"), (0, u "(I)I"), (0, u "()I"), (1, u "()J"), (0, u "(I)J"), (0, u "add"), (0, u "(II[III)V")] 4

def k2c0 : Code := { maxStack := 3, maxLocals := 2, code := prog_37_method_1_code, exceptionTable := #[], attributes := #[] }
def k2m0 : Method := { name := "<init>", desc := "(I)V", sig := { parameters := [.int], returnType := none }, accessFlags := 0, code := some k2c0 }
def k2c1 : Code := { maxStack := 4, maxLocals := 2, code := prog_37_method_2_code, exceptionTable := #[], attributes := #[] }
def k2m1 : Method := { name := "clear", desc := "()V", sig := { parameters := [], returnType := none }, accessFlags := 0, code := some k2c1 }
def k2c2 : Code := { maxStack := 2, maxLocals := 2, code := prog_37_method_3_code, exceptionTable := #[], attributes := #[] }
def k2m2 : Method := { name := "count", desc := "(I)I", sig := { parameters := [.int], returnType := some .int }, accessFlags := 0, code := some k2c2 }
def k2c3 : Code := { maxStack := 1, maxLocals := 1, code := prog_37_method_4_code, exceptionTable := #[], attributes := #[] }
def k2m3 : Method := { name := "total", desc := "()I", sig := { parameters := [], returnType := some .int }, accessFlags := 0, code := some k2c3 }
def k2c4 : Code := { maxStack := 2, maxLocals := 1, code := prog_37_method_6_code, exceptionTable := #[], attributes := #[] }
def k2m4 : Method := { name := "rowLength", desc := "()J", sig := { parameters := [], returnType := some .long }, accessFlags := 0, code := some k2c4 }
def k2c5 : Code := { maxStack := 2, maxLocals := 2, code := prog_37_method_7_code, exceptionTable := #[], attributes := #[] }
def k2m5 : Method := { name := "rowLength", desc := "(I)J", sig := { parameters := [.int], returnType := some .long }, accessFlags := 0, code := some k2c5 }
def k2c6 : Code := { maxStack := 6, maxLocals := 8, code := prog_37_method_8_code, exceptionTable := #[], attributes := #[] }
def k2m6 : Method := { name := "add", desc := "(II[III)V", sig := { parameters := [.int, .int, (.array .int), .int, .int], returnType := none }, accessFlags := 0, code := some k2c6 }
/-- com/example/vigilant_mailbox/vigilantmailbox/engine/Sends -/
def k2 : Class := { plain "com/example/vigilant_mailbox/vigilantmailbox/engine/Sends" (some 0) with
  accessFlags := 48
  interfaces := #[]
  cf := some (fileOf pool2 7 #[] #[{ accessFlags := 0, nameIndex := 5, descriptorIndex := 70, attributes := #[] }, { accessFlags := 0, nameIndex := 91, descriptorIndex := 6, attributes := #[] }, { accessFlags := 0, nameIndex := 93, descriptorIndex := 94, attributes := #[] }, { accessFlags := 0, nameIndex := 55, descriptorIndex := 95, attributes := #[] }, { accessFlags := 0, nameIndex := 58, descriptorIndex := 97, attributes := #[] }, { accessFlags := 0, nameIndex := 58, descriptorIndex := 98, attributes := #[] }, { accessFlags := 0, nameIndex := 99, descriptorIndex := 100, attributes := #[] }] 48 2 #[] #[{ accessFlags := 26, nameIndex := 84, descriptorIndex := 46, attributes := #[] }, { accessFlags := 26, nameIndex := 87, descriptorIndex := 46, attributes := #[] }, { accessFlags := 18, nameIndex := 22, descriptorIndex := 23, attributes := #[] }, { accessFlags := 18, nameIndex := 26, descriptorIndex := 27, attributes := #[] }, { accessFlags := 18, nameIndex := 30, descriptorIndex := 23, attributes := #[] }, { accessFlags := 18, nameIndex := 33, descriptorIndex := 23, attributes := #[] }, { accessFlags := 18, nameIndex := 36, descriptorIndex := 23, attributes := #[] }, { accessFlags := 18, nameIndex := 39, descriptorIndex := 23, attributes := #[] }, { accessFlags := 18, nameIndex := 42, descriptorIndex := 23, attributes := #[] }, { accessFlags := 2, nameIndex := 45, descriptorIndex := 46, attributes := #[] }, { accessFlags := 2, nameIndex := 13, descriptorIndex := 10, attributes := #[] }, { accessFlags := 2, nameIndex := 18, descriptorIndex := 19, attributes := #[] }, { accessFlags := 2, nameIndex := 49, descriptorIndex := 46, attributes := #[] }, { accessFlags := 2, nameIndex := 52, descriptorIndex := 46, attributes := #[] }, { accessFlags := 2, nameIndex := 55, descriptorIndex := 46, attributes := #[] }, { accessFlags := 2, nameIndex := 58, descriptorIndex := 19, attributes := #[] }])
  fields := #[{ name := "CHUNK", type := .int, accessFlags := 26, slot := 0, constantValue := 0 }, { name := "HEADER", type := .int, accessFlags := 26, slot := 1, constantValue := 0 }, { name := "counts", type := (.array .int), accessFlags := 18, slot := 0, constantValue := 0 }, { name := "rowLengths", type := (.array .long), accessFlags := 18, slot := 1, constantValue := 0 }, { name := "firstChunks", type := (.array .int), accessFlags := 18, slot := 2, constantValue := 0 }, { name := "firsts", type := (.array .int), accessFlags := 18, slot := 3, constantValue := 0 }, { name := "lastChunks", type := (.array .int), accessFlags := 18, slot := 4, constantValue := 0 }, { name := "lasts", type := (.array .int), accessFlags := 18, slot := 5, constantValue := 0 }, { name := "receivers", type := (.array .int), accessFlags := 18, slot := 6, constantValue := 0 }, { name := "receiverCount", type := .int, accessFlags := 2, slot := 7, constantValue := 0 }, { name := "chunks", type := (.array (.array .int)), accessFlags := 2, slot := 8, constantValue := 0 }, { name := "chunkValues", type := .long, accessFlags := 2, slot := 9, constantValue := 0 }, { name := "chunk", type := .int, accessFlags := 2, slot := 10, constantValue := 0 }, { name := "length", type := .int, accessFlags := 2, slot := 11, constantValue := 0 }, { name := "total", type := .int, accessFlags := 2, slot := 12, constantValue := 0 }, { name := "rowLength", type := .long, accessFlags := 2, slot := 13, constantValue := 0 }]
  methods := #[k2m0, k2m1, k2m2, k2m3, k2m4, k2m5, k2m6]
  instanceTypes := #[(.array .int), (.array .long), (.array .int), (.array .int), (.array .int), (.array .int), (.array .int), .int, (.array (.array .int)), .long, .int, .int, .int, .long]
  staticTypes := #[.int, .int]
  resolved := Array.replicate 105 none
  statics := none }

def pool3 : Array CpInfo := pool [(4, .class_ 6), (1, u "java/lang/Object"), (0, u "<init>"), (0, u "()V"), (0, .class_ 10), (0, u "com/example/vigilant_mailbox/vigilantmailbox/engine/Capacity"), (0, .long 2147483639), (12, u "checked"), (0, u "(J)I"), (9, u "MAXIMUM_ARRAY_LENGTH"), (0, u "I")] 24

def k3m0 : Method := { name := "<init>", desc := "()V", sig := { parameters := [], returnType := none }, accessFlags := 2, code := none }
def k3c1 : Code := { maxStack := 4, maxLocals := 2, code := prog_16_method_2_code, exceptionTable := #[], attributes := #[] }
def k3m1 : Method := { name := "checked", desc := "(J)I", sig := { parameters := [.long], returnType := some .int }, accessFlags := 8, code := some k3c1 }
/-- com/example/vigilant_mailbox/vigilantmailbox/engine/Capacity -/
def k3 : Class := { plain "com/example/vigilant_mailbox/vigilantmailbox/engine/Capacity" (some 0) with
  accessFlags := 48
  interfaces := #[]
  cf := some (fileOf pool3 9 #[] #[{ accessFlags := 2, nameIndex := 7, descriptorIndex := 8, attributes := #[] }, { accessFlags := 8, nameIndex := 24, descriptorIndex := 25, attributes := #[] }] 48 4 #[] #[{ accessFlags := 24, nameIndex := 35, descriptorIndex := 36, attributes := #[] }])
  fields := #[{ name := "MAXIMUM_ARRAY_LENGTH", type := .int, accessFlags := 24, slot := 0, constantValue := 0 }]
  methods := #[k3m0, k3m1]
  instanceTypes := #[]
  staticTypes := #[.int]
  resolved := Array.replicate 61 none
  statics := none }

def pool4 : Array CpInfo := pool [(2, .class_ 4), (1, u "java/lang/Object"), (0, u "<init>"), (0, u "()V"), (1, .class_ 10), (1, u "java/lang/System"), (0, u "allowSecurityManager"), (0, u "I"), (16, u "cons"), (0, u "Ljava/io/Console;"), (77, .class_ 110), (1, u "java/lang/System$CallersHolder"), (43, u "initialErrStream"), (0, u "Ljava/io/PrintStream;"), (19, u "security"), (0, u "Ljava/lang/SecurityManager;"), (31, .class_ 209), (0, u "java/lang/System$1"), (7, u "props"), (0, u "Ljava/util/Properties;"), (2, u "lineSeparator"), (0, u "Ljava/lang/String;"), (96, .class_ 321), (1, u "java/lang/System$LoggerFinder"), (5, .class_ 328), (0, u "java/lang/System$Logger"), (67, u "err"), (2, u "out"), (91, u "notSupportedJnuEncoding"), (15, u "in"), (17, u "initialIn"), (0, u "Ljava/io/InputStream;"), (35, u "bootLayer"), (0, u "Ljava/lang/ModuleLayer;"), (99, .class_ 664), (0, u "java/lang/System$2"), (9, u "NEVER"), (2, u "MAYBE"), (49, u "arraycopy"), (0, u "(Ljava/lang/Object;ILjava/lang/Object;II)V"), (72, .class_ 802), (0, u "java/lang/System$Logger$Level")] 31

def k4m0 : Method := { name := "<init>", desc := "()V", sig := { parameters := [], returnType := none }, accessFlags := 2, code := none }
def k4m1 : Method := { name := "arraycopy", desc := "(Ljava/lang/Object;ILjava/lang/Object;II)V", sig := { parameters := [(.object "java/lang/Object"), .int, (.object "java/lang/Object"), .int, .int], returnType := none }, accessFlags := 265, code := none }
/-- java/lang/System -/
def k4 : Class := { plain "java/lang/System" (some 0) with
  accessFlags := 49
  interfaces := #[]
  cf := some (fileOf pool4 8 #[.nestMembers #[319, 327, 801, 108, 663, 208]] #[{ accessFlags := 2, nameIndex := 5, descriptorIndex := 6, attributes := #[] }, { accessFlags := 265, nameIndex := 727, descriptorIndex := 728, attributes := #[] }] 49 2 #[] #[{ accessFlags := 25, nameIndex := 507, descriptorIndex := 526, attributes := #[] }, { accessFlags := 25, nameIndex := 399, descriptorIndex := 155, attributes := #[] }, { accessFlags := 25, nameIndex := 396, descriptorIndex := 155, attributes := #[] }, { accessFlags := 10, nameIndex := 525, descriptorIndex := 526, attributes := #[] }, { accessFlags := 26, nameIndex := 674, descriptorIndex := 12, attributes := #[] }, { accessFlags := 26, nameIndex := 677, descriptorIndex := 12, attributes := #[] }, { accessFlags := 10, nameIndex := 11, descriptorIndex := 12, attributes := #[] }, { accessFlags := 74, nameIndex := 175, descriptorIndex := 176, attributes := #[] }, { accessFlags := 10, nameIndex := 491, descriptorIndex := 222, attributes := #[] }, { accessFlags := 74, nameIndex := 29, descriptorIndex := 30, attributes := #[] }, { accessFlags := 74, nameIndex := 154, descriptorIndex := 155, attributes := #[] }, { accessFlags := 10, nameIndex := 217, descriptorIndex := 218, attributes := #[] }, { accessFlags := 10, nameIndex := 221, descriptorIndex := 222, attributes := #[] }, { accessFlags := 8, nameIndex := 562, descriptorIndex := 563, attributes := #[] }])
  fields := #[{ name := "in", type := (.object "java/io/InputStream"), accessFlags := 25, slot := 0, constantValue := 0 }, { name := "out", type := (.object "java/io/PrintStream"), accessFlags := 25, slot := 1, constantValue := 0 }, { name := "err", type := (.object "java/io/PrintStream"), accessFlags := 25, slot := 2, constantValue := 0 }, { name := "initialIn", type := (.object "java/io/InputStream"), accessFlags := 10, slot := 3, constantValue := 0 }, { name := "NEVER", type := .int, accessFlags := 26, slot := 4, constantValue := 0 }, { name := "MAYBE", type := .int, accessFlags := 26, slot := 5, constantValue := 0 }, { name := "allowSecurityManager", type := .int, accessFlags := 10, slot := 6, constantValue := 0 }, { name := "security", type := (.object "java/lang/SecurityManager"), accessFlags := 74, slot := 7, constantValue := 0 }, { name := "notSupportedJnuEncoding", type := (.object "java/lang/String"), accessFlags := 10, slot := 8, constantValue := 0 }, { name := "cons", type := (.object "java/io/Console"), accessFlags := 74, slot := 9, constantValue := 0 }, { name := "initialErrStream", type := (.object "java/io/PrintStream"), accessFlags := 74, slot := 10, constantValue := 0 }, { name := "props", type := (.object "java/util/Properties"), accessFlags := 10, slot := 11, constantValue := 0 }, { name := "lineSeparator", type := (.object "java/lang/String"), accessFlags := 10, slot := 12, constantValue := 0 }, { name := "bootLayer", type := (.object "java/lang/ModuleLayer"), accessFlags := 8, slot := 13, constantValue := 0 }]
  methods := #[k4m0, k4m1]
  instanceTypes := #[]
  staticTypes := #[(.object "java/io/InputStream"), (.object "java/io/PrintStream"), (.object "java/io/PrintStream"), (.object "java/io/InputStream"), .int, .int, .int, (.object "java/lang/SecurityManager"), (.object "java/lang/String"), (.object "java/io/Console"), (.object "java/io/PrintStream"), (.object "java/util/Properties"), (.object "java/lang/String"), (.object "java/lang/ModuleLayer")]
  resolved := Array.replicate 834 none
  statics := none }

def pool5 : Array CpInfo := pool [(1, u "java/lang/Cloneable"), (0, .class_ 1), (0, u "java/lang/Object"), (0, .class_ 3)] 3

/-- java/lang/Cloneable -/
def k5 : Class := { plain "java/lang/Cloneable" (some 0) with
  accessFlags := 1537
  interfaces := #[]
  cf := some (fileOf pool5 2 #[] #[] 1537 4 #[] #[])
  fields := #[]
  methods := #[]
  instanceTypes := #[]
  staticTypes := #[]
  resolved := Array.replicate 8 none
  statics := none }

def pool6 : Array CpInfo := pool [(1, u "java/io/Serializable"), (0, .class_ 1), (0, u "java/lang/Object"), (0, .class_ 3)] 3

/-- java/io/Serializable -/
def k6 : Class := { plain "java/io/Serializable" (some 0) with
  accessFlags := 1537
  interfaces := #[]
  cf := some (fileOf pool6 2 #[] #[] 1537 4 #[] #[])
  fields := #[]
  methods := #[]
  instanceTypes := #[]
  staticTypes := #[]
  resolved := Array.replicate 8 none
  statics := none }

/-- the primitive byte -/
def k7 : Class := { plain "byte" none with kind := .primitive 'B', accessFlags := 0x411 }
/-- [B -/
def k8 : Class := { plain "[B" (some 0) with kind := .array 7 .byte, interfaces := #[5, 6], accessFlags := 1041 }

/-- the primitive int -/
def k9 : Class := { plain "int" none with kind := .primitive 'I', accessFlags := 0x411 }
/-- [I -/
def k10 : Class := { plain "[I" (some 0) with kind := .array 9 .int, interfaces := #[5, 6], accessFlags := 1041 }

/-- the primitive long -/
def k11 : Class := { plain "long" none with kind := .primitive 'J', accessFlags := 0x411 }
/-- [J -/
def k12 : Class := { plain "[J" (some 0) with kind := .array 11 .long, interfaces := #[5, 6], accessFlags := 1041 }

/-- [[I -/
def k13 : Class := { plain "[[I" (some 0) with kind := .array 10 (.array .int), interfaces := #[5, 6], accessFlags := 1041 }

def heap : Heap := #[]
def classes : Array Class := #[k0, k1, k2, k3, k4, k5, k6, k7, k8, k9, k10, k11, k12, k13]
def interned : List (Array UInt16 × Addr) := []
def slotsUsed : Nat := 0
def theMethod : MethodId := ⟨1, 1⟩
def args0 : Array Value := #[.int 5, .int 6, .int 7, .int 8, .int 9, .int 3]
def aboutOver (below : List Frame) : State where
  vm := { classes := classes, interned := interned.toArray }
  heap := heap
  slotsUsed := slotsUsed
  threads := #[{ frames := .invoking theMethod args0 :: below }]
def below0 : List Frame := [.native { method := ⟨0, 0⟩, args := #[] }]
def about1 : State := aboutOver below0
def p0 : Program := .bare "" "" ""
def e0 : Env := launch0.env 0 0 0
theorem w_frames : about1.frames = Frame.invoking theMethod args0 :: below0 := rfl
set_option maxRecDepth 65536 in
theorem w_args : argsFit about1.vm theMethod args0 = true := by decide +kernel
set_option maxRecDepth 65536 in
theorem w_heap : heapFits about1 = true := by decide +kernel
set_option maxRecDepth 65536 in
theorem w_runnable : about1.curStatus? = some .runnable := by decide +kernel
set_option maxRecDepth 65536 in
theorem w_alone : about1.alone = true := by decide +kernel
set_option maxRecDepth 65536 in
theorem w_named : about1.methodNamed? x = some theMethod := by decide +kernel
set_option maxRecDepth 65536 in
theorem w_hears : about1.hears theMethod below0 = true := by decide +kernel
set_option maxRecDepth 65536 in
theorem w_ripe : about1.ripe theMethod args0 below0 = true := by decide +kernel
theorem w_running : about1.status = .running := rfl
set_option maxRecDepth 65536 in
theorem w_room : about1.hasRoom e0.platform room_1 = true :=
  launch0.hasRoom_least _ room_1 (by decide +kernel) (by decide +kernel) (by decide +kernel) (by decide +kernel) (by decide +kernel) (by decide +kernel)
theorem allAtoms_all (ts : List Jvm.Cond) (a : Array Jvm.Value) (st : Jvm.State) : (allAtoms ts).before a st = ts.all (fun c => c.before a st) := by
  induction ts with
  | nil => rfl
  | cons c t ih =>
    show (Jvm.Cond.and c (allAtoms t)).before a st = _
    rw [Jvm.Cond.before_and, ih, List.all_cons]
def words1 : List Jvm.Cond := Jvm.Cond.code x code maxLocals ret :: tables_1
/-- a 'code' word, met by the world's own term for the bytes: nothing is compared byte by byte -/
theorem code_word {y : MethodName} {bytes : ByteArray} {mx : Nat} {rt : Option FieldType} {a : Array Value} {s : State} {m : MethodId} {meth : Method} {c : Code} (h1 : s.methodNamed? y = some m) (h2 : s.vm.method? m = some meth) (h3 : meth.code = some c) (h4 : c.code = bytes)
    (h5 : (c.maxLocals == mx && c.exceptionTable.isEmpty && decide (c.maxStack ≤ mostOperands) && decide (meth.sig.returnType = rt) && !meth.locks && decide (parseMethodDescriptor y.desc = some meth.sig)) = true) : (Jvm.Cond.code y bytes mx rt).before a s = true := by
  simp only [Bool.and_eq_true, beq_iff_eq, Bool.not_eq_true', decide_eq_true_eq] at h5
  obtain ⟨⟨⟨⟨⟨g1, g2⟩, g3⟩, g4⟩, g5⟩, g6⟩ := h5
  simp [Cond.before, Cond.holds, Cond.value, h1, h2, h3, h4, g1, g2, g3, g4, g5, g6]
def isCode : Jvm.Cond → Bool
  | .code _ _ _ _ => true
  | _ => false
theorem all_split {L : List Jvm.Cond} {P : Jvm.Cond → Bool} (h1 : L.all (fun c => isCode c || P c) = true) (h2 : ∀ c ∈ L.filter isCode, P c = true) : L.all P = true := by
  refine List.all_eq_true.mpr fun c hc => ?_
  have h := List.all_eq_true.mp h1 c hc
  rcases Bool.eq_false_or_eq_true (isCode c) with hi | hi
  · exact h2 c (List.mem_filter.mpr ⟨hc, hi⟩)
  · simpa [hi] using h
set_option maxRecDepth 65536 in
theorem w_c0 : (Jvm.Cond.code x code maxLocals ret).before args0 about1 = true := code_word (m := ⟨1, 1⟩) (meth := k1m1) (c := k1c1) (by decide +kernel) rfl rfl rfl (by decide +kernel)
set_option maxRecDepth 65536 in
theorem w_c1 : (Jvm.Cond.code ({ cls := "com/example/vigilant_mailbox/vigilantmailbox/engine/Sends", name := "<init>", desc := "(I)V" } : Jvm.MethodName) prog_37_method_1_code (2 : Nat) (Option.none : Option Jvm.ClassFile.FieldType)).before args0 about1 = true := code_word (m := ⟨2, 0⟩) (meth := k2m0) (c := k2c0) (by decide +kernel) rfl rfl rfl (by decide +kernel)
set_option maxRecDepth 65536 in
theorem w_c2 : (Jvm.Cond.code ({ cls := "java/lang/Object", name := "<init>", desc := "()V" } : Jvm.MethodName) object_method_1_code (1 : Nat) (Option.none : Option Jvm.ClassFile.FieldType)).before args0 about1 = true := code_word (m := ⟨0, 0⟩) (meth := k0m0) (c := k0c0) (by decide +kernel) rfl rfl rfl (by decide +kernel)
set_option maxRecDepth 65536 in
theorem w_c3 : (Jvm.Cond.code ({ cls := "com/example/vigilant_mailbox/vigilantmailbox/engine/Sends", name := "add", desc := "(II[III)V" } : Jvm.MethodName) prog_37_method_8_code (8 : Nat) (Option.none : Option Jvm.ClassFile.FieldType)).before args0 about1 = true := code_word (m := ⟨2, 6⟩) (meth := k2m6) (c := k2c6) (by decide +kernel) rfl rfl rfl (by decide +kernel)
set_option maxRecDepth 65536 in
theorem w_c4 : (Jvm.Cond.code ({ cls := "com/example/vigilant_mailbox/vigilantmailbox/engine/Capacity", name := "checked", desc := "(J)I" } : Jvm.MethodName) prog_16_method_2_code (2 : Nat) (Option.some Jvm.ClassFile.FieldType.int)).before args0 about1 = true := code_word (m := ⟨3, 1⟩) (meth := k3m1) (c := k3c1) (by decide +kernel) rfl rfl rfl (by decide +kernel)
set_option maxRecDepth 65536 in
theorem w_c5 : (Jvm.Cond.code ({ cls := "com/example/vigilant_mailbox/vigilantmailbox/engine/Sends", name := "clear", desc := "()V" } : Jvm.MethodName) prog_37_method_2_code (2 : Nat) (Option.none : Option Jvm.ClassFile.FieldType)).before args0 about1 = true := code_word (m := ⟨2, 1⟩) (meth := k2m1) (c := k2c1) (by decide +kernel) rfl rfl rfl (by decide +kernel)
set_option maxRecDepth 65536 in
theorem w_c6 : (Jvm.Cond.code ({ cls := "com/example/vigilant_mailbox/vigilantmailbox/engine/Sends", name := "count", desc := "(I)I" } : Jvm.MethodName) prog_37_method_3_code (2 : Nat) (Option.some Jvm.ClassFile.FieldType.int)).before args0 about1 = true := code_word (m := ⟨2, 2⟩) (meth := k2m2) (c := k2c2) (by decide +kernel) rfl rfl rfl (by decide +kernel)
set_option maxRecDepth 65536 in
theorem w_c7 : (Jvm.Cond.code ({ cls := "com/example/vigilant_mailbox/vigilantmailbox/engine/Sends", name := "rowLength", desc := "(I)J" } : Jvm.MethodName) prog_37_method_7_code (2 : Nat) (Option.some Jvm.ClassFile.FieldType.long)).before args0 about1 = true := code_word (m := ⟨2, 5⟩) (meth := k2m5) (c := k2c5) (by decide +kernel) rfl rfl rfl (by decide +kernel)
set_option maxRecDepth 65536 in
theorem w_c8 : (Jvm.Cond.code ({ cls := "com/example/vigilant_mailbox/vigilantmailbox/engine/Sends", name := "total", desc := "()I" } : Jvm.MethodName) prog_37_method_4_code (1 : Nat) (Option.some Jvm.ClassFile.FieldType.int)).before args0 about1 = true := code_word (m := ⟨2, 3⟩) (meth := k2m3) (c := k2c3) (by decide +kernel) rfl rfl rfl (by decide +kernel)
set_option maxRecDepth 65536 in
theorem w_c9 : (Jvm.Cond.code ({ cls := "com/example/vigilant_mailbox/vigilantmailbox/engine/Sends", name := "rowLength", desc := "()J" } : Jvm.MethodName) prog_37_method_6_code (1 : Nat) (Option.some Jvm.ClassFile.FieldType.long)).before args0 about1 = true := code_word (m := ⟨2, 4⟩) (meth := k2m4) (c := k2c4) (by decide +kernel) rfl rfl rfl (by decide +kernel)
def codes1 : List Jvm.Cond := [Jvm.Cond.code x code maxLocals ret, Jvm.Cond.code ({ cls := "com/example/vigilant_mailbox/vigilantmailbox/engine/Sends", name := "<init>", desc := "(I)V" } : Jvm.MethodName) prog_37_method_1_code (2 : Nat) (Option.none : Option Jvm.ClassFile.FieldType), Jvm.Cond.code ({ cls := "java/lang/Object", name := "<init>", desc := "()V" } : Jvm.MethodName) object_method_1_code (1 : Nat) (Option.none : Option Jvm.ClassFile.FieldType), Jvm.Cond.code ({ cls := "com/example/vigilant_mailbox/vigilantmailbox/engine/Sends", name := "add", desc := "(II[III)V" } : Jvm.MethodName) prog_37_method_8_code (8 : Nat) (Option.none : Option Jvm.ClassFile.FieldType), Jvm.Cond.code ({ cls := "com/example/vigilant_mailbox/vigilantmailbox/engine/Capacity", name := "checked", desc := "(J)I" } : Jvm.MethodName) prog_16_method_2_code (2 : Nat) (Option.some Jvm.ClassFile.FieldType.int), Jvm.Cond.code ({ cls := "com/example/vigilant_mailbox/vigilantmailbox/engine/Sends", name := "clear", desc := "()V" } : Jvm.MethodName) prog_37_method_2_code (2 : Nat) (Option.none : Option Jvm.ClassFile.FieldType), Jvm.Cond.code ({ cls := "com/example/vigilant_mailbox/vigilantmailbox/engine/Sends", name := "count", desc := "(I)I" } : Jvm.MethodName) prog_37_method_3_code (2 : Nat) (Option.some Jvm.ClassFile.FieldType.int), Jvm.Cond.code ({ cls := "com/example/vigilant_mailbox/vigilantmailbox/engine/Sends", name := "rowLength", desc := "(I)J" } : Jvm.MethodName) prog_37_method_7_code (2 : Nat) (Option.some Jvm.ClassFile.FieldType.long), Jvm.Cond.code ({ cls := "com/example/vigilant_mailbox/vigilantmailbox/engine/Sends", name := "total", desc := "()I" } : Jvm.MethodName) prog_37_method_4_code (1 : Nat) (Option.some Jvm.ClassFile.FieldType.int), Jvm.Cond.code ({ cls := "com/example/vigilant_mailbox/vigilantmailbox/engine/Sends", name := "rowLength", desc := "()J" } : Jvm.MethodName) prog_37_method_6_code (1 : Nat) (Option.some Jvm.ClassFile.FieldType.long)]
set_option maxRecDepth 65536 in
theorem codes_eq : words1.filter isCode = codes1 := rfl
theorem w_codes : ∀ c ∈ words1.filter isCode, c.before args0 about1 = true := by
  rw [codes_eq]
  intro c hc
  simp only [codes1, List.mem_cons, List.not_mem_nil, or_false] at hc
  rcases hc with rfl | rfl | rfl | rfl | rfl | rfl | rfl | rfl | rfl | rfl
  · exact w_c0
  · exact w_c1
  · exact w_c2
  · exact w_c3
  · exact w_c4
  · exact w_c5
  · exact w_c6
  · exact w_c7
  · exact w_c8
  · exact w_c9
set_option maxRecDepth 65536 in
theorem w_t1 : (words1.take 24).all (fun c => isCode c || c.before args0 about1) = true := by decide +kernel
set_option maxRecDepth 65536 in
theorem w_t2 : ((words1.drop 24).take 24).all (fun c => isCode c || c.before args0 about1) = true := by decide +kernel
set_option maxRecDepth 65536 in
theorem w_t3 : (((words1.drop 24).drop 24).take 24).all (fun c => isCode c || c.before args0 about1) = true := by decide +kernel
set_option maxRecDepth 65536 in
theorem w_t4 : (((words1.drop 24).drop 24).drop 24).all (fun c => isCode c || c.before args0 about1) = true := by decide +kernel
theorem w_tables : (allAtoms (Jvm.Cond.code x code maxLocals ret :: tables_1)).before args0 about1 = true := by
  rw [allAtoms_all]
  show words1.all (fun c => c.before args0 about1) = true
  refine all_split ?_ w_codes
  rw [← List.take_append_drop 24 words1, List.all_append, w_t1, ← List.take_append_drop 24 (words1.drop 24), List.all_append, w_t2, ← List.take_append_drop 24 ((words1.drop 24).drop 24), List.all_append, w_t3, w_t4]
  rfl
set_option maxRecDepth 65536 in
theorem w_case : (Jvm.Cond.and given_1 narrow_1).before args0 about1 = true := by decide +kernel
theorem w_applies : (headSpec (Jvm.Cond.code x code maxLocals ret :: tables_1) room_1).applies x e0.platform about1 = true :=
  (Spec.applies_iff w_frames).mpr ⟨w_running, w_runnable, w_alone, w_named, w_hears, w_ripe, w_room, w_tables⟩
theorem atStart : AtStart classFile x code maxLocals ret World_1 tables_1 room_1 Calls_1 rest_1 Pre_1 launch0 p0 e0 about1 theMethod args0 below0 :=
  ⟨lists_1, trivial, launch0.admits_env _ _ _, launch0.least_env, fairChoices_fair.cas, fairChoices_fair.clock, w_frames, w_args, w_heap, w_applies, trivial, trivial, w_case⟩
end start1
theorem witness_1 : WitnessClaimed_1 := ⟨start1.p0, start1.e0, start1.about1, start1.theMethod, start1.args0, start1.below0, start1.atStart⟩
end Jvm.Pilot.@@N@@
