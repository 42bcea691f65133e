import JvmDerived
import JvmDerived.Pilot.@@N@@Statement
import JvmDerived.Pilot.@@N@@Code
set_option linter.unusedVariables false
set_option linter.unusedSimpArgs false
namespace Jvm.Own
open Jvm Jvm.ClassFile Sem Op Lib Jvm.Free Jvm.Stand Jvm.LawKit Jvm.RoadKit
/-- where the run stands: nothing older than n0 is written, the heap is h -/
def Sd (p : Program) (l : Launch) (e : Env) (R : Room) (s : State) (m : MethodId) (args : Array Value) (below : List Frame) (meth : Method) (c : Code) (n0 : Nat) (T : State) (h : Heap) (cells slots : Nat) : Prop :=
  ∃ locs, Stand p l e R s m args below meth c T locs cells slots ∧ Fr n0 locs ∧ T.heap = h
/-- what a walk knows throughout -/
def Wk (p : Program) (l : Launch) (e : Env) (R : Room) (s : State) (m : MethodId) (args : Array Value) (below : List Frame) (meth : Method) (c : Code) (n0 : Nat) (Z : State) (own nm : String) (bc : ByteArray) (ml : Nat) (rt : Option FieldType) (Q : Option Value → Heap → Prop) (G : State → Prop) : Prop :=
  (∀ S S' : State, (∀ t, Steps p.tables e below S' t → Steps p.tables e below S t) → G S' → G S) ∧
  p.tables.exec = Jvm.exec ∧ c.code = bc ∧ c.maxLocals = ml ∧ Z.Warmed39 s.vm ∧ s.vm.findClass own = some m.cls ∧ meth.sig.returnType = rt ∧ meth.name = nm ∧
  (∀ (T : State) (h : Heap) (cells slots : Nat) (v : Option Value), Sd p l e R s m args below meth c n0 T h cells slots → cells ≤ R.cells → slots ≤ R.slots → (meth.sig.returnType = none → v = none) → Q v h →
    ∀ S : State, (∀ fs : List Frame, (∀ (f : JFrame) (acts : List Action), f.method = m → f.locked = none → f.entered = [] → (doReturn e (T.setTop f) acts v).1 = T.setFrames fs) → Steps p.tables e below S (T.setFrames fs)) → G S)
/-- a body's contract -/
abbrev Met (l : Launch) (Z : State) (x : MethodName) (bc : ByteArray) (ml : Nat) (rt : Option FieldType) (ws : List Jvm.Cond) (rm : Room) (av : Array Value) (h : Heap) (n0 : Nat) (Q : Option Value → Heap → Prop) : Prop :=
  MetFree l x (head1 (Jvm.Cond.code x bc ml rt :: ws) rm) (fun a U => a = av ∧ Z.Warmed39 U.vm ∧ U.heap = h) (fun _ _ _ _ _ => True) (fun _ U o U' => ∃ v L, o = .returned v ∧ (Q v U'.heap ∧ Fr n0 L) ∧ FrameEnd U o U' L rm.cells rm.slots)
def RI (P : Int32 → Heap → Prop) (v : Option Value) (h : Heap) : Prop := ∃ r, v = some (.int r) ∧ P r h
def RJ (P : Int64 → Heap → Prop) (v : Option Value) (h : Heap) : Prop := ∃ r, v = some (.long r) ∧ P r h
def RR (P : Value → Heap → Prop) (v : Option Value) (h : Heap) : Prop := ∃ r, v = some r ∧ P r h
def RV (P : Heap → Prop) (v : Option Value) (h : Heap) : Prop := v = none ∧ P h
section Law
variable {p : Program} {l : Launch} {e : Env} {R : Room} {s : State} {m : MethodId} {args : Array Value} {below : List Frame} {meth : Method} {c : Code} {n0 : Nat} {T : State} {h : Heap} {cells slots : Nat} {Z : State} {a0 : Array Value} {own nm : String} {bc : ByteArray} {ml : Nat} {rt : Option FieldType} {Q : Option Value → Heap → Prop} {G : State → Prop}
variable {pc : Nat} {ls : Array Slot} {st : List Value}
theorem nf_same {s : State} {a : Array Value} {C : String} {y y' : MethodName} (hs : (Cond.selects C y' y').before a s = true) (hi : (Cond.instanceMethod y').before a s = true) (hc : y'.cls = y.cls) : NotFace s y := fun r0 h0 => by
  obtain ⟨mk, methM, hn, -⟩ := Cond.instanceMethod_spec hi
  have h1 := findClass_of_methodNamed h0
  have h2 := findClass_of_methodNamed hn
  rw [hc] at h2
  have e : r0.cls = mk.cls := Option.some.inj (h1.symm.trans h2)
  rw [e]
  exact notFace_of_selects hs mk hn
theorem privB {p : Program} {l : Launch} {e : Env} {R : Room} {s : State} {m : MethodId} {args : Array Value} {below : List Frame} {meth : Method} {c : Code} {T : State} {locs : List Loc} {cells slots : Nat} (X : Stand p l e R s m args below meth c T locs cells slots) (hexec : p.tables.exec = Jvm.exec) {own : String} {index : Nat} {y : MethodName} {bytes : ByteArray} {maxL : Nat} {ret : Option FieldType}
    (hown : s.vm.findClass own = some m.cls) (hlink : (Cond.methodLink own index y).before args s = true) (hinst : (Cond.instanceMethod y).before args s = true) (hnf : NotFace s y)
    (hpriv : s.PrivateAt y) (hcode : (Cond.code y bytes maxL ret).before args s = true) (hy : y.cls ≠ "java/lang/invoke/MethodHandle" ∧ y.cls ≠ "java/lang/invoke/VarHandle")
    {W : Nat} {Pre : Free.Pt → Array Value → Prop} {Post : Free.Pt → Array Value → Option Value → Free.Pt → Prop} (hK : Free.Back l R p e below s args y 3 W Pre Post)
    {g : JFrame} (hg : g.method = m) (hsize : g.locals.size = c.maxLocals) {s₀ : State} (hcome : Steps p.tables e below s₀ (T.setTop g)) {a : Addr} {cell : Cell} (hcell : T.heap[a]? = some cell) (hobj : ∀ q, cell.vm ≠ .statics q)
    {argsL rest : List Value} (hlen : ∀ sig, parseMethodDescriptor y.desc = some sig → argsL.length = sig.parameters.length)
    (hstack : g.stack = argsL.reverse ++ .ref a :: rest) (hW : 2 * g.monitorRoom + (rest.map fun v => v.category).sum ≤ W) (hdg : decode c.code g.pc = .ok (.invokevirtual index, 3))
    (hpre : ∀ vm₁, s.WarmedH vm₁ → Pre ⟨T.setVm vm₁, locs, cells, slots⟩ (.ref a :: argsL).toArray) :
    ∃ (v : Option Value) (vm₁ : Vm) (B : Free.Pt), s.WarmedH vm₁ ∧ Stand p l e R s m args below meth c B.U B.locs B.cells B.slots ∧ Post ⟨T.setVm vm₁, locs, cells, slots⟩ (.ref a :: argsL).toArray v B ∧
      Steps p.tables e below s₀ (B.U.setTop { g with pc := g.pc + 3, stack := v.toList ++ rest }) := by
  obtain ⟨mk, methM, hnamed, hmethM, hstM, habM⟩ := Cond.instanceMethod_spec hinst
  obtain ⟨methM', cM, hmethM', -, -, -, -, -, -, hsigM⟩ := Cond.code_spec hnamed hcode
  cases hmethM.symm.trans hmethM'
  obtain ⟨kP, hkP, hkPi⟩ := hnf mk hnamed
  have hselP : selectMethod e.platform s.vm cell.cls mk = .method mk := selectMethod_private hmethM (hpriv mk methM hnamed hmethM)
  obtain ⟨vm₁, X₁, hstep₁⟩ := X.invokevirtual hexec hown hlink hnamed hmethM hstM hkP hkPi hy (a := a) (cell := cell) hcell hobj hselP hmethM habM hkP hkPi (g := g) hg (argsL := argsL) (rest := rest) (hlen _ hsigM) hstack hdg
  obtain ⟨v, B, X', hpost, hsteps⟩ := hK m meth c ⟨T.setVm vm₁, locs, cells, slots⟩ { g with stack := rest } (.invokevirtual index) mk (.ref a :: argsL).toArray X₁ hg hsize hdg hW (X₁.named hnamed) (hpre vm₁ X₁.warmed)
  exact ⟨v, vm₁, B, X₁.warmed, X', hpost, (hcome.trans (hstep₁ _ fun acts => by rw [doInvoke_state]; exact Steps.refl _)).trans hsteps⟩
theorem start {x : MethodName} {ws : List Jvm.Cond} {rm : Room} {av : Array Value} (hpl : plainFor x = true) (hef : ∀ m, entryFrame m av ml = mkF m 0 ls [])
    (body : ∀ (p : Program) (e : Env) (s : State) (m : MethodId) (below : List Frame) (meth : Method) (c : Code) (T : State) (G : State → Prop), Wk p l e rm s m av below meth c n0 Z x.cls x.name bc ml rt Q G → Sd p l e rm s m av below meth c n0 T h 0 0 → G (T.setTop (mkF m 0 ls []))) :
    Met l Z x bc ml rt ws rm av h n0 Q := by
  refine MetFree.of_bodySF hpl hisR ?_
  intro p e s m args below meth c s₁ Bd hml0 hP hK
  obtain ⟨rfl, hZ, hh⟩ := hP
  have X0 : Stand p l e rm s m args below meth c s₁ [] 0 0 := Stand.of_body Bd
  have e0 : s₁.heap = h := by rw [← hh, Bd.state]; rfl
  rw [hef m]
  refine body p e s m below meth c s₁ (fun S => ∃ s₂ o, Steps p.tables e below S s₂ ∧ s₂.status = .running ∧ Ended s₂ below o ∧ ∃ v L, o = .returned v ∧ (Q v s₂.heap ∧ Fr n0 L) ∧ FrameEnd s o s₂ L rm.cells rm.slots)
    ⟨fun S S' hs hg => ?_, Bd.exec, Bd.bytes, hml0, hZ, findClass_of_methodNamed Bd.named, Bd.returns, (name_of_methodNamed Bd.named Bd.method).1, ?_⟩ ⟨[], X0, Fr.nil n0, e0⟩
  · obtain ⟨s2, o, h1, h2⟩ := hg
    exact ⟨s2, o, hs _ h1, h2⟩
  · intro T h cells slots v ⟨locs, X, N, eT⟩ hc hl hv hQ S hS
    obtain ⟨fs, hr, hrun, hended, hW, hsame⟩ := X.leave (v := v) hv Bd.notSynchronized
    subst eT
    exact ⟨_, _, hS fs hr, hrun, hended, v, locs, rfl, ⟨hQ, N⟩, ⟨_, rfl⟩, hW, hsame.mono hc hl⟩
theorem Sd.mono {cells' slots' : Nat} (X : Sd p l e R s m args below meth c n0 T h cells slots) (hc : cells ≤ cells') (hl : slots ≤ slots') : Sd p l e R s m args below meth c n0 T h cells' slots' := by
  obtain ⟨locs, X, N, eT⟩ := X
  exact ⟨locs, { X with same := X.same.mono hc hl }, N, eT⟩

theorem aloadN (w : Wk p l e R s m args below meth c n0 Z own nm bc ml rt Q G) (X : Sd p l e R s m args below meth c n0 T h cells slots) {k : Fin 4} {v : Value} (hd : decode bc pc = .ok (.aload_n k, 1)) (pc' : Nat) (hp : pc + 1 = pc') (hl : ls[k.val]? = some (.val v)) (hv : v.isRef = true) (k : G (T.setTop (mkF m pc' ls (v :: st)))) : G (T.setTop (mkF m pc ls st)) := by
  obtain ⟨locs, Y, -, -⟩ := X
  subst hp
  exact w.1 _ _ (fun t q => XS.aloadN Y.here w.2.1 rfl (hb w.2.2.1 hd) hl hv q) k
theorem aload (w : Wk p l e R s m args below meth c n0 Z own nm bc ml rt Q G) (X : Sd p l e R s m args below meth c n0 T h cells slots) {k : Nat} {v : Value} (hd : decode bc pc = .ok (.aload k, 2)) (pc' : Nat) (hp : pc + 2 = pc') (hl : ls[k]? = some (.val v)) (hv : v.isRef = true) (k : G (T.setTop (mkF m pc' ls (v :: st)))) : G (T.setTop (mkF m pc ls st)) := by
  obtain ⟨locs, Y, -, -⟩ := X
  subst hp
  exact w.1 _ _ (fun t q => XS.aload Y.here w.2.1 rfl (hb w.2.2.1 hd) hl hv q) k
theorem iloadN (w : Wk p l e R s m args below meth c n0 Z own nm bc ml rt Q G) (X : Sd p l e R s m args below meth c n0 T h cells slots) {k : Fin 4} {v : Int32} (hd : decode bc pc = .ok (.iload_n k, 1)) (pc' : Nat) (hp : pc + 1 = pc') (hl : ls[k.val]? = some (.val (.int v))) (k : G (T.setTop (mkF m pc' ls (.int v :: st)))) : G (T.setTop (mkF m pc ls st)) := by
  obtain ⟨locs, Y, -, -⟩ := X
  subst hp
  exact w.1 _ _ (fun t q => XS.iloadN Y.here w.2.1 rfl (hb w.2.2.1 hd) hl q) k
theorem iload (w : Wk p l e R s m args below meth c n0 Z own nm bc ml rt Q G) (X : Sd p l e R s m args below meth c n0 T h cells slots) {k : Nat} {v : Int32} (hd : decode bc pc = .ok (.iload k, 2)) (pc' : Nat) (hp : pc + 2 = pc') (hl : ls[k]? = some (.val (.int v))) (k : G (T.setTop (mkF m pc' ls (.int v :: st)))) : G (T.setTop (mkF m pc ls st)) := by
  obtain ⟨locs, Y, -, -⟩ := X
  subst hp
  exact w.1 _ _ (fun t q => XS.iload Y.here w.2.1 rfl (hb w.2.2.1 hd) hl q) k
theorem lloadN (w : Wk p l e R s m args below meth c n0 Z own nm bc ml rt Q G) (X : Sd p l e R s m args below meth c n0 T h cells slots) {k : Fin 4} {v : Int64} (hd : decode bc pc = .ok (.lload_n k, 1)) (pc' : Nat) (hp : pc + 1 = pc') (hl : ls[k.val]? = some (.val (.long v))) (k : G (T.setTop (mkF m pc' ls (.long v :: st)))) : G (T.setTop (mkF m pc ls st)) := by
  obtain ⟨locs, Y, -, -⟩ := X
  subst hp
  exact w.1 _ _ (fun t q => XT.lloadN Y.here w.2.1 rfl (hb w.2.2.1 hd) hl q) k
theorem lload (w : Wk p l e R s m args below meth c n0 Z own nm bc ml rt Q G) (X : Sd p l e R s m args below meth c n0 T h cells slots) {k : Nat} {v : Int64} (hd : decode bc pc = .ok (.lload k, 2)) (pc' : Nat) (hp : pc + 2 = pc') (hl : ls[k]? = some (.val (.long v))) (k : G (T.setTop (mkF m pc' ls (.long v :: st)))) : G (T.setTop (mkF m pc ls st)) := by
  obtain ⟨locs, Y, -, -⟩ := X
  subst hp
  exact w.1 _ _ (fun t q => XT.lload Y.here w.2.1 rfl (hb w.2.2.1 hd) hl q) k
theorem istoreN (w : Wk p l e R s m args below meth c n0 Z own nm bc ml rt Q G) (X : Sd p l e R s m args below meth c n0 T h cells slots) {k : Fin 4} {x : Int32} (z : Int32) (hd : decode bc pc = .ok (.istore_n k, 1)) (pc' : Nat) (hp : pc + 1 = pc') (hz : z = x) (l' : Array Slot) (hl : storeLocals ls k.val (.int z) = some l') (k : G (T.setTop (mkF m pc' l' st))) : G (T.setTop (mkF m pc ls (.int x :: st))) := by
  obtain ⟨locs, Y, -, -⟩ := X
  subst hp
  subst hz
  exact w.1 _ _ (fun t q => XS.istoreN Y.here w.2.1 rfl (hb w.2.2.1 hd) rfl hl q) k
theorem istore (w : Wk p l e R s m args below meth c n0 Z own nm bc ml rt Q G) (X : Sd p l e R s m args below meth c n0 T h cells slots) {k : Nat} {x : Int32} (z : Int32) (hd : decode bc pc = .ok (.istore k, 2)) (pc' : Nat) (hp : pc + 2 = pc') (hz : z = x) (l' : Array Slot) (hl : storeLocals ls k (.int z) = some l') (k : G (T.setTop (mkF m pc' l' st))) : G (T.setTop (mkF m pc ls (.int x :: st))) := by
  obtain ⟨locs, Y, -, -⟩ := X
  subst hp
  subst hz
  exact w.1 _ _ (fun t q => XS.istore Y.here w.2.1 rfl (hb w.2.2.1 hd) rfl hl q) k
theorem lstoreN (w : Wk p l e R s m args below meth c n0 Z own nm bc ml rt Q G) (X : Sd p l e R s m args below meth c n0 T h cells slots) {k : Fin 4} {x : Int64} (z : Int64) (hd : decode bc pc = .ok (.lstore_n k, 1)) (pc' : Nat) (hp : pc + 1 = pc') (hz : z = x) (l' : Array Slot) (hl : storeLocals ls k.val (.long z) = some l') (k : G (T.setTop (mkF m pc' l' st))) : G (T.setTop (mkF m pc ls (.long x :: st))) := by
  obtain ⟨locs, Y, -, -⟩ := X
  subst hp
  subst hz
  exact w.1 _ _ (fun t q => XT.lstoreN Y.here w.2.1 rfl (hb w.2.2.1 hd) rfl hl q) k
theorem lstore (w : Wk p l e R s m args below meth c n0 Z own nm bc ml rt Q G) (X : Sd p l e R s m args below meth c n0 T h cells slots) {k : Nat} {x : Int64} (z : Int64) (hd : decode bc pc = .ok (.lstore k, 2)) (pc' : Nat) (hp : pc + 2 = pc') (hz : z = x) (l' : Array Slot) (hl : storeLocals ls k (.long z) = some l') (k : G (T.setTop (mkF m pc' l' st))) : G (T.setTop (mkF m pc ls (.long x :: st))) := by
  obtain ⟨locs, Y, -, -⟩ := X
  subst hp
  subst hz
  exact w.1 _ _ (fun t q => XT.lstore Y.here w.2.1 rfl (hb w.2.2.1 hd) rfl hl q) k
theorem astoreN (w : Wk p l e R s m args below meth c n0 Z own nm bc ml rt Q G) (X : Sd p l e R s m args below meth c n0 T h cells slots) {k : Fin 4} {x : Value} (hd : decode bc pc = .ok (.astore_n k, 1)) (pc' : Nat) (hp : pc + 1 = pc') (hv : x.isRef = true) (l' : Array Slot) (hl : storeLocals ls k.val x = some l') (k : G (T.setTop (mkF m pc' l' st))) : G (T.setTop (mkF m pc ls (x :: st))) := by
  obtain ⟨locs, Y, -, -⟩ := X
  subst hp
  exact w.1 _ _ (fun t q => XS.astoreN Y.here w.2.1 rfl (hb w.2.2.1 hd) rfl hv hl q) k
theorem astore (w : Wk p l e R s m args below meth c n0 Z own nm bc ml rt Q G) (X : Sd p l e R s m args below meth c n0 T h cells slots) {k : Nat} {x : Value} (hd : decode bc pc = .ok (.astore k, 2)) (pc' : Nat) (hp : pc + 2 = pc') (hv : x.isRef = true) (l' : Array Slot) (hl : storeLocals ls k x = some l') (k : G (T.setTop (mkF m pc' l' st))) : G (T.setTop (mkF m pc ls (x :: st))) := by
  obtain ⟨locs, Y, -, -⟩ := X
  subst hp
  exact w.1 _ _ (fun t q => XS.astore Y.here w.2.1 rfl (hb w.2.2.1 hd) rfl hv hl q) k
theorem iconst (w : Wk p l e R s m args below meth c n0 Z own nm bc ml rt Q G) (X : Sd p l e R s m args below meth c n0 T h cells slots) {i : Int} (v : Int32) (hd : decode bc pc = .ok (.iconst i, 1)) (pc' : Nat) (hp : pc + 1 = pc') (hv : Int32.ofInt i = v) (k : G (T.setTop (mkF m pc' ls (.int v :: st)))) : G (T.setTop (mkF m pc ls st)) := by
  obtain ⟨locs, Y, -, -⟩ := X
  subst hp
  subst hv
  exact w.1 _ _ (fun t q => XS.iconst Y.here w.2.1 rfl (hb w.2.2.1 hd) q) k
theorem bipush (w : Wk p l e R s m args below meth c n0 Z own nm bc ml rt Q G) (X : Sd p l e R s m args below meth c n0 T h cells slots) {i : Int} (v : Int32) (hd : decode bc pc = .ok (.bipush i, 2)) (pc' : Nat) (hp : pc + 2 = pc') (hv : (Int8.ofInt i).toInt32 = v) (k : G (T.setTop (mkF m pc' ls (.int v :: st)))) : G (T.setTop (mkF m pc ls st)) := by
  obtain ⟨locs, Y, -, -⟩ := X
  subst hp
  subst hv
  exact w.1 _ _ (fun t q => XS.bipush Y.here w.2.1 rfl (hb w.2.2.1 hd) q) k
theorem sipush (w : Wk p l e R s m args below meth c n0 Z own nm bc ml rt Q G) (X : Sd p l e R s m args below meth c n0 T h cells slots) {i : Int} (v : Int32) (hd : decode bc pc = .ok (.sipush i, 3)) (pc' : Nat) (hp : pc + 3 = pc') (hv : (Int16.ofInt i).toInt32 = v) (k : G (T.setTop (mkF m pc' ls (.int v :: st)))) : G (T.setTop (mkF m pc ls st)) := by
  obtain ⟨locs, Y, -, -⟩ := X
  subst hp
  subst hv
  exact w.1 _ _ (fun t q => XS.sipush Y.here w.2.1 rfl (hb w.2.2.1 hd) q) k
theorem lconst (w : Wk p l e R s m args below meth c n0 Z own nm bc ml rt Q G) (X : Sd p l e R s m args below meth c n0 T h cells slots) {i : Fin 2} (v : Int64) (hd : decode bc pc = .ok (.lconst i, 1)) (pc' : Nat) (hp : pc + 1 = pc') (hv : Int64.ofNat i = v) (k : G (T.setTop (mkF m pc' ls (.long v :: st)))) : G (T.setTop (mkF m pc ls st)) := by
  obtain ⟨locs, Y, -, -⟩ := X
  subst hp
  subst hv
  exact w.1 _ _ (fun t q => XS.lconst Y.here w.2.1 rfl (hb w.2.2.1 hd) q) k
theorem aconstNull (w : Wk p l e R s m args below meth c n0 Z own nm bc ml rt Q G) (X : Sd p l e R s m args below meth c n0 T h cells slots)  (hd : decode bc pc = .ok (.aconst_null, 1)) (pc' : Nat) (hp : pc + 1 = pc')  (k : G (T.setTop (mkF m pc' ls (.null :: st)))) : G (T.setTop (mkF m pc ls st)) := by
  obtain ⟨locs, Y, -, -⟩ := X
  subst hp
  exact w.1 _ _ (fun t q => XS.aconstNull Y.here w.2.1 rfl (hb w.2.2.1 hd) q) k
theorem iadd (w : Wk p l e R s m args below meth c n0 Z own nm bc ml rt Q G) (X : Sd p l e R s m args below meth c n0 T h cells slots) {x y : Int32} (z : Int32) (hd : decode bc pc = .ok (.iadd, 1)) (pc' : Nat) (hp : pc + 1 = pc') (hz : z = x + y) (k : G (T.setTop (mkF m pc' ls (.int z :: st)))) : G (T.setTop (mkF m pc ls (.int y :: .int x :: st))) := by
  obtain ⟨locs, Y, -, -⟩ := X
  subst hp
  subst hz
  exact w.1 _ _ (fun t q => XS.iadd Y.here w.2.1 rfl (hb w.2.2.1 hd) rfl q) k
theorem isub (w : Wk p l e R s m args below meth c n0 Z own nm bc ml rt Q G) (X : Sd p l e R s m args below meth c n0 T h cells slots) {x y : Int32} (z : Int32) (hd : decode bc pc = .ok (.isub, 1)) (pc' : Nat) (hp : pc + 1 = pc') (hz : z = x - y) (k : G (T.setTop (mkF m pc' ls (.int z :: st)))) : G (T.setTop (mkF m pc ls (.int y :: .int x :: st))) := by
  obtain ⟨locs, Y, -, -⟩ := X
  subst hp
  subst hz
  exact w.1 _ _ (fun t q => XS.isub Y.here w.2.1 rfl (hb w.2.2.1 hd) rfl q) k
theorem imul (w : Wk p l e R s m args below meth c n0 Z own nm bc ml rt Q G) (X : Sd p l e R s m args below meth c n0 T h cells slots) {x y : Int32} (z : Int32) (hd : decode bc pc = .ok (.imul, 1)) (pc' : Nat) (hp : pc + 1 = pc') (hz : z = x * y) (k : G (T.setTop (mkF m pc' ls (.int z :: st)))) : G (T.setTop (mkF m pc ls (.int y :: .int x :: st))) := by
  obtain ⟨locs, Y, -, -⟩ := X
  subst hp
  subst hz
  exact w.1 _ _ (fun t q => XS.imul Y.here w.2.1 rfl (hb w.2.2.1 hd) rfl q) k
theorem iand (w : Wk p l e R s m args below meth c n0 Z own nm bc ml rt Q G) (X : Sd p l e R s m args below meth c n0 T h cells slots) {x y : Int32} (z : Int32) (hd : decode bc pc = .ok (.iand, 1)) (pc' : Nat) (hp : pc + 1 = pc') (hz : z = x &&& y) (k : G (T.setTop (mkF m pc' ls (.int z :: st)))) : G (T.setTop (mkF m pc ls (.int y :: .int x :: st))) := by
  obtain ⟨locs, Y, -, -⟩ := X
  subst hp
  subst hz
  exact w.1 _ _ (fun t q => XS.iand Y.here w.2.1 rfl (hb w.2.2.1 hd) rfl q) k
theorem ior (w : Wk p l e R s m args below meth c n0 Z own nm bc ml rt Q G) (X : Sd p l e R s m args below meth c n0 T h cells slots) {x y : Int32} (z : Int32) (hd : decode bc pc = .ok (.ior, 1)) (pc' : Nat) (hp : pc + 1 = pc') (hz : z = x ||| y) (k : G (T.setTop (mkF m pc' ls (.int z :: st)))) : G (T.setTop (mkF m pc ls (.int y :: .int x :: st))) := by
  obtain ⟨locs, Y, -, -⟩ := X
  subst hp
  subst hz
  exact w.1 _ _ (fun t q => XS.ior Y.here w.2.1 rfl (hb w.2.2.1 hd) rfl q) k
theorem ixor (w : Wk p l e R s m args below meth c n0 Z own nm bc ml rt Q G) (X : Sd p l e R s m args below meth c n0 T h cells slots) {x y : Int32} (z : Int32) (hd : decode bc pc = .ok (.ixor, 1)) (pc' : Nat) (hp : pc + 1 = pc') (hz : z = x ^^^ y) (k : G (T.setTop (mkF m pc' ls (.int z :: st)))) : G (T.setTop (mkF m pc ls (.int y :: .int x :: st))) := by
  obtain ⟨locs, Y, -, -⟩ := X
  subst hp
  subst hz
  exact w.1 _ _ (fun t q => XS.ixor Y.here w.2.1 rfl (hb w.2.2.1 hd) rfl q) k
theorem ishl (w : Wk p l e R s m args below meth c n0 Z own nm bc ml rt Q G) (X : Sd p l e R s m args below meth c n0 T h cells slots) {x y : Int32} (z : Int32) (hd : decode bc pc = .ok (.ishl, 1)) (pc' : Nat) (hp : pc + 1 = pc') (hz : z = x <<< (y &&& 31)) (k : G (T.setTop (mkF m pc' ls (.int z :: st)))) : G (T.setTop (mkF m pc ls (.int y :: .int x :: st))) := by
  obtain ⟨locs, Y, -, -⟩ := X
  subst hp
  subst hz
  exact w.1 _ _ (fun t q => XS.ishl Y.here w.2.1 rfl (hb w.2.2.1 hd) rfl q) k
theorem ishr (w : Wk p l e R s m args below meth c n0 Z own nm bc ml rt Q G) (X : Sd p l e R s m args below meth c n0 T h cells slots) {x y : Int32} (z : Int32) (hd : decode bc pc = .ok (.ishr, 1)) (pc' : Nat) (hp : pc + 1 = pc') (hz : z = x >>> (y &&& 31)) (k : G (T.setTop (mkF m pc' ls (.int z :: st)))) : G (T.setTop (mkF m pc ls (.int y :: .int x :: st))) := by
  obtain ⟨locs, Y, -, -⟩ := X
  subst hp
  subst hz
  exact w.1 _ _ (fun t q => XS.ishr Y.here w.2.1 rfl (hb w.2.2.1 hd) rfl q) k
theorem iushr (w : Wk p l e R s m args below meth c n0 Z own nm bc ml rt Q G) (X : Sd p l e R s m args below meth c n0 T h cells slots) {x y : Int32} (z : Int32) (hd : decode bc pc = .ok (.iushr, 1)) (pc' : Nat) (hp : pc + 1 = pc') (hz : z = (x.toUInt32 >>> (y &&& 31).toUInt32).toInt32) (k : G (T.setTop (mkF m pc' ls (.int z :: st)))) : G (T.setTop (mkF m pc ls (.int y :: .int x :: st))) := by
  obtain ⟨locs, Y, -, -⟩ := X
  subst hp
  subst hz
  exact w.1 _ _ (fun t q => XS.iushr Y.here w.2.1 rfl (hb w.2.2.1 hd) rfl q) k
theorem irem (w : Wk p l e R s m args below meth c n0 Z own nm bc ml rt Q G) (X : Sd p l e R s m args below meth c n0 T h cells slots) {x y : Int32} (z : Int32) (hd : decode bc pc = .ok (.irem, 1)) (pc' : Nat) (hp : pc + 1 = pc') (hz : z = x % y) (hy : y ≠ 0) (k : G (T.setTop (mkF m pc' ls (.int z :: st)))) : G (T.setTop (mkF m pc ls (.int y :: .int x :: st))) := by
  obtain ⟨locs, Y, -, -⟩ := X
  subst hp
  subst hz
  exact w.1 _ _ (fun t q => Jvm.RoadKit.iremM Y w.2.1 rfl (hb w.2.2.1 hd) rfl hy q) k
theorem idiv (w : Wk p l e R s m args below meth c n0 Z own nm bc ml rt Q G) (X : Sd p l e R s m args below meth c n0 T h cells slots) {x y : Int32} (z : Int32) (hd : decode bc pc = .ok (.idiv, 1)) (pc' : Nat) (hp : pc + 1 = pc') (hz : z = x / y) (hy : y ≠ 0) (k : G (T.setTop (mkF m pc' ls (.int z :: st)))) : G (T.setTop (mkF m pc ls (.int y :: .int x :: st))) := by
  obtain ⟨locs, Y, -, -⟩ := X
  subst hp
  subst hz
  exact w.1 _ _ (fun t q => XS.idiv Y.here w.2.1 rfl (hb w.2.2.1 hd) rfl hy q) k
theorem ineg (w : Wk p l e R s m args below meth c n0 Z own nm bc ml rt Q G) (X : Sd p l e R s m args below meth c n0 T h cells slots) {x : Int32} (z : Int32) (hd : decode bc pc = .ok (.ineg, 1)) (pc' : Nat) (hp : pc + 1 = pc') (hz : z = -x) (k : G (T.setTop (mkF m pc' ls (.int z :: st)))) : G (T.setTop (mkF m pc ls (.int x :: st))) := by
  obtain ⟨locs, Y, -, -⟩ := X
  subst hp
  subst hz
  exact w.1 _ _ (fun t q => XS.ineg Y.here w.2.1 rfl (hb w.2.2.1 hd) rfl q) k
theorem ladd (w : Wk p l e R s m args below meth c n0 Z own nm bc ml rt Q G) (X : Sd p l e R s m args below meth c n0 T h cells slots) {x y : Int64} (z : Int64) (hd : decode bc pc = .ok (.ladd, 1)) (pc' : Nat) (hp : pc + 1 = pc') (hz : z = x + y) (k : G (T.setTop (mkF m pc' ls (.long z :: st)))) : G (T.setTop (mkF m pc ls (.long y :: .long x :: st))) := by
  obtain ⟨locs, Y, -, -⟩ := X
  subst hp
  subst hz
  exact w.1 _ _ (fun t q => XS.ladd Y.here w.2.1 rfl (hb w.2.2.1 hd) rfl q) k
theorem lsub (w : Wk p l e R s m args below meth c n0 Z own nm bc ml rt Q G) (X : Sd p l e R s m args below meth c n0 T h cells slots) {x y : Int64} (z : Int64) (hd : decode bc pc = .ok (.lsub, 1)) (pc' : Nat) (hp : pc + 1 = pc') (hz : z = x - y) (k : G (T.setTop (mkF m pc' ls (.long z :: st)))) : G (T.setTop (mkF m pc ls (.long y :: .long x :: st))) := by
  obtain ⟨locs, Y, -, -⟩ := X
  subst hp
  subst hz
  exact w.1 _ _ (fun t q => XS.lsub Y.here w.2.1 rfl (hb w.2.2.1 hd) rfl q) k
theorem lmul (w : Wk p l e R s m args below meth c n0 Z own nm bc ml rt Q G) (X : Sd p l e R s m args below meth c n0 T h cells slots) {x y : Int64} (z : Int64) (hd : decode bc pc = .ok (.lmul, 1)) (pc' : Nat) (hp : pc + 1 = pc') (hz : z = x * y) (k : G (T.setTop (mkF m pc' ls (.long z :: st)))) : G (T.setTop (mkF m pc ls (.long y :: .long x :: st))) := by
  obtain ⟨locs, Y, -, -⟩ := X
  subst hp
  subst hz
  exact w.1 _ _ (fun t q => XS.lmul Y.here w.2.1 rfl (hb w.2.2.1 hd) rfl q) k
theorem land (w : Wk p l e R s m args below meth c n0 Z own nm bc ml rt Q G) (X : Sd p l e R s m args below meth c n0 T h cells slots) {x y : Int64} (z : Int64) (hd : decode bc pc = .ok (.land, 1)) (pc' : Nat) (hp : pc + 1 = pc') (hz : z = x &&& y) (k : G (T.setTop (mkF m pc' ls (.long z :: st)))) : G (T.setTop (mkF m pc ls (.long y :: .long x :: st))) := by
  obtain ⟨locs, Y, -, -⟩ := X
  subst hp
  subst hz
  exact w.1 _ _ (fun t q => XS.land Y.here w.2.1 rfl (hb w.2.2.1 hd) rfl q) k
theorem lor (w : Wk p l e R s m args below meth c n0 Z own nm bc ml rt Q G) (X : Sd p l e R s m args below meth c n0 T h cells slots) {x y : Int64} (z : Int64) (hd : decode bc pc = .ok (.lor, 1)) (pc' : Nat) (hp : pc + 1 = pc') (hz : z = x ||| y) (k : G (T.setTop (mkF m pc' ls (.long z :: st)))) : G (T.setTop (mkF m pc ls (.long y :: .long x :: st))) := by
  obtain ⟨locs, Y, -, -⟩ := X
  subst hp
  subst hz
  exact w.1 _ _ (fun t q => XS.lor Y.here w.2.1 rfl (hb w.2.2.1 hd) rfl q) k
theorem lxor (w : Wk p l e R s m args below meth c n0 Z own nm bc ml rt Q G) (X : Sd p l e R s m args below meth c n0 T h cells slots) {x y : Int64} (z : Int64) (hd : decode bc pc = .ok (.lxor, 1)) (pc' : Nat) (hp : pc + 1 = pc') (hz : z = x ^^^ y) (k : G (T.setTop (mkF m pc' ls (.long z :: st)))) : G (T.setTop (mkF m pc ls (.long y :: .long x :: st))) := by
  obtain ⟨locs, Y, -, -⟩ := X
  subst hp
  subst hz
  exact w.1 _ _ (fun t q => XS.lxor Y.here w.2.1 rfl (hb w.2.2.1 hd) rfl q) k
theorem lshl (w : Wk p l e R s m args below meth c n0 Z own nm bc ml rt Q G) (X : Sd p l e R s m args below meth c n0 T h cells slots) {x : Int64} {y : Int32} (z : Int64) (hd : decode bc pc = .ok (.lshl, 1)) (pc' : Nat) (hp : pc + 1 = pc') (hz : z = x <<< (y &&& 0x3f).toInt64) (k : G (T.setTop (mkF m pc' ls (.long z :: st)))) : G (T.setTop (mkF m pc ls (.int y :: .long x :: st))) := by
  obtain ⟨locs, Y, -, -⟩ := X
  subst hp
  subst hz
  exact w.1 _ _ (fun t q => XS.lshl Y.here w.2.1 rfl (hb w.2.2.1 hd) rfl q) k
theorem lshr (w : Wk p l e R s m args below meth c n0 Z own nm bc ml rt Q G) (X : Sd p l e R s m args below meth c n0 T h cells slots) {x : Int64} {y : Int32} (z : Int64) (hd : decode bc pc = .ok (.lshr, 1)) (pc' : Nat) (hp : pc + 1 = pc') (hz : z = x >>> (y &&& 0x3f).toInt64) (k : G (T.setTop (mkF m pc' ls (.long z :: st)))) : G (T.setTop (mkF m pc ls (.int y :: .long x :: st))) := by
  obtain ⟨locs, Y, -, -⟩ := X
  subst hp
  subst hz
  exact w.1 _ _ (fun t q => XS.lshr Y.here w.2.1 rfl (hb w.2.2.1 hd) rfl q) k
theorem lushr (w : Wk p l e R s m args below meth c n0 Z own nm bc ml rt Q G) (X : Sd p l e R s m args below meth c n0 T h cells slots) {x : Int64} {y : Int32} (z : Int64) (hd : decode bc pc = .ok (.lushr, 1)) (pc' : Nat) (hp : pc + 1 = pc') (hz : z = (x.toUInt64 >>> (y &&& 0x3f).toInt64.toUInt64).toInt64) (k : G (T.setTop (mkF m pc' ls (.long z :: st)))) : G (T.setTop (mkF m pc ls (.int y :: .long x :: st))) := by
  obtain ⟨locs, Y, -, -⟩ := X
  subst hp
  subst hz
  exact w.1 _ _ (fun t q => XS.lushr Y.here w.2.1 rfl (hb w.2.2.1 hd) rfl q) k
theorem i2b (w : Wk p l e R s m args below meth c n0 Z own nm bc ml rt Q G) (X : Sd p l e R s m args below meth c n0 T h cells slots) {x : Int32} (z : Int32) (hd : decode bc pc = .ok (.i2b, 1)) (pc' : Nat) (hp : pc + 1 = pc') (hz : z = x.toInt8.toInt32) (k : G (T.setTop (mkF m pc' ls (.int z :: st)))) : G (T.setTop (mkF m pc ls (.int x :: st))) := by
  obtain ⟨locs, Y, -, -⟩ := X
  subst hp
  subst hz
  exact w.1 _ _ (fun t q => XS.i2b Y.here w.2.1 rfl (hb w.2.2.1 hd) rfl q) k
theorem i2c (w : Wk p l e R s m args below meth c n0 Z own nm bc ml rt Q G) (X : Sd p l e R s m args below meth c n0 T h cells slots) {x : Int32} (z : Int32) (hd : decode bc pc = .ok (.i2c, 1)) (pc' : Nat) (hp : pc + 1 = pc') (hz : z = x.toUInt32.toUInt16.toUInt32.toInt32) (k : G (T.setTop (mkF m pc' ls (.int z :: st)))) : G (T.setTop (mkF m pc ls (.int x :: st))) := by
  obtain ⟨locs, Y, -, -⟩ := X
  subst hp
  subst hz
  exact w.1 _ _ (fun t q => XS.i2c Y.here w.2.1 rfl (hb w.2.2.1 hd) rfl q) k
theorem i2s (w : Wk p l e R s m args below meth c n0 Z own nm bc ml rt Q G) (X : Sd p l e R s m args below meth c n0 T h cells slots) {x : Int32} (z : Int32) (hd : decode bc pc = .ok (.i2s, 1)) (pc' : Nat) (hp : pc + 1 = pc') (hz : z = x.toInt16.toInt32) (k : G (T.setTop (mkF m pc' ls (.int z :: st)))) : G (T.setTop (mkF m pc ls (.int x :: st))) := by
  obtain ⟨locs, Y, -, -⟩ := X
  subst hp
  subst hz
  exact w.1 _ _ (fun t q => XS.i2s Y.here w.2.1 rfl (hb w.2.2.1 hd) rfl q) k
theorem l2i (w : Wk p l e R s m args below meth c n0 Z own nm bc ml rt Q G) (X : Sd p l e R s m args below meth c n0 T h cells slots) {x : Int64} (z : Int32) (hd : decode bc pc = .ok (.l2i, 1)) (pc' : Nat) (hp : pc + 1 = pc') (hz : z = x.toInt32) (k : G (T.setTop (mkF m pc' ls (.int z :: st)))) : G (T.setTop (mkF m pc ls (.long x :: st))) := by
  obtain ⟨locs, Y, -, -⟩ := X
  subst hp
  subst hz
  exact w.1 _ _ (fun t q => XS.l2i Y.here w.2.1 rfl (hb w.2.2.1 hd) rfl q) k
theorem i2l (w : Wk p l e R s m args below meth c n0 Z own nm bc ml rt Q G) (X : Sd p l e R s m args below meth c n0 T h cells slots) {x : Int32} (z : Int64) (hd : decode bc pc = .ok (.i2l, 1)) (pc' : Nat) (hp : pc + 1 = pc') (hz : z = x.toInt64) (k : G (T.setTop (mkF m pc' ls (.long z :: st)))) : G (T.setTop (mkF m pc ls (.int x :: st))) := by
  obtain ⟨locs, Y, -, -⟩ := X
  subst hp
  subst hz
  exact w.1 _ _ (fun t q => XS.i2l Y.here w.2.1 rfl (hb w.2.2.1 hd) rfl q) k
theorem lcmp (w : Wk p l e R s m args below meth c n0 Z own nm bc ml rt Q G) (X : Sd p l e R s m args below meth c n0 T h cells slots) {x y : Int64} (z : Int32) (hd : decode bc pc = .ok (.lcmp, 1)) (pc' : Nat) (hp : pc + 1 = pc') (hz : z = lcmpW x y) (k : G (T.setTop (mkF m pc' ls (.int z :: st)))) : G (T.setTop (mkF m pc ls (.long y :: .long x :: st))) := by
  obtain ⟨locs, Y, -, -⟩ := X
  subst hp
  subst hz
  exact w.1 _ _ (fun t q => XS.lcmp Y.here w.2.1 rfl (hb w.2.2.1 hd) rfl q) k
theorem dup (w : Wk p l e R s m args below meth c n0 Z own nm bc ml rt Q G) (X : Sd p l e R s m args below meth c n0 T h cells slots) {x : Value} (hd : decode bc pc = .ok (.dup, 1)) (pc' : Nat) (hp : pc + 1 = pc') (hx : x.category = 1) (k : G (T.setTop (mkF m pc' ls (x :: x :: st)))) : G (T.setTop (mkF m pc ls (x :: st))) := by
  obtain ⟨locs, Y, -, -⟩ := X
  subst hp
  exact w.1 _ _ (fun t q => XS.dup Y.here w.2.1 rfl (hb w.2.2.1 hd) rfl hx q) k
theorem dupX1 (w : Wk p l e R s m args below meth c n0 Z own nm bc ml rt Q G) (X : Sd p l e R s m args below meth c n0 T h cells slots) {x y : Value} (hd : decode bc pc = .ok (.dup_x1, 1)) (pc' : Nat) (hp : pc + 1 = pc') (hx : x.category = 1) (hy : y.category = 1) (k : G (T.setTop (mkF m pc' ls (x :: y :: x :: st)))) : G (T.setTop (mkF m pc ls (x :: y :: st))) := by
  obtain ⟨locs, Y, -, -⟩ := X
  subst hp
  exact w.1 _ _ (fun t q => XS.dupX1 Y.here w.2.1 rfl (hb w.2.2.1 hd) rfl hx hy q) k
theorem dup2 (w : Wk p l e R s m args below meth c n0 Z own nm bc ml rt Q G) (X : Sd p l e R s m args below meth c n0 T h cells slots) {x y : Value} (hd : decode bc pc = .ok (.dup2, 1)) (pc' : Nat) (hp : pc + 1 = pc') (hx : x.category = 1) (hy : y.category = 1) (k : G (T.setTop (mkF m pc' ls (x :: y :: x :: y :: st)))) : G (T.setTop (mkF m pc ls (x :: y :: st))) := by
  obtain ⟨locs, Y, -, -⟩ := X
  subst hp
  exact w.1 _ _ (fun t q => XT.dup2 Y.here w.2.1 rfl (hb w.2.2.1 hd) rfl hx hy q) k
theorem popV (w : Wk p l e R s m args below meth c n0 Z own nm bc ml rt Q G) (X : Sd p l e R s m args below meth c n0 T h cells slots) {x : Value} (hd : decode bc pc = .ok (.pop, 1)) (pc' : Nat) (hp : pc + 1 = pc') (hx : x.category = 1) (k : G (T.setTop (mkF m pc' ls st))) : G (T.setTop (mkF m pc ls (x :: st))) := by
  obtain ⟨locs, Y, -, -⟩ := X
  subst hp
  exact w.1 _ _ (fun t q => XS.pop Y.here w.2.1 rfl (hb w.2.2.1 hd) rfl hx q) k
theorem iinc (w : Wk p l e R s m args below meth c n0 Z own nm bc ml rt Q G) (X : Sd p l e R s m args below meth c n0 T h cells slots) {k : Nat} {i : Int} {x : Int32} (z : Int32) (hd : decode bc pc = .ok (.iinc k i, 3)) (pc' : Nat) (hp : pc + 3 = pc') (hl : ls[k]? = some (.val (.int x))) (hz : z = x + Int32.ofInt i) (l' : Array Slot) (hl' : storeLocals ls k (.int z) = some l') (k : G (T.setTop (mkF m pc' l' st))) : G (T.setTop (mkF m pc ls st)) := by
  obtain ⟨locs, Y, -, -⟩ := X
  subst hp
  subst hz
  exact w.1 _ _ (fun t q => XS.iinc Y.here w.2.1 rfl (hb w.2.2.1 hd) hl hl' q) k
theorem goto (w : Wk p l e R s m args below meth c n0 Z own nm bc ml rt Q G) (X : Sd p l e R s m args below meth c n0 T h cells slots) {o : Int} (hd : decode bc pc = .ok (.goto o, 3)) (pc' : Nat) (ho : 0 ≤ (pc : Int) + o) (hp : ((pc : Int) + o).toNat = pc') (k : G (T.setTop (mkF m pc' ls st))) : G (T.setTop (mkF m pc ls st)) := by
  obtain ⟨locs, Y, -, -⟩ := X
  exact w.1 _ _ (fun t q => XS.goto Y.here w.2.1 rfl (pc0 := pc) (pc' := pc') rfl (hb w.2.2.1 hd) ho hp q) k
theorem ldcI (w : Wk p l e R s m args below meth c n0 Z own nm bc ml rt Q G) (X : Sd p l e R s m args below meth c n0 T h cells slots) {i : Nat} {v : Int32} (wc : (Cond.constant own i v).before a0 Z = true) (hd : decode bc pc = .ok (.ldc i, 2)) (pc' : Nat) (hp : pc + 2 = pc') (k : G (T.setTop (mkF m pc' ls (.int v :: st)))) : G (T.setTop (mkF m pc ls st)) := by
  obtain ⟨locs, Y, -, -⟩ := X
  subst hp
  exact w.1 _ _ (Y.ldcInt w.2.1 w.2.2.2.2.2.1 (mvT w.2.2.2.2.1 wc) (g := mkF m pc ls st) rfl (hb w.2.2.1 hd)) k
theorem ldcwI (w : Wk p l e R s m args below meth c n0 Z own nm bc ml rt Q G) (X : Sd p l e R s m args below meth c n0 T h cells slots) {i : Nat} {v : Int32} (wc : (Cond.constant own i v).before a0 Z = true) (hd : decode bc pc = .ok (.ldc_w i, 3)) (pc' : Nat) (hp : pc + 3 = pc') (k : G (T.setTop (mkF m pc' ls (.int v :: st)))) : G (T.setTop (mkF m pc ls st)) := by
  obtain ⟨locs, Y, -, -⟩ := X
  subst hp
  exact w.1 _ _ (Y.ldcwInt w.2.1 w.2.2.2.2.2.1 (mvT w.2.2.2.2.1 wc) (g := mkF m pc ls st) rfl (hb w.2.2.1 hd)) k
theorem ldc2J (w : Wk p l e R s m args below meth c n0 Z own nm bc ml rt Q G) (X : Sd p l e R s m args below meth c n0 T h cells slots) {i : Nat} {v : Int64} (wc : (Cond.constantLong own i v).before a0 Z = true) (hd : decode bc pc = .ok (.ldc2_w i, 3)) (pc' : Nat) (hp : pc + 3 = pc') (k : G (T.setTop (mkF m pc' ls (.long v :: st)))) : G (T.setTop (mkF m pc ls st)) := by
  obtain ⟨locs, Y, -, -⟩ := X
  subst hp
  exact w.1 _ _ (Y.ldc2Long w.2.1 w.2.2.2.2.2.1 (mvT w.2.2.2.2.1 wc) (g := mkF m pc ls st) rfl (hb w.2.2.1 hd)) k
theorem icmp_lt (w : Wk p l e R s m args below meth c n0 Z own nm bc ml rt Q G) (X : Sd p l e R s m args below meth c n0 T h cells slots) {x y : Int32} {o : Int} (hd : decode bc pc = .ok (.if_icmp .lt o, 3)) (pT pF : Nat) (ho : 0 ≤ (pc : Int) + o) (hp : ((pc : Int) + o).toNat = pT) (hq : pc + 3 = pF) (k1 : x < y → G (T.setTop (mkF m pT ls st))) (k2 : ¬ x < y → G (T.setTop (mkF m pF ls st))) : G (T.setTop (mkF m pc ls (.int y :: .int x :: st))) := by
  obtain ⟨locs, Y, -, -⟩ := X
  subst hq
  by_cases q : x < y
  · exact w.1 _ _ (fun t z => XS.icmpYes Y.here w.2.1 rfl (pc0 := pc) (pc' := pT) rfl (hb w.2.2.1 hd) rfl (tlt q).1 ho hp z) (k1 q)
  · exact w.1 _ _ (fun t z => XS.icmpNo Y.here w.2.1 rfl (hb w.2.2.1 hd) rfl (flt q).1 z) (k2 q)
theorem if_lt (w : Wk p l e R s m args below meth c n0 Z own nm bc ml rt Q G) (X : Sd p l e R s m args below meth c n0 T h cells slots) {x : Int32} {o : Int} (hd : decode bc pc = .ok (.ifCond .lt o, 3)) (pT pF : Nat) (ho : 0 ≤ (pc : Int) + o) (hp : ((pc : Int) + o).toNat = pT) (hq : pc + 3 = pF) (k1 : x < 0 → G (T.setTop (mkF m pT ls st))) (k2 : ¬ x < 0 → G (T.setTop (mkF m pF ls st))) : G (T.setTop (mkF m pc ls (.int x :: st))) := by
  obtain ⟨locs, Y, -, -⟩ := X
  subst hq
  by_cases q : x < 0
  · exact w.1 _ _ (fun t z => XS.ifYes Y.here w.2.1 rfl (pc0 := pc) (pc' := pT) rfl (hb w.2.2.1 hd) rfl ((if0 _ _).trans (tlt q).1) ho hp z) (k1 q)
  · exact w.1 _ _ (fun t z => XS.ifNo Y.here w.2.1 rfl (hb w.2.2.1 hd) rfl ((if0 _ _).trans (flt q).1) z) (k2 q)
theorem icmp_ge (w : Wk p l e R s m args below meth c n0 Z own nm bc ml rt Q G) (X : Sd p l e R s m args below meth c n0 T h cells slots) {x y : Int32} {o : Int} (hd : decode bc pc = .ok (.if_icmp .ge o, 3)) (pT pF : Nat) (ho : 0 ≤ (pc : Int) + o) (hp : ((pc : Int) + o).toNat = pT) (hq : pc + 3 = pF) (k1 : ¬ x < y → G (T.setTop (mkF m pT ls st))) (k2 : x < y → G (T.setTop (mkF m pF ls st))) : G (T.setTop (mkF m pc ls (.int y :: .int x :: st))) := by
  obtain ⟨locs, Y, -, -⟩ := X
  subst hq
  by_cases q : x < y
  · exact w.1 _ _ (fun t z => XS.icmpNo Y.here w.2.1 rfl (hb w.2.2.1 hd) rfl (tlt q).2.1 z) (k2 q)
  · exact w.1 _ _ (fun t z => XS.icmpYes Y.here w.2.1 rfl (pc0 := pc) (pc' := pT) rfl (hb w.2.2.1 hd) rfl (flt q).2.1 ho hp z) (k1 q)
theorem if_ge (w : Wk p l e R s m args below meth c n0 Z own nm bc ml rt Q G) (X : Sd p l e R s m args below meth c n0 T h cells slots) {x : Int32} {o : Int} (hd : decode bc pc = .ok (.ifCond .ge o, 3)) (pT pF : Nat) (ho : 0 ≤ (pc : Int) + o) (hp : ((pc : Int) + o).toNat = pT) (hq : pc + 3 = pF) (k1 : ¬ x < 0 → G (T.setTop (mkF m pT ls st))) (k2 : x < 0 → G (T.setTop (mkF m pF ls st))) : G (T.setTop (mkF m pc ls (.int x :: st))) := by
  obtain ⟨locs, Y, -, -⟩ := X
  subst hq
  by_cases q : x < 0
  · exact w.1 _ _ (fun t z => XS.ifNo Y.here w.2.1 rfl (hb w.2.2.1 hd) rfl ((if0 _ _).trans (tlt q).2.1) z) (k2 q)
  · exact w.1 _ _ (fun t z => XS.ifYes Y.here w.2.1 rfl (pc0 := pc) (pc' := pT) rfl (hb w.2.2.1 hd) rfl ((if0 _ _).trans (flt q).2.1) ho hp z) (k1 q)
theorem icmp_gt (w : Wk p l e R s m args below meth c n0 Z own nm bc ml rt Q G) (X : Sd p l e R s m args below meth c n0 T h cells slots) {x y : Int32} {o : Int} (hd : decode bc pc = .ok (.if_icmp .gt o, 3)) (pT pF : Nat) (ho : 0 ≤ (pc : Int) + o) (hp : ((pc : Int) + o).toNat = pT) (hq : pc + 3 = pF) (k1 : y < x → G (T.setTop (mkF m pT ls st))) (k2 : ¬ y < x → G (T.setTop (mkF m pF ls st))) : G (T.setTop (mkF m pc ls (.int y :: .int x :: st))) := by
  obtain ⟨locs, Y, -, -⟩ := X
  subst hq
  by_cases q : y < x
  · exact w.1 _ _ (fun t z => XS.icmpYes Y.here w.2.1 rfl (pc0 := pc) (pc' := pT) rfl (hb w.2.2.1 hd) rfl (tlt q).2.2.1 ho hp z) (k1 q)
  · exact w.1 _ _ (fun t z => XS.icmpNo Y.here w.2.1 rfl (hb w.2.2.1 hd) rfl (flt q).2.2.1 z) (k2 q)
theorem if_gt (w : Wk p l e R s m args below meth c n0 Z own nm bc ml rt Q G) (X : Sd p l e R s m args below meth c n0 T h cells slots) {x : Int32} {o : Int} (hd : decode bc pc = .ok (.ifCond .gt o, 3)) (pT pF : Nat) (ho : 0 ≤ (pc : Int) + o) (hp : ((pc : Int) + o).toNat = pT) (hq : pc + 3 = pF) (k1 : 0 < x → G (T.setTop (mkF m pT ls st))) (k2 : ¬ 0 < x → G (T.setTop (mkF m pF ls st))) : G (T.setTop (mkF m pc ls (.int x :: st))) := by
  obtain ⟨locs, Y, -, -⟩ := X
  subst hq
  by_cases q : 0 < x
  · exact w.1 _ _ (fun t z => XS.ifYes Y.here w.2.1 rfl (pc0 := pc) (pc' := pT) rfl (hb w.2.2.1 hd) rfl ((if0 _ _).trans (tlt q).2.2.1) ho hp z) (k1 q)
  · exact w.1 _ _ (fun t z => XS.ifNo Y.here w.2.1 rfl (hb w.2.2.1 hd) rfl ((if0 _ _).trans (flt q).2.2.1) z) (k2 q)
theorem icmp_le (w : Wk p l e R s m args below meth c n0 Z own nm bc ml rt Q G) (X : Sd p l e R s m args below meth c n0 T h cells slots) {x y : Int32} {o : Int} (hd : decode bc pc = .ok (.if_icmp .le o, 3)) (pT pF : Nat) (ho : 0 ≤ (pc : Int) + o) (hp : ((pc : Int) + o).toNat = pT) (hq : pc + 3 = pF) (k1 : ¬ y < x → G (T.setTop (mkF m pT ls st))) (k2 : y < x → G (T.setTop (mkF m pF ls st))) : G (T.setTop (mkF m pc ls (.int y :: .int x :: st))) := by
  obtain ⟨locs, Y, -, -⟩ := X
  subst hq
  by_cases q : y < x
  · exact w.1 _ _ (fun t z => XS.icmpNo Y.here w.2.1 rfl (hb w.2.2.1 hd) rfl (tlt q).2.2.2 z) (k2 q)
  · exact w.1 _ _ (fun t z => XS.icmpYes Y.here w.2.1 rfl (pc0 := pc) (pc' := pT) rfl (hb w.2.2.1 hd) rfl (flt q).2.2.2 ho hp z) (k1 q)
theorem if_le (w : Wk p l e R s m args below meth c n0 Z own nm bc ml rt Q G) (X : Sd p l e R s m args below meth c n0 T h cells slots) {x : Int32} {o : Int} (hd : decode bc pc = .ok (.ifCond .le o, 3)) (pT pF : Nat) (ho : 0 ≤ (pc : Int) + o) (hp : ((pc : Int) + o).toNat = pT) (hq : pc + 3 = pF) (k1 : ¬ 0 < x → G (T.setTop (mkF m pT ls st))) (k2 : 0 < x → G (T.setTop (mkF m pF ls st))) : G (T.setTop (mkF m pc ls (.int x :: st))) := by
  obtain ⟨locs, Y, -, -⟩ := X
  subst hq
  by_cases q : 0 < x
  · exact w.1 _ _ (fun t z => XS.ifNo Y.here w.2.1 rfl (hb w.2.2.1 hd) rfl ((if0 _ _).trans (tlt q).2.2.2) z) (k2 q)
  · exact w.1 _ _ (fun t z => XS.ifYes Y.here w.2.1 rfl (pc0 := pc) (pc' := pT) rfl (hb w.2.2.1 hd) rfl ((if0 _ _).trans (flt q).2.2.2) ho hp z) (k1 q)
theorem icmp_eq (w : Wk p l e R s m args below meth c n0 Z own nm bc ml rt Q G) (X : Sd p l e R s m args below meth c n0 T h cells slots) {x y : Int32} {o : Int} (hd : decode bc pc = .ok (.if_icmp .eq o, 3)) (pT pF : Nat) (ho : 0 ≤ (pc : Int) + o) (hp : ((pc : Int) + o).toNat = pT) (hq : pc + 3 = pF) (k1 : x = y → G (T.setTop (mkF m pT ls st))) (k2 : ¬ x = y → G (T.setTop (mkF m pF ls st))) : G (T.setTop (mkF m pc ls (.int y :: .int x :: st))) := by
  obtain ⟨locs, Y, -, -⟩ := X
  subst hq
  by_cases q : x = y
  · exact w.1 _ _ (fun t z => XS.icmpYes Y.here w.2.1 rfl (pc0 := pc) (pc' := pT) rfl (hb w.2.2.1 hd) rfl (teq q).1 ho hp z) (k1 q)
  · exact w.1 _ _ (fun t z => XS.icmpNo Y.here w.2.1 rfl (hb w.2.2.1 hd) rfl (feq q).1 z) (k2 q)
theorem if_eq (w : Wk p l e R s m args below meth c n0 Z own nm bc ml rt Q G) (X : Sd p l e R s m args below meth c n0 T h cells slots) {x : Int32} {o : Int} (hd : decode bc pc = .ok (.ifCond .eq o, 3)) (pT pF : Nat) (ho : 0 ≤ (pc : Int) + o) (hp : ((pc : Int) + o).toNat = pT) (hq : pc + 3 = pF) (k1 : x = 0 → G (T.setTop (mkF m pT ls st))) (k2 : ¬ x = 0 → G (T.setTop (mkF m pF ls st))) : G (T.setTop (mkF m pc ls (.int x :: st))) := by
  obtain ⟨locs, Y, -, -⟩ := X
  subst hq
  by_cases q : x = 0
  · exact w.1 _ _ (fun t z => XS.ifYes Y.here w.2.1 rfl (pc0 := pc) (pc' := pT) rfl (hb w.2.2.1 hd) rfl ((if0 _ _).trans (teq q).1) ho hp z) (k1 q)
  · exact w.1 _ _ (fun t z => XS.ifNo Y.here w.2.1 rfl (hb w.2.2.1 hd) rfl ((if0 _ _).trans (feq q).1) z) (k2 q)
theorem icmp_ne (w : Wk p l e R s m args below meth c n0 Z own nm bc ml rt Q G) (X : Sd p l e R s m args below meth c n0 T h cells slots) {x y : Int32} {o : Int} (hd : decode bc pc = .ok (.if_icmp .ne o, 3)) (pT pF : Nat) (ho : 0 ≤ (pc : Int) + o) (hp : ((pc : Int) + o).toNat = pT) (hq : pc + 3 = pF) (k1 : ¬ x = y → G (T.setTop (mkF m pT ls st))) (k2 : x = y → G (T.setTop (mkF m pF ls st))) : G (T.setTop (mkF m pc ls (.int y :: .int x :: st))) := by
  obtain ⟨locs, Y, -, -⟩ := X
  subst hq
  by_cases q : x = y
  · exact w.1 _ _ (fun t z => XS.icmpNo Y.here w.2.1 rfl (hb w.2.2.1 hd) rfl (teq q).2 z) (k2 q)
  · exact w.1 _ _ (fun t z => XS.icmpYes Y.here w.2.1 rfl (pc0 := pc) (pc' := pT) rfl (hb w.2.2.1 hd) rfl (feq q).2 ho hp z) (k1 q)
theorem if_ne (w : Wk p l e R s m args below meth c n0 Z own nm bc ml rt Q G) (X : Sd p l e R s m args below meth c n0 T h cells slots) {x : Int32} {o : Int} (hd : decode bc pc = .ok (.ifCond .ne o, 3)) (pT pF : Nat) (ho : 0 ≤ (pc : Int) + o) (hp : ((pc : Int) + o).toNat = pT) (hq : pc + 3 = pF) (k1 : ¬ x = 0 → G (T.setTop (mkF m pT ls st))) (k2 : x = 0 → G (T.setTop (mkF m pF ls st))) : G (T.setTop (mkF m pc ls (.int x :: st))) := by
  obtain ⟨locs, Y, -, -⟩ := X
  subst hq
  by_cases q : x = 0
  · exact w.1 _ _ (fun t z => XS.ifNo Y.here w.2.1 rfl (hb w.2.2.1 hd) rfl ((if0 _ _).trans (teq q).2) z) (k2 q)
  · exact w.1 _ _ (fun t z => XS.ifYes Y.here w.2.1 rfl (pc0 := pc) (pc' := pT) rfl (hb w.2.2.1 hd) rfl ((if0 _ _).trans (feq q).2) ho hp z) (k1 q)
theorem acmp_eq (w : Wk p l e R s m args below meth c n0 Z own nm bc ml rt Q G) (X : Sd p l e R s m args below meth c n0 T h cells slots) {x y : Value} (hx : x.isRef = true) (hy : y.isRef = true) {o : Int} (hd : decode bc pc = .ok (.if_acmp .eq o, 3)) (pT pF : Nat) (ho : 0 ≤ (pc : Int) + o) (hp : ((pc : Int) + o).toNat = pT) (hq : pc + 3 = pF) (k1 : x = y → G (T.setTop (mkF m pT ls st))) (k2 : ¬ x = y → G (T.setTop (mkF m pF ls st))) : G (T.setTop (mkF m pc ls (y :: x :: st))) := by
  obtain ⟨locs, Y, -, -⟩ := X
  subst hq
  by_cases q : x = y
  · exact w.1 _ _ (fun t z => Jvm.RoadKit.acmp (g := mkF m pc ls (y :: x :: st)) Y w.2.1 rfl hx hy (pc0 := pc) (pc' := pT) (same := true) rfl (hb w.2.2.1 hd) rfl (decide_eq_true q) ho (by simp [acV]; omega) z) (k1 q)
  · exact w.1 _ _ (fun t z => Jvm.RoadKit.acmp (g := mkF m pc ls (y :: x :: st)) Y w.2.1 rfl hx hy (pc0 := pc) (pc' := pc + 3) (same := false) rfl (hb w.2.2.1 hd) rfl (decide_eq_false q) ho (by simp [acV]) z) (k2 q)
theorem acmp_ne (w : Wk p l e R s m args below meth c n0 Z own nm bc ml rt Q G) (X : Sd p l e R s m args below meth c n0 T h cells slots) {x y : Value} (hx : x.isRef = true) (hy : y.isRef = true) {o : Int} (hd : decode bc pc = .ok (.if_acmp .ne o, 3)) (pT pF : Nat) (ho : 0 ≤ (pc : Int) + o) (hp : ((pc : Int) + o).toNat = pT) (hq : pc + 3 = pF) (k1 : ¬ x = y → G (T.setTop (mkF m pT ls st))) (k2 : x = y → G (T.setTop (mkF m pF ls st))) : G (T.setTop (mkF m pc ls (y :: x :: st))) := by
  obtain ⟨locs, Y, -, -⟩ := X
  subst hq
  by_cases q : x = y
  · exact w.1 _ _ (fun t z => Jvm.RoadKit.acmp (g := mkF m pc ls (y :: x :: st)) Y w.2.1 rfl hx hy (pc0 := pc) (pc' := pc + 3) (same := true) rfl (hb w.2.2.1 hd) rfl (decide_eq_true q) ho (by simp [acV]) z) (k2 q)
  · exact w.1 _ _ (fun t z => Jvm.RoadKit.acmp (g := mkF m pc ls (y :: x :: st)) Y w.2.1 rfl hx hy (pc0 := pc) (pc' := pT) (same := false) rfl (hb w.2.2.1 hd) rfl (decide_eq_false q) ho (by simp [acV]; omega) z) (k1 q)
theorem ifnull_ref (w : Wk p l e R s m args below meth c n0 Z own nm bc ml rt Q G) (X : Sd p l e R s m args below meth c n0 T h cells slots) {b : Addr} {o : Int} (hd : decode bc pc = .ok (.ifnull o, 3)) (pF : Nat) (hq : pc + 3 = pF) (k : G (T.setTop (mkF m pF ls st))) : G (T.setTop (mkF m pc ls (.ref b :: st))) := by
  obtain ⟨locs, Y, -, -⟩ := X
  subst hq
  exact w.1 _ _ (fun t z => XS.ifnullNo Y.here w.2.1 rfl (hb w.2.2.1 hd) rfl z) k
theorem ifnull_null (w : Wk p l e R s m args below meth c n0 Z own nm bc ml rt Q G) (X : Sd p l e R s m args below meth c n0 T h cells slots) {o : Int} (hd : decode bc pc = .ok (.ifnull o, 3)) (pT : Nat) (ho : 0 ≤ (pc : Int) + o) (hp : ((pc : Int) + o).toNat = pT) (k : G (T.setTop (mkF m pT ls st))) : G (T.setTop (mkF m pc ls (.null :: st))) := by
  obtain ⟨locs, Y, -, -⟩ := X
  exact w.1 _ _ (fun t z => XS.ifnullYes Y.here w.2.1 rfl (pc0 := pc) (pc' := pT) rfl (hb w.2.2.1 hd) rfl ho hp z) k
theorem ifnonnull_ref (w : Wk p l e R s m args below meth c n0 Z own nm bc ml rt Q G) (X : Sd p l e R s m args below meth c n0 T h cells slots) {b : Addr} {o : Int} (hd : decode bc pc = .ok (.ifnonnull o, 3)) (pT : Nat) (ho : 0 ≤ (pc : Int) + o) (hp : ((pc : Int) + o).toNat = pT) (k : G (T.setTop (mkF m pT ls st))) : G (T.setTop (mkF m pc ls (.ref b :: st))) := by
  obtain ⟨locs, Y, -, -⟩ := X
  exact w.1 _ _ (fun t z => XT.ifnonnullYes Y.here w.2.1 rfl (pc0 := pc) (pc' := pT) rfl (hb w.2.2.1 hd) rfl ho hp z) k
theorem ifnonnull_null (w : Wk p l e R s m args below meth c n0 Z own nm bc ml rt Q G) (X : Sd p l e R s m args below meth c n0 T h cells slots) {o : Int} (hd : decode bc pc = .ok (.ifnonnull o, 3)) (pF : Nat) (hq : pc + 3 = pF) (k : G (T.setTop (mkF m pF ls st))) : G (T.setTop (mkF m pc ls (.null :: st))) := by
  obtain ⟨locs, Y, -, -⟩ := X
  subst hq
  exact w.1 _ _ (fun t z => XT.ifnonnullNo Y.here w.2.1 rfl (hb w.2.2.1 hd) rfl z) k
theorem lswHit (w : Wk p l e R s m args below meth c n0 Z own nm bc ml rt Q G) (X : Sd p l e R s m args below meth c n0 T h cells slots) {i : Int32} {df : Int} {ps : Array (Int × Int)} {len : Nat} (hd : decode bc pc = .ok (.lookupswitch df ps, len)) (hs : (ps.toList.zip (ps.toList.drop 1)).all (fun (a, next) => a.1 < next.1) = true) {a off : Int} (pc' : Nat) (hf : ps.find? (·.1 == i.toInt) = some (a, off)) (ho : 0 ≤ (pc : Int) + off) (hp : ((pc : Int) + off).toNat = pc') (k : G (T.setTop (mkF m pc' ls st))) : G (T.setTop (mkF m pc ls (.int i :: st))) := by
  obtain ⟨locs, Y, -, -⟩ := X
  subst hp
  exact w.1 _ _ (fun t z => Y.lookupswitchHit w.2.1 (g := mkF m pc ls (.int i :: st)) rfl rfl (hb w.2.2.1 hd) hs hf ho t z) k
theorem lswMiss (w : Wk p l e R s m args below meth c n0 Z own nm bc ml rt Q G) (X : Sd p l e R s m args below meth c n0 T h cells slots) {i : Int32} {df : Int} {ps : Array (Int × Int)} {len : Nat} (hd : decode bc pc = .ok (.lookupswitch df ps, len)) (hs : (ps.toList.zip (ps.toList.drop 1)).all (fun (a, next) => a.1 < next.1) = true) (pc' : Nat) (hf : ps.find? (·.1 == i.toInt) = none) (ho : 0 ≤ (pc : Int) + df) (hp : ((pc : Int) + df).toNat = pc') (k : G (T.setTop (mkF m pc' ls st))) : G (T.setTop (mkF m pc ls (.int i :: st))) := by
  obtain ⟨locs, Y, -, -⟩ := X
  subst hp
  exact w.1 _ _ (fun t z => Y.lookupswitchMiss w.2.1 (g := mkF m pc ls (.int i :: st)) rfl rfl (hb w.2.2.1 hd) hs hf ho t z) k
theorem tswIn (w : Wk p l e R s m args below meth c n0 Z own nm bc ml rt Q G) (X : Sd p l e R s m args below meth c n0 T h cells slots) {i : Int32} {df lo hi : Int} {ofs : Array Int} {len : Nat} (hd : decode bc pc = .ok (.tableswitch df lo hi ofs, len)) (pc' : Nat) {off : Int} (hin : ¬ (i.toInt < lo ∨ i.toInt > hi)) (hoff : ofs[(i.toInt - lo).toNat]? = some off) (ho : 0 ≤ (pc : Int) + off) (hp : ((pc : Int) + off).toNat = pc') (k : G (T.setTop (mkF m pc' ls st))) : G (T.setTop (mkF m pc ls (.int i :: st))) := by
  obtain ⟨locs, Y, -, -⟩ := X
  exact w.1 _ _ (fun t z => XS.tswIn Y.here w.2.1 rfl (pc0 := pc) (pc' := pc') rfl (hb w.2.2.1 hd) rfl hin hoff ho hp z) k
theorem tswOut (w : Wk p l e R s m args below meth c n0 Z own nm bc ml rt Q G) (X : Sd p l e R s m args below meth c n0 T h cells slots) {i : Int32} {df lo hi : Int} {ofs : Array Int} {len : Nat} (hd : decode bc pc = .ok (.tableswitch df lo hi ofs, len)) (pc' : Nat) (hout : i.toInt < lo ∨ i.toInt > hi) (ho : 0 ≤ (pc : Int) + df) (hp : ((pc : Int) + df).toNat = pc') (k : G (T.setTop (mkF m pc' ls st))) : G (T.setTop (mkF m pc ls (.int i :: st))) := by
  obtain ⟨locs, Y, -, -⟩ := X
  exact w.1 _ _ (fun t z => XS.tswOut Y.here w.2.1 rfl (pc0 := pc) (pc' := pc') rfl (hb w.2.2.1 hd) rfl hout ho hp z) k
theorem retI (w : Wk p l e R s m args below meth c n0 Z own nm bc ml rt Q G) (X : Sd p l e R s m args below meth c n0 T h cells slots) {z : Int32} (hrt : rt = some .int) (hd : decode bc pc = .ok (.ireturn, 1)) (hc : cells ≤ R.cells) (hl : slots ≤ R.slots) (k : Q (some (.int z)) h) : G (T.setTop (mkF m pc ls (.int z :: st))) := by
  have hr : meth.sig.returnType = some .int := w.2.2.2.2.2.2.1.trans hrt
  refine w.2.2.2.2.2.2.2.2 T h cells slots (some (.int z)) X hc hl (fun q => by rw [hr] at q; cases q) k _ (fun fs hfs => ?_)
  obtain ⟨locs, Y, -, -⟩ := X
  exact retOut Y w.2.1 hr rfl (Or.inl ⟨rfl, Or.inl rfl, z, rfl⟩) (hb w.2.2.1 hd) hfs
theorem retN (w : Wk p l e R s m args below meth c n0 Z own nm bc ml rt Q G) (X : Sd p l e R s m args below meth c n0 T h cells slots) {z : Int32} {t : FieldType} (hrt : rt = some t) (ht : t = .boolean ∨ t = .byte ∨ t = .char ∨ t = .short) (hd : decode bc pc = .ok (.ireturn, 1)) (hc : cells ≤ R.cells) (hl : slots ≤ R.slots) (k : Q (some (.int (nar t z))) h) : G (T.setTop (mkF m pc ls (.int z :: st))) := by
  have hr : meth.sig.returnType = some t := w.2.2.2.2.2.2.1.trans hrt
  refine w.2.2.2.2.2.2.2.2 T h cells slots (some (.int (nar t z))) X hc hl (fun q => by rw [hr] at q; cases q) k _ (fun fs hfs => ?_)
  obtain ⟨locs, Y, -, -⟩ := X
  exact Jvm.RoadKit.retN Y w.2.1 hr ht (hb w.2.2.1 hd) hfs
theorem retJ (w : Wk p l e R s m args below meth c n0 Z own nm bc ml rt Q G) (X : Sd p l e R s m args below meth c n0 T h cells slots) {z : Int64} (hrt : rt = some .long) (hd : decode bc pc = .ok (.lreturn, 1)) (hc : cells ≤ R.cells) (hl : slots ≤ R.slots) (k : Q (some (.long z)) h) : G (T.setTop (mkF m pc ls (.long z :: st))) := by
  have hr : meth.sig.returnType = some .long := w.2.2.2.2.2.2.1.trans hrt
  refine w.2.2.2.2.2.2.2.2 T h cells slots (some (.long z)) X hc hl (fun q => by rw [hr] at q; cases q) k _ (fun fs hfs => ?_)
  obtain ⟨locs, Y, -, -⟩ := X
  exact retOut Y w.2.1 hr rfl (Or.inr (Or.inl ⟨rfl, rfl, z, rfl⟩)) (hb w.2.2.1 hd) hfs
theorem retA (w : Wk p l e R s m args below meth c n0 Z own nm bc ml rt Q G) (X : Sd p l e R s m args below meth c n0 T h cells slots) {z : Value} {t : FieldType} (hrt : rt = some t) (ht : t.isReference = true) (hz : z.isRef = true) (hd : decode bc pc = .ok (.areturn, 1)) (hc : cells ≤ R.cells) (hl : slots ≤ R.slots) (k : Q (some z) h) : G (T.setTop (mkF m pc ls (z :: st))) := by
  have hr : meth.sig.returnType = some t := w.2.2.2.2.2.2.1.trans hrt
  refine w.2.2.2.2.2.2.2.2 T h cells slots (some z) X hc hl (fun q => by rw [hr] at q; cases q) k _ (fun fs hfs => ?_)
  obtain ⟨locs, Y, -, -⟩ := X
  refine retOut Y w.2.1 hr ?_ (Or.inr (Or.inr (Or.inr (Or.inr ⟨rfl, ht, hz⟩)))) (hb w.2.2.1 hd) hfs
  rcases ref_cases hz with rfl | ⟨a, rfl⟩ <;> cases t <;> first | rfl | (cases ht; done)
theorem retV (w : Wk p l e R s m args below meth c n0 Z own nm bc ml rt Q G) (X : Sd p l e R s m args below meth c n0 T h cells slots) (hrt : rt = none) (hd : decode bc pc = .ok (.return_, 1)) (hc : cells ≤ R.cells) (hl : slots ≤ R.slots) (k : Q none h) : G (T.setTop (mkF m pc ls [])) := by
  have hr : meth.sig.returnType = none := w.2.2.2.2.2.2.1.trans hrt
  refine w.2.2.2.2.2.2.2.2 T h cells slots none X hc hl (fun _ => rfl) k _ (fun fs hfs => ?_)
  obtain ⟨locs, Y, -, -⟩ := X
  exact Y.returnOut w.2.1 hr (hb w.2.2.1 hd) hfs
theorem getfield (w : Wk p l e R s m args below meth c n0 Z own nm bc ml rt Q G) (X : Sd p l e R s m args below meth c n0 T h cells slots) {R0 O n d : String} {i : Nat} {a : Addr} {v : Value} (wl : (Cond.fieldLink own i R0 n d).before a0 Z = true) (via : Via Z R0 O n d) (F : Fld Z h a O n d v) (hd : decode bc pc = .ok (.getfield i, 3)) (pc' : Nat) (hp : pc + 3 = pc') (k : ∀ T' : State, Sd p l e R s m args below meth c n0 T' h cells slots → G (T'.setTop (mkF m pc' ls (v :: st)))) : G (T.setTop (mkF m pc ls (.ref a :: st))) := by
  obtain ⟨locs, Y, N, eT⟩ := X
  subst hp
  obtain ⟨T', Y', e', q⟩ := getF Y w.2.1 w.2.2.2.2.1 (host := "") w.2.2.2.2.2.1 (Or.inl wl) via eT F (g := mkF m pc ls (.ref a :: st)) rfl rfl (hb w.2.2.1 hd)
  exact w.1 _ _ q (k T' ⟨locs, Y', N, e'⟩)
theorem getfieldNest (w : Wk p l e R s m args below meth c n0 Z own nm bc ml rt Q G) (X : Sd p l e R s m args below meth c n0 T h cells slots) {R0 O n d host : String} {i : Nat} {a : Addr} {v : Value} (wl : (Cond.fieldLinkNest own i R0 n d host).before a0 Z = true) (via : Via Z R0 O n d) (F : Fld Z h a O n d v) (hd : decode bc pc = .ok (.getfield i, 3)) (pc' : Nat) (hp : pc + 3 = pc') (k : ∀ T' : State, Sd p l e R s m args below meth c n0 T' h cells slots → G (T'.setTop (mkF m pc' ls (v :: st)))) : G (T.setTop (mkF m pc ls (.ref a :: st))) := by
  obtain ⟨locs, Y, N, eT⟩ := X
  subst hp
  obtain ⟨T', Y', e', q⟩ := getF Y w.2.1 w.2.2.2.2.1 w.2.2.2.2.2.1 (Or.inr wl) via eT F (g := mkF m pc ls (.ref a :: st)) rfl rfl (hb w.2.2.1 hd)
  exact w.1 _ _ q (k T' ⟨locs, Y', N, e'⟩)
theorem getstatic (w : Wk p l e R s m args below meth c n0 Z own nm bc ml rt Q G) (X : Sd p l e R s m args below meth c n0 T h cells slots) {R0 O n d : String} {i : Nat} {v : Value} (wl : (Cond.fieldLink own i R0 n d).before a0 Z = true) (via : Via Z R0 O n d) (F : Sta Z h O n d v) (hd : decode bc pc = .ok (.getstatic i, 3)) (pc' : Nat) (hp : pc + 3 = pc') (k : ∀ T' : State, Sd p l e R s m args below meth c n0 T' h cells slots → G (T'.setTop (mkF m pc' ls (v :: st)))) : G (T.setTop (mkF m pc ls st)) := by
  obtain ⟨locs, Y, N, eT⟩ := X
  subst hp
  obtain ⟨T', Y', e', q⟩ := getS2 (host := "") Y w.2.1 w.2.2.2.2.1 w.2.2.2.2.2.1 (Or.inl wl) via eT F (g := mkF m pc ls st) rfl (hb w.2.2.1 hd)
  exact w.1 _ _ q (k T' ⟨locs, Y', N, e'⟩)
theorem getstaticNest (w : Wk p l e R s m args below meth c n0 Z own nm bc ml rt Q G) (X : Sd p l e R s m args below meth c n0 T h cells slots) {R0 O n d host : String} {i : Nat} {v : Value} (wl : (Cond.fieldLinkNest own i R0 n d host).before a0 Z = true) (via : Via Z R0 O n d) (F : Sta Z h O n d v) (hd : decode bc pc = .ok (.getstatic i, 3)) (pc' : Nat) (hp : pc + 3 = pc') (k : ∀ T' : State, Sd p l e R s m args below meth c n0 T' h cells slots → G (T'.setTop (mkF m pc' ls (v :: st)))) : G (T.setTop (mkF m pc ls st)) := by
  obtain ⟨locs, Y, N, eT⟩ := X
  subst hp
  obtain ⟨T', Y', e', q⟩ := getS2 Y w.2.1 w.2.2.2.2.1 w.2.2.2.2.2.1 (Or.inr wl) via eT F (g := mkF m pc ls st) rfl (hb w.2.2.1 hd)
  exact w.1 _ _ q (k T' ⟨locs, Y', N, e'⟩)
theorem checkcast (w : Wk p l e R s m args below meth c n0 Z own nm bc ml rt Q G) (X : Sd p l e R s m args below meth c n0 T h cells slots) {K : String} {i : Nat} {a : Addr} (wl : (Cond.classLink own i K).before a0 Z = true) (F : Ins Z h a K true) (hd : decode bc pc = .ok (.checkcast i, 3)) (pc' : Nat) (hp : pc + 3 = pc') (k : ∀ T' : State, Sd p l e R s m args below meth c n0 T' h cells slots → G (T'.setTop (mkF m pc' ls (.ref a :: st)))) : G (T.setTop (mkF m pc ls (.ref a :: st))) := by
  obtain ⟨locs, Y, N, eT⟩ := X
  subst hp
  obtain ⟨T', Y', e', q⟩ := castY Y w.2.1 w.2.2.2.2.1 w.2.2.2.2.2.1 wl eT F (g := mkF m pc ls (.ref a :: st)) rfl rfl (hb w.2.2.1 hd)
  exact w.1 _ _ q (k T' ⟨locs, Y', N, e'⟩)
theorem putfield (w : Wk p l e R s m args below meth c n0 Z own nm bc ml rt Q G) (X : Sd p l e R s m args below meth c n0 T h cells slots) {R0 O n d C : String} {i kk : Nat} {ty : FieldType} {a : Addr} {v old : Value} (wl : (Cond.fieldLink own i R0 n d).before a0 Z = true) (via : Via Z R0 O n d) (F : Fld Z h a O n d old) (E : Exa Z h a C) (L : (Cond.lays C O n d).before a0 Z = true ∨ ((Cond.laysFinal C O n d).before a0 Z = true ∧ own = O ∧ nm = "<init>")) (wi : (Cond.instantiable C kk).before a0 Z = true) (hty : parseFieldDescriptor d = some ty) (hn : narrow ty v = v) (hf : fits ty v = true) (ha : n0 ≤ a) (hd : decode bc pc = .ok (.putfield i, 3)) (pc' : Nat) (hp : pc + 3 = pc')
    (k : ∀ (T' : State) (h' : Heap), Sd p l e R s m args below meth c n0 T' h' cells slots → Wr h h' a (Jvm.RoadKit.slotOf Z O n d) v → G (T'.setTop (mkF m pc' ls st))) : G (T.setTop (mkF m pc ls (v :: .ref a :: st))) := by
  obtain ⟨locs, Y, N, eT⟩ := X
  subst hp
  obtain ⟨T', h', Y', e', W', q⟩ := putF Y w.2.1 w.2.2.2.2.1 (host := "") w.2.2.2.2.2.1 (Or.inl wl) via eT F E (L.imp id fun z => ⟨z.1, z.2.1, w.2.2.2.2.2.2.2.1.trans z.2.2⟩) wi hty hn hf (g := mkF m pc ls (v :: .ref a :: st)) rfl rfl (hb w.2.2.1 hd)
  exact w.1 _ _ q (k T' h' ⟨_, Y', Fr.snoc Y' N ha, e'⟩ W')
theorem putfieldN (w : Wk p l e R s m args below meth c n0 Z own nm bc ml rt Q G) (X : Sd p l e R s m args below meth c n0 T h cells slots) {R0 O n d C : String} {i kk : Nat} {ty : FieldType} {a : Addr} {v v' old : Value} (wl : (Cond.fieldLink own i R0 n d).before a0 Z = true) (via : Via Z R0 O n d) (F : Fld Z h a O n d old) (E : Exa Z h a C) (L : (Cond.lays C O n d).before a0 Z = true ∨ ((Cond.laysFinal C O n d).before a0 Z = true ∧ own = O ∧ nm = "<init>")) (wi : (Cond.instantiable C kk).before a0 Z = true) (hty : parseFieldDescriptor d = some ty) (hn : narrow ty v = v') (hf : fits ty v' = true) (ha : n0 ≤ a) (hd : decode bc pc = .ok (.putfield i, 3)) (pc' : Nat) (hp : pc + 3 = pc')
    (k : ∀ (T' : State) (h' : Heap), Sd p l e R s m args below meth c n0 T' h' cells slots → Wr h h' a (Jvm.RoadKit.slotOf Z O n d) v' → G (T'.setTop (mkF m pc' ls st))) : G (T.setTop (mkF m pc ls (v :: .ref a :: st))) := by
  obtain ⟨locs, Y, N, eT⟩ := X
  subst hp
  obtain ⟨T', h', Y', e', W', q⟩ := putFN Y w.2.1 w.2.2.2.2.1 w.2.2.2.2.2.1 wl via eT F E (L.imp id fun z => ⟨z.1, z.2.1, w.2.2.2.2.2.2.2.1.trans z.2.2⟩) wi hty hn hf (g := mkF m pc ls (v :: .ref a :: st)) rfl rfl (hb w.2.2.1 hd)
  exact w.1 _ _ q (k T' h' ⟨_, Y', Fr.snoc Y' N ha, e'⟩ W')
theorem new (w : Wk p l e R s m args below meth c n0 Z own nm bc ml rt Q G) (X : Sd p l e R s m args below meth c n0 T h cells slots) {C : String} {i n : Nat} (wl : (Cond.classLink own i C).before a0 Z = true) (wi : (Cond.instantiable C n).before a0 Z = true) (wz : (Cond.initialized C).before a0 Z = true) (hd : decode bc pc = .ok (.new i, 3)) (pc' : Nat) (hp : pc + 3 = pc') (hc : cells + 1 ≤ R.cells) (hl : slots + n ≤ R.slots)
    (k : ∀ (T' : State) (h' : Heap) (a : Addr), Sd p l e R s m args below meth c n0 T' h' (cells + 1) (slots + n) → a = h.size → Ext h h' → Exa Z h' a C → (∀ {O nm d : String} {ty : FieldType}, Laid Z a0 C O nm d → parseFieldDescriptor d = some ty → Fld Z h' a O nm d (defaultValue ty)) → G (T'.setTop (mkF m pc' ls (.ref a :: st)))) : G (T.setTop (mkF m pc ls st)) := by
  obtain ⟨locs, Y, N, eT⟩ := X
  subst hp
  obtain ⟨T', h', Y', e', E', A', D', -, q⟩ := newO Y w.2.1 w.2.2.2.2.1 w.2.2.2.2.2.1 wl wi wz eT (g := mkF m pc ls st) rfl (hb w.2.2.1 hd) hc hl
  exact w.1 _ _ q (k T' h' _ ⟨locs, Y', N, e'⟩ rfl E' A' D')
theorem newarr (w : Wk p l e R s m args below meth c n0 Z own nm bc ml rt Q G) (X : Sd p l e R s m args below meth c n0 T h cells slots) {aty : ArrayType} {n : Int32} (wa : (Cond.arrayClass (newarray.typeOf aty)).before a0 Z = true) (hd : decode bc pc = .ok (.newarray aty, 2)) (pc' : Nat) (hp : pc + 2 = pc') (hn : ¬ n < 0) (cap : Nat) (hcap : n.toNatClampNeg ≤ cap) (hb' : cap * 8 ≤ 536870912) (hc : cells + 1 ≤ R.cells) (hl : slots + cap ≤ R.slots)
    (k : ∀ (T' : State) (h' : Heap) (a : Addr) (cA : ClassId), Sd p l e R s m args below meth c n0 T' h' (cells + 1) (slots + cap) → a = h.size → Ext h h' → Arr Z h' a (newA cA (newarray.typeOf aty) n) (newarray.typeOf aty) → G (T'.setTop (mkF m pc' ls (.ref a :: st)))) : G (T.setTop (mkF m pc ls (.int n :: st))) := by
  obtain ⟨locs, Y, N, eT⟩ := X
  subst hp
  obtain ⟨T', h', cA, Y', e', E', A', q⟩ := newP Y w.2.1 w.2.2.2.2.1 wa eT (g := mkF m pc ls (.int n :: st)) rfl (hb w.2.2.1 hd) rfl hn hcap hb' hc hl
  exact w.1 _ _ q (k T' h' _ cA ⟨locs, Y', N, e'⟩ rfl E' A')
theorem anewO (w : Wk p l e R s m args below meth c n0 Z own nm bc ml rt Q G) (X : Sd p l e R s m args below meth c n0 T h cells slots) {C : String} {i : Nat} {n : Int32} (w1 : (Cond.classLink own i C).before a0 Z = true) (w2 : (Cond.arrayOver (.object C)).before a0 Z = true) (hd : decode bc pc = .ok (.anewarray i, 3)) (pc' : Nat) (hp : pc + 3 = pc') (hn : ¬ n < 0) (cap : Nat) (hcap : n.toNatClampNeg ≤ cap) (hb' : cap * 8 ≤ 536870912) (hc : cells + 1 ≤ R.cells) (hl : slots + cap ≤ R.slots)
    (k : ∀ (T' : State) (h' : Heap) (a : Addr) (cA : ClassId), Sd p l e R s m args below meth c n0 T' h' (cells + 1) (slots + cap) → a = h.size → Ext h h' → Arr Z h' a (newA cA (.object C) n) (.object C) ∧ Ovr Z cA C → G (T'.setTop (mkF m pc' ls (.ref a :: st)))) : G (T.setTop (mkF m pc ls (.int n :: st))) := by
  obtain ⟨locs, Y, N, eT⟩ := X
  subst hp
  obtain ⟨T', h', cA, Y', e', E', A', O', q⟩ := newR Y w.2.1 w.2.2.2.2.1 w.2.2.2.2.2.1 w1 w2 eT (g := mkF m pc ls (.int n :: st)) rfl (hb w.2.2.1 hd) rfl hn hcap hb' hc hl
  exact w.1 _ _ q (k T' h' _ cA ⟨locs, Y', N, e'⟩ rfl E' ⟨A', O'⟩)
theorem anewA (w : Wk p l e R s m args below meth c n0 Z own nm bc ml rt Q G) (X : Sd p l e R s m args below meth c n0 T h cells slots) {C : String} {ty : FieldType} {i : Nat} {n : Int32} (hC : (FieldType.array ty).toString = C) (w1 : (Cond.classLink own i C).before a0 Z = true) (w2 : (Cond.arrayOver (.array ty)).before a0 Z = true) (hd : decode bc pc = .ok (.anewarray i, 3)) (pc' : Nat) (hp : pc + 3 = pc') (hn : ¬ n < 0) (cap : Nat) (hcap : n.toNatClampNeg ≤ cap) (hb' : cap * 8 ≤ 536870912) (hc : cells + 1 ≤ R.cells) (hl : slots + cap ≤ R.slots)
    (k : ∀ (T' : State) (h' : Heap) (a : Addr) (cA : ClassId), Sd p l e R s m args below meth c n0 T' h' (cells + 1) (slots + cap) → a = h.size → Ext h h' → Arr Z h' a (newA cA (.array ty) n) (.array ty) ∧ OvrA Z cA ty C → G (T'.setTop (mkF m pc' ls (.ref a :: st)))) : G (T.setTop (mkF m pc ls (.int n :: st))) := by
  obtain ⟨locs, Y, N, eT⟩ := X
  subst hp
  obtain ⟨T', h', cA, Y', e', E', A', -, O', q⟩ := newRA Y w.2.1 w.2.2.2.2.1 w.2.2.2.2.2.1 hC w1 w2 eT (g := mkF m pc ls (.int n :: st)) rfl (hb w.2.2.1 hd) rfl hn hcap hb' hc hl rfl
  exact w.1 _ _ q (k T' h' _ cA ⟨locs, Y', N, e'⟩ rfl E' ⟨A', O'⟩)
theorem initObj (w : Wk p l e R s m args below meth c n0 Z own nm bc ml rt Q G) (X : Sd p l e R s m args below meth c n0 T h cells slots) {i : Nat} {a : Addr} (w1 : (Cond.methodLink own i Lib.objectInit).before a0 Z = true) (w2 : (Cond.instanceMethod Lib.objectInit).before a0 Z = true) (w3 : (Cond.code Lib.objectInit ⟨#[0xb1]⟩ 1 none).before a0 Z = true) (hd : decode bc pc = .ok (.invokespecial i, 3)) (pc' : Nat) (hp : pc + 3 = pc') (hsz : ls.size = ml) (hf : 1 ≤ R.frames) (Wd : Nat) (hW : (st.map fun v => v.category).sum ≤ Wd) (hl : Wd + 12 ≤ R.locals)
    (k : ∀ T' : State, Sd p l e R s m args below meth c n0 T' h cells slots → G (T'.setTop (mkF m pc' ls st))) : G (T.setTop (mkF m pc ls (.ref a :: st))) := by
  obtain ⟨locs, Y, N, eT⟩ := X
  subst hp
  obtain ⟨T', Y', e', q⟩ := initO Y w.2.1 w.2.2.2.2.1 w.2.2.2.2.2.1 w1 w2 w3 eT (g := mkF m pc ls (.ref a :: st)) rfl (hsz.trans w.2.2.2.1.symm) rfl (hb w.2.2.1 hd) hf (W := Wd) (by show 2 * 0 + _ ≤ _; omega) hl
  exact w.1 _ _ q (k T' ⟨locs, Y', N, e'⟩)
theorem callS (w : Wk p l e R s m args below meth c n0 Z own nm bc ml rt Q G) (X : Sd p l e R s m args below meth c n0 T h cells slots) {y : MethodName} {ybc : ByteArray} {yml : Nat} {yrt : Option FieldType} {rm : Room} {i : Nat} {sk : List Value} {Qy : Option Value → Heap → Prop} (av : List Value) (w1 : (Cond.methodLink own i y).before a0 Z = true) (w2 : (Cond.static y).before a0 Z = true) (w3 : (Cond.initialized y.cls).before a0 Z = true) (w4 : (Cond.code y ybc yml yrt).before a0 Z = true) (hy : y.cls ≠ "java/lang/invoke/MethodHandle" ∧ y.cls ≠ "java/lang/invoke/VarHandle") (hM : Met l Z y ybc yml yrt [] rm av.toArray h n0 Qy) (hd : decode bc pc = .ok (.invokestatic i, 3)) (pc' : Nat) (hp : pc + 3 = pc') (Wd : Nat) (hfr : rm.frames + 1 ≤ R.frames) (hlo : Wd + (yml + 11) + rm.locals ≤ R.locals) (hlen : ∀ sig, parseMethodDescriptor y.desc = some sig → av.length = sig.parameters.length) (hst : sk = av.reverse ++ st) (hW : (st.map fun v => v.category).sum ≤ Wd) (hsz : ls.size = ml) (hc : cells + rm.cells ≤ R.cells) (hs : slots + rm.slots ≤ R.slots) (k : ∀ (v : Option Value) (T' : State) (h' : Heap), Sd p l e R s m args below meth c n0 T' h' (cells + rm.cells) (slots + rm.slots) → Qy v h' → G (T'.setTop (mkF m pc' ls (v.toList ++ st)))) : G (T.setTop (mkF m pc ls sk)) := by
  obtain ⟨locs, Y, N, eT⟩ := X
  subst hp hst
  have hZ := w.2.2.2.2.1
  obtain ⟨v, _, ⟨T', L', k', n'⟩, -, Y', ⟨Lc, ⟨hQ, NL⟩, l1, y1, z1⟩, q⟩ := Jvm.LawKit.callS Y w.2.1 (y := y) w.2.2.2.2.2.1 (mvT hZ w1) (mvT hZ w2) (mvT hZ w3) (mvT hZ w4) hy (backOf (W := Wd) (Q := fun v h' L => Qy v h' ∧ Fr n0 L) hM hZ w4 w3 hfr hlo) (g := mkF m pc ls (av.reverse ++ st)) rfl (hsz.trans w.2.2.2.1.symm) (argsL := av) (rest := st) hlen rfl (by show 2 * 0 + _ ≤ _; omega) (hb w.2.2.1 hd) (fun _ _ => ⟨rfl, eT, hc, hs⟩)
  dsimp only [Pt.U, Pt.locs, Pt.cells, Pt.slots] at Y' l1 y1 z1 q hQ
  subst l1 y1 z1
  exact w.1 _ _ q (k v T' _ ⟨_, Y', Fr.app N NL, rfl⟩ hQ)
theorem callN (w : Wk p l e R s m args below meth c n0 Z own nm bc ml rt Q G) (X : Sd p l e R s m args below meth c n0 T h cells slots) {y : MethodName} {ybc : ByteArray} {yml : Nat} {rm : Room} {i : Nat} {sk : List Value} {Qy : Option Value → Heap → Prop} {a : Addr} (av : List Value) (w1 : (Cond.methodLink own i y).before a0 Z = true) (w2 : (Cond.instanceMethod y).before a0 Z = true) (w3 : (Cond.initialized y.cls).before a0 Z = true) (w4 : (Cond.code y ybc yml none).before a0 Z = true) (hi : y.name = "<init>") (hy : y.cls ≠ "java/lang/invoke/MethodHandle" ∧ y.cls ≠ "java/lang/invoke/VarHandle") (hM : Met l Z y ybc yml none [] rm (.ref a :: av).toArray h n0 Qy) (hd : decode bc pc = .ok (.invokespecial i, 3)) (pc' : Nat) (hp : pc + 3 = pc') (Wd : Nat) (hfr : rm.frames + 1 ≤ R.frames) (hlo : Wd + (yml + 11) + rm.locals ≤ R.locals) (hlen : ∀ sig, parseMethodDescriptor y.desc = some sig → av.length = sig.parameters.length) (hst : sk = av.reverse ++ .ref a :: st) (hW : (st.map fun v => v.category).sum ≤ Wd) (hsz : ls.size = ml) (hc : cells + rm.cells ≤ R.cells) (hs : slots + rm.slots ≤ R.slots) (k : ∀ (v : Option Value) (T' : State) (h' : Heap), Sd p l e R s m args below meth c n0 T' h' (cells + rm.cells) (slots + rm.slots) → Qy v h' → G (T'.setTop (mkF m pc' ls (v.toList ++ st)))) : G (T.setTop (mkF m pc ls sk)) := by
  obtain ⟨locs, Y, N, eT⟩ := X
  subst hp hst
  have hZ := w.2.2.2.2.1
  obtain ⟨v, _, ⟨T', L', k', n'⟩, -, Y', ⟨Lc, ⟨hQ, NL⟩, l1, y1, z1⟩, q⟩ := Y.specialBack w.2.1 (y := y) hi w.2.2.2.2.2.1 (mvT hZ w1) (mvT hZ w2) (mvT hZ w4) hy (backOf (W := Wd) (Q := fun v h' L => Qy v h' ∧ Fr n0 L) hM hZ w4 w3 hfr hlo) (g := mkF m pc ls (av.reverse ++ .ref a :: st)) rfl (hsz.trans w.2.2.2.1.symm) (Steps.refl _) (a := a) (argsL := av) (rest := st) hlen rfl (by show 2 * 0 + _ ≤ _; omega) (hb w.2.2.1 hd) (fun _ _ => ⟨rfl, eT, hc, hs⟩)
  dsimp only [Pt.U, Pt.locs, Pt.cells, Pt.slots] at Y' l1 y1 z1 q hQ
  subst l1 y1 z1
  exact w.1 _ _ (fun t z => q.trans z) (k v T' _ ⟨_, Y', Fr.app N NL, rfl⟩ hQ)
theorem callV (w : Wk p l e R s m args below meth c n0 Z own nm bc ml rt Q G) (X : Sd p l e R s m args below meth c n0 T h cells slots) {y z : MethodName} {ybc : ByteArray} {yml : Nat} {yrt : Option FieldType} {rm : Room} {i : Nat} {sk : List Value} {Qy : Option Value → Heap → Prop} {C : String} {a : Addr} (av : List Value) (w1 : (Cond.methodLink own i y).before a0 Z = true) (w2 : (Cond.declares y).before a0 Z = true) (hnf : NotFace s y) (w5 : (Cond.selects C y z).before a0 Z = true) (w6 : (Cond.instanceMethod z).before a0 Z = true) (w3 : (Cond.initialized z.cls).before a0 Z = true) (w4 : (Cond.code z ybc yml yrt).before a0 Z = true) (hy : y.cls ≠ "java/lang/invoke/MethodHandle" ∧ y.cls ≠ "java/lang/invoke/VarHandle") (E : Exa Z h a C) (hM : Met l Z z ybc yml yrt [] rm (.ref a :: av).toArray h n0 Qy) (hd : decode bc pc = .ok (.invokevirtual i, 3)) (pc' : Nat) (hp : pc + 3 = pc') (Wd : Nat) (hfr : rm.frames + 1 ≤ R.frames) (hlo : Wd + (yml + 11) + rm.locals ≤ R.locals) (hlen : ∀ sig, parseMethodDescriptor y.desc = some sig → av.length = sig.parameters.length) (hst : sk = av.reverse ++ .ref a :: st) (hW : (st.map fun v => v.category).sum ≤ Wd) (hsz : ls.size = ml) (hc : cells + rm.cells ≤ R.cells) (hs : slots + rm.slots ≤ R.slots) (k : ∀ (v : Option Value) (T' : State) (h' : Heap), Sd p l e R s m args below meth c n0 T' h' (cells + rm.cells) (slots + rm.slots) → Qy v h' → G (T'.setTop (mkF m pc' ls (v.toList ++ st)))) : G (T.setTop (mkF m pc ls sk)) := by
  obtain ⟨locs, Y, N, eT⟩ := X
  subst hp hst
  have hZ := w.2.2.2.2.1
  obtain ⟨cq, kq, qa, qb, qc⟩ := isOf hZ eT E
  obtain ⟨v, _, ⟨T', L', k', n'⟩, -, Y', ⟨Lc, ⟨hQ, NL⟩, l1, y1, z1⟩, q⟩ := Y.virtualBack w.2.1 (y := y) (z := z) w.2.2.2.2.2.1 (mvT hZ w1) (mvT hZ w2) hnf (mvT hZ w5) (mvT hZ w6) hy (backOf (W := Wd) (Q := fun v h' L => Qy v h' ∧ Fr n0 L) hM hZ w4 w3 hfr hlo) qa qc (g := mkF m pc ls (av.reverse ++ .ref a :: st)) rfl (hsz.trans w.2.2.2.1.symm) (Steps.refl _) (argsL := av) (rest := st) hlen rfl (by show 2 * 0 + _ ≤ _; omega) (hb w.2.2.1 hd) (fun _ _ => ⟨rfl, eT, hc, hs⟩)
  dsimp only [Pt.U, Pt.locs, Pt.cells, Pt.slots] at Y' l1 y1 z1 q hQ
  subst l1 y1 z1
  exact w.1 _ _ (fun t z => q.trans z) (k v T' _ ⟨_, Y', Fr.app N NL, rfl⟩ hQ)
theorem callP (w : Wk p l e R s m args below meth c n0 Z own nm bc ml rt Q G) (X : Sd p l e R s m args below meth c n0 T h cells slots) {y : MethodName} {ybc : ByteArray} {yml : Nat} {yrt : Option FieldType} {rm : Room} {i : Nat} {sk : List Value} {Qy : Option Value → Heap → Prop} {a : Addr} (av : List Value) (w1 : (Cond.methodLink own i y).before a0 Z = true) (w6 : (Cond.instanceMethod y).before a0 Z = true) (hnf : NotFace s y) (w7 : (Cond.privateMethod y).before a0 Z = true) (w3 : (Cond.initialized y.cls).before a0 Z = true) (w4 : (Cond.code y ybc yml yrt).before a0 Z = true) (hy : y.cls ≠ "java/lang/invoke/MethodHandle" ∧ y.cls ≠ "java/lang/invoke/VarHandle") {C : String} (E : Exa Z h a C) (hM : Met l Z y ybc yml yrt [] rm (.ref a :: av).toArray h n0 Qy) (hd : decode bc pc = .ok (.invokevirtual i, 3)) (pc' : Nat) (hp : pc + 3 = pc') (Wd : Nat) (hfr : rm.frames + 1 ≤ R.frames) (hlo : Wd + (yml + 11) + rm.locals ≤ R.locals) (hlen : ∀ sig, parseMethodDescriptor y.desc = some sig → av.length = sig.parameters.length) (hst : sk = av.reverse ++ .ref a :: st) (hW : (st.map fun v => v.category).sum ≤ Wd) (hsz : ls.size = ml) (hc : cells + rm.cells ≤ R.cells) (hs : slots + rm.slots ≤ R.slots) (k : ∀ (v : Option Value) (T' : State) (h' : Heap), Sd p l e R s m args below meth c n0 T' h' (cells + rm.cells) (slots + rm.slots) → Qy v h' → G (T'.setTop (mkF m pc' ls (v.toList ++ st)))) : G (T.setTop (mkF m pc ls sk)) := by
  obtain ⟨locs, Y, N, eT⟩ := X
  subst hp hst
  have hZ := w.2.2.2.2.1
  obtain ⟨cq, qa, qc⟩ := E.cell
  obtain ⟨v, _, ⟨T', L', k', n'⟩, -, Y', ⟨Lc, ⟨hQ, NL⟩, l1, y1, z1⟩, q⟩ := privB Y w.2.1 (y := y) w.2.2.2.2.2.1 (mvT hZ w1) (mvT hZ w6) hnf (Cond.privateMethod_at (mvP hZ w7 (args := #[]))) (mvT hZ w4) hy (backOf (W := Wd) (Q := fun v h' L => Qy v h' ∧ Fr n0 L) hM hZ w4 w3 hfr hlo) (g := mkF m pc ls (av.reverse ++ .ref a :: st)) rfl (hsz.trans w.2.2.2.1.symm) (Steps.refl _) (a := a) (by rw [eT]; exact qa) qc (argsL := av) (rest := st) hlen rfl (by show 2 * 0 + _ ≤ _; omega) (hb w.2.2.1 hd) (fun _ _ => ⟨rfl, eT, hc, hs⟩)
  dsimp only [Pt.U, Pt.locs, Pt.cells, Pt.slots] at Y' l1 y1 z1 q hQ
  subst l1 y1 z1
  exact w.1 _ _ (fun t z => q.trans z) (k v T' _ ⟨_, Y', Fr.app N NL, rfl⟩ hQ)
theorem callSI (w : Wk p l e R s m args below meth c n0 Z own nm bc ml rt Q G) (X : Sd p l e R s m args below meth c n0 T h cells slots) {y : MethodName} {ybc : ByteArray} {yml : Nat} {yrt : Option FieldType} {rm : Room} {i : Nat} {sk : List Value} {P : Int32 → Heap → Prop}  (av : List Value) (w1 : (Cond.methodLink own i y).before a0 Z = true) (w2 : (Cond.static y).before a0 Z = true) (w3 : (Cond.initialized y.cls).before a0 Z = true) (w4 : (Cond.code y ybc yml yrt).before a0 Z = true) (hy : y.cls ≠ "java/lang/invoke/MethodHandle" ∧ y.cls ≠ "java/lang/invoke/VarHandle") (hM : Met l Z y ybc yml yrt [] rm av.toArray h n0 (RI P)) (hd : decode bc pc = .ok (.invokestatic i, 3)) (pc' : Nat) (hp : pc + 3 = pc') (Wd : Nat) (hfr : rm.frames + 1 ≤ R.frames) (hlo : Wd + (yml + 11) + rm.locals ≤ R.locals) (hlen : ∀ sig, parseMethodDescriptor y.desc = some sig → av.length = sig.parameters.length) (hst : sk = av.reverse ++ st) (hW : (st.map fun v => v.category).sum ≤ Wd) (hsz : ls.size = ml) (hc : cells + rm.cells ≤ R.cells) (hs : slots + rm.slots ≤ R.slots) (k : ∀ (r : Int32) (T' : State) (h' : Heap), Sd p l e R s m args below meth c n0 T' h' (cells + rm.cells) (slots + rm.slots) → P r h' → G (T'.setTop (mkF m pc' ls (.int r :: st)))) : G (T.setTop (mkF m pc ls sk)) := by
  refine callS w X av w1 w2 w3 w4 hy hM hd pc' hp Wd hfr hlo hlen hst hW hsz hc hs (fun v T' h' Y hq => ?_)
  obtain ⟨r, rfl, hr⟩ := hq
  exact k r T' h' Y hr
theorem callSPI (w : Wk p l e R s m args below meth c n0 Z own nm bc ml rt Q G) (X : Sd p l e R s m args below meth c n0 T h cells slots) {y : MethodName} {ybc : ByteArray} {yml : Nat} {yrt : Option FieldType} {rm : Room} {i : Nat} {sk : List Value} {P : Int32 → Prop}  (av : List Value) (w1 : (Cond.methodLink own i y).before a0 Z = true) (w2 : (Cond.static y).before a0 Z = true) (w3 : (Cond.initialized y.cls).before a0 Z = true) (w4 : (Cond.code y ybc yml yrt).before a0 Z = true) (hy : y.cls ≠ "java/lang/invoke/MethodHandle" ∧ y.cls ≠ "java/lang/invoke/VarHandle") (hM : Met l Z y ybc yml yrt [] rm av.toArray h n0 (RI fun r h' => h' = h ∧ P r)) (hd : decode bc pc = .ok (.invokestatic i, 3)) (pc' : Nat) (hp : pc + 3 = pc') (Wd : Nat) (hfr : rm.frames + 1 ≤ R.frames) (hlo : Wd + (yml + 11) + rm.locals ≤ R.locals) (hlen : ∀ sig, parseMethodDescriptor y.desc = some sig → av.length = sig.parameters.length) (hst : sk = av.reverse ++ st) (hW : (st.map fun v => v.category).sum ≤ Wd) (hsz : ls.size = ml) (hc : cells + rm.cells ≤ R.cells) (hs : slots + rm.slots ≤ R.slots) (k : ∀ (r : Int32) (T' : State), Sd p l e R s m args below meth c n0 T' h (cells + rm.cells) (slots + rm.slots) → P r → G (T'.setTop (mkF m pc' ls (.int r :: st)))) : G (T.setTop (mkF m pc ls sk)) := by
  refine callSI w X av w1 w2 w3 w4 hy hM hd pc' hp Wd hfr hlo hlen hst hW hsz hc hs (fun r T' h' Y hq => ?_)
  obtain ⟨q, hr⟩ := hq
  subst q
  exact k r T' Y hr
theorem callSJ (w : Wk p l e R s m args below meth c n0 Z own nm bc ml rt Q G) (X : Sd p l e R s m args below meth c n0 T h cells slots) {y : MethodName} {ybc : ByteArray} {yml : Nat} {yrt : Option FieldType} {rm : Room} {i : Nat} {sk : List Value} {P : Int64 → Heap → Prop}  (av : List Value) (w1 : (Cond.methodLink own i y).before a0 Z = true) (w2 : (Cond.static y).before a0 Z = true) (w3 : (Cond.initialized y.cls).before a0 Z = true) (w4 : (Cond.code y ybc yml yrt).before a0 Z = true) (hy : y.cls ≠ "java/lang/invoke/MethodHandle" ∧ y.cls ≠ "java/lang/invoke/VarHandle") (hM : Met l Z y ybc yml yrt [] rm av.toArray h n0 (RJ P)) (hd : decode bc pc = .ok (.invokestatic i, 3)) (pc' : Nat) (hp : pc + 3 = pc') (Wd : Nat) (hfr : rm.frames + 1 ≤ R.frames) (hlo : Wd + (yml + 11) + rm.locals ≤ R.locals) (hlen : ∀ sig, parseMethodDescriptor y.desc = some sig → av.length = sig.parameters.length) (hst : sk = av.reverse ++ st) (hW : (st.map fun v => v.category).sum ≤ Wd) (hsz : ls.size = ml) (hc : cells + rm.cells ≤ R.cells) (hs : slots + rm.slots ≤ R.slots) (k : ∀ (r : Int64) (T' : State) (h' : Heap), Sd p l e R s m args below meth c n0 T' h' (cells + rm.cells) (slots + rm.slots) → P r h' → G (T'.setTop (mkF m pc' ls (.long r :: st)))) : G (T.setTop (mkF m pc ls sk)) := by
  refine callS w X av w1 w2 w3 w4 hy hM hd pc' hp Wd hfr hlo hlen hst hW hsz hc hs (fun v T' h' Y hq => ?_)
  obtain ⟨r, rfl, hr⟩ := hq
  exact k r T' h' Y hr
theorem callSPJ (w : Wk p l e R s m args below meth c n0 Z own nm bc ml rt Q G) (X : Sd p l e R s m args below meth c n0 T h cells slots) {y : MethodName} {ybc : ByteArray} {yml : Nat} {yrt : Option FieldType} {rm : Room} {i : Nat} {sk : List Value} {P : Int64 → Prop}  (av : List Value) (w1 : (Cond.methodLink own i y).before a0 Z = true) (w2 : (Cond.static y).before a0 Z = true) (w3 : (Cond.initialized y.cls).before a0 Z = true) (w4 : (Cond.code y ybc yml yrt).before a0 Z = true) (hy : y.cls ≠ "java/lang/invoke/MethodHandle" ∧ y.cls ≠ "java/lang/invoke/VarHandle") (hM : Met l Z y ybc yml yrt [] rm av.toArray h n0 (RJ fun r h' => h' = h ∧ P r)) (hd : decode bc pc = .ok (.invokestatic i, 3)) (pc' : Nat) (hp : pc + 3 = pc') (Wd : Nat) (hfr : rm.frames + 1 ≤ R.frames) (hlo : Wd + (yml + 11) + rm.locals ≤ R.locals) (hlen : ∀ sig, parseMethodDescriptor y.desc = some sig → av.length = sig.parameters.length) (hst : sk = av.reverse ++ st) (hW : (st.map fun v => v.category).sum ≤ Wd) (hsz : ls.size = ml) (hc : cells + rm.cells ≤ R.cells) (hs : slots + rm.slots ≤ R.slots) (k : ∀ (r : Int64) (T' : State), Sd p l e R s m args below meth c n0 T' h (cells + rm.cells) (slots + rm.slots) → P r → G (T'.setTop (mkF m pc' ls (.long r :: st)))) : G (T.setTop (mkF m pc ls sk)) := by
  refine callSJ w X av w1 w2 w3 w4 hy hM hd pc' hp Wd hfr hlo hlen hst hW hsz hc hs (fun r T' h' Y hq => ?_)
  obtain ⟨q, hr⟩ := hq
  subst q
  exact k r T' Y hr
theorem callSR (w : Wk p l e R s m args below meth c n0 Z own nm bc ml rt Q G) (X : Sd p l e R s m args below meth c n0 T h cells slots) {y : MethodName} {ybc : ByteArray} {yml : Nat} {yrt : Option FieldType} {rm : Room} {i : Nat} {sk : List Value} {P : Value → Heap → Prop}  (av : List Value) (w1 : (Cond.methodLink own i y).before a0 Z = true) (w2 : (Cond.static y).before a0 Z = true) (w3 : (Cond.initialized y.cls).before a0 Z = true) (w4 : (Cond.code y ybc yml yrt).before a0 Z = true) (hy : y.cls ≠ "java/lang/invoke/MethodHandle" ∧ y.cls ≠ "java/lang/invoke/VarHandle") (hM : Met l Z y ybc yml yrt [] rm av.toArray h n0 (RR P)) (hd : decode bc pc = .ok (.invokestatic i, 3)) (pc' : Nat) (hp : pc + 3 = pc') (Wd : Nat) (hfr : rm.frames + 1 ≤ R.frames) (hlo : Wd + (yml + 11) + rm.locals ≤ R.locals) (hlen : ∀ sig, parseMethodDescriptor y.desc = some sig → av.length = sig.parameters.length) (hst : sk = av.reverse ++ st) (hW : (st.map fun v => v.category).sum ≤ Wd) (hsz : ls.size = ml) (hc : cells + rm.cells ≤ R.cells) (hs : slots + rm.slots ≤ R.slots) (k : ∀ (r : Value) (T' : State) (h' : Heap), Sd p l e R s m args below meth c n0 T' h' (cells + rm.cells) (slots + rm.slots) → P r h' → G (T'.setTop (mkF m pc' ls (r :: st)))) : G (T.setTop (mkF m pc ls sk)) := by
  refine callS w X av w1 w2 w3 w4 hy hM hd pc' hp Wd hfr hlo hlen hst hW hsz hc hs (fun v T' h' Y hq => ?_)
  obtain ⟨r, rfl, hr⟩ := hq
  exact k r T' h' Y hr
theorem callSPR (w : Wk p l e R s m args below meth c n0 Z own nm bc ml rt Q G) (X : Sd p l e R s m args below meth c n0 T h cells slots) {y : MethodName} {ybc : ByteArray} {yml : Nat} {yrt : Option FieldType} {rm : Room} {i : Nat} {sk : List Value} {P : Value → Prop}  (av : List Value) (w1 : (Cond.methodLink own i y).before a0 Z = true) (w2 : (Cond.static y).before a0 Z = true) (w3 : (Cond.initialized y.cls).before a0 Z = true) (w4 : (Cond.code y ybc yml yrt).before a0 Z = true) (hy : y.cls ≠ "java/lang/invoke/MethodHandle" ∧ y.cls ≠ "java/lang/invoke/VarHandle") (hM : Met l Z y ybc yml yrt [] rm av.toArray h n0 (RR fun r h' => h' = h ∧ P r)) (hd : decode bc pc = .ok (.invokestatic i, 3)) (pc' : Nat) (hp : pc + 3 = pc') (Wd : Nat) (hfr : rm.frames + 1 ≤ R.frames) (hlo : Wd + (yml + 11) + rm.locals ≤ R.locals) (hlen : ∀ sig, parseMethodDescriptor y.desc = some sig → av.length = sig.parameters.length) (hst : sk = av.reverse ++ st) (hW : (st.map fun v => v.category).sum ≤ Wd) (hsz : ls.size = ml) (hc : cells + rm.cells ≤ R.cells) (hs : slots + rm.slots ≤ R.slots) (k : ∀ (r : Value) (T' : State), Sd p l e R s m args below meth c n0 T' h (cells + rm.cells) (slots + rm.slots) → P r → G (T'.setTop (mkF m pc' ls (r :: st)))) : G (T.setTop (mkF m pc ls sk)) := by
  refine callSR w X av w1 w2 w3 w4 hy hM hd pc' hp Wd hfr hlo hlen hst hW hsz hc hs (fun r T' h' Y hq => ?_)
  obtain ⟨q, hr⟩ := hq
  subst q
  exact k r T' Y hr
theorem callSV (w : Wk p l e R s m args below meth c n0 Z own nm bc ml rt Q G) (X : Sd p l e R s m args below meth c n0 T h cells slots) {y : MethodName} {ybc : ByteArray} {yml : Nat} {yrt : Option FieldType} {rm : Room} {i : Nat} {sk : List Value} {P : Heap → Prop}  (av : List Value) (w1 : (Cond.methodLink own i y).before a0 Z = true) (w2 : (Cond.static y).before a0 Z = true) (w3 : (Cond.initialized y.cls).before a0 Z = true) (w4 : (Cond.code y ybc yml yrt).before a0 Z = true) (hy : y.cls ≠ "java/lang/invoke/MethodHandle" ∧ y.cls ≠ "java/lang/invoke/VarHandle") (hM : Met l Z y ybc yml yrt [] rm av.toArray h n0 (RV P)) (hd : decode bc pc = .ok (.invokestatic i, 3)) (pc' : Nat) (hp : pc + 3 = pc') (Wd : Nat) (hfr : rm.frames + 1 ≤ R.frames) (hlo : Wd + (yml + 11) + rm.locals ≤ R.locals) (hlen : ∀ sig, parseMethodDescriptor y.desc = some sig → av.length = sig.parameters.length) (hst : sk = av.reverse ++ st) (hW : (st.map fun v => v.category).sum ≤ Wd) (hsz : ls.size = ml) (hc : cells + rm.cells ≤ R.cells) (hs : slots + rm.slots ≤ R.slots) (k : ∀  (T' : State) (h' : Heap), Sd p l e R s m args below meth c n0 T' h' (cells + rm.cells) (slots + rm.slots) → P h' → G (T'.setTop (mkF m pc' ls (st)))) : G (T.setTop (mkF m pc ls sk)) := by
  refine callS w X av w1 w2 w3 w4 hy hM hd pc' hp Wd hfr hlo hlen hst hW hsz hc hs (fun v T' h' Y hq => ?_)
  obtain ⟨rfl, hr⟩ := hq
  exact k T' h' Y hr
theorem callSPV (w : Wk p l e R s m args below meth c n0 Z own nm bc ml rt Q G) (X : Sd p l e R s m args below meth c n0 T h cells slots) {y : MethodName} {ybc : ByteArray} {yml : Nat} {yrt : Option FieldType} {rm : Room} {i : Nat} {sk : List Value}  (av : List Value) (w1 : (Cond.methodLink own i y).before a0 Z = true) (w2 : (Cond.static y).before a0 Z = true) (w3 : (Cond.initialized y.cls).before a0 Z = true) (w4 : (Cond.code y ybc yml yrt).before a0 Z = true) (hy : y.cls ≠ "java/lang/invoke/MethodHandle" ∧ y.cls ≠ "java/lang/invoke/VarHandle") (hM : Met l Z y ybc yml yrt [] rm av.toArray h n0 (RV fun h' => h' = h)) (hd : decode bc pc = .ok (.invokestatic i, 3)) (pc' : Nat) (hp : pc + 3 = pc') (Wd : Nat) (hfr : rm.frames + 1 ≤ R.frames) (hlo : Wd + (yml + 11) + rm.locals ≤ R.locals) (hlen : ∀ sig, parseMethodDescriptor y.desc = some sig → av.length = sig.parameters.length) (hst : sk = av.reverse ++ st) (hW : (st.map fun v => v.category).sum ≤ Wd) (hsz : ls.size = ml) (hc : cells + rm.cells ≤ R.cells) (hs : slots + rm.slots ≤ R.slots) (k : ∀ (T' : State), Sd p l e R s m args below meth c n0 T' h (cells + rm.cells) (slots + rm.slots) → G (T'.setTop (mkF m pc' ls st))) : G (T.setTop (mkF m pc ls sk)) := by
  refine callSV w X av w1 w2 w3 w4 hy hM hd pc' hp Wd hfr hlo hlen hst hW hsz hc hs (fun T' h' Y hq => ?_)
  subst hq
  exact k T' Y
theorem callNV (w : Wk p l e R s m args below meth c n0 Z own nm bc ml rt Q G) (X : Sd p l e R s m args below meth c n0 T h cells slots) {y : MethodName} {ybc : ByteArray} {yml : Nat} {rm : Room} {i : Nat} {sk : List Value} {P : Heap → Prop} {a : Addr} (av : List Value) (w1 : (Cond.methodLink own i y).before a0 Z = true) (w2 : (Cond.instanceMethod y).before a0 Z = true) (w3 : (Cond.initialized y.cls).before a0 Z = true) (w4 : (Cond.code y ybc yml none).before a0 Z = true) (hi : y.name = "<init>") (hy : y.cls ≠ "java/lang/invoke/MethodHandle" ∧ y.cls ≠ "java/lang/invoke/VarHandle") (hM : Met l Z y ybc yml none [] rm (.ref a :: av).toArray h n0 (RV P)) (hd : decode bc pc = .ok (.invokespecial i, 3)) (pc' : Nat) (hp : pc + 3 = pc') (Wd : Nat) (hfr : rm.frames + 1 ≤ R.frames) (hlo : Wd + (yml + 11) + rm.locals ≤ R.locals) (hlen : ∀ sig, parseMethodDescriptor y.desc = some sig → av.length = sig.parameters.length) (hst : sk = av.reverse ++ .ref a :: st) (hW : (st.map fun v => v.category).sum ≤ Wd) (hsz : ls.size = ml) (hc : cells + rm.cells ≤ R.cells) (hs : slots + rm.slots ≤ R.slots) (k : ∀  (T' : State) (h' : Heap), Sd p l e R s m args below meth c n0 T' h' (cells + rm.cells) (slots + rm.slots) → P h' → G (T'.setTop (mkF m pc' ls (st)))) : G (T.setTop (mkF m pc ls sk)) := by
  refine callN w X av w1 w2 w3 w4 hi hy hM hd pc' hp Wd hfr hlo hlen hst hW hsz hc hs (fun v T' h' Y hq => ?_)
  obtain ⟨rfl, hr⟩ := hq
  exact k T' h' Y hr
theorem callNPV (w : Wk p l e R s m args below meth c n0 Z own nm bc ml rt Q G) (X : Sd p l e R s m args below meth c n0 T h cells slots) {y : MethodName} {ybc : ByteArray} {yml : Nat} {rm : Room} {i : Nat} {sk : List Value} {a : Addr} (av : List Value) (w1 : (Cond.methodLink own i y).before a0 Z = true) (w2 : (Cond.instanceMethod y).before a0 Z = true) (w3 : (Cond.initialized y.cls).before a0 Z = true) (w4 : (Cond.code y ybc yml none).before a0 Z = true) (hi : y.name = "<init>") (hy : y.cls ≠ "java/lang/invoke/MethodHandle" ∧ y.cls ≠ "java/lang/invoke/VarHandle") (hM : Met l Z y ybc yml none [] rm (.ref a :: av).toArray h n0 (RV fun h' => h' = h)) (hd : decode bc pc = .ok (.invokespecial i, 3)) (pc' : Nat) (hp : pc + 3 = pc') (Wd : Nat) (hfr : rm.frames + 1 ≤ R.frames) (hlo : Wd + (yml + 11) + rm.locals ≤ R.locals) (hlen : ∀ sig, parseMethodDescriptor y.desc = some sig → av.length = sig.parameters.length) (hst : sk = av.reverse ++ .ref a :: st) (hW : (st.map fun v => v.category).sum ≤ Wd) (hsz : ls.size = ml) (hc : cells + rm.cells ≤ R.cells) (hs : slots + rm.slots ≤ R.slots) (k : ∀ (T' : State), Sd p l e R s m args below meth c n0 T' h (cells + rm.cells) (slots + rm.slots) → G (T'.setTop (mkF m pc' ls st))) : G (T.setTop (mkF m pc ls sk)) := by
  refine callNV w X av w1 w2 w3 w4 hi hy hM hd pc' hp Wd hfr hlo hlen hst hW hsz hc hs (fun T' h' Y hq => ?_)
  subst hq
  exact k T' Y
theorem callVI (w : Wk p l e R s m args below meth c n0 Z own nm bc ml rt Q G) (X : Sd p l e R s m args below meth c n0 T h cells slots) {y z : MethodName} {ybc : ByteArray} {yml : Nat} {yrt : Option FieldType} {rm : Room} {i : Nat} {sk : List Value} {P : Int32 → Heap → Prop} {a : Addr} {C : String} (av : List Value) (w1 : (Cond.methodLink own i y).before a0 Z = true) (w2 : (Cond.declares y).before a0 Z = true) (hnf : NotFace s y) (w5 : (Cond.selects C y z).before a0 Z = true) (w6 : (Cond.instanceMethod z).before a0 Z = true) (w3 : (Cond.initialized z.cls).before a0 Z = true) (w4 : (Cond.code z ybc yml yrt).before a0 Z = true) (hy : y.cls ≠ "java/lang/invoke/MethodHandle" ∧ y.cls ≠ "java/lang/invoke/VarHandle") (E : Exa Z h a C) (hM : Met l Z z ybc yml yrt [] rm (.ref a :: av).toArray h n0 (RI P)) (hd : decode bc pc = .ok (.invokevirtual i, 3)) (pc' : Nat) (hp : pc + 3 = pc') (Wd : Nat) (hfr : rm.frames + 1 ≤ R.frames) (hlo : Wd + (yml + 11) + rm.locals ≤ R.locals) (hlen : ∀ sig, parseMethodDescriptor y.desc = some sig → av.length = sig.parameters.length) (hst : sk = av.reverse ++ .ref a :: st) (hW : (st.map fun v => v.category).sum ≤ Wd) (hsz : ls.size = ml) (hc : cells + rm.cells ≤ R.cells) (hs : slots + rm.slots ≤ R.slots) (k : ∀ (r : Int32) (T' : State) (h' : Heap), Sd p l e R s m args below meth c n0 T' h' (cells + rm.cells) (slots + rm.slots) → P r h' → G (T'.setTop (mkF m pc' ls (.int r :: st)))) : G (T.setTop (mkF m pc ls sk)) := by
  refine callV w X av w1 w2 hnf w5 w6 w3 w4 hy E hM hd pc' hp Wd hfr hlo hlen hst hW hsz hc hs (fun v T' h' Y hq => ?_)
  obtain ⟨r, rfl, hr⟩ := hq
  exact k r T' h' Y hr
theorem callVPI (w : Wk p l e R s m args below meth c n0 Z own nm bc ml rt Q G) (X : Sd p l e R s m args below meth c n0 T h cells slots) {y z : MethodName} {ybc : ByteArray} {yml : Nat} {yrt : Option FieldType} {rm : Room} {i : Nat} {sk : List Value} {P : Int32 → Prop} {a : Addr} {C : String} (av : List Value) (w1 : (Cond.methodLink own i y).before a0 Z = true) (w2 : (Cond.declares y).before a0 Z = true) (hnf : NotFace s y) (w5 : (Cond.selects C y z).before a0 Z = true) (w6 : (Cond.instanceMethod z).before a0 Z = true) (w3 : (Cond.initialized z.cls).before a0 Z = true) (w4 : (Cond.code z ybc yml yrt).before a0 Z = true) (hy : y.cls ≠ "java/lang/invoke/MethodHandle" ∧ y.cls ≠ "java/lang/invoke/VarHandle") (E : Exa Z h a C) (hM : Met l Z z ybc yml yrt [] rm (.ref a :: av).toArray h n0 (RI fun r h' => h' = h ∧ P r)) (hd : decode bc pc = .ok (.invokevirtual i, 3)) (pc' : Nat) (hp : pc + 3 = pc') (Wd : Nat) (hfr : rm.frames + 1 ≤ R.frames) (hlo : Wd + (yml + 11) + rm.locals ≤ R.locals) (hlen : ∀ sig, parseMethodDescriptor y.desc = some sig → av.length = sig.parameters.length) (hst : sk = av.reverse ++ .ref a :: st) (hW : (st.map fun v => v.category).sum ≤ Wd) (hsz : ls.size = ml) (hc : cells + rm.cells ≤ R.cells) (hs : slots + rm.slots ≤ R.slots) (k : ∀ (r : Int32) (T' : State), Sd p l e R s m args below meth c n0 T' h (cells + rm.cells) (slots + rm.slots) → P r → G (T'.setTop (mkF m pc' ls (.int r :: st)))) : G (T.setTop (mkF m pc ls sk)) := by
  refine callVI w X av w1 w2 hnf w5 w6 w3 w4 hy E hM hd pc' hp Wd hfr hlo hlen hst hW hsz hc hs (fun r T' h' Y hq => ?_)
  obtain ⟨q, hr⟩ := hq
  subst q
  exact k r T' Y hr
theorem callVJ (w : Wk p l e R s m args below meth c n0 Z own nm bc ml rt Q G) (X : Sd p l e R s m args below meth c n0 T h cells slots) {y z : MethodName} {ybc : ByteArray} {yml : Nat} {yrt : Option FieldType} {rm : Room} {i : Nat} {sk : List Value} {P : Int64 → Heap → Prop} {a : Addr} {C : String} (av : List Value) (w1 : (Cond.methodLink own i y).before a0 Z = true) (w2 : (Cond.declares y).before a0 Z = true) (hnf : NotFace s y) (w5 : (Cond.selects C y z).before a0 Z = true) (w6 : (Cond.instanceMethod z).before a0 Z = true) (w3 : (Cond.initialized z.cls).before a0 Z = true) (w4 : (Cond.code z ybc yml yrt).before a0 Z = true) (hy : y.cls ≠ "java/lang/invoke/MethodHandle" ∧ y.cls ≠ "java/lang/invoke/VarHandle") (E : Exa Z h a C) (hM : Met l Z z ybc yml yrt [] rm (.ref a :: av).toArray h n0 (RJ P)) (hd : decode bc pc = .ok (.invokevirtual i, 3)) (pc' : Nat) (hp : pc + 3 = pc') (Wd : Nat) (hfr : rm.frames + 1 ≤ R.frames) (hlo : Wd + (yml + 11) + rm.locals ≤ R.locals) (hlen : ∀ sig, parseMethodDescriptor y.desc = some sig → av.length = sig.parameters.length) (hst : sk = av.reverse ++ .ref a :: st) (hW : (st.map fun v => v.category).sum ≤ Wd) (hsz : ls.size = ml) (hc : cells + rm.cells ≤ R.cells) (hs : slots + rm.slots ≤ R.slots) (k : ∀ (r : Int64) (T' : State) (h' : Heap), Sd p l e R s m args below meth c n0 T' h' (cells + rm.cells) (slots + rm.slots) → P r h' → G (T'.setTop (mkF m pc' ls (.long r :: st)))) : G (T.setTop (mkF m pc ls sk)) := by
  refine callV w X av w1 w2 hnf w5 w6 w3 w4 hy E hM hd pc' hp Wd hfr hlo hlen hst hW hsz hc hs (fun v T' h' Y hq => ?_)
  obtain ⟨r, rfl, hr⟩ := hq
  exact k r T' h' Y hr
theorem callVPJ (w : Wk p l e R s m args below meth c n0 Z own nm bc ml rt Q G) (X : Sd p l e R s m args below meth c n0 T h cells slots) {y z : MethodName} {ybc : ByteArray} {yml : Nat} {yrt : Option FieldType} {rm : Room} {i : Nat} {sk : List Value} {P : Int64 → Prop} {a : Addr} {C : String} (av : List Value) (w1 : (Cond.methodLink own i y).before a0 Z = true) (w2 : (Cond.declares y).before a0 Z = true) (hnf : NotFace s y) (w5 : (Cond.selects C y z).before a0 Z = true) (w6 : (Cond.instanceMethod z).before a0 Z = true) (w3 : (Cond.initialized z.cls).before a0 Z = true) (w4 : (Cond.code z ybc yml yrt).before a0 Z = true) (hy : y.cls ≠ "java/lang/invoke/MethodHandle" ∧ y.cls ≠ "java/lang/invoke/VarHandle") (E : Exa Z h a C) (hM : Met l Z z ybc yml yrt [] rm (.ref a :: av).toArray h n0 (RJ fun r h' => h' = h ∧ P r)) (hd : decode bc pc = .ok (.invokevirtual i, 3)) (pc' : Nat) (hp : pc + 3 = pc') (Wd : Nat) (hfr : rm.frames + 1 ≤ R.frames) (hlo : Wd + (yml + 11) + rm.locals ≤ R.locals) (hlen : ∀ sig, parseMethodDescriptor y.desc = some sig → av.length = sig.parameters.length) (hst : sk = av.reverse ++ .ref a :: st) (hW : (st.map fun v => v.category).sum ≤ Wd) (hsz : ls.size = ml) (hc : cells + rm.cells ≤ R.cells) (hs : slots + rm.slots ≤ R.slots) (k : ∀ (r : Int64) (T' : State), Sd p l e R s m args below meth c n0 T' h (cells + rm.cells) (slots + rm.slots) → P r → G (T'.setTop (mkF m pc' ls (.long r :: st)))) : G (T.setTop (mkF m pc ls sk)) := by
  refine callVJ w X av w1 w2 hnf w5 w6 w3 w4 hy E hM hd pc' hp Wd hfr hlo hlen hst hW hsz hc hs (fun r T' h' Y hq => ?_)
  obtain ⟨q, hr⟩ := hq
  subst q
  exact k r T' Y hr
theorem callVR (w : Wk p l e R s m args below meth c n0 Z own nm bc ml rt Q G) (X : Sd p l e R s m args below meth c n0 T h cells slots) {y z : MethodName} {ybc : ByteArray} {yml : Nat} {yrt : Option FieldType} {rm : Room} {i : Nat} {sk : List Value} {P : Value → Heap → Prop} {a : Addr} {C : String} (av : List Value) (w1 : (Cond.methodLink own i y).before a0 Z = true) (w2 : (Cond.declares y).before a0 Z = true) (hnf : NotFace s y) (w5 : (Cond.selects C y z).before a0 Z = true) (w6 : (Cond.instanceMethod z).before a0 Z = true) (w3 : (Cond.initialized z.cls).before a0 Z = true) (w4 : (Cond.code z ybc yml yrt).before a0 Z = true) (hy : y.cls ≠ "java/lang/invoke/MethodHandle" ∧ y.cls ≠ "java/lang/invoke/VarHandle") (E : Exa Z h a C) (hM : Met l Z z ybc yml yrt [] rm (.ref a :: av).toArray h n0 (RR P)) (hd : decode bc pc = .ok (.invokevirtual i, 3)) (pc' : Nat) (hp : pc + 3 = pc') (Wd : Nat) (hfr : rm.frames + 1 ≤ R.frames) (hlo : Wd + (yml + 11) + rm.locals ≤ R.locals) (hlen : ∀ sig, parseMethodDescriptor y.desc = some sig → av.length = sig.parameters.length) (hst : sk = av.reverse ++ .ref a :: st) (hW : (st.map fun v => v.category).sum ≤ Wd) (hsz : ls.size = ml) (hc : cells + rm.cells ≤ R.cells) (hs : slots + rm.slots ≤ R.slots) (k : ∀ (r : Value) (T' : State) (h' : Heap), Sd p l e R s m args below meth c n0 T' h' (cells + rm.cells) (slots + rm.slots) → P r h' → G (T'.setTop (mkF m pc' ls (r :: st)))) : G (T.setTop (mkF m pc ls sk)) := by
  refine callV w X av w1 w2 hnf w5 w6 w3 w4 hy E hM hd pc' hp Wd hfr hlo hlen hst hW hsz hc hs (fun v T' h' Y hq => ?_)
  obtain ⟨r, rfl, hr⟩ := hq
  exact k r T' h' Y hr
theorem callVPR (w : Wk p l e R s m args below meth c n0 Z own nm bc ml rt Q G) (X : Sd p l e R s m args below meth c n0 T h cells slots) {y z : MethodName} {ybc : ByteArray} {yml : Nat} {yrt : Option FieldType} {rm : Room} {i : Nat} {sk : List Value} {P : Value → Prop} {a : Addr} {C : String} (av : List Value) (w1 : (Cond.methodLink own i y).before a0 Z = true) (w2 : (Cond.declares y).before a0 Z = true) (hnf : NotFace s y) (w5 : (Cond.selects C y z).before a0 Z = true) (w6 : (Cond.instanceMethod z).before a0 Z = true) (w3 : (Cond.initialized z.cls).before a0 Z = true) (w4 : (Cond.code z ybc yml yrt).before a0 Z = true) (hy : y.cls ≠ "java/lang/invoke/MethodHandle" ∧ y.cls ≠ "java/lang/invoke/VarHandle") (E : Exa Z h a C) (hM : Met l Z z ybc yml yrt [] rm (.ref a :: av).toArray h n0 (RR fun r h' => h' = h ∧ P r)) (hd : decode bc pc = .ok (.invokevirtual i, 3)) (pc' : Nat) (hp : pc + 3 = pc') (Wd : Nat) (hfr : rm.frames + 1 ≤ R.frames) (hlo : Wd + (yml + 11) + rm.locals ≤ R.locals) (hlen : ∀ sig, parseMethodDescriptor y.desc = some sig → av.length = sig.parameters.length) (hst : sk = av.reverse ++ .ref a :: st) (hW : (st.map fun v => v.category).sum ≤ Wd) (hsz : ls.size = ml) (hc : cells + rm.cells ≤ R.cells) (hs : slots + rm.slots ≤ R.slots) (k : ∀ (r : Value) (T' : State), Sd p l e R s m args below meth c n0 T' h (cells + rm.cells) (slots + rm.slots) → P r → G (T'.setTop (mkF m pc' ls (r :: st)))) : G (T.setTop (mkF m pc ls sk)) := by
  refine callVR w X av w1 w2 hnf w5 w6 w3 w4 hy E hM hd pc' hp Wd hfr hlo hlen hst hW hsz hc hs (fun r T' h' Y hq => ?_)
  obtain ⟨q, hr⟩ := hq
  subst q
  exact k r T' Y hr
theorem callVV (w : Wk p l e R s m args below meth c n0 Z own nm bc ml rt Q G) (X : Sd p l e R s m args below meth c n0 T h cells slots) {y z : MethodName} {ybc : ByteArray} {yml : Nat} {yrt : Option FieldType} {rm : Room} {i : Nat} {sk : List Value} {P : Heap → Prop} {a : Addr} {C : String} (av : List Value) (w1 : (Cond.methodLink own i y).before a0 Z = true) (w2 : (Cond.declares y).before a0 Z = true) (hnf : NotFace s y) (w5 : (Cond.selects C y z).before a0 Z = true) (w6 : (Cond.instanceMethod z).before a0 Z = true) (w3 : (Cond.initialized z.cls).before a0 Z = true) (w4 : (Cond.code z ybc yml yrt).before a0 Z = true) (hy : y.cls ≠ "java/lang/invoke/MethodHandle" ∧ y.cls ≠ "java/lang/invoke/VarHandle") (E : Exa Z h a C) (hM : Met l Z z ybc yml yrt [] rm (.ref a :: av).toArray h n0 (RV P)) (hd : decode bc pc = .ok (.invokevirtual i, 3)) (pc' : Nat) (hp : pc + 3 = pc') (Wd : Nat) (hfr : rm.frames + 1 ≤ R.frames) (hlo : Wd + (yml + 11) + rm.locals ≤ R.locals) (hlen : ∀ sig, parseMethodDescriptor y.desc = some sig → av.length = sig.parameters.length) (hst : sk = av.reverse ++ .ref a :: st) (hW : (st.map fun v => v.category).sum ≤ Wd) (hsz : ls.size = ml) (hc : cells + rm.cells ≤ R.cells) (hs : slots + rm.slots ≤ R.slots) (k : ∀  (T' : State) (h' : Heap), Sd p l e R s m args below meth c n0 T' h' (cells + rm.cells) (slots + rm.slots) → P h' → G (T'.setTop (mkF m pc' ls (st)))) : G (T.setTop (mkF m pc ls sk)) := by
  refine callV w X av w1 w2 hnf w5 w6 w3 w4 hy E hM hd pc' hp Wd hfr hlo hlen hst hW hsz hc hs (fun v T' h' Y hq => ?_)
  obtain ⟨rfl, hr⟩ := hq
  exact k T' h' Y hr
theorem callVPV (w : Wk p l e R s m args below meth c n0 Z own nm bc ml rt Q G) (X : Sd p l e R s m args below meth c n0 T h cells slots) {y z : MethodName} {ybc : ByteArray} {yml : Nat} {yrt : Option FieldType} {rm : Room} {i : Nat} {sk : List Value} {a : Addr} {C : String} (av : List Value) (w1 : (Cond.methodLink own i y).before a0 Z = true) (w2 : (Cond.declares y).before a0 Z = true) (hnf : NotFace s y) (w5 : (Cond.selects C y z).before a0 Z = true) (w6 : (Cond.instanceMethod z).before a0 Z = true) (w3 : (Cond.initialized z.cls).before a0 Z = true) (w4 : (Cond.code z ybc yml yrt).before a0 Z = true) (hy : y.cls ≠ "java/lang/invoke/MethodHandle" ∧ y.cls ≠ "java/lang/invoke/VarHandle") (E : Exa Z h a C) (hM : Met l Z z ybc yml yrt [] rm (.ref a :: av).toArray h n0 (RV fun h' => h' = h)) (hd : decode bc pc = .ok (.invokevirtual i, 3)) (pc' : Nat) (hp : pc + 3 = pc') (Wd : Nat) (hfr : rm.frames + 1 ≤ R.frames) (hlo : Wd + (yml + 11) + rm.locals ≤ R.locals) (hlen : ∀ sig, parseMethodDescriptor y.desc = some sig → av.length = sig.parameters.length) (hst : sk = av.reverse ++ .ref a :: st) (hW : (st.map fun v => v.category).sum ≤ Wd) (hsz : ls.size = ml) (hc : cells + rm.cells ≤ R.cells) (hs : slots + rm.slots ≤ R.slots) (k : ∀ (T' : State), Sd p l e R s m args below meth c n0 T' h (cells + rm.cells) (slots + rm.slots) → G (T'.setTop (mkF m pc' ls st))) : G (T.setTop (mkF m pc ls sk)) := by
  refine callVV w X av w1 w2 hnf w5 w6 w3 w4 hy E hM hd pc' hp Wd hfr hlo hlen hst hW hsz hc hs (fun T' h' Y hq => ?_)
  subst hq
  exact k T' Y
theorem callPI (w : Wk p l e R s m args below meth c n0 Z own nm bc ml rt Q G) (X : Sd p l e R s m args below meth c n0 T h cells slots) {y : MethodName} {ybc : ByteArray} {yml : Nat} {yrt : Option FieldType} {rm : Room} {i : Nat} {sk : List Value} {P : Int32 → Heap → Prop} {a : Addr} {C : String} (av : List Value) (w1 : (Cond.methodLink own i y).before a0 Z = true) (w6 : (Cond.instanceMethod y).before a0 Z = true) (hnf : NotFace s y) (w7 : (Cond.privateMethod y).before a0 Z = true) (w3 : (Cond.initialized y.cls).before a0 Z = true) (w4 : (Cond.code y ybc yml yrt).before a0 Z = true) (hy : y.cls ≠ "java/lang/invoke/MethodHandle" ∧ y.cls ≠ "java/lang/invoke/VarHandle") (E : Exa Z h a C) (hM : Met l Z y ybc yml yrt [] rm (.ref a :: av).toArray h n0 (RI P)) (hd : decode bc pc = .ok (.invokevirtual i, 3)) (pc' : Nat) (hp : pc + 3 = pc') (Wd : Nat) (hfr : rm.frames + 1 ≤ R.frames) (hlo : Wd + (yml + 11) + rm.locals ≤ R.locals) (hlen : ∀ sig, parseMethodDescriptor y.desc = some sig → av.length = sig.parameters.length) (hst : sk = av.reverse ++ .ref a :: st) (hW : (st.map fun v => v.category).sum ≤ Wd) (hsz : ls.size = ml) (hc : cells + rm.cells ≤ R.cells) (hs : slots + rm.slots ≤ R.slots) (k : ∀ (r : Int32) (T' : State) (h' : Heap), Sd p l e R s m args below meth c n0 T' h' (cells + rm.cells) (slots + rm.slots) → P r h' → G (T'.setTop (mkF m pc' ls (.int r :: st)))) : G (T.setTop (mkF m pc ls sk)) := by
  refine callP w X av w1 w6 hnf w7 w3 w4 hy E hM hd pc' hp Wd hfr hlo hlen hst hW hsz hc hs (fun v T' h' Y hq => ?_)
  obtain ⟨r, rfl, hr⟩ := hq
  exact k r T' h' Y hr
theorem callPPI (w : Wk p l e R s m args below meth c n0 Z own nm bc ml rt Q G) (X : Sd p l e R s m args below meth c n0 T h cells slots) {y : MethodName} {ybc : ByteArray} {yml : Nat} {yrt : Option FieldType} {rm : Room} {i : Nat} {sk : List Value} {P : Int32 → Prop} {a : Addr} {C : String} (av : List Value) (w1 : (Cond.methodLink own i y).before a0 Z = true) (w6 : (Cond.instanceMethod y).before a0 Z = true) (hnf : NotFace s y) (w7 : (Cond.privateMethod y).before a0 Z = true) (w3 : (Cond.initialized y.cls).before a0 Z = true) (w4 : (Cond.code y ybc yml yrt).before a0 Z = true) (hy : y.cls ≠ "java/lang/invoke/MethodHandle" ∧ y.cls ≠ "java/lang/invoke/VarHandle") (E : Exa Z h a C) (hM : Met l Z y ybc yml yrt [] rm (.ref a :: av).toArray h n0 (RI fun r h' => h' = h ∧ P r)) (hd : decode bc pc = .ok (.invokevirtual i, 3)) (pc' : Nat) (hp : pc + 3 = pc') (Wd : Nat) (hfr : rm.frames + 1 ≤ R.frames) (hlo : Wd + (yml + 11) + rm.locals ≤ R.locals) (hlen : ∀ sig, parseMethodDescriptor y.desc = some sig → av.length = sig.parameters.length) (hst : sk = av.reverse ++ .ref a :: st) (hW : (st.map fun v => v.category).sum ≤ Wd) (hsz : ls.size = ml) (hc : cells + rm.cells ≤ R.cells) (hs : slots + rm.slots ≤ R.slots) (k : ∀ (r : Int32) (T' : State), Sd p l e R s m args below meth c n0 T' h (cells + rm.cells) (slots + rm.slots) → P r → G (T'.setTop (mkF m pc' ls (.int r :: st)))) : G (T.setTop (mkF m pc ls sk)) := by
  refine callPI w X av w1 w6 hnf w7 w3 w4 hy E hM hd pc' hp Wd hfr hlo hlen hst hW hsz hc hs (fun r T' h' Y hq => ?_)
  obtain ⟨q, hr⟩ := hq
  subst q
  exact k r T' Y hr
theorem callPJ (w : Wk p l e R s m args below meth c n0 Z own nm bc ml rt Q G) (X : Sd p l e R s m args below meth c n0 T h cells slots) {y : MethodName} {ybc : ByteArray} {yml : Nat} {yrt : Option FieldType} {rm : Room} {i : Nat} {sk : List Value} {P : Int64 → Heap → Prop} {a : Addr} {C : String} (av : List Value) (w1 : (Cond.methodLink own i y).before a0 Z = true) (w6 : (Cond.instanceMethod y).before a0 Z = true) (hnf : NotFace s y) (w7 : (Cond.privateMethod y).before a0 Z = true) (w3 : (Cond.initialized y.cls).before a0 Z = true) (w4 : (Cond.code y ybc yml yrt).before a0 Z = true) (hy : y.cls ≠ "java/lang/invoke/MethodHandle" ∧ y.cls ≠ "java/lang/invoke/VarHandle") (E : Exa Z h a C) (hM : Met l Z y ybc yml yrt [] rm (.ref a :: av).toArray h n0 (RJ P)) (hd : decode bc pc = .ok (.invokevirtual i, 3)) (pc' : Nat) (hp : pc + 3 = pc') (Wd : Nat) (hfr : rm.frames + 1 ≤ R.frames) (hlo : Wd + (yml + 11) + rm.locals ≤ R.locals) (hlen : ∀ sig, parseMethodDescriptor y.desc = some sig → av.length = sig.parameters.length) (hst : sk = av.reverse ++ .ref a :: st) (hW : (st.map fun v => v.category).sum ≤ Wd) (hsz : ls.size = ml) (hc : cells + rm.cells ≤ R.cells) (hs : slots + rm.slots ≤ R.slots) (k : ∀ (r : Int64) (T' : State) (h' : Heap), Sd p l e R s m args below meth c n0 T' h' (cells + rm.cells) (slots + rm.slots) → P r h' → G (T'.setTop (mkF m pc' ls (.long r :: st)))) : G (T.setTop (mkF m pc ls sk)) := by
  refine callP w X av w1 w6 hnf w7 w3 w4 hy E hM hd pc' hp Wd hfr hlo hlen hst hW hsz hc hs (fun v T' h' Y hq => ?_)
  obtain ⟨r, rfl, hr⟩ := hq
  exact k r T' h' Y hr
theorem callPPJ (w : Wk p l e R s m args below meth c n0 Z own nm bc ml rt Q G) (X : Sd p l e R s m args below meth c n0 T h cells slots) {y : MethodName} {ybc : ByteArray} {yml : Nat} {yrt : Option FieldType} {rm : Room} {i : Nat} {sk : List Value} {P : Int64 → Prop} {a : Addr} {C : String} (av : List Value) (w1 : (Cond.methodLink own i y).before a0 Z = true) (w6 : (Cond.instanceMethod y).before a0 Z = true) (hnf : NotFace s y) (w7 : (Cond.privateMethod y).before a0 Z = true) (w3 : (Cond.initialized y.cls).before a0 Z = true) (w4 : (Cond.code y ybc yml yrt).before a0 Z = true) (hy : y.cls ≠ "java/lang/invoke/MethodHandle" ∧ y.cls ≠ "java/lang/invoke/VarHandle") (E : Exa Z h a C) (hM : Met l Z y ybc yml yrt [] rm (.ref a :: av).toArray h n0 (RJ fun r h' => h' = h ∧ P r)) (hd : decode bc pc = .ok (.invokevirtual i, 3)) (pc' : Nat) (hp : pc + 3 = pc') (Wd : Nat) (hfr : rm.frames + 1 ≤ R.frames) (hlo : Wd + (yml + 11) + rm.locals ≤ R.locals) (hlen : ∀ sig, parseMethodDescriptor y.desc = some sig → av.length = sig.parameters.length) (hst : sk = av.reverse ++ .ref a :: st) (hW : (st.map fun v => v.category).sum ≤ Wd) (hsz : ls.size = ml) (hc : cells + rm.cells ≤ R.cells) (hs : slots + rm.slots ≤ R.slots) (k : ∀ (r : Int64) (T' : State), Sd p l e R s m args below meth c n0 T' h (cells + rm.cells) (slots + rm.slots) → P r → G (T'.setTop (mkF m pc' ls (.long r :: st)))) : G (T.setTop (mkF m pc ls sk)) := by
  refine callPJ w X av w1 w6 hnf w7 w3 w4 hy E hM hd pc' hp Wd hfr hlo hlen hst hW hsz hc hs (fun r T' h' Y hq => ?_)
  obtain ⟨q, hr⟩ := hq
  subst q
  exact k r T' Y hr
theorem callPR (w : Wk p l e R s m args below meth c n0 Z own nm bc ml rt Q G) (X : Sd p l e R s m args below meth c n0 T h cells slots) {y : MethodName} {ybc : ByteArray} {yml : Nat} {yrt : Option FieldType} {rm : Room} {i : Nat} {sk : List Value} {P : Value → Heap → Prop} {a : Addr} {C : String} (av : List Value) (w1 : (Cond.methodLink own i y).before a0 Z = true) (w6 : (Cond.instanceMethod y).before a0 Z = true) (hnf : NotFace s y) (w7 : (Cond.privateMethod y).before a0 Z = true) (w3 : (Cond.initialized y.cls).before a0 Z = true) (w4 : (Cond.code y ybc yml yrt).before a0 Z = true) (hy : y.cls ≠ "java/lang/invoke/MethodHandle" ∧ y.cls ≠ "java/lang/invoke/VarHandle") (E : Exa Z h a C) (hM : Met l Z y ybc yml yrt [] rm (.ref a :: av).toArray h n0 (RR P)) (hd : decode bc pc = .ok (.invokevirtual i, 3)) (pc' : Nat) (hp : pc + 3 = pc') (Wd : Nat) (hfr : rm.frames + 1 ≤ R.frames) (hlo : Wd + (yml + 11) + rm.locals ≤ R.locals) (hlen : ∀ sig, parseMethodDescriptor y.desc = some sig → av.length = sig.parameters.length) (hst : sk = av.reverse ++ .ref a :: st) (hW : (st.map fun v => v.category).sum ≤ Wd) (hsz : ls.size = ml) (hc : cells + rm.cells ≤ R.cells) (hs : slots + rm.slots ≤ R.slots) (k : ∀ (r : Value) (T' : State) (h' : Heap), Sd p l e R s m args below meth c n0 T' h' (cells + rm.cells) (slots + rm.slots) → P r h' → G (T'.setTop (mkF m pc' ls (r :: st)))) : G (T.setTop (mkF m pc ls sk)) := by
  refine callP w X av w1 w6 hnf w7 w3 w4 hy E hM hd pc' hp Wd hfr hlo hlen hst hW hsz hc hs (fun v T' h' Y hq => ?_)
  obtain ⟨r, rfl, hr⟩ := hq
  exact k r T' h' Y hr
theorem callPPR (w : Wk p l e R s m args below meth c n0 Z own nm bc ml rt Q G) (X : Sd p l e R s m args below meth c n0 T h cells slots) {y : MethodName} {ybc : ByteArray} {yml : Nat} {yrt : Option FieldType} {rm : Room} {i : Nat} {sk : List Value} {P : Value → Prop} {a : Addr} {C : String} (av : List Value) (w1 : (Cond.methodLink own i y).before a0 Z = true) (w6 : (Cond.instanceMethod y).before a0 Z = true) (hnf : NotFace s y) (w7 : (Cond.privateMethod y).before a0 Z = true) (w3 : (Cond.initialized y.cls).before a0 Z = true) (w4 : (Cond.code y ybc yml yrt).before a0 Z = true) (hy : y.cls ≠ "java/lang/invoke/MethodHandle" ∧ y.cls ≠ "java/lang/invoke/VarHandle") (E : Exa Z h a C) (hM : Met l Z y ybc yml yrt [] rm (.ref a :: av).toArray h n0 (RR fun r h' => h' = h ∧ P r)) (hd : decode bc pc = .ok (.invokevirtual i, 3)) (pc' : Nat) (hp : pc + 3 = pc') (Wd : Nat) (hfr : rm.frames + 1 ≤ R.frames) (hlo : Wd + (yml + 11) + rm.locals ≤ R.locals) (hlen : ∀ sig, parseMethodDescriptor y.desc = some sig → av.length = sig.parameters.length) (hst : sk = av.reverse ++ .ref a :: st) (hW : (st.map fun v => v.category).sum ≤ Wd) (hsz : ls.size = ml) (hc : cells + rm.cells ≤ R.cells) (hs : slots + rm.slots ≤ R.slots) (k : ∀ (r : Value) (T' : State), Sd p l e R s m args below meth c n0 T' h (cells + rm.cells) (slots + rm.slots) → P r → G (T'.setTop (mkF m pc' ls (r :: st)))) : G (T.setTop (mkF m pc ls sk)) := by
  refine callPR w X av w1 w6 hnf w7 w3 w4 hy E hM hd pc' hp Wd hfr hlo hlen hst hW hsz hc hs (fun r T' h' Y hq => ?_)
  obtain ⟨q, hr⟩ := hq
  subst q
  exact k r T' Y hr
theorem callPV (w : Wk p l e R s m args below meth c n0 Z own nm bc ml rt Q G) (X : Sd p l e R s m args below meth c n0 T h cells slots) {y : MethodName} {ybc : ByteArray} {yml : Nat} {yrt : Option FieldType} {rm : Room} {i : Nat} {sk : List Value} {P : Heap → Prop} {a : Addr} {C : String} (av : List Value) (w1 : (Cond.methodLink own i y).before a0 Z = true) (w6 : (Cond.instanceMethod y).before a0 Z = true) (hnf : NotFace s y) (w7 : (Cond.privateMethod y).before a0 Z = true) (w3 : (Cond.initialized y.cls).before a0 Z = true) (w4 : (Cond.code y ybc yml yrt).before a0 Z = true) (hy : y.cls ≠ "java/lang/invoke/MethodHandle" ∧ y.cls ≠ "java/lang/invoke/VarHandle") (E : Exa Z h a C) (hM : Met l Z y ybc yml yrt [] rm (.ref a :: av).toArray h n0 (RV P)) (hd : decode bc pc = .ok (.invokevirtual i, 3)) (pc' : Nat) (hp : pc + 3 = pc') (Wd : Nat) (hfr : rm.frames + 1 ≤ R.frames) (hlo : Wd + (yml + 11) + rm.locals ≤ R.locals) (hlen : ∀ sig, parseMethodDescriptor y.desc = some sig → av.length = sig.parameters.length) (hst : sk = av.reverse ++ .ref a :: st) (hW : (st.map fun v => v.category).sum ≤ Wd) (hsz : ls.size = ml) (hc : cells + rm.cells ≤ R.cells) (hs : slots + rm.slots ≤ R.slots) (k : ∀  (T' : State) (h' : Heap), Sd p l e R s m args below meth c n0 T' h' (cells + rm.cells) (slots + rm.slots) → P h' → G (T'.setTop (mkF m pc' ls (st)))) : G (T.setTop (mkF m pc ls sk)) := by
  refine callP w X av w1 w6 hnf w7 w3 w4 hy E hM hd pc' hp Wd hfr hlo hlen hst hW hsz hc hs (fun v T' h' Y hq => ?_)
  obtain ⟨rfl, hr⟩ := hq
  exact k T' h' Y hr
theorem callPPV (w : Wk p l e R s m args below meth c n0 Z own nm bc ml rt Q G) (X : Sd p l e R s m args below meth c n0 T h cells slots) {y : MethodName} {ybc : ByteArray} {yml : Nat} {yrt : Option FieldType} {rm : Room} {i : Nat} {sk : List Value} {a : Addr} {C : String} (av : List Value) (w1 : (Cond.methodLink own i y).before a0 Z = true) (w6 : (Cond.instanceMethod y).before a0 Z = true) (hnf : NotFace s y) (w7 : (Cond.privateMethod y).before a0 Z = true) (w3 : (Cond.initialized y.cls).before a0 Z = true) (w4 : (Cond.code y ybc yml yrt).before a0 Z = true) (hy : y.cls ≠ "java/lang/invoke/MethodHandle" ∧ y.cls ≠ "java/lang/invoke/VarHandle") (E : Exa Z h a C) (hM : Met l Z y ybc yml yrt [] rm (.ref a :: av).toArray h n0 (RV fun h' => h' = h)) (hd : decode bc pc = .ok (.invokevirtual i, 3)) (pc' : Nat) (hp : pc + 3 = pc') (Wd : Nat) (hfr : rm.frames + 1 ≤ R.frames) (hlo : Wd + (yml + 11) + rm.locals ≤ R.locals) (hlen : ∀ sig, parseMethodDescriptor y.desc = some sig → av.length = sig.parameters.length) (hst : sk = av.reverse ++ .ref a :: st) (hW : (st.map fun v => v.category).sum ≤ Wd) (hsz : ls.size = ml) (hc : cells + rm.cells ≤ R.cells) (hs : slots + rm.slots ≤ R.slots) (k : ∀ (T' : State), Sd p l e R s m args below meth c n0 T' h (cells + rm.cells) (slots + rm.slots) → G (T'.setTop (mkF m pc' ls st))) : G (T.setTop (mkF m pc ls sk)) := by
  refine callPV w X av w1 w6 hnf w7 w3 w4 hy E hM hd pc' hp Wd hfr hlo hlen hst hW hsz hc hs (fun T' h' Y hq => ?_)
  subst hq
  exact k T' Y
end Law
/-! numbers, for omega -/
theorem b32 (x : Int32) : -2147483648 ≤ x.toInt ∧ x.toInt < 2147483648 := ⟨Int32.le_toInt x, Int32.toInt_lt x⟩
theorem b64 (x : Int64) : -9223372036854775808 ≤ x.toInt ∧ x.toInt < 9223372036854775808 := ⟨Int64.le_toInt x, Int64.toInt_lt x⟩
theorem k_mulR (x y : Int32) (d : Int) (hy : y.toInt = d) : ((x * y).toInt - (x.toInt * d)) % 4294967296 = 0 := by have := c_imul x y; rwa [hy] at this
theorem k_mulL (x y : Int32) (d : Int) (hx : x.toInt = d) : ((x * y).toInt - (d * y.toInt)) % 4294967296 = 0 := by have := c_imul x y; rwa [hx] at this
theorem k_mask (x m : Int32) (k : Nat) (P : Int) (hk : k ≤ 31) (hm : m.toBitVec.toNat = 2 ^ k - 1) (hP : ((2 ^ k : Nat) : Int) = P) : (x &&& m).toInt = x.toInt % P := by rw [c_mask x m k hk hm, hP]
theorem k_maskL (m x : Int32) (k : Nat) (P : Int) (hk : k ≤ 31) (hm : m.toBitVec.toNat = 2 ^ k - 1) (hP : ((2 ^ k : Nat) : Int) = P) : (m &&& x).toInt = x.toInt % P := by rw [Int32.and_comm, c_mask x m k hk hm, hP]
theorem k_mask64 (x m : Int64) (k : Nat) (P : Int) (hk : k ≤ 63) (hm : m.toBitVec.toNat = 2 ^ k - 1) (hP : ((2 ^ k : Nat) : Int) = P) : (x &&& m).toInt = x.toInt % P := by rw [c_maskL x m k hk hm, hP]
theorem k_or_and (x p q r : Int32) (h : p ||| q = r) : (x &&& p) ||| (x &&& q) = x &&& r := by
  subst h
  apply Int32.toBitVec_inj.mp
  simp only [Int32.toBitVec_or, Int32.toBitVec_and]
  apply BitVec.eq_of_getLsbD_eq
  intro i hi
  simp only [BitVec.getLsbD_or, BitVec.getLsbD_and]
  cases x.toBitVec.getLsbD i <;> simp
theorem k_field (x p q r : Int32) (k j : Nat) (P J : Int) (hpq : p ||| q = r) (h0 : p &&& q = 0) (hk : k ≤ 31) (hq : q.toBitVec.toNat = 2 ^ k - 1) (hP : ((2 ^ k : Nat) : Int) = P) (hj : j ≤ 31) (hr : r.toBitVec.toNat = 2 ^ j - 1) (hJ : ((2 ^ j : Nat) : Int) = J) (hp0 : 0 ≤ p.toInt) (hJ2 : J ≤ 1073741824) (hP1 : 1 ≤ P) (hPJ : P ≤ J) : (x &&& p).toInt = x.toInt % J - x.toInt % P := by
  have e1 : (x &&& p) &&& q = 0 := by rw [Int32.and_assoc, h0, Int32.and_zero]
  have e2 := k_mask (x &&& p) q k P hk hq hP
  rw [e1] at e2
  have e3 := k_or_and x p q r hpq
  have e4 := k_mask x q k P hk hq hP
  have e5 := k_mask x r j J hj hr hJ
  have e6 := c_or (x &&& p) (x &&& q) k hk P hP.symm
  rw [e3, e4, e5] at e6
  have e7 := c_and x p hp0
  have e8 : (0 : Int32).toInt = 0 := rfl
  rw [e8] at e2
  have m1 := Int.emod_nonneg x.toInt (show P ≠ 0 by omega)
  have m2 := Int.emod_lt_of_pos x.toInt (show (0 : Int) < P by omega)
  have m3 := Int.emod_nonneg x.toInt (show J ≠ 0 by omega)
  have m4 := Int.emod_lt_of_pos x.toInt (show (0 : Int) < J by omega)
  have e9 := e6 e2.symm m1 m2
  have b := b32 (x &&& p)
  omega
theorem k_shr (x q : Int32) (k : Nat) (P : Int) (hk : q.toBitVec.toNat % 32 = k) (hP : ((2 ^ k : Nat) : Int) = P) : (x >>> (q &&& 31)).toInt = x.toInt / P := by rw [c_ishr x q k hk, hP]
theorem k_shl (x q : Int32) (k : Nat) (P : Int) (hk : q.toBitVec.toNat % 32 = k) (hP : ((2 ^ k : Nat) : Int) = P) : ((x <<< (q &&& 31)).toInt - x.toInt * P) % 4294967296 = 0 := by have := c_ishl x q k hk; rwa [hP] at this
theorem k_ushr (x q : Int32) (k : Nat) (P : Int) (hk : q.toBitVec.toNat % 32 = k) (h0 : 0 < k) (hP : ((2 ^ k : Nat) : Int) = P) : ((x.toUInt32 >>> (q &&& 31).toUInt32).toInt32).toInt = (x.toInt % 4294967296) / P := by rw [c_iushr x q k hk h0, hP]

theorem nar_b (x : Int32) : nar .byte x.toInt8.toInt32 = x.toInt8.toInt32 := by simp [nar]
theorem lsw_eq {x v : Int32} {k : Int} (hv : v.toInt = k) (q : k = x.toInt) : x = v := Int32.toInt_inj.mp (by omega)
/-- an array of ints, bytes or chars with these elements -/
def PA (Z : State) (h : Heap) (a : Addr) (ty : FieldType) (bs : List Int32) : Prop :=
  ∃ c : Cell, Arr Z h a c ty ∧ c.slots.size = bs.length ∧ bs.length < 2147483648 ∧ (∀ i, i < bs.length → c.slots[i]? = some (.int (bs.getD i 0))) ∧ ∀ x ∈ bs, fits ty (.int x) = true
section Arrays
variable {p : Program} {l : Launch} {e : Env} {R : Room} {s : State} {m : MethodId} {args : Array Value} {below : List Frame} {meth : Method} {c : Code} {n0 : Nat} {T : State} {h h' : Heap} {cells slots : Nat} {Z : State} {a0 : Array Value} {own nm : String} {bc : ByteArray} {ml : Nat} {rt : Option FieldType} {Q : Option Value → Heap → Prop} {G : State → Prop}
variable {pc : Nat} {ls : Array Slot} {st : List Value} {a b : Addr} {ty : FieldType} {bs : List Int32} {j : Int32} {v : Value} {sl : Nat} {ws : List Addr}
theorem PA.lt (F : PA Z h a ty bs) : a < h.size := by obtain ⟨c, A, -⟩ := F; exact A.lt
theorem PA.ext (F : PA Z h a ty bs) (E : Ext h h') : PA Z h' a ty bs := by obtain ⟨c, A, r⟩ := F; exact ⟨c, A.ext E, r⟩
theorem PA.other (F : PA Z h b ty bs) (W : Wr h h' a sl v) (q : b ≠ a) : PA Z h' b ty bs := by obtain ⟨c, A, r⟩ := F; exact ⟨c, A.other W q, r⟩
theorem PA.keep (F : PA Z h a ty bs) (K : Keep h h' ws) (q : a ∉ ws) : PA Z h' a ty bs := by obtain ⟨c, A, r⟩ := F; exact ⟨c, ⟨K.2.1 a c A.1 q, A.2⟩, r⟩
theorem PA.fit (F : PA Z h a ty bs) : ∀ x ∈ bs, fits ty (.int x) = true := by obtain ⟨c, A, r⟩ := F; exact r.2.2.2
theorem PA.len (F : PA Z h a ty bs) : bs.length < 2147483648 := by obtain ⟨c, A, r⟩ := F; exact r.2.1
theorem clampI {j : Int32} (h : ¬ j < 0) : (j.toNatClampNeg : Int) = j.toInt := by
  rw [Int32.lt_iff_toInt_lt] at h
  have e0 : (0 : Int32).toInt = 0 := rfl
  simp only [Int32.toNatClampNeg]; omega
theorem PA.new {cA : ClassId} {n : Int32} (ty : FieldType) (hty : defaultValue ty = .int 0) (hf : fits ty (.int 0) = true) (k : Nat) (A : Arr Z h a (newA cA ty n) ty) (hn : n.toNatClampNeg = k) : PA Z h a ty (List.replicate k 0) := by
  refine ⟨_, A, by rw [sz_new, hn, List.length_replicate], ?_, fun i hi => ?_, fun x hx => ?_⟩
  · rw [List.length_replicate, ← hn]; have := Int32.toInt_lt n; simp only [Int32.toNatClampNeg]; omega
  · rw [List.length_replicate] at hi
    simp [newA, hn, hi, hty, List.getD_eq_getElem?_getD]
  · rw [List.eq_of_mem_replicate hx]; exact hf
theorem PA.ofL {cl : Cell} {n : Int32} (A : Arr Z h a cl ty) (hs : cl.slots.size < 2 ^ 31) (hn : cl.slots.size.toInt32 = n) (hz : n.toNatClampNeg = bs.length) (hz0 : ¬ n < 0) (H : HasL cl 0 (bs.map Value.int)) (hf : ∀ x ∈ bs, fits ty (.int x) = true) : PA Z h a ty bs := by
  have S : cl.slots.size = n.toNatClampNeg := by rw [← hn]; simp only [Int32.toNatClampNeg, len_toInt hs]; rfl
  refine ⟨cl, A, S.trans hz, by omega, fun i hi => ?_, hf⟩
  have := HasL.at (dv := .int 0) (bs.map Value.int) 0 H i (by rw [List.length_map]; exact hi)
  rw [Nat.zero_add] at this
  rw [this]
  simp [List.getD_eq_getElem?_getD, List.getElem?_map, List.getElem?_eq_getElem hi]
theorem PA.inb {c : Cell} (hlen : c.slots.size = bs.length) (h1 : ¬ j < 0) (h2 : j.toNatClampNeg < bs.length) : ¬ (j < 0 ∨ c.slots.size ≤ j.toNatClampNeg) := fun q => q.elim h1 fun z => absurd h2 (Nat.not_lt.mpr (hlen ▸ z))

theorem iaload (w : Wk p l e R s m args below meth c n0 Z own nm bc ml rt Q G) (X : Sd p l e R s m args below meth c n0 T h cells slots) (F : PA Z h a .int bs) (h1 : ¬ j < 0) (i : Nat) (hi : j.toNatClampNeg = i) (h2 : i < bs.length) (hd : decode bc pc = .ok (.iaload, 1)) (pc' : Nat) (hp : pc + 1 = pc') (z : Int32) (hz : z = bs.getD i 0) (k : G (T.setTop (mkF m pc' ls (.int z :: st)))) : G (T.setTop (mkF m pc ls (.int j :: .ref a :: st))) := by
  obtain ⟨locs, Y, N, eT⟩ := X
  subst hp hz hi
  obtain ⟨cl, A, hl, -, hg, -⟩ := F
  exact w.1 _ _ (fun t q => Y.iaload w.2.1 (j := j) (v := .int (bs.getD j.toNatClampNeg 0)) (by rw [eT]; exact A.1) (State.isArrayOf_alike w.2.2.2.2.1.alike A.2.1) A.2.2 (PA.inb hl h1 h2) (hg _ h2) (g := mkF m pc ls (.int j :: .ref a :: st)) rfl rfl (hb w.2.2.1 hd) t q) k
theorem baload (w : Wk p l e R s m args below meth c n0 Z own nm bc ml rt Q G) (X : Sd p l e R s m args below meth c n0 T h cells slots) (F : PA Z h a .byte bs) (h1 : ¬ j < 0) (i : Nat) (hi : j.toNatClampNeg = i) (h2 : i < bs.length) (hd : decode bc pc = .ok (.baload, 1)) (pc' : Nat) (hp : pc + 1 = pc') (z : Int32) (hz : z = bs.getD i 0) (k : G (T.setTop (mkF m pc' ls (.int z :: st)))) : G (T.setTop (mkF m pc ls (.int j :: .ref a :: st))) := by
  obtain ⟨locs, Y, N, eT⟩ := X
  subst hp hz hi
  obtain ⟨cl, A, hl, -, hg, -⟩ := F
  exact w.1 _ _ (fun t q => Y.baloadBytes w.2.1 (j := j) (v := .int (bs.getD j.toNatClampNeg 0)) (by rw [eT]; exact A.1) (State.isArrayOf_alike w.2.2.2.2.1.alike A.2.1) A.2.2 (PA.inb hl h1 h2) (hg _ h2) (g := mkF m pc ls (.int j :: .ref a :: st)) rfl rfl (hb w.2.2.1 hd) t q) k
theorem caload (w : Wk p l e R s m args below meth c n0 Z own nm bc ml rt Q G) (X : Sd p l e R s m args below meth c n0 T h cells slots) (F : PA Z h a .char bs) (h1 : ¬ j < 0) (i : Nat) (hi : j.toNatClampNeg = i) (h2 : i < bs.length) (hd : decode bc pc = .ok (.caload, 1)) (pc' : Nat) (hp : pc + 1 = pc') (z : Int32) (hz : z = bs.getD i 0) (k : G (T.setTop (mkF m pc' ls (.int z :: st)))) : G (T.setTop (mkF m pc ls (.int j :: .ref a :: st))) := by
  obtain ⟨locs, Y, N, eT⟩ := X
  subst hp hz hi
  obtain ⟨cl, A, hl, -, hg, -⟩ := F
  exact w.1 _ _ (fun t q => Y.caload w.2.1 (j := j) (v := .int (bs.getD j.toNatClampNeg 0)) (by rw [eT]; exact A.1) (State.isArrayOf_alike w.2.2.2.2.1.alike A.2.1) A.2.2 (PA.inb hl h1 h2) (hg _ h2) (g := mkF m pc ls (.int j :: .ref a :: st)) rfl rfl (hb w.2.2.1 hd) t q) k
theorem zaload (w : Wk p l e R s m args below meth c n0 Z own nm bc ml rt Q G) (X : Sd p l e R s m args below meth c n0 T h cells slots) (F : PA Z h a .boolean bs) (h1 : ¬ j < 0) (i : Nat) (hi : j.toNatClampNeg = i) (h2 : i < bs.length) (hd : decode bc pc = .ok (.baload, 1)) (pc' : Nat) (hp : pc + 1 = pc') (z : Int32) (hz : z = bs.getD i 0) (k : G (T.setTop (mkF m pc' ls (.int z :: st)))) : G (T.setTop (mkF m pc ls (.int j :: .ref a :: st))) := by
  obtain ⟨locs, Y, N, eT⟩ := X
  subst hp hz hi
  obtain ⟨cl, A, hl, -, hg, -⟩ := F
  exact w.1 _ _ (fun t q => Y.baloadBooleans w.2.1 (j := j) (v := .int (bs.getD j.toNatClampNeg 0)) (by rw [eT]; exact A.1) (State.isArrayOf_alike w.2.2.2.2.1.alike A.2.1) A.2.2 (PA.inb hl h1 h2) (hg _ h2) (g := mkF m pc ls (.int j :: .ref a :: st)) rfl rfl (hb w.2.2.1 hd) t q) k
theorem iastore (w : Wk p l e R s m args below meth c n0 Z own nm bc ml rt Q G) (X : Sd p l e R s m args below meth c n0 T h cells slots) {x : Int32} (F : PA Z h a .int bs) (h1 : ¬ j < 0) (i : Nat) (hi : j.toNatClampNeg = i) (h2 : i < bs.length) (ha : n0 ≤ a) (hd : decode bc pc = .ok (.iastore, 1)) (pc' : Nat) (hp : pc + 1 = pc') (z : Int32) (hz : z = x)
    (k : ∀ (T' : State) (h' : Heap), Sd p l e R s m args below meth c n0 T' h' cells slots → Wr h h' a i (.int z) → PA Z h' a .int (bs.set i z) → G (T'.setTop (mkF m pc' ls st))) : G (T.setTop (mkF m pc ls (.int x :: .int j :: .ref a :: st))) := by
  obtain ⟨locs, Y, N, eT⟩ := X
  subst hp hz hi
  obtain ⟨cl, A, hl, hl2, hg, hf⟩ := F
  obtain ⟨T', h', Y', e', W', q⟩ := stI Y w.2.1 w.2.2.2.2.1 eT A (j := j) (PA.inb hl h1 h2) (g := mkF m pc ls (.int z :: .int j :: .ref a :: st)) rfl rfl (hb w.2.2.1 hd)
  refine w.1 _ _ q (k T' h' ⟨_, Y', Fr.snoc Y' N ha, e'⟩ W' ⟨_, A.same W', by rw [sz_set, List.length_set]; exact hl, by rw [List.length_set]; exact hl2, fun i hi => ?_, fun y hy => ?_⟩)
  · rw [List.length_set] at hi
    by_cases u : j.toNatClampNeg = i
    · subst u; simp [Cell.setSlot, hl, hi, List.getD_eq_getElem?_getD]
    · have := hg i hi
      simp only [Cell.setSlot, List.getD_eq_getElem?_getD] at this ⊢
      rw [Array.getElem?_setIfInBounds_ne u, List.getElem?_set_ne u]; exact this
  · rcases List.mem_or_eq_of_mem_set hy with y1 | rfl
    · exact hf y y1
    · exact rfl
theorem bastore (w : Wk p l e R s m args below meth c n0 Z own nm bc ml rt Q G) (X : Sd p l e R s m args below meth c n0 T h cells slots) {x : Int32} (F : PA Z h a .byte bs) (h1 : ¬ j < 0) (i : Nat) (hi : j.toNatClampNeg = i) (h2 : i < bs.length) (ha : n0 ≤ a) (hd : decode bc pc = .ok (.bastore, 1)) (pc' : Nat) (hp : pc + 1 = pc') (z : Int32) (hz : z = (nar .byte x))
    (k : ∀ (T' : State) (h' : Heap), Sd p l e R s m args below meth c n0 T' h' cells slots → Wr h h' a i (.int z) → PA Z h' a .byte (bs.set i z) → G (T'.setTop (mkF m pc' ls st))) : G (T.setTop (mkF m pc ls (.int x :: .int j :: .ref a :: st))) := by
  obtain ⟨locs, Y, N, eT⟩ := X
  subst hp hz hi
  obtain ⟨cl, A, hl, hl2, hg, hf⟩ := F
  obtain ⟨T', h', Y', e', W', q⟩ := stB Y w.2.1 w.2.2.2.2.1 eT A (j := j) (PA.inb hl h1 h2) (g := mkF m pc ls (.int x :: .int j :: .ref a :: st)) rfl rfl (hb w.2.2.1 hd)
  refine w.1 _ _ q (k T' h' ⟨_, Y', Fr.snoc Y' N ha, e'⟩ W' ⟨_, A.same W', by rw [sz_set, List.length_set]; exact hl, by rw [List.length_set]; exact hl2, fun i hi => ?_, fun y hy => ?_⟩)
  · rw [List.length_set] at hi
    by_cases u : j.toNatClampNeg = i
    · subst u; simp [Cell.setSlot, hl, hi, List.getD_eq_getElem?_getD]
    · have := hg i hi
      simp only [Cell.setSlot, List.getD_eq_getElem?_getD] at this ⊢
      rw [Array.getElem?_setIfInBounds_ne u, List.getElem?_set_ne u]; exact this
  · rcases List.mem_or_eq_of_mem_set hy with y1 | rfl
    · exact hf y y1
    · exact (fits_nar_byte x)
theorem castore (w : Wk p l e R s m args below meth c n0 Z own nm bc ml rt Q G) (X : Sd p l e R s m args below meth c n0 T h cells slots) {x : Int32} (F : PA Z h a .char bs) (h1 : ¬ j < 0) (i : Nat) (hi : j.toNatClampNeg = i) (h2 : i < bs.length) (ha : n0 ≤ a) (hd : decode bc pc = .ok (.castore, 1)) (pc' : Nat) (hp : pc + 1 = pc') (z : Int32) (hz : z = (nar .char x))
    (k : ∀ (T' : State) (h' : Heap), Sd p l e R s m args below meth c n0 T' h' cells slots → Wr h h' a i (.int z) → PA Z h' a .char (bs.set i z) → G (T'.setTop (mkF m pc' ls st))) : G (T.setTop (mkF m pc ls (.int x :: .int j :: .ref a :: st))) := by
  obtain ⟨locs, Y, N, eT⟩ := X
  subst hp hz hi
  obtain ⟨cl, A, hl, hl2, hg, hf⟩ := F
  obtain ⟨T', h', Y', e', W', q⟩ := stC Y w.2.1 w.2.2.2.2.1 eT A (j := j) (PA.inb hl h1 h2) (g := mkF m pc ls (.int x :: .int j :: .ref a :: st)) rfl rfl (hb w.2.2.1 hd)
  refine w.1 _ _ q (k T' h' ⟨_, Y', Fr.snoc Y' N ha, e'⟩ W' ⟨_, A.same W', by rw [sz_set, List.length_set]; exact hl, by rw [List.length_set]; exact hl2, fun i hi => ?_, fun y hy => ?_⟩)
  · rw [List.length_set] at hi
    by_cases u : j.toNatClampNeg = i
    · subst u; simp [Cell.setSlot, hl, hi, List.getD_eq_getElem?_getD]
    · have := hg i hi
      simp only [Cell.setSlot, List.getD_eq_getElem?_getD] at this ⊢
      rw [Array.getElem?_setIfInBounds_ne u, List.getElem?_set_ne u]; exact this
  · rcases List.mem_or_eq_of_mem_set hy with y1 | rfl
    · exact hf y y1
    · exact (fits_nar_char x)
theorem zastore (w : Wk p l e R s m args below meth c n0 Z own nm bc ml rt Q G) (X : Sd p l e R s m args below meth c n0 T h cells slots) {x : Int32} (F : PA Z h a .boolean bs) (h1 : ¬ j < 0) (i : Nat) (hi : j.toNatClampNeg = i) (h2 : i < bs.length) (ha : n0 ≤ a) (hd : decode bc pc = .ok (.bastore, 1)) (pc' : Nat) (hp : pc + 1 = pc') (z : Int32) (hz : z = (nar .boolean x))
    (k : ∀ (T' : State) (h' : Heap), Sd p l e R s m args below meth c n0 T' h' cells slots → Wr h h' a i (.int z) → PA Z h' a .boolean (bs.set i z) → G (T'.setTop (mkF m pc' ls st))) : G (T.setTop (mkF m pc ls (.int x :: .int j :: .ref a :: st))) := by
  obtain ⟨locs, Y, N, eT⟩ := X
  subst hp hz hi
  obtain ⟨cl, A, hl, hl2, hg, hf⟩ := F
  obtain ⟨T', h', Y', e', W', q⟩ := stZ Y w.2.1 w.2.2.2.2.1 eT A (j := j) (PA.inb hl h1 h2) (g := mkF m pc ls (.int x :: .int j :: .ref a :: st)) rfl rfl (hb w.2.2.1 hd)
  refine w.1 _ _ q (k T' h' ⟨_, Y', Fr.snoc Y' N ha, e'⟩ W' ⟨_, A.same W', by rw [sz_set, List.length_set]; exact hl, by rw [List.length_set]; exact hl2, fun i hi => ?_, fun y hy => ?_⟩)
  · rw [List.length_set] at hi
    by_cases u : j.toNatClampNeg = i
    · subst u; simp [Cell.setSlot, hl, hi, List.getD_eq_getElem?_getD]
    · have := hg i hi
      simp only [Cell.setSlot, List.getD_eq_getElem?_getD] at this ⊢
      rw [Array.getElem?_setIfInBounds_ne u, List.getElem?_set_ne u]; exact this
  · rcases List.mem_or_eq_of_mem_set hy with y1 | rfl
    · exact hf y y1
    · exact (fits_nar_bool x)
theorem arraylength (w : Wk p l e R s m args below meth c n0 Z own nm bc ml rt Q G) (X : Sd p l e R s m args below meth c n0 T h cells slots) (F : PA Z h a ty bs) (hd : decode bc pc = .ok (.arraylength, 1)) (pc' : Nat) (hp : pc + 1 = pc') (z : Int32) (hz : z = Int32.ofNat bs.length) (k : G (T.setTop (mkF m pc' ls (.int z :: st)))) : G (T.setTop (mkF m pc ls (.ref a :: st))) := by
  obtain ⟨locs, Y, N, eT⟩ := X
  subst hp hz
  obtain ⟨cl, A, hl, -, -⟩ := F
  refine w.1 _ _ (fun t q => Y.arraylength w.2.1 (by rw [eT]; exact A.1) (State.isArrayOf_alike w.2.2.2.2.1.alike A.2.1) (g := mkF m pc ls (.ref a :: st)) rfl rfl (hb w.2.2.1 hd) t ?_) k
  rw [hl]; exact q
end Arrays
/-- an array of longs whose elements are known -/
def PJ (Z : State) (h : Heap) (a : Addr) (bs : List Int64) : Prop :=
  ∃ c : Cell, Arr Z h a c .long ∧ c.slots.size = bs.length ∧ ∀ i, i < bs.length → c.slots[i]? = some (.long (bs.getD i 0))
/-- an array of one reference -/
def RA (Z : State) (h : Heap) (a x : Addr) : Prop := ∃ (c : Cell) (ty : FieldType), Arr Z h a c ty ∧ ty.isReference = true ∧ c.slots.size = 1 ∧ c.slots[0]? = some (.ref x)
section Arrays2
variable {p : Program} {l : Launch} {e : Env} {R : Room} {s : State} {m : MethodId} {args : Array Value} {below : List Frame} {meth : Method} {c : Code} {n0 : Nat} {T : State} {h h' : Heap} {cells slots : Nat} {Z : State} {a0 : Array Value} {own nm : String} {bc : ByteArray} {ml : Nat} {rt : Option FieldType} {Q : Option Value → Heap → Prop} {G : State → Prop}
variable {pc : Nat} {ls : Array Slot} {st : List Value} {a b x : Addr} {ty : FieldType} {bs : List Int64} {j : Int32} {v : Value} {sl : Nat} {ws : List Addr}
theorem PJ.lt (F : PJ Z h a bs) : a < h.size := by obtain ⟨c, A, -⟩ := F; exact A.lt
theorem PJ.ext (F : PJ Z h a bs) (E : Ext h h') : PJ Z h' a bs := by obtain ⟨c, A, r⟩ := F; exact ⟨c, A.ext E, r⟩
theorem PJ.other (F : PJ Z h b bs) (W : Wr h h' a sl v) (q : b ≠ a) : PJ Z h' b bs := by obtain ⟨c, A, r⟩ := F; exact ⟨c, A.other W q, r⟩
theorem PJ.keep (F : PJ Z h a bs) (K : Keep h h' ws) (q : a ∉ ws) : PJ Z h' a bs := by obtain ⟨c, A, r⟩ := F; exact ⟨c, ⟨K.2.1 a c A.1 q, A.2⟩, r⟩
theorem PJ.new {cA : ClassId} {n : Int32} (k : Nat) (A : Arr Z h a (newA cA .long n) .long) (hn : n.toNatClampNeg = k) : PJ Z h a (List.replicate k 0) := by
  refine ⟨_, A, by rw [sz_new, hn, List.length_replicate], fun i hi => ?_⟩
  rw [List.length_replicate] at hi
  simp [newA, hn, hi, defaultValue, List.getD_eq_getElem?_getD]
theorem RA.lt (F : RA Z h a x) : a < h.size := by obtain ⟨c, ty, A, -⟩ := F; exact A.lt
theorem RA.ext (F : RA Z h a x) (E : Ext h h') : RA Z h' a x := by obtain ⟨c, ty, A, r⟩ := F; exact ⟨c, ty, A.ext E, r⟩
theorem RA.other (F : RA Z h b x) (W : Wr h h' a sl v) (q : b ≠ a) : RA Z h' b x := by obtain ⟨c, ty, A, r⟩ := F; exact ⟨c, ty, A.other W q, r⟩
theorem RA.keep (F : RA Z h a x) (K : Keep h h' ws) (q : a ∉ ws) : RA Z h' a x := by obtain ⟨c, ty, A, r⟩ := F; exact ⟨c, ty, ⟨K.2.1 a c A.1 q, A.2⟩, r⟩
theorem PJ.inb {c : Cell} (hlen : c.slots.size = bs.length) (h1 : ¬ j < 0) (h2 : j.toNatClampNeg < bs.length) : ¬ (j < 0 ∨ c.slots.size ≤ j.toNatClampNeg) := fun q => q.elim h1 fun z => absurd h2 (Nat.not_lt.mpr (hlen ▸ z))
theorem laload (w : Wk p l e R s m args below meth c n0 Z own nm bc ml rt Q G) (X : Sd p l e R s m args below meth c n0 T h cells slots) (F : PJ Z h a bs) (h1 : ¬ j < 0) (i : Nat) (hi : j.toNatClampNeg = i) (h2 : i < bs.length) (hd : decode bc pc = .ok (.laload, 1)) (pc' : Nat) (hp : pc + 1 = pc') (z : Int64) (hz : z = bs.getD i 0) (k : G (T.setTop (mkF m pc' ls (.long z :: st)))) : G (T.setTop (mkF m pc ls (.int j :: .ref a :: st))) := by
  obtain ⟨locs, Y, N, eT⟩ := X
  subst hp hz hi
  obtain ⟨cl, A, hl, hg⟩ := F
  exact w.1 _ _ (fun t q => Y.laload w.2.1 (j := j) (v := .long (bs.getD j.toNatClampNeg 0)) (by rw [eT]; exact A.1) (State.isArrayOf_alike w.2.2.2.2.1.alike A.2.1) A.2.2 (PJ.inb hl h1 h2) (hg _ h2) (g := mkF m pc ls (.int j :: .ref a :: st)) rfl rfl (hb w.2.2.1 hd) t q) k
theorem lastore (w : Wk p l e R s m args below meth c n0 Z own nm bc ml rt Q G) (X : Sd p l e R s m args below meth c n0 T h cells slots) {z : Int64} (F : PJ Z h a bs) (h1 : ¬ j < 0) (i : Nat) (hi : j.toNatClampNeg = i) (h2 : i < bs.length) (ha : n0 ≤ a) (hd : decode bc pc = .ok (.lastore, 1)) (pc' : Nat) (hp : pc + 1 = pc')
    (k : ∀ (T' : State) (h' : Heap), Sd p l e R s m args below meth c n0 T' h' cells slots → Wr h h' a i (.long z) → PJ Z h' a (bs.set i z) → G (T'.setTop (mkF m pc' ls st))) : G (T.setTop (mkF m pc ls (.long z :: .int j :: .ref a :: st))) := by
  obtain ⟨locs, Y, N, eT⟩ := X
  subst hp hi
  obtain ⟨cl, A, hl, hg⟩ := F
  obtain ⟨T', h', Y', e', W', q⟩ := stJ Y w.2.1 w.2.2.2.2.1 eT A (j := j) (PJ.inb hl h1 h2) (g := mkF m pc ls (.long z :: .int j :: .ref a :: st)) rfl rfl (hb w.2.2.1 hd)
  refine w.1 _ _ q (k T' h' ⟨_, Y', Fr.snoc Y' N ha, e'⟩ W' ⟨_, A.same W', by rw [sz_set, List.length_set]; exact hl, fun i hi => ?_⟩)
  rw [List.length_set] at hi
  by_cases u : j.toNatClampNeg = i
  · subst u; simp [Cell.setSlot, hl, hi, List.getD_eq_getElem?_getD]
  · have := hg i hi
    simp only [Cell.setSlot, List.getD_eq_getElem?_getD] at this ⊢
    rw [Array.getElem?_setIfInBounds_ne u, List.getElem?_set_ne u]; exact this
theorem aaload0 (w : Wk p l e R s m args below meth c n0 Z own nm bc ml rt Q G) (X : Sd p l e R s m args below meth c n0 T h cells slots) (F : RA Z h a x) (hj : j = 0) (hd : decode bc pc = .ok (.aaload, 1)) (pc' : Nat) (hp : pc + 1 = pc') (k : G (T.setTop (mkF m pc' ls (.ref x :: st)))) : G (T.setTop (mkF m pc ls (.int j :: .ref a :: st))) := by
  obtain ⟨locs, Y, N, eT⟩ := X
  subst hp hj
  obtain ⟨cl, ty, A, hr, hl, hg⟩ := F
  exact w.1 _ _ (fun t q => Y.aaload w.2.1 (j := 0) (v := .ref x) (by rw [eT]; exact A.1) (State.isArrayOf_alike w.2.2.2.2.1.alike A.2.1) hr A.2.2 (by rw [hl]; decide) hg (g := mkF m pc ls (.int 0 :: .ref a :: st)) rfl rfl (hb w.2.2.1 hd) t q) k
theorem multi1 (w : Wk p l e R s m args below meth c n0 Z own nm bc ml rt Q G) (X : Sd p l e R s m args below meth c n0 T h cells slots) {C ad : String} {ty : FieldType} {i : Nat} {n kk : Int32} (hC : (FieldType.array ty).toString = C) (had : "[" ++ C = ad) (w1 : (Cond.classLink own i ad).before a0 Z = true) (w2 : (Cond.arrayOver (.array ty)).before a0 Z = true) (w3 : (Cond.arrayClass ty).before a0 Z = true) (hd : decode bc pc = .ok (.multianewarray i 2, 4)) (pc' : Nat) (hp : pc + 4 = pc') (hn : n = 1) (hk : ¬ kk < 0) (cap : Nat) (hcap : kk.toNatClampNeg ≤ cap) (hb' : cap * 8 ≤ 536870912) (hdf : fits ty (defaultValue ty) = true) (hdd : (defaultValue ty).isDefault = true) (hc : cells + 2 ≤ R.cells) (hl : slots + (1 + cap) ≤ R.slots)
    (k : ∀ (T' : State) (h' : Heap) (a x : Addr) (cA : ClassId), Sd p l e R s m args below meth c n0 T' h' (cells + 2) (slots + (1 + cap)) → a = h.size → x = h.size + 1 → Ext h h' → RA Z h' a x → Arr Z h' x (newA cA ty kk) ty → G (T'.setTop (mkF m pc' ls (.ref a :: st)))) : G (T.setTop (mkF m pc ls (.int kk :: .int n :: st))) := by
  obtain ⟨locs, Y, N, eT⟩ := X
  subst hp hn
  obtain ⟨T', h', cA, comp, Y', e', E', A', -, -, F', q⟩ := gridM Y w.2.1 w.2.2.2.2.1 w.2.2.2.2.2.1 hC had w1 w2 w3 eT (g := mkF m pc ls (.int kk :: .int 1 :: st)) rfl (hb w.2.2.1 hd) rfl (by decide) hk (xs := [h.size + 1]) (N := 1) rfl rfl hcap hb' (by decide) hdf hdd hc (by omega)
  refine w.1 _ _ q (k T' h' _ _ comp ⟨locs, Y'.more (Nat.le_refl _) (by omega), N, e'⟩ rfl rfl E' ?_ (F' 0 _ rfl).1)
  obtain ⟨c, A, -, S, -, H, -⟩ := A'
  have S' : c.slots.size = 1 := S
  exact ⟨c, _, A, rfl, S', by rw [H 0 (by omega)]; rfl⟩
theorem acopyI (w : Wk p l e R s m args below meth c n0 Z own nm bc ml rt Q G) (X : Sd p l e R s m args below meth c n0 T h cells slots) {i : Nat} {as bs : List Int32} {sp dp nn : Int32} (w1 : (Cond.methodLink own i Jvm.Stand.acN).before a0 Z = true) (w2 : (Cond.native Jvm.Stand.acN).before a0 Z = true) (w3 : (Cond.static Jvm.Stand.acN).before a0 Z = true) (w4 : (Cond.initialized "java/lang/System").before a0 Z = true)
    (A : PA Z h a .int as) (B : PA Z h b .int bs) (h1 : ¬ sp < 0) (h2 : ¬ dp < 0) (h3 : ¬ nn < 0) (h4 : sp.toNatClampNeg + nn.toNatClampNeg ≤ as.length) (h5 : dp.toNatClampNeg + nn.toNatClampNeg ≤ bs.length) (ge : n0 ≤ b) (hd : decode bc pc = .ok (.invokestatic i, 3)) (pc' : Nat) (hp : pc + 3 = pc') (hsz : ls.size = ml) (hf : 1 ≤ R.frames) (Wd : Nat) (hW : (st.map fun v => v.category).sum ≤ Wd) (hlo : Wd + (nativeFrameWords "java/lang/System" "arraycopy" 5 + 11) ≤ R.locals)
    (k : ∀ (T' : State) (h' : Heap) (bs' : List Int32), Sd p l e R s m args below meth c n0 T' h' cells slots → Keep h h' [b] → PA Z h' b .int bs' → bs'.length = bs.length → G (T'.setTop (mkF m pc' ls st))) : G (T.setTop (mkF m pc ls (.int nn :: .int dp :: .ref b :: .int sp :: .ref a :: st))) := by
  obtain ⟨locs, Y, N, eT⟩ := X
  subst hp
  have gd : ∀ (l : List Int32) (i : Nat), (l.map Value.int).getD i (.int 0) = .int (l.getD i 0) := fun l i => by
    simp only [List.getD_eq_getElem?_getD, List.getElem?_map]; cases l[i]? <;> rfl
  have mk : ∀ {x : Addr} {l : List Int32}, PA Z h x .int l → ∃ kc, Arv Z h x kc .int (Int32.ofNat l.length) (l.map Value.int) (.int 0) ∧ (Int32.ofNat l.length).toNatClampNeg = l.length := fun {x l} F => by
    obtain ⟨c, A, hl, hb2, hg, -⟩ := F
    have e : (Int32.ofNat l.length).toInt = l.length := Int32.toInt_ofNat_of_lt (by omega)
    have e2 : (Int32.ofNat l.length).toNatClampNeg = l.length := by simp only [Int32.toNatClampNeg, e]; rfl
    refine ⟨c.cls, ⟨c, A, rfl, by rw [e2, hl], by rw [Int32.lt_iff_toInt_lt, e]; have : (0 : Int32).toInt = 0 := rfl; omega, fun i hi => by rw [gd]; exact hg i (by omega), fun i _ => by rw [gd]; rfl⟩, e2⟩
  obtain ⟨ka, FA, ea⟩ := mk A
  obtain ⟨kb, FB, eb⟩ := mk B
  obtain ⟨T', h', L, Y', e', N', K', B', q⟩ := cpA Y w.2.1 w.2.2.2.2.1 w.2.2.2.2.2.1 w1 w2 w3 w4 eT FA FB (Or.inl ⟨rfl, rfl⟩) h1 h2 h3 (by rw [ea]; exact h4) (by rw [eb]; exact h5) (us := ((List.range nn.toNatClampNeg).map fun i => as.getD (sp.toNatClampNeg + i) 0).map Value.int) (by rw [List.map_map]; exact List.map_congr_left fun i _ => (gd as _).symm) (by rw [List.length_map]; exact h5) N ge (g := mkF m pc ls (.int nn :: .int dp :: .ref b :: .int sp :: .ref a :: st)) rfl (hsz.trans w.2.2.2.1.symm) rfl (hb w.2.2.1 hd) hf (W := Wd) (by show 2 * 0 + _ ≤ _; omega) hlo
  have hlen : (bs.take dp.toNatClampNeg ++ ((List.range nn.toNatClampNeg).map fun i => as.getD (sp.toNatClampNeg + i) 0) ++ bs.drop (dp.toNatClampNeg + nn.toNatClampNeg)).length = bs.length := by
    simp only [List.length_append, List.length_take, List.length_map, List.length_range, List.length_drop]; omega
  refine w.1 _ _ q (k T' h' _ ⟨L, Y', N', e'⟩ K' ?_ hlen)
  rw [← List.map_take, ← List.map_drop, ← List.map_append, ← List.map_append] at B'
  obtain ⟨c, A2, -, S, -, H, -⟩ := B'
  rw [eb] at S
  have hb3 := B.len
  exact ⟨c, A2, by rw [S, hlen], by rw [hlen]; exact hb3, fun i hi => by rw [H i (by rw [hlen] at hi; omega), gd], fun x _ => rfl⟩
end Arrays2
/-- a walk that may load constants: the heap has not shrunk below k0 -/
def QW (k0 : Nat) (Q : Option Value → Heap → Prop) : Option Value → Heap → Prop := fun v h => k0 ≤ h.size ∧ Q v h
/-- what such a walk knows of its true start -/
def WkS (p : Program) (l : Launch) (e : Env) (R : Room) (s0 : State) (m : MethodId) (args : Array Value) (below : List Frame) (meth : Method) (c : Code) (n0 : Nat) (Z : State) (own nm : String) (bc : ByteArray) (ml : Nat) (rt : Option FieldType) (Q : Option Value → Heap → Prop) (G : State → Prop) : Prop :=
  (∀ S S' : State, (∀ t, Steps p.tables e below S' t → Steps p.tables e below S t) → G S' → G S) ∧
  p.tables.exec = Jvm.exec ∧ c.code = bc ∧ c.maxLocals = ml ∧ meth.sig.returnType = rt ∧ meth.name = nm ∧
  (∀ (vm0 : Vm) (k0 : Nat) (T : State) (h : Heap) (cells slots : Nat) (v : Option Value), s0.Since vm0 k0 → k0 ≤ h.size → Sd p l e R (s0.setVm vm0) m args below meth c n0 T h cells slots → cells ≤ R.cells → slots ≤ R.slots → (meth.sig.returnType = none → v = none) → Q v h →
    ∀ S : State, (∀ fs : List Frame, (∀ (f : JFrame) (acts : List Action), f.method = m → f.locked = none → f.entered = [] → (doReturn e (T.setTop f) acts v).1 = T.setFrames fs) → Steps p.tables e below S (T.setFrames fs)) → G S)
/-- .. and of the start with the tables at hand -/
def Iv (p : Program) (l : Launch) (e : Env) (R : Room) (s0 : State) (m : MethodId) (args : Array Value) (below : List Frame) (meth : Method) (c : Code) (n0 : Nat) (Z : State) (own nm : String) (bc : ByteArray) (ml : Nat) (rt : Option FieldType) (Q : Option Value → Heap → Prop) (G : State → Prop) (u : State) (k0 : Nat) : Prop :=
  WkS p l e R s0 m args below meth c n0 Z own nm bc ml rt Q G ∧ ∃ vm0 : Vm, u = s0.setVm vm0 ∧ s0.Since vm0 k0 ∧ Z.Warmed39 vm0 ∧ vm0.findClass own = some m.cls
/-- the contract of a body that may load constants -/
abbrev MetW (l : Launch) (Z : State) (x : MethodName) (bc : ByteArray) (ml : Nat) (rt : Option FieldType) (ws : List Jvm.Cond) (rm : Room) (av : Array Value) (h : Heap) (n0 : Nat) (Q : Option Value → Heap → Prop) : Prop :=
  MetFree l x (head1 (Jvm.Cond.code x bc ml rt :: ws) rm) (fun a U => a = av ∧ Z.Warmed39 U.vm ∧ U.heap = h) (fun _ _ _ _ _ => True) (fun _ U o U' => ∃ v L, o = .returned v ∧ (Q v U'.heap ∧ Fr n0 L) ∧ ReturnedEndW U o U' L rm.cells rm.slots)
section Wide
variable {p : Program} {l : Launch} {e : Env} {R : Room} {s s0 : State} {m : MethodId} {args : Array Value} {below : List Frame} {meth : Method} {c : Code} {n0 k0 : Nat} {T : State} {h : Heap} {cells slots : Nat} {Z : State} {a0 : Array Value} {own nm : String} {bc : ByteArray} {ml : Nat} {rt : Option FieldType} {Q : Option Value → Heap → Prop} {G : State → Prop}
variable {pc : Nat} {ls : Array Slot} {st : List Value}
theorem WkS.wk {vm0 : Vm} (ws : WkS p l e R s0 m args below meth c n0 Z own nm bc ml rt Q G) (hS : s0.Since vm0 k0) (hZ : Z.Warmed39 vm0) (ho : vm0.findClass own = some m.cls) : Wk p l e R (s0.setVm vm0) m args below meth c n0 Z own nm bc ml rt (QW k0 Q) G := by
  obtain ⟨h1, h2, h3, h4, h5, h6, h7⟩ := ws
  exact ⟨h1, h2, h3, h4, hZ, ho, h5, h6, fun T h cells slots v X hc hl hv hQ S hs => h7 vm0 k0 T h cells slots v hS hQ.1 X hc hl hv hQ.2 S hs⟩
theorem startW {x : MethodName} {ws : List Jvm.Cond} {rm : Room} {av : Array Value} (hpl : plainFor x = true) (hef : ∀ m, entryFrame m av ml = mkF m 0 ls [])
    (body : ∀ (p : Program) (e : Env) (s0 : State) (m : MethodId) (below : List Frame) (meth : Method) (c : Code) (T : State) (G : State → Prop) (s : State) (k0 : Nat), Wk p l e rm s m av below meth c n0 Z x.cls x.name bc ml rt (QW k0 Q) G → Sd p l e rm s m av below meth c n0 T h 0 0 → Iv p l e rm s0 m av below meth c n0 Z x.cls x.name bc ml rt Q G s k0 → k0 ≤ h.size → G (T.setTop (mkF m 0 ls []))) :
    MetW l Z x bc ml rt ws rm av h n0 Q := by
  refine MetFree.of_bodySF hpl hisR ?_
  intro p e s m args below meth c s₁ Bd hml0 hP hK
  obtain ⟨rfl, hZ, hh⟩ := hP
  have X0 : Stand p l e rm s m args below meth c s₁ [] 0 0 := Stand.of_body Bd
  have e0 : s₁.heap = h := by rw [← hh, Bd.state]; rfl
  have ho := findClass_of_methodNamed Bd.named
  rw [hef m]
  have W0 : WkS p l e rm s m args below meth c n0 Z x.cls x.name bc ml rt Q (fun S => ∃ s₂ o, Steps p.tables e below S s₂ ∧ s₂.status = .running ∧ Ended s₂ below o ∧ ∃ v L, o = .returned v ∧ (Q v s₂.heap ∧ Fr n0 L) ∧ ReturnedEndW s o s₂ L rm.cells rm.slots) := by
    refine ⟨fun S S' hs hg => ?_, Bd.exec, Bd.bytes, hml0, Bd.returns, (name_of_methodNamed Bd.named Bd.method).1, ?_⟩
    · obtain ⟨s2, o, h1, h2⟩ := hg
      exact ⟨s2, o, hs _ h1, h2⟩
    · intro vm0 k0 T h cells slots v hS hk ⟨locs, X, N, eT⟩ hc hl hv hQ S hS2
      subst eT
      obtain ⟨fs, hr, hrun, hended, hW⟩ := X.leaveW hS hk (v := v) hv Bd.notSynchronized
      exact ⟨_, _, hS2 fs hr, hrun, hended, v, locs, rfl, ⟨hQ, N⟩, hW.1, hW.2.1, hW.2.2.1, hW.2.2.2.mono hc hl⟩
  have hS0 : s.Since s.vm 0 := X0.warmed.since 0 |> fun _ => (State.WarmedH.refl s).since 0
  exact body p e s m below meth c s₁ _ s 0 (W0.wk (vm0 := s.vm) hS0 hZ ho) ⟨[], X0, Fr.nil n0, e0⟩ ⟨W0, s.vm, rfl, hS0, hZ, ho⟩ (Nat.zero_le _)
theorem ldcSt (w : Wk p l e R s m args below meth c n0 Z own nm bc ml rt (QW k0 Q) G) (X : Sd p l e R s m args below meth c n0 T h cells slots) (ws : Iv p l e R s0 m args below meth c n0 Z own nm bc ml rt Q G s k0) (zk : k0 ≤ h.size) {text : String} {i : Nat} (wl : (Cond.stringLink own i text).before a0 Z = true) (wS : ∀ a ∈ Bundle.stringAtoms, a.before a0 Z = true) (hd : decode bc pc = .ok (.ldc i, 2)) (pc' : Nat) (hp : pc + 2 = pc') (n : Nat) (hn : 4 * text.toList.length ≤ n) (hbig : n ≤ 536870912) (hc : cells + 2 ≤ R.cells) (hl : slots + (n + 4) ≤ R.slots)
    (k : ∀ (s : State) (k0 : Nat) (T' : State) (h' : Heap) (a : Addr), Wk p l e R s m args below meth c n0 Z own nm bc ml rt (QW k0 Q) G → Sd p l e R s m args below meth c n0 T' h' (cells + 2) (slots + (n + 4)) → Iv p l e R s0 m args below meth c n0 Z own nm bc ml rt Q G s k0 → k0 ≤ h'.size → Ext h h' → G (T'.setTop (mkF m pc' ls (.ref a :: st)))) : G (T.setTop (mkF m pc ls st)) := by
  obtain ⟨hws, vm0, rfl, hS, hZ, ho⟩ := ws
  obtain ⟨locs, Y, N, eT⟩ := X
  subst hp
  obtain ⟨a, T', h', k1, Y', e', E', hS', hk', hZ', ho', q⟩ := ldcS Y w.2.1 hZ ho wl wS eT hS zk (g := mkF m pc ls st) rfl (hb w.2.2.1 hd) hn hbig hc hl
  exact w.1 _ _ q (k _ k1 T' h' a (hws.wk hS' hZ' ho') ⟨locs, Y', N, e'⟩ ⟨hws, T'.vm, rfl, hS', hZ', ho'⟩ hk' E')
theorem callSW (w : Wk p l e R s m args below meth c n0 Z own nm bc ml rt (QW k0 Q) G) (X : Sd p l e R s m args below meth c n0 T h cells slots) (ws : Iv p l e R s0 m args below meth c n0 Z own nm bc ml rt Q G s k0) (zk : k0 ≤ h.size) {y : MethodName} {ybc : ByteArray} {yml : Nat} {yrt : Option FieldType} {rm : Room} {i : Nat} {sk : List Value} {Qy : Option Value → Heap → Prop} (av : List Value) (w1 : (Cond.methodLink own i y).before a0 Z = true) (w2 : (Cond.static y).before a0 Z = true) (w3 : (Cond.initialized y.cls).before a0 Z = true) (w4 : (Cond.code y ybc yml yrt).before a0 Z = true) (hy : y.cls ≠ "java/lang/invoke/MethodHandle" ∧ y.cls ≠ "java/lang/invoke/VarHandle") (hM : MetW l Z y ybc yml yrt [] rm av.toArray h n0 Qy) (hd : decode bc pc = .ok (.invokestatic i, 3)) (pc' : Nat) (hp : pc + 3 = pc') (Wd : Nat) (hfr : rm.frames + 1 ≤ R.frames) (hlo : Wd + (yml + 11) + rm.locals ≤ R.locals) (hlen : ∀ sig, parseMethodDescriptor y.desc = some sig → av.length = sig.parameters.length) (hst : sk = av.reverse ++ st) (hW : (st.map fun v => v.category).sum ≤ Wd) (hsz : ls.size = ml) (hc : cells + rm.cells ≤ R.cells) (hs : slots + rm.slots ≤ R.slots) (k : ∀ (s : State) (k0 : Nat) (v : Option Value) (T' : State) (h' : Heap), Wk p l e R s m args below meth c n0 Z own nm bc ml rt (QW k0 Q) G → Sd p l e R s m args below meth c n0 T' h' (cells + rm.cells) (slots + rm.slots) → Iv p l e R s0 m args below meth c n0 Z own nm bc ml rt Q G s k0 → k0 ≤ h'.size → Qy v h' → G (T'.setTop (mkF m pc' ls (v.toList ++ st)))) : G (T.setTop (mkF m pc ls sk)) := by
  obtain ⟨hws, vm0, rfl, hS, hZ, ho⟩ := ws
  obtain ⟨locs, Y, N, eT⟩ := X
  subst hp hst
  obtain ⟨v, _, ⟨T', L', k', n'⟩, -, Y', hS2, hg2, ⟨Lc, ⟨hQ, NL⟩, l1, y1, z1⟩, q⟩ := callSS Y w.2.1 (y := y) ho (mvT hZ w1) (mvT hZ w2) (mvT hZ w3) (mvT hZ w4) hy (backOfS (W := Wd) (Q := fun v h' L => Qy v h' ∧ Fr n0 L) hM hZ w4 w3 hfr hlo) (g := mkF m pc ls (av.reverse ++ st)) rfl (hsz.trans w.2.2.2.1.symm) (argsL := av) (rest := st) hlen rfl (by show 2 * 0 + _ ≤ _; omega) (hb w.2.2.1 hd) (fun _ _ => ⟨rfl, eT, hc, hs⟩)
  dsimp only [Pt.U, Pt.locs, Pt.cells, Pt.slots] at Y' l1 y1 z1 q hQ hS2 hg2
  subst l1 y1 z1
  obtain ⟨Y2, hS', hZ', ho'⟩ := rebS hS (Nat.le_trans zk (Nat.le_of_eq (by rw [eT]))) Y' hS2 hg2 hZ ho
  exact w.1 _ _ (fun t z => q.trans z) (k _ _ v T' _ (hws.wk hS' hZ' ho') ⟨_, Y2, Fr.app N NL, rfl⟩ ⟨hws, T'.vm, rfl, hS', hZ', ho'⟩ (Nat.le_refl _) hQ)
theorem callNW (w : Wk p l e R s m args below meth c n0 Z own nm bc ml rt (QW k0 Q) G) (X : Sd p l e R s m args below meth c n0 T h cells slots) (ws : Iv p l e R s0 m args below meth c n0 Z own nm bc ml rt Q G s k0) (zk : k0 ≤ h.size) {y : MethodName} {ybc : ByteArray} {yml : Nat} {rm : Room} {i : Nat} {sk : List Value} {Qy : Option Value → Heap → Prop} {a : Addr} (av : List Value) (w1 : (Cond.methodLink own i y).before a0 Z = true) (w2 : (Cond.instanceMethod y).before a0 Z = true) (w3 : (Cond.initialized y.cls).before a0 Z = true) (w4 : (Cond.code y ybc yml none).before a0 Z = true) (hi : y.name = "<init>") (hy : y.cls ≠ "java/lang/invoke/MethodHandle" ∧ y.cls ≠ "java/lang/invoke/VarHandle") (hM : MetW l Z y ybc yml none [] rm (.ref a :: av).toArray h n0 Qy) (hd : decode bc pc = .ok (.invokespecial i, 3)) (pc' : Nat) (hp : pc + 3 = pc') (Wd : Nat) (hfr : rm.frames + 1 ≤ R.frames) (hlo : Wd + (yml + 11) + rm.locals ≤ R.locals) (hlen : ∀ sig, parseMethodDescriptor y.desc = some sig → av.length = sig.parameters.length) (hst : sk = av.reverse ++ .ref a :: st) (hW : (st.map fun v => v.category).sum ≤ Wd) (hsz : ls.size = ml) (hc : cells + rm.cells ≤ R.cells) (hs : slots + rm.slots ≤ R.slots) (k : ∀ (s : State) (k0 : Nat) (v : Option Value) (T' : State) (h' : Heap), Wk p l e R s m args below meth c n0 Z own nm bc ml rt (QW k0 Q) G → Sd p l e R s m args below meth c n0 T' h' (cells + rm.cells) (slots + rm.slots) → Iv p l e R s0 m args below meth c n0 Z own nm bc ml rt Q G s k0 → k0 ≤ h'.size → Qy v h' → G (T'.setTop (mkF m pc' ls (v.toList ++ st)))) : G (T.setTop (mkF m pc ls sk)) := by
  obtain ⟨hws, vm0, rfl, hS, hZ, ho⟩ := ws
  obtain ⟨locs, Y, N, eT⟩ := X
  subst hp hst
  obtain ⟨v, _, ⟨T', L', k', n'⟩, -, Y', hS2, hg2, ⟨Lc, ⟨hQ, NL⟩, l1, y1, z1⟩, q⟩ := Y.specialBackS w.2.1 (y := y) hi ho (mvT hZ w1) (mvT hZ w2) (mvT hZ w4) hy (backOfS (W := Wd) (Q := fun v h' L => Qy v h' ∧ Fr n0 L) hM hZ w4 w3 hfr hlo) (g := mkF m pc ls (av.reverse ++ .ref a :: st)) rfl (hsz.trans w.2.2.2.1.symm) (Steps.refl _) (a := a) (argsL := av) (rest := st) hlen rfl (by show 2 * 0 + _ ≤ _; omega) (hb w.2.2.1 hd) (fun _ _ => ⟨rfl, eT, hc, hs⟩)
  dsimp only [Pt.U, Pt.locs, Pt.cells, Pt.slots] at Y' l1 y1 z1 q hQ hS2 hg2
  subst l1 y1 z1
  obtain ⟨Y2, hS', hZ', ho'⟩ := rebS hS (Nat.le_trans zk (Nat.le_of_eq (by rw [eT]))) Y' hS2 hg2 hZ ho
  exact w.1 _ _ (fun t z => q.trans z) (k _ _ v T' _ (hws.wk hS' hZ' ho') ⟨_, Y2, Fr.app N NL, rfl⟩ ⟨hws, T'.vm, rfl, hS', hZ', ho'⟩ (Nat.le_refl _) hQ)
theorem callVW (w : Wk p l e R s m args below meth c n0 Z own nm bc ml rt (QW k0 Q) G) (X : Sd p l e R s m args below meth c n0 T h cells slots) (ws : Iv p l e R s0 m args below meth c n0 Z own nm bc ml rt Q G s k0) (zk : k0 ≤ h.size) {y z : MethodName} {ybc : ByteArray} {yml : Nat} {yrt : Option FieldType} {rm : Room} {i : Nat} {sk : List Value} {Qy : Option Value → Heap → Prop} {C : String} {a : Addr} (av : List Value) (w1 : (Cond.methodLink own i y).before a0 Z = true) (w2 : (Cond.declares y).before a0 Z = true) (hnf : NotFace s y) (w5 : (Cond.selects C y z).before a0 Z = true) (w6 : (Cond.instanceMethod z).before a0 Z = true) (w3 : (Cond.initialized z.cls).before a0 Z = true) (w4 : (Cond.code z ybc yml yrt).before a0 Z = true) (hy : y.cls ≠ "java/lang/invoke/MethodHandle" ∧ y.cls ≠ "java/lang/invoke/VarHandle") (E : Exa Z h a C) (hM : MetW l Z z ybc yml yrt [] rm (.ref a :: av).toArray h n0 Qy) (hd : decode bc pc = .ok (.invokevirtual i, 3)) (pc' : Nat) (hp : pc + 3 = pc') (Wd : Nat) (hfr : rm.frames + 1 ≤ R.frames) (hlo : Wd + (yml + 11) + rm.locals ≤ R.locals) (hlen : ∀ sig, parseMethodDescriptor y.desc = some sig → av.length = sig.parameters.length) (hst : sk = av.reverse ++ .ref a :: st) (hW : (st.map fun v => v.category).sum ≤ Wd) (hsz : ls.size = ml) (hc : cells + rm.cells ≤ R.cells) (hs : slots + rm.slots ≤ R.slots) (k : ∀ (s : State) (k0 : Nat) (v : Option Value) (T' : State) (h' : Heap), Wk p l e R s m args below meth c n0 Z own nm bc ml rt (QW k0 Q) G → Sd p l e R s m args below meth c n0 T' h' (cells + rm.cells) (slots + rm.slots) → Iv p l e R s0 m args below meth c n0 Z own nm bc ml rt Q G s k0 → k0 ≤ h'.size → Qy v h' → G (T'.setTop (mkF m pc' ls (v.toList ++ st)))) : G (T.setTop (mkF m pc ls sk)) := by
  obtain ⟨hws, vm0, rfl, hS, hZ, ho⟩ := ws
  obtain ⟨locs, Y, N, eT⟩ := X
  subst hp hst
  obtain ⟨cq, kq, qa, qb, qc⟩ := isOf (s := s0.setVm vm0) hZ eT E
  obtain ⟨v, _, ⟨T', L', k', n'⟩, -, Y', hS2, hg2, ⟨Lc, ⟨hQ, NL⟩, l1, y1, z1⟩, q⟩ := Y.virtualBackS w.2.1 (y := y) (z := z) ho (mvT hZ w1) (mvT hZ w2) hnf (mvT hZ w5) (mvT hZ w6) hy (backOfS (W := Wd) (Q := fun v h' L => Qy v h' ∧ Fr n0 L) hM hZ w4 w3 hfr hlo) qa qc (g := mkF m pc ls (av.reverse ++ .ref a :: st)) rfl (hsz.trans w.2.2.2.1.symm) (Steps.refl _) (argsL := av) (rest := st) hlen rfl (by show 2 * 0 + _ ≤ _; omega) (hb w.2.2.1 hd) (fun _ _ => ⟨rfl, eT, hc, hs⟩)
  dsimp only [Pt.U, Pt.locs, Pt.cells, Pt.slots] at Y' l1 y1 z1 q hQ hS2 hg2
  subst l1 y1 z1
  obtain ⟨Y2, hS', hZ', ho'⟩ := rebS hS (Nat.le_trans zk (Nat.le_of_eq (by rw [eT]))) Y' hS2 hg2 hZ ho
  exact w.1 _ _ (fun t z => q.trans z) (k _ _ v T' _ (hws.wk hS' hZ' ho') ⟨_, Y2, Fr.app N NL, rfl⟩ ⟨hws, T'.vm, rfl, hS', hZ', ho'⟩ (Nat.le_refl _) hQ)
end Wide
end Jvm.Own
namespace Jvm.Pilot.@@N@@
open Jvm Jvm.ClassFile Sem Op Lib Jvm.Free Jvm.Stand Jvm.LawKit Jvm.RoadKit Jvm.Own Bundle Jvm.Pilot.@@N@@.Jvm.D
def own_fit (v : Int64) : Int32 := if lcmpW v (-2147483648) < 0 ∨ (0 : Int32) < lcmpW v 2147483647 then 0 else 1
theorem own_lc (v : Int64) : (lcmpW v.toInt32.toInt64 v = 0 → own_fit v = 1) ∧ (¬ lcmpW v.toInt32.toInt64 v = 0 → own_fit v = 0) := by
  have a1 := c_l2i v
  have a2 := b32 v.toInt32
  have a3 := c_i2l v.toInt32
  have a4 := c_lcmp v.toInt32.toInt64 v
  have a5 := c_lcmp v (-2147483648)
  have a6 := c_lcmp v 2147483647
  have e1 : (-2147483648 : Int64).toInt = -2147483648 := rfl
  have e2 : (2147483647 : Int64).toInt = 2147483647 := rfl
  have e0 : (0 : Int32).toInt = 0 := rfl
  unfold own_fit
  simp only [Int32.lt_iff_toInt_lt, ← Int32.toInt_inj]
  constructor
  · intro h
    rw [if_neg (by omega)]
  · intro h
    rw [if_pos (by omega)]
theorem own_eq {r v : Int64} (h : r = v) : lcmpW r v = 0 := by
  subst h
  exact Int32.toInt_inj.mp ((c_lcmp r r).2.1 rfl)
theorem wd0 {a0 : Array Value} {Z : State} (hw : ∀ d ∈ tables_1, d.before a0 Z = true) : ((Jvm.Cond.constantLong "com/example/vigilant_mailbox/vigilantmailbox/model/IntegerLiteralFitsIntPinLaw" (7 : Nat) (2147483647 : Int64))).before a0 Z = true := hw _ (List.mem_of_getElem? (i := 0) rfl)
theorem wd1 {a0 : Array Value} {Z : State} (hw : ∀ d ∈ tables_1, d.before a0 Z = true) : ((Jvm.Cond.classLink "com/example/vigilant_mailbox/vigilantmailbox/model/IntegerLiteralFitsIntPinLaw" (11 : Nat) "com/example/vigilant_mailbox/vigilantmailbox/model/IntegerLiteral")).before a0 Z = true := hw _ (List.mem_of_getElem? (i := 1) rfl)
theorem wd2 {a0 : Array Value} {Z : State} (hw : ∀ d ∈ tables_1, d.before a0 Z = true) : ((Jvm.Cond.instantiable "com/example/vigilant_mailbox/vigilantmailbox/model/IntegerLiteral" (2 : Nat))).before a0 Z = true := hw _ (List.mem_of_getElem? (i := 2) rfl)
theorem wd3 {a0 : Array Value} {Z : State} (hw : ∀ d ∈ tables_1, d.before a0 Z = true) : ((Jvm.Cond.initialized "com/example/vigilant_mailbox/vigilantmailbox/model/IntegerLiteral")).before a0 Z = true := hw _ (List.mem_of_getElem? (i := 3) rfl)
theorem wd4 {a0 : Array Value} {Z : State} (hw : ∀ d ∈ tables_1, d.before a0 Z = true) : ((Jvm.Cond.classLink "com/example/vigilant_mailbox/vigilantmailbox/model/IntegerLiteralFitsIntPinLaw" (13 : Nat) "com/example/vigilant_mailbox/vigilantmailbox/model/Position")).before a0 Z = true := hw _ (List.mem_of_getElem? (i := 4) rfl)
theorem wd5 {a0 : Array Value} {Z : State} (hw : ∀ d ∈ tables_1, d.before a0 Z = true) : ((Jvm.Cond.instantiable "com/example/vigilant_mailbox/vigilantmailbox/model/Position" (2 : Nat))).before a0 Z = true := hw _ (List.mem_of_getElem? (i := 5) rfl)
theorem wd6 {a0 : Array Value} {Z : State} (hw : ∀ d ∈ tables_1, d.before a0 Z = true) : ((Jvm.Cond.initialized "com/example/vigilant_mailbox/vigilantmailbox/model/Position")).before a0 Z = true := hw _ (List.mem_of_getElem? (i := 6) rfl)
theorem wd7 {a0 : Array Value} {Z : State} (hw : ∀ d ∈ tables_1, d.before a0 Z = true) : ((Jvm.Cond.methodLink "com/example/vigilant_mailbox/vigilantmailbox/model/IntegerLiteralFitsIntPinLaw" (15 : Nat) ({ cls := "com/example/vigilant_mailbox/vigilantmailbox/model/Position", name := "<init>", desc := "(II)V" } : Jvm.MethodName))).before a0 Z = true := hw _ (List.mem_of_getElem? (i := 7) rfl)
theorem wd8 {a0 : Array Value} {Z : State} (hw : ∀ d ∈ tables_1, d.before a0 Z = true) : ((Jvm.Cond.instanceMethod ({ cls := "com/example/vigilant_mailbox/vigilantmailbox/model/Position", name := "<init>", desc := "(II)V" } : Jvm.MethodName))).before a0 Z = true := hw _ (List.mem_of_getElem? (i := 8) rfl)
theorem wd9 {a0 : Array Value} {Z : State} (hw : ∀ d ∈ tables_1, d.before a0 Z = true) : ((Jvm.Cond.code ({ cls := "com/example/vigilant_mailbox/vigilantmailbox/model/Position", name := "<init>", desc := "(II)V" } : Jvm.MethodName) prog_76_method_1_code (3 : Nat) (Option.none : Option Jvm.ClassFile.FieldType))).before a0 Z = true := hw _ (List.mem_of_getElem? (i := 9) rfl)
theorem wd10 {a0 : Array Value} {Z : State} (hw : ∀ d ∈ tables_1, d.before a0 Z = true) : ((Jvm.Cond.methodLink "com/example/vigilant_mailbox/vigilantmailbox/model/Position" (1 : Nat) ({ cls := "java/lang/Object", name := "<init>", desc := "()V" } : Jvm.MethodName))).before a0 Z = true := hw _ (List.mem_of_getElem? (i := 10) rfl)
theorem wd11 {a0 : Array Value} {Z : State} (hw : ∀ d ∈ tables_1, d.before a0 Z = true) : ((Jvm.Cond.instanceMethod ({ cls := "java/lang/Object", name := "<init>", desc := "()V" } : Jvm.MethodName))).before a0 Z = true := hw _ (List.mem_of_getElem? (i := 11) rfl)
theorem wd12 {a0 : Array Value} {Z : State} (hw : ∀ d ∈ tables_1, d.before a0 Z = true) : ((Jvm.Cond.code ({ cls := "java/lang/Object", name := "<init>", desc := "()V" } : Jvm.MethodName) object_method_1_code (1 : Nat) (Option.none : Option Jvm.ClassFile.FieldType))).before a0 Z = true := hw _ (List.mem_of_getElem? (i := 12) rfl)
theorem wd13 {a0 : Array Value} {Z : State} (hw : ∀ d ∈ tables_1, d.before a0 Z = true) : ((Jvm.Cond.fieldLink "com/example/vigilant_mailbox/vigilantmailbox/model/Position" (16 : Nat) "com/example/vigilant_mailbox/vigilantmailbox/model/Position" "line" "I")).before a0 Z = true := hw _ (List.mem_of_getElem? (i := 13) rfl)
theorem wd14 {a0 : Array Value} {Z : State} (hw : ∀ d ∈ tables_1, d.before a0 Z = true) : ((Jvm.Cond.laysFinal "com/example/vigilant_mailbox/vigilantmailbox/model/Position" "com/example/vigilant_mailbox/vigilantmailbox/model/Position" "line" "I")).before a0 Z = true := hw _ (List.mem_of_getElem? (i := 14) rfl)
theorem wd15 {a0 : Array Value} {Z : State} (hw : ∀ d ∈ tables_1, d.before a0 Z = true) : ((Jvm.Cond.fieldLink "com/example/vigilant_mailbox/vigilantmailbox/model/Position" (22 : Nat) "com/example/vigilant_mailbox/vigilantmailbox/model/Position" "column" "I")).before a0 Z = true := hw _ (List.mem_of_getElem? (i := 15) rfl)
theorem wd16 {a0 : Array Value} {Z : State} (hw : ∀ d ∈ tables_1, d.before a0 Z = true) : ((Jvm.Cond.laysFinal "com/example/vigilant_mailbox/vigilantmailbox/model/Position" "com/example/vigilant_mailbox/vigilantmailbox/model/Position" "column" "I")).before a0 Z = true := hw _ (List.mem_of_getElem? (i := 16) rfl)
theorem wd17 {a0 : Array Value} {Z : State} (hw : ∀ d ∈ tables_1, d.before a0 Z = true) : ((Jvm.Cond.methodLink "com/example/vigilant_mailbox/vigilantmailbox/model/IntegerLiteralFitsIntPinLaw" (18 : Nat) ({ cls := "com/example/vigilant_mailbox/vigilantmailbox/model/IntegerLiteral", name := "<init>", desc := "(Lcom/example/vigilant_mailbox/vigilantmailbox/model/Position;J)V" } : Jvm.MethodName))).before a0 Z = true := hw _ (List.mem_of_getElem? (i := 17) rfl)
theorem wd18 {a0 : Array Value} {Z : State} (hw : ∀ d ∈ tables_1, d.before a0 Z = true) : ((Jvm.Cond.instanceMethod ({ cls := "com/example/vigilant_mailbox/vigilantmailbox/model/IntegerLiteral", name := "<init>", desc := "(Lcom/example/vigilant_mailbox/vigilantmailbox/model/Position;J)V" } : Jvm.MethodName))).before a0 Z = true := hw _ (List.mem_of_getElem? (i := 18) rfl)
theorem wd19 {a0 : Array Value} {Z : State} (hw : ∀ d ∈ tables_1, d.before a0 Z = true) : ((Jvm.Cond.code ({ cls := "com/example/vigilant_mailbox/vigilantmailbox/model/IntegerLiteral", name := "<init>", desc := "(Lcom/example/vigilant_mailbox/vigilantmailbox/model/Position;J)V" } : Jvm.MethodName) prog_65_method_1_code (4 : Nat) (Option.none : Option Jvm.ClassFile.FieldType))).before a0 Z = true := hw _ (List.mem_of_getElem? (i := 19) rfl)
theorem wd20 {a0 : Array Value} {Z : State} (hw : ∀ d ∈ tables_1, d.before a0 Z = true) : ((Jvm.Cond.methodLink "com/example/vigilant_mailbox/vigilantmailbox/model/IntegerLiteral" (1 : Nat) ({ cls := "com/example/vigilant_mailbox/vigilantmailbox/model/Expression", name := "<init>", desc := "(Lcom/example/vigilant_mailbox/vigilantmailbox/model/Position;)V" } : Jvm.MethodName))).before a0 Z = true := hw _ (List.mem_of_getElem? (i := 20) rfl)
theorem wd21 {a0 : Array Value} {Z : State} (hw : ∀ d ∈ tables_1, d.before a0 Z = true) : ((Jvm.Cond.instanceMethod ({ cls := "com/example/vigilant_mailbox/vigilantmailbox/model/Expression", name := "<init>", desc := "(Lcom/example/vigilant_mailbox/vigilantmailbox/model/Position;)V" } : Jvm.MethodName))).before a0 Z = true := hw _ (List.mem_of_getElem? (i := 21) rfl)
theorem wd23 {a0 : Array Value} {Z : State} (hw : ∀ d ∈ tables_1, d.before a0 Z = true) : ((Jvm.Cond.initialized "com/example/vigilant_mailbox/vigilantmailbox/model/Expression")).before a0 Z = true := hw _ (List.mem_of_getElem? (i := 23) rfl)
theorem wd24 {a0 : Array Value} {Z : State} (hw : ∀ d ∈ tables_1, d.before a0 Z = true) : ((Jvm.Cond.code ({ cls := "com/example/vigilant_mailbox/vigilantmailbox/model/Expression", name := "<init>", desc := "(Lcom/example/vigilant_mailbox/vigilantmailbox/model/Position;)V" } : Jvm.MethodName) prog_59_method_1_code (2 : Nat) (Option.none : Option Jvm.ClassFile.FieldType))).before a0 Z = true := hw _ (List.mem_of_getElem? (i := 24) rfl)
theorem wd25 {a0 : Array Value} {Z : State} (hw : ∀ d ∈ tables_1, d.before a0 Z = true) : ((Jvm.Cond.methodLink "com/example/vigilant_mailbox/vigilantmailbox/model/Expression" (1 : Nat) ({ cls := "java/lang/Object", name := "<init>", desc := "()V" } : Jvm.MethodName))).before a0 Z = true := hw _ (List.mem_of_getElem? (i := 25) rfl)
theorem wd26 {a0 : Array Value} {Z : State} (hw : ∀ d ∈ tables_1, d.before a0 Z = true) : ((Jvm.Cond.stringLink "com/example/vigilant_mailbox/vigilantmailbox/model/Expression" (7 : Nat) "position")).before a0 Z = true := hw _ (List.mem_of_getElem? (i := 26) rfl)
theorem wd27 {a0 : Array Value} {Z : State} (hw : ∀ d ∈ tables_1, d.before a0 Z = true) : ((Jvm.Cond.initialized "java/lang/String")).before a0 Z = true := hw _ (List.mem_of_getElem? (i := 27) rfl)
theorem wd28 {a0 : Array Value} {Z : State} (hw : ∀ d ∈ tables_1, d.before a0 Z = true) : ((Jvm.Cond.instantiable "java/lang/String" (4 : Nat))).before a0 Z = true := hw _ (List.mem_of_getElem? (i := 28) rfl)
theorem wd29 {a0 : Array Value} {Z : State} (hw : ∀ d ∈ tables_1, d.before a0 Z = true) : ((Jvm.Cond.arrayClass Jvm.ClassFile.FieldType.byte)).before a0 Z = true := hw _ (List.mem_of_getElem? (i := 29) rfl)
theorem wd30 {a0 : Array Value} {Z : State} (hw : ∀ d ∈ tables_1, d.before a0 Z = true) : ((Jvm.Cond.laysFinal "java/lang/String" "java/lang/String" "value" "[B")).before a0 Z = true := hw _ (List.mem_of_getElem? (i := 30) rfl)
theorem wd31 {a0 : Array Value} {Z : State} (hw : ∀ d ∈ tables_1, d.before a0 Z = true) : ((Jvm.Cond.laysFinal "java/lang/String" "java/lang/String" "coder" "B")).before a0 Z = true := hw _ (List.mem_of_getElem? (i := 31) rfl)
theorem wd32 {a0 : Array Value} {Z : State} (hw : ∀ d ∈ tables_1, d.before a0 Z = true) : ((Jvm.Cond.soleField "java/lang/String" "value")).before a0 Z = true := hw _ (List.mem_of_getElem? (i := 32) rfl)
theorem wd33 {a0 : Array Value} {Z : State} (hw : ∀ d ∈ tables_1, d.before a0 Z = true) : ((Jvm.Cond.soleField "java/lang/String" "coder")).before a0 Z = true := hw _ (List.mem_of_getElem? (i := 33) rfl)
theorem wd34 {a0 : Array Value} {Z : State} (hw : ∀ d ∈ tables_1, d.before a0 Z = true) : ((Jvm.Cond.methodLink "com/example/vigilant_mailbox/vigilantmailbox/model/Expression" (9 : Nat) ({ cls := "java/util/Objects", name := "requireNonNull", desc := "(Ljava/lang/Object;Ljava/lang/String;)Ljava/lang/Object;" } : Jvm.MethodName))).before a0 Z = true := hw _ (List.mem_of_getElem? (i := 34) rfl)
theorem wd35 {a0 : Array Value} {Z : State} (hw : ∀ d ∈ tables_1, d.before a0 Z = true) : ((Jvm.Cond.static ({ cls := "java/util/Objects", name := "requireNonNull", desc := "(Ljava/lang/Object;Ljava/lang/String;)Ljava/lang/Object;" } : Jvm.MethodName))).before a0 Z = true := hw _ (List.mem_of_getElem? (i := 35) rfl)
theorem wd36 {a0 : Array Value} {Z : State} (hw : ∀ d ∈ tables_1, d.before a0 Z = true) : ((Jvm.Cond.initialized "java/util/Objects")).before a0 Z = true := hw _ (List.mem_of_getElem? (i := 36) rfl)
theorem wd37 {a0 : Array Value} {Z : State} (hw : ∀ d ∈ tables_1, d.before a0 Z = true) : ((Jvm.Cond.code ({ cls := "java/util/Objects", name := "requireNonNull", desc := "(Ljava/lang/Object;Ljava/lang/String;)Ljava/lang/Object;" } : Jvm.MethodName) jdk_31_method_11_code (2 : Nat) (Option.some (Jvm.ClassFile.FieldType.object "java/lang/Object")))).before a0 Z = true := hw _ (List.mem_of_getElem? (i := 37) rfl)
theorem wd38 {a0 : Array Value} {Z : State} (hw : ∀ d ∈ tables_1, d.before a0 Z = true) : ((Jvm.Cond.classLink "com/example/vigilant_mailbox/vigilantmailbox/model/Expression" (15 : Nat) "com/example/vigilant_mailbox/vigilantmailbox/model/Position")).before a0 Z = true := hw _ (List.mem_of_getElem? (i := 38) rfl)
theorem wd40 {a0 : Array Value} {Z : State} (hw : ∀ d ∈ tables_1, d.before a0 Z = true) : ((Jvm.Cond.fieldLink "com/example/vigilant_mailbox/vigilantmailbox/model/Expression" (17 : Nat) "com/example/vigilant_mailbox/vigilantmailbox/model/Expression" "position" "Lcom/example/vigilant_mailbox/vigilantmailbox/model/Position;")).before a0 Z = true := hw _ (List.mem_of_getElem? (i := 40) rfl)
theorem wd41 {a0 : Array Value} {Z : State} (hw : ∀ d ∈ tables_1, d.before a0 Z = true) : ((Jvm.Cond.laysFinal "com/example/vigilant_mailbox/vigilantmailbox/model/IntegerLiteral" "com/example/vigilant_mailbox/vigilantmailbox/model/Expression" "position" "Lcom/example/vigilant_mailbox/vigilantmailbox/model/Position;")).before a0 Z = true := hw _ (List.mem_of_getElem? (i := 41) rfl)
theorem wd42 {a0 : Array Value} {Z : State} (hw : ∀ d ∈ tables_1, d.before a0 Z = true) : ((Jvm.Cond.fieldLink "com/example/vigilant_mailbox/vigilantmailbox/model/IntegerLiteral" (7 : Nat) "com/example/vigilant_mailbox/vigilantmailbox/model/IntegerLiteral" "value" "J")).before a0 Z = true := hw _ (List.mem_of_getElem? (i := 42) rfl)
theorem wd43 {a0 : Array Value} {Z : State} (hw : ∀ d ∈ tables_1, d.before a0 Z = true) : ((Jvm.Cond.laysFinal "com/example/vigilant_mailbox/vigilantmailbox/model/IntegerLiteral" "com/example/vigilant_mailbox/vigilantmailbox/model/IntegerLiteral" "value" "J")).before a0 Z = true := hw _ (List.mem_of_getElem? (i := 43) rfl)
theorem wd44 {a0 : Array Value} {Z : State} (hw : ∀ d ∈ tables_1, d.before a0 Z = true) : ((Jvm.Cond.methodLink "com/example/vigilant_mailbox/vigilantmailbox/model/IntegerLiteralFitsIntPinLaw" (21 : Nat) ({ cls := "com/example/vigilant_mailbox/vigilantmailbox/model/IntegerLiteral", name := "fitsInt", desc := "()Z" } : Jvm.MethodName))).before a0 Z = true := hw _ (List.mem_of_getElem? (i := 44) rfl)
theorem wd45 {a0 : Array Value} {Z : State} (hw : ∀ d ∈ tables_1, d.before a0 Z = true) : ((Jvm.Cond.declares ({ cls := "com/example/vigilant_mailbox/vigilantmailbox/model/IntegerLiteral", name := "fitsInt", desc := "()Z" } : Jvm.MethodName))).before a0 Z = true := hw _ (List.mem_of_getElem? (i := 45) rfl)
theorem wd46 {a0 : Array Value} {Z : State} (hw : ∀ d ∈ tables_1, d.before a0 Z = true) : ((Jvm.Cond.instanceMethod ({ cls := "com/example/vigilant_mailbox/vigilantmailbox/model/IntegerLiteral", name := "fitsInt", desc := "()Z" } : Jvm.MethodName))).before a0 Z = true := hw _ (List.mem_of_getElem? (i := 46) rfl)
theorem wd47 {a0 : Array Value} {Z : State} (hw : ∀ d ∈ tables_1, d.before a0 Z = true) : ((Jvm.Cond.selects "com/example/vigilant_mailbox/vigilantmailbox/model/IntegerLiteral" ({ cls := "com/example/vigilant_mailbox/vigilantmailbox/model/IntegerLiteral", name := "fitsInt", desc := "()Z" } : Jvm.MethodName) ({ cls := "com/example/vigilant_mailbox/vigilantmailbox/model/IntegerLiteral", name := "fitsInt", desc := "()Z" } : Jvm.MethodName))).before a0 Z = true := hw _ (List.mem_of_getElem? (i := 47) rfl)
theorem wd48 {a0 : Array Value} {Z : State} (hw : ∀ d ∈ tables_1, d.before a0 Z = true) : ((Jvm.Cond.code ({ cls := "com/example/vigilant_mailbox/vigilantmailbox/model/IntegerLiteral", name := "fitsInt", desc := "()Z" } : Jvm.MethodName) prog_65_method_3_code (1 : Nat) (Option.some Jvm.ClassFile.FieldType.boolean))).before a0 Z = true := hw _ (List.mem_of_getElem? (i := 48) rfl)
theorem wd49 {a0 : Array Value} {Z : State} (hw : ∀ d ∈ tables_1, d.before a0 Z = true) : ((Jvm.Cond.constantLong "com/example/vigilant_mailbox/vigilantmailbox/model/IntegerLiteral" (15 : Nat) (-2147483648 : Int64))).before a0 Z = true := hw _ (List.mem_of_getElem? (i := 49) rfl)
theorem wd50 {a0 : Array Value} {Z : State} (hw : ∀ d ∈ tables_1, d.before a0 Z = true) : ((Jvm.Cond.constantLong "com/example/vigilant_mailbox/vigilantmailbox/model/IntegerLiteral" (17 : Nat) (2147483647 : Int64))).before a0 Z = true := hw _ (List.mem_of_getElem? (i := 50) rfl)
theorem wd51 {a0 : Array Value} {Z : State} (hw : ∀ d ∈ tables_1, d.before a0 Z = true) : ((Jvm.Cond.methodLink "com/example/vigilant_mailbox/vigilantmailbox/model/IntegerLiteralFitsIntPinLaw" (25 : Nat) ({ cls := "com/example/vigilant_mailbox/vigilantmailbox/model/IntegerLiteral", name := "value", desc := "()J" } : Jvm.MethodName))).before a0 Z = true := hw _ (List.mem_of_getElem? (i := 51) rfl)
theorem wd52 {a0 : Array Value} {Z : State} (hw : ∀ d ∈ tables_1, d.before a0 Z = true) : ((Jvm.Cond.declares ({ cls := "com/example/vigilant_mailbox/vigilantmailbox/model/IntegerLiteral", name := "value", desc := "()J" } : Jvm.MethodName))).before a0 Z = true := hw _ (List.mem_of_getElem? (i := 52) rfl)
theorem wd53 {a0 : Array Value} {Z : State} (hw : ∀ d ∈ tables_1, d.before a0 Z = true) : ((Jvm.Cond.instanceMethod ({ cls := "com/example/vigilant_mailbox/vigilantmailbox/model/IntegerLiteral", name := "value", desc := "()J" } : Jvm.MethodName))).before a0 Z = true := hw _ (List.mem_of_getElem? (i := 53) rfl)
theorem wd54 {a0 : Array Value} {Z : State} (hw : ∀ d ∈ tables_1, d.before a0 Z = true) : ((Jvm.Cond.selects "com/example/vigilant_mailbox/vigilantmailbox/model/IntegerLiteral" ({ cls := "com/example/vigilant_mailbox/vigilantmailbox/model/IntegerLiteral", name := "value", desc := "()J" } : Jvm.MethodName) ({ cls := "com/example/vigilant_mailbox/vigilantmailbox/model/IntegerLiteral", name := "value", desc := "()J" } : Jvm.MethodName))).before a0 Z = true := hw _ (List.mem_of_getElem? (i := 54) rfl)
theorem wd55 {a0 : Array Value} {Z : State} (hw : ∀ d ∈ tables_1, d.before a0 Z = true) : ((Jvm.Cond.code ({ cls := "com/example/vigilant_mailbox/vigilantmailbox/model/IntegerLiteral", name := "value", desc := "()J" } : Jvm.MethodName) prog_65_method_2_code (1 : Nat) (Option.some Jvm.ClassFile.FieldType.long))).before a0 Z = true := hw _ (List.mem_of_getElem? (i := 55) rfl)
theorem wd56 {a0 : Array Value} {Z : State} (hw : ∀ d ∈ tables_1, d.before a0 Z = true) : ((Jvm.Cond.constantLong "com/example/vigilant_mailbox/vigilantmailbox/model/IntegerLiteralFitsIntPinLaw" (9 : Nat) (-2147483648 : Int64))).before a0 Z = true := hw _ (List.mem_of_getElem? (i := 56) rfl)
theorem pd0 : parseMethodDescriptor "(Ljava/lang/Object;Ljava/lang/String;)Ljava/lang/Object;" = some ⟨[(.object "java/lang/Object"), (.object "java/lang/String")], some (.object "java/lang/Object")⟩ := by decide +kernel
theorem pd1 : parseMethodDescriptor "(Lcom/example/vigilant_mailbox/vigilantmailbox/model/Position;)V" = some ⟨[(.object "com/example/vigilant_mailbox/vigilantmailbox/model/Position")], none⟩ := by decide +kernel
theorem pd2 : parseMethodDescriptor "(II)V" = some ⟨[.int, .int], none⟩ := by decide +kernel
theorem pd3 : parseMethodDescriptor "(Lcom/example/vigilant_mailbox/vigilantmailbox/model/Position;J)V" = some ⟨[(.object "com/example/vigilant_mailbox/vigilantmailbox/model/Position"), .long], none⟩ := by decide +kernel
theorem pd4 : parseMethodDescriptor "()Z" = some ⟨[], some .boolean⟩ := by decide +kernel
theorem pd5 : parseMethodDescriptor "()J" = some ⟨[], some .long⟩ := by decide +kernel
theorem own_wS {a0 : Array Value} {Z : State} (hw : ∀ d ∈ tables_1, d.before a0 Z = true) : ∀ a ∈ Bundle.stringAtoms, a.before a0 Z = true := fun a ha => by
  simp only [Bundle.stringAtoms, List.mem_cons, List.not_mem_nil, or_false] at ha
  rcases ha with rfl | rfl | rfl | rfl | rfl | rfl | rfl
  · exact wd27 hw
  · exact wd28 hw
  · exact wd29 hw
  · exact wd30 hw
  · exact wd31 hw
  · exact wd32 hw
  · exact wd33 hw
theorem d1_0 : decode prog_76_method_1_code 0 = .ok (.aload_n 0, 1) := by decide +kernel
theorem d1_1 : decode prog_76_method_1_code 1 = .ok (.invokespecial 1, 3) := by decide +kernel
theorem d1_4 : decode prog_76_method_1_code 4 = .ok (.iload_n 1, 1) := by decide +kernel
theorem d1_5 : decode prog_76_method_1_code 5 = .ok (.iconst 1, 1) := by decide +kernel
theorem d1_6 : decode prog_76_method_1_code 6 = .ok (.if_icmp .lt 8, 3) := by decide +kernel
theorem d1_9 : decode prog_76_method_1_code 9 = .ok (.iload_n 2, 1) := by decide +kernel
theorem d1_10 : decode prog_76_method_1_code 10 = .ok (.iconst 1, 1) := by decide +kernel
theorem d1_11 : decode prog_76_method_1_code 11 = .ok (.if_icmp .ge 18, 3) := by decide +kernel
theorem d1_29 : decode prog_76_method_1_code 29 = .ok (.aload_n 0, 1) := by decide +kernel
theorem d1_30 : decode prog_76_method_1_code 30 = .ok (.iload_n 1, 1) := by decide +kernel
theorem d1_31 : decode prog_76_method_1_code 31 = .ok (.putfield 16, 3) := by decide +kernel
theorem d1_34 : decode prog_76_method_1_code 34 = .ok (.aload_n 0, 1) := by decide +kernel
theorem d1_35 : decode prog_76_method_1_code 35 = .ok (.iload_n 2, 1) := by decide +kernel
theorem d1_36 : decode prog_76_method_1_code 36 = .ok (.putfield 22, 3) := by decide +kernel
theorem d1_39 : decode prog_76_method_1_code 39 = .ok (.return_, 1) := by decide +kernel
theorem pn1 : plainName "com/example/vigilant_mailbox/vigilantmailbox/model/Position" = true := by first | (simp [plainName, overriddenIn]; done) | decide +kernel
set_option maxRecDepth 65536 in
set_option maxHeartbeats 40000000 in
theorem rm_po {l : Launch} {Z : State} {a0 : Array Value} (hw : ∀ d ∈ tables_1, d.before a0 Z = true) (t : Addr) (h : Heap) (n0 : Nat) (zn : n0 ≤ h.size) (g_t : n0 ≤ t) (E_t : Exa Z h t "com/example/vigilant_mailbox/vigilantmailbox/model/Position") (F_line_t : Fld Z h t "com/example/vigilant_mailbox/vigilantmailbox/model/Position" "line" "I" (.int (0 : Int32))) (F_column_t : Fld Z h t "com/example/vigilant_mailbox/vigilantmailbox/model/Position" "column" "I" (.int (0 : Int32))) :
    Met l Z (⟨"com/example/vigilant_mailbox/vigilantmailbox/model/Position", "<init>", "(II)V"⟩ : MethodName) prog_76_method_1_code 3 none [] ({ frames := 1, cells := 0, slots := 0, locals := 12 } : Room) #[(.ref t), (.int (1 : Int32)), (.int (1 : Int32))] h n0 (RV fun h' => Keep h h' [t] ∧ Exa Z h' t "com/example/vigilant_mailbox/vigilantmailbox/model/Position") := by
  refine start (ls := #[.val (.ref t), .val (.int (1 : Int32)), .val (.int (1 : Int32))]) (plainFor_of_name pn1) (fun m => by first | (simp [entryFrame, mkF, argsToLocals, Value.category]; done) | rfl) ?_
  intro p e s m below meth c T G w X
  have K := Keep.refl h [t]
  refine aloadN w X d1_0 1 rfl rfl rfl ?_
  refine initObj w X (wd10 hw) (wd11 hw) (wd12 hw) d1_1 4 rfl rfl (by decide) 0 (Nat.le_of_eq rfl) (by decide) (fun T X => ?_)
  refine iloadN w X d1_4 5 rfl rfl ?_
  refine iconst w X (1 : Int32) d1_5 6 rfl rfl ?_
  refine icmp_lt w X d1_6 14 9 (by decide) (by decide) rfl (fun q => absurd q (by decide)) (fun hc6_1 => ?_)
  refine iloadN w X d1_9 10 rfl rfl ?_
  refine iconst w X (1 : Int32) d1_10 11 rfl rfl ?_
  refine icmp_ge w X d1_11 29 14 (by decide) (by decide) rfl (fun hc11_2 => ?_) (fun q => absurd q (by decide))
  refine aloadN w X d1_29 30 rfl rfl rfl ?_
  refine iloadN w X d1_30 31 rfl rfl ?_
  refine putfield w X (wd13 hw) Via.refl F_line_t E_t (Or.inr ⟨(wd14 hw), rfl, rfl⟩) (wd5 hw) (ty := .int) (by decide) rfl rfl g_t d1_31 34 rfl (fun T h3 X W => ?_)
  have zn : n0 ≤ h3.size := W.size ▸ zn
  have E_t := E_t.wr W
  have K := K.wr W (Or.inl (List.mem_of_getElem? (i := 0) rfl))
  have F_line_t := F_line_t.same W
  have F_column_t := F_column_t.other W (Or.inr (slot_ne (Or.inr (wd16 hw)) (Or.inr (wd14 hw)) (by decide) (t := .int) (t' := .int) (by decide) (by decide)))
  refine aloadN w X d1_34 35 rfl rfl rfl ?_
  refine iloadN w X d1_35 36 rfl rfl ?_
  refine putfield w X (wd15 hw) Via.refl F_column_t E_t (Or.inr ⟨(wd16 hw), rfl, rfl⟩) (wd5 hw) (ty := .int) (by decide) rfl rfl g_t d1_36 39 rfl (fun T h4 X W => ?_)
  have zn : n0 ≤ h4.size := W.size ▸ zn
  have E_t := E_t.wr W
  have K := K.wr W (Or.inl (List.mem_of_getElem? (i := 0) rfl))
  have F_line_t := F_line_t.other W (Or.inr (slot_ne (Or.inr (wd14 hw)) (Or.inr (wd16 hw)) (by decide) (t := .int) (t' := .int) (by decide) (by decide)))
  have F_column_t := F_column_t.same W
  refine retV w X rfl d1_39 (by decide) (by decide) ?_
  exact ⟨rfl, K, E_t⟩
theorem d5_0 : decode jdk_31_method_11_code 0 = .ok (.aload_n 0, 1) := by decide +kernel
theorem d5_1 : decode jdk_31_method_11_code 1 = .ok (.ifnonnull 12, 3) := by decide +kernel
theorem d5_13 : decode jdk_31_method_11_code 13 = .ok (.aload_n 0, 1) := by decide +kernel
theorem d5_14 : decode jdk_31_method_11_code 14 = .ok (.areturn, 1) := by decide +kernel
theorem pn5 : plainName "java/util/Objects" = true := by first | (simp [plainName, overriddenIn]; done) | decide +kernel
set_option maxRecDepth 65536 in
set_option maxHeartbeats 40000000 in
theorem rm_rq {l : Launch} {Z : State} {a0 : Array Value} (hw : ∀ d ∈ tables_1, d.before a0 Z = true) (x y : Addr) (h : Heap) (n0 : Nat) (zn : n0 ≤ h.size) :
    Met l Z (⟨"java/util/Objects", "requireNonNull", "(Ljava/lang/Object;Ljava/lang/String;)Ljava/lang/Object;"⟩ : MethodName) jdk_31_method_11_code 2 (some (.object "java/lang/Object")) [] ({ frames := 0, cells := 0, slots := 0, locals := 0 } : Room) #[(.ref x), (.ref y)] h n0 (RR fun r h' => h' = h ∧ r = Value.ref x) := by
  refine start (ls := #[.val (.ref x), .val (.ref y)]) (plainFor_of_name pn5) (fun m => by first | (simp [entryFrame, mkF, argsToLocals, Value.category]; done) | rfl) ?_
  intro p e s m below meth c T G w X
  refine aloadN w X d5_0 1 rfl rfl rfl ?_
  refine ifnonnull_ref w X d5_1 13 (by decide) (by decide) ?_
  refine aloadN w X d5_13 14 rfl rfl rfl ?_
  refine retA w X rfl rfl rfl d5_14 (by decide) (by decide) ?_
  exact ⟨_, rfl, rfl, rfl⟩
theorem d4_0 : decode prog_59_method_1_code 0 = .ok (.aload_n 0, 1) := by decide +kernel
theorem d4_1 : decode prog_59_method_1_code 1 = .ok (.invokespecial 1, 3) := by decide +kernel
theorem d4_4 : decode prog_59_method_1_code 4 = .ok (.aload_n 0, 1) := by decide +kernel
theorem d4_5 : decode prog_59_method_1_code 5 = .ok (.aload_n 1, 1) := by decide +kernel
theorem d4_6 : decode prog_59_method_1_code 6 = .ok (.ldc 7, 2) := by decide +kernel
theorem d4_8 : decode prog_59_method_1_code 8 = .ok (.invokestatic 9, 3) := by decide +kernel
theorem d4_11 : decode prog_59_method_1_code 11 = .ok (.checkcast 15, 3) := by decide +kernel
theorem d4_14 : decode prog_59_method_1_code 14 = .ok (.putfield 17, 3) := by decide +kernel
theorem d4_17 : decode prog_59_method_1_code 17 = .ok (.return_, 1) := by decide +kernel
theorem pn4 : plainName "com/example/vigilant_mailbox/vigilantmailbox/model/Expression" = true := by first | (simp [plainName, overriddenIn]; done) | decide +kernel
set_option maxRecDepth 65536 in
set_option maxHeartbeats 40000000 in
theorem rm_ex {l : Launch} {Z : State} {a0 : Array Value} (hw : ∀ d ∈ tables_1, d.before a0 Z = true) (t x : Addr) (h : Heap) (n0 : Nat) (zn : n0 ≤ h.size) (g_t : n0 ≤ t) (E_t : Exa Z h t "com/example/vigilant_mailbox/vigilantmailbox/model/IntegerLiteral") (E_x : Exa Z h x "com/example/vigilant_mailbox/vigilantmailbox/model/Position") (F_position_t : Fld Z h t "com/example/vigilant_mailbox/vigilantmailbox/model/Expression" "position" "Lcom/example/vigilant_mailbox/vigilantmailbox/model/Position;" .null) (F_value_t : Fld Z h t "com/example/vigilant_mailbox/vigilantmailbox/model/IntegerLiteral" "value" "J" (.long (0 : Int64))) (ne_x_t : x ≠ t) :
    MetW l Z (⟨"com/example/vigilant_mailbox/vigilantmailbox/model/Expression", "<init>", "(Lcom/example/vigilant_mailbox/vigilantmailbox/model/Position;)V"⟩ : MethodName) prog_59_method_1_code 2 none [] ({ frames := 1, cells := 2, slots := 36, locals := 14 } : Room) #[(.ref t), (.ref x)] h n0 (RV fun h' => Keep h h' [t] ∧ Exa Z h' t "com/example/vigilant_mailbox/vigilantmailbox/model/IntegerLiteral" ∧ Fld Z h' t "com/example/vigilant_mailbox/vigilantmailbox/model/IntegerLiteral" "value" "J" (.long (0 : Int64))) := by
  refine startW (ls := #[.val (.ref t), .val (.ref x)]) (plainFor_of_name pn4) (fun m => by first | (simp [entryFrame, mkF, argsToLocals, Value.category]; done) | rfl) ?_
  intro p e s0 m below meth c T G s k0 w X ws zk
  have K := Keep.refl h [t]
  refine aloadN w X d4_0 1 rfl rfl rfl ?_
  refine initObj w X (wd25 hw) (wd11 hw) (wd12 hw) d4_1 4 rfl rfl (by decide) 0 (Nat.le_of_eq rfl) (by decide) (fun T X => ?_)
  refine aloadN w X d4_4 5 rfl rfl rfl ?_
  refine aloadN w X d4_5 6 rfl rfl rfl ?_
  refine ldcSt w X ws zk (wd26 hw) (own_wS hw) d4_6 8 rfl 32 (by decide) (by decide) (by decide) (by decide) (fun s k0 T h1 sa2 w X ws zk E => ?_)
  have zn : n0 ≤ h1.size := Nat.le_trans zn E.1
  have E_t := E_t.ext E
  have E_x := E_x.ext E
  have K := K.ext E
  have F_position_t := F_position_t.ext E
  have F_value_t := F_value_t.ext E
  refine callSPR w X [(.ref x), (.ref sa2)] (wd34 hw) (wd35 hw) (wd36 hw) (wd37 hw) (by decide) (rm_rq hw x sa2 h1 n0 zn) d4_8 11 rfl 1 (by decide) (by decide) (lenOf pd0 rfl) rfl (Nat.le_of_eq rfl) rfl (by decide) (by decide) (fun r3 T X hq => ?_)
  subst hq
  refine checkcast w X (wd38 hw) (Ins.self E_x) d4_11 14 rfl (fun T X => ?_)
  refine putfield w X (wd40 hw) Via.refl F_position_t E_t (Or.inr ⟨(wd41 hw), rfl, rfl⟩) (wd2 hw) (ty := (.object "com/example/vigilant_mailbox/vigilantmailbox/model/Position")) (by decide) rfl rfl g_t d4_14 17 rfl (fun T h4 X W => ?_)
  have zn : n0 ≤ h4.size := W.size ▸ zn
  have E_t := E_t.wr W
  have E_x := E_x.wr W
  have K := K.wr W (Or.inl (List.mem_of_getElem? (i := 0) rfl))
  have F_position_t := F_position_t.same W
  have F_value_t := F_value_t.other W (Or.inr (slot_ne (Or.inr (wd43 hw)) (Or.inr (wd41 hw)) (by decide) (t := .long) (t' := (.object "com/example/vigilant_mailbox/vigilantmailbox/model/Position")) (by decide) (by decide)))
  have zk : k0 ≤ h4.size := W.size ▸ zk
  refine retV w X rfl d4_17 (by decide) (by decide) ?_
  refine And.intro zk ?_
  exact ⟨rfl, K, E_t, F_value_t⟩
theorem d3_0 : decode prog_65_method_1_code 0 = .ok (.aload_n 0, 1) := by decide +kernel
theorem d3_1 : decode prog_65_method_1_code 1 = .ok (.aload_n 1, 1) := by decide +kernel
theorem d3_2 : decode prog_65_method_1_code 2 = .ok (.invokespecial 1, 3) := by decide +kernel
theorem d3_5 : decode prog_65_method_1_code 5 = .ok (.aload_n 0, 1) := by decide +kernel
theorem d3_6 : decode prog_65_method_1_code 6 = .ok (.lload_n 2, 1) := by decide +kernel
theorem d3_7 : decode prog_65_method_1_code 7 = .ok (.putfield 7, 3) := by decide +kernel
theorem d3_10 : decode prog_65_method_1_code 10 = .ok (.return_, 1) := by decide +kernel
theorem pn3 : plainName "com/example/vigilant_mailbox/vigilantmailbox/model/IntegerLiteral" = true := by first | (simp [plainName, overriddenIn]; done) | decide +kernel
set_option maxRecDepth 65536 in
set_option maxHeartbeats 40000000 in
theorem rm_il {l : Launch} {Z : State} {a0 : Array Value} (hw : ∀ d ∈ tables_1, d.before a0 Z = true) (t x : Addr) (v : Int64) (h : Heap) (n0 : Nat) (zn : n0 ≤ h.size) (g_t : n0 ≤ t) (E_t : Exa Z h t "com/example/vigilant_mailbox/vigilantmailbox/model/IntegerLiteral") (E_x : Exa Z h x "com/example/vigilant_mailbox/vigilantmailbox/model/Position") (F_position_t : Fld Z h t "com/example/vigilant_mailbox/vigilantmailbox/model/Expression" "position" "Lcom/example/vigilant_mailbox/vigilantmailbox/model/Position;" .null) (F_value_t : Fld Z h t "com/example/vigilant_mailbox/vigilantmailbox/model/IntegerLiteral" "value" "J" (.long (0 : Int64))) (ne_x_t : x ≠ t) :
    MetW l Z (⟨"com/example/vigilant_mailbox/vigilantmailbox/model/IntegerLiteral", "<init>", "(Lcom/example/vigilant_mailbox/vigilantmailbox/model/Position;J)V"⟩ : MethodName) prog_65_method_1_code 4 none [] ({ frames := 2, cells := 2, slots := 36, locals := 27 } : Room) #[(.ref t), (.ref x), (.long v)] h n0 (RV fun h' => Keep h h' [t] ∧ Exa Z h' t "com/example/vigilant_mailbox/vigilantmailbox/model/IntegerLiteral" ∧ Fld Z h' t "com/example/vigilant_mailbox/vigilantmailbox/model/IntegerLiteral" "value" "J" (.long v)) := by
  refine startW (ls := #[.val (.ref t), .val (.ref x), .val (.long v), .second]) (plainFor_of_name pn3) (fun m => by first | (simp [entryFrame, mkF, argsToLocals, Value.category]; done) | rfl) ?_
  intro p e s0 m below meth c T G s k0 w X ws zk
  have K := Keep.refl h [t]
  refine aloadN w X d3_0 1 rfl rfl rfl ?_
  refine aloadN w X d3_1 2 rfl rfl rfl ?_
  refine callNW w X ws zk [(.ref x)] (wd20 hw) (wd21 hw) (wd23 hw) (wd24 hw) rfl (by decide) (rm_ex hw t x h n0 zn g_t E_t E_x F_position_t F_value_t ne_x_t) d3_2 5 rfl 0 (by decide) (by decide) (lenOf pd1 rfl) rfl (Nat.le_of_eq rfl) rfl (by decide) (by decide) (fun s k0 v T h1 w X ws zk hq => ?_)
  obtain ⟨rfl, hq⟩ := hq
  obtain ⟨Kq, E_t, F_value_t⟩ := hq
  have zn : n0 ≤ h1.size := Nat.le_trans zn Kq.1
  have E_x := E_x.keep Kq
  have K := K.trans Kq (allS (Or.inl (List.mem_of_getElem? (i := 0) rfl)) all0)
  show G (T.setTop (mkF m 5 #[.val (.ref t), .val (.ref x), .val (.long v), .second] []))
  refine aloadN w X d3_5 6 rfl rfl rfl ?_
  refine lloadN w X d3_6 7 rfl rfl ?_
  refine putfield w X (wd42 hw) Via.refl F_value_t E_t (Or.inr ⟨(wd43 hw), rfl, rfl⟩) (wd2 hw) (ty := .long) (by decide) rfl rfl g_t d3_7 10 rfl (fun T h2 X W => ?_)
  have zn : n0 ≤ h2.size := W.size ▸ zn
  have E_x := E_x.wr W
  have K := K.wr W (Or.inl (List.mem_of_getElem? (i := 0) rfl))
  have zk : k0 ≤ h2.size := W.size ▸ zk
  have E_t := E_t.wr W
  have F_value_t := F_value_t.same W
  refine retV w X rfl d3_10 (by decide) (by decide) ?_
  refine And.intro zk ?_
  exact ⟨rfl, K, E_t, F_value_t⟩
theorem d6_0 : decode prog_65_method_3_code 0 = .ok (.aload_n 0, 1) := by decide +kernel
theorem d6_1 : decode prog_65_method_3_code 1 = .ok (.getfield 7, 3) := by decide +kernel
theorem d6_4 : decode prog_65_method_3_code 4 = .ok (.ldc2_w 15, 3) := by decide +kernel
theorem d6_7 : decode prog_65_method_3_code 7 = .ok (.lcmp, 1) := by decide +kernel
theorem d6_8 : decode prog_65_method_3_code 8 = .ok (.ifCond .lt 18, 3) := by decide +kernel
theorem d6_11 : decode prog_65_method_3_code 11 = .ok (.aload_n 0, 1) := by decide +kernel
theorem d6_12 : decode prog_65_method_3_code 12 = .ok (.getfield 7, 3) := by decide +kernel
theorem d6_15 : decode prog_65_method_3_code 15 = .ok (.ldc2_w 17, 3) := by decide +kernel
theorem d6_18 : decode prog_65_method_3_code 18 = .ok (.lcmp, 1) := by decide +kernel
theorem d6_19 : decode prog_65_method_3_code 19 = .ok (.ifCond .gt 7, 3) := by decide +kernel
theorem d6_22 : decode prog_65_method_3_code 22 = .ok (.iconst 1, 1) := by decide +kernel
theorem d6_23 : decode prog_65_method_3_code 23 = .ok (.goto 4, 3) := by decide +kernel
theorem d6_26 : decode prog_65_method_3_code 26 = .ok (.iconst 0, 1) := by decide +kernel
theorem d6_27 : decode prog_65_method_3_code 27 = .ok (.ireturn, 1) := by decide +kernel
set_option maxRecDepth 65536 in
set_option maxHeartbeats 40000000 in
theorem rm_fi {l : Launch} {Z : State} {a0 : Array Value} (hw : ∀ d ∈ tables_1, d.before a0 Z = true) (t : Addr) (v : Int64) (h : Heap) (n0 : Nat) (zn : n0 ≤ h.size) (F_value_t : Fld Z h t "com/example/vigilant_mailbox/vigilantmailbox/model/IntegerLiteral" "value" "J" (.long v)) :
    Met l Z (⟨"com/example/vigilant_mailbox/vigilantmailbox/model/IntegerLiteral", "fitsInt", "()Z"⟩ : MethodName) prog_65_method_3_code 1 (some .boolean) [] ({ frames := 0, cells := 0, slots := 0, locals := 0 } : Room) #[(.ref t)] h n0 (RI fun r h' => h' = h ∧ r = own_fit v) := by
  refine start (ls := #[.val (.ref t)]) (plainFor_of_name pn3) (fun m => by first | (simp [entryFrame, mkF, argsToLocals, Value.category]; done) | rfl) ?_
  intro p e s m below meth c T G w X
  refine aloadN w X d6_0 1 rfl rfl rfl ?_
  refine getfield w X (wd42 hw) Via.refl F_value_t d6_1 4 rfl (fun T X => ?_)
  refine ldc2J w X (wd49 hw) d6_4 7 rfl ?_
  refine lcmp w X (lcmpW v (-2147483648 : Int64)) d6_7 8 rfl rfl ?_
  refine if_lt w X d6_8 26 11 (by decide) (by decide) rfl (fun hc8_1 => ?_) (fun hc8_1 => ?_)
  ·
    refine iconst w X (0 : Int32) d6_26 27 rfl rfl ?_
    refine retN w X (t := .boolean) rfl (by simp) d6_27 (by decide) (by decide) ?_
    exact ⟨(0 : Int32), rfl, rfl, (if_pos (Or.inl hc8_1)).symm⟩
  ·
    refine aloadN w X d6_11 12 rfl rfl rfl ?_
    refine getfield w X (wd42 hw) Via.refl F_value_t d6_12 15 rfl (fun T X => ?_)
    refine ldc2J w X (wd50 hw) d6_15 18 rfl ?_
    refine lcmp w X (lcmpW v (2147483647 : Int64)) d6_18 19 rfl rfl ?_
    refine if_gt w X d6_19 26 22 (by decide) (by decide) rfl (fun hc19_2 => ?_) (fun hc19_2 => ?_)
    ·
      refine iconst w X (0 : Int32) d6_26 27 rfl rfl ?_
      refine retN w X (t := .boolean) rfl (by simp) d6_27 (by decide) (by decide) ?_
      exact ⟨(0 : Int32), rfl, rfl, (if_pos (Or.inr hc19_2)).symm⟩
    ·
      refine iconst w X (1 : Int32) d6_22 23 rfl rfl ?_
      refine goto w X d6_23 27 (by decide) (by decide) ?_
      refine retN w X (t := .boolean) rfl (by simp) d6_27 (by decide) (by decide) ?_
      exact ⟨(1 : Int32), rfl, rfl, (if_neg (not_or.mpr ⟨hc8_1, hc19_2⟩)).symm⟩
theorem d7_0 : decode prog_65_method_2_code 0 = .ok (.aload_n 0, 1) := by decide +kernel
theorem d7_1 : decode prog_65_method_2_code 1 = .ok (.getfield 7, 3) := by decide +kernel
theorem d7_4 : decode prog_65_method_2_code 4 = .ok (.lreturn, 1) := by decide +kernel
set_option maxRecDepth 65536 in
set_option maxHeartbeats 40000000 in
theorem rm_va {l : Launch} {Z : State} {a0 : Array Value} (hw : ∀ d ∈ tables_1, d.before a0 Z = true) (t : Addr) (v : Int64) (h : Heap) (n0 : Nat) (zn : n0 ≤ h.size) (F_value_t : Fld Z h t "com/example/vigilant_mailbox/vigilantmailbox/model/IntegerLiteral" "value" "J" (.long v)) :
    Met l Z (⟨"com/example/vigilant_mailbox/vigilantmailbox/model/IntegerLiteral", "value", "()J"⟩ : MethodName) prog_65_method_2_code 1 (some .long) [] ({ frames := 0, cells := 0, slots := 0, locals := 0 } : Room) #[(.ref t)] h n0 (RJ fun r h' => h' = h ∧ r = v) := by
  refine start (ls := #[.val (.ref t)]) (plainFor_of_name pn3) (fun m => by first | (simp [entryFrame, mkF, argsToLocals, Value.category]; done) | rfl) ?_
  intro p e s m below meth c T G w X
  refine aloadN w X d7_0 1 rfl rfl rfl ?_
  refine getfield w X (wd42 hw) Via.refl F_value_t d7_1 4 rfl (fun T X => ?_)
  refine retJ w X rfl d7_4 (by decide) (by decide) ?_
  exact ⟨_, rfl, rfl, rfl⟩
theorem pn0 : plainName "com/example/vigilant_mailbox/vigilantmailbox/model/IntegerLiteralFitsIntPinLaw" = true := by first | (simp [plainName, overriddenIn]; done) | decide +kernel
set_option maxRecDepth 65536 in
set_option maxHeartbeats 40000000 in
theorem rm_law {l : Launch} {Z : State} {a0 : Array Value} (hw : ∀ d ∈ tables_1, d.before a0 Z = true) (v : Int64) (xv k : Int32) (h : Heap) (n0 : Nat) (zn : n0 ≤ h.size) :
    MetW l Z x code maxLocals ret tables_1 room_1 #[(.long v), (.int xv), (.int k)] h n0 (RI fun r _ => r = 1) := by
  refine startW (ls := #[.val (.long v), .second, .val (.int xv), .val (.int k), .unset, .unset, .unset, .unset, .unset, .unset]) (plainFor_of_name pn0) (fun m => by first | (simp [entryFrame, mkF, argsToLocals, Value.category, maxLocals]; done) | rfl) ?_
  intro p e s0 m below meth c T G s k0 w X ws zk
  refine iloadN w X at_0 1 rfl rfl ?_
  refine iconst w X (3 : Int32) at_1 2 rfl rfl ?_
  refine iand w X (k &&& (3 : Int32)) at_2 3 rfl rfl ?_
  obtain ⟨i4_1, hi4_1⟩ : ∃ z : Int32, z = (k &&& (3 : Int32)) := ⟨_, rfl⟩
  refine istore w X i4_1 at_3 5 rfl hi4_1 #[.val (.long v), .second, .val (.int xv), .val (.int k), .val (.int i4_1), .unset, .unset, .unset, .unset, .unset] rfl ?_
  refine iloadN w X at_5 6 rfl rfl ?_
  refine iconst w X (2 : Int32) at_6 7 rfl rfl ?_
  refine ishr w X (k >>> ((2 : Int32) &&& 31)) at_7 8 rfl rfl ?_
  refine iconst w X (3 : Int32) at_8 9 rfl rfl ?_
  refine iand w X ((k >>> ((2 : Int32) &&& 31)) &&& (3 : Int32)) at_9 10 rfl rfl ?_
  refine iconst w X (2 : Int32) at_10 11 rfl rfl ?_
  refine isub w X (((k >>> ((2 : Int32) &&& 31)) &&& (3 : Int32)) - (2 : Int32)) at_11 12 rfl rfl ?_
  obtain ⟨i5_2, hi5_2⟩ : ∃ z : Int32, z = (((k >>> ((2 : Int32) &&& 31)) &&& (3 : Int32)) - (2 : Int32)) := ⟨_, rfl⟩
  refine istore w X i5_2 at_12 14 rfl hi5_2 #[.val (.long v), .second, .val (.int xv), .val (.int k), .val (.int i4_1), .val (.int i5_2), .unset, .unset, .unset, .unset] rfl ?_
  refine iload w X at_14 16 rfl rfl ?_
  refine if_ne w X at_16 25 19 (by decide) (by decide) rfl (fun hc16_3 => ?_) (fun hc16_3 => ?_)
  ·
    refine iload w X at_25 27 rfl rfl ?_
    refine iconst w X (1 : Int32) at_27 28 rfl rfl ?_
    refine icmp_ne w X at_28 43 31 (by decide) (by decide) rfl (fun hc28_4 => ?_) (fun hc28_4 => ?_)
    ·
      refine iload w X at_43 45 rfl rfl ?_
      refine iconst w X (2 : Int32) at_45 46 rfl rfl ?_
      refine icmp_ne w X at_46 63 49 (by decide) (by decide) rfl (fun hc46_5 => ?_) (fun hc46_5 => ?_)
      ·
        refine iloadN w X at_63 64 rfl rfl ?_
        refine i2l w X (xv.toInt64) at_64 65 rfl rfl ?_
        obtain ⟨i6_6, hi6_6⟩ : ∃ z : Int64, z = (xv.toInt64) := ⟨_, rfl⟩
        refine lstore w X i6_6 at_65 67 rfl hi6_6 #[.val (.long v), .second, .val (.int xv), .val (.int k), .val (.int i4_1), .val (.int i5_2), .val (.long i6_6), .second, .unset, .unset] rfl ?_
        refine new w X (wd1 hw) (wd2 hw) (wd3 hw) at_67 70 rfl (by decide) (by decide) (fun T h7 b8 X hnb8 E A D => ?_)
        have g_b8 : n0 ≤ b8 := by rw [hnb8]; exact zn
        have zn : n0 ≤ h7.size := Nat.le_trans zn E.1
        have zk : k0 ≤ h7.size := Nat.le_trans zk E.1
        have E_b8 := A
        have F_position_b8 : Fld Z h7 b8 "com/example/vigilant_mailbox/vigilantmailbox/model/Expression" "position" "Lcom/example/vigilant_mailbox/vigilantmailbox/model/Position;" .null := D (Or.inr (wd41 hw)) (ty := (.object "com/example/vigilant_mailbox/vigilantmailbox/model/Position")) (by decide)
        have F_value_b8 : Fld Z h7 b8 "com/example/vigilant_mailbox/vigilantmailbox/model/IntegerLiteral" "value" "J" (.long (0 : Int64)) := D (Or.inr (wd43 hw)) (ty := .long) (by decide)
        refine dup w X at_70 71 rfl rfl ?_
        refine new w X (wd4 hw) (wd5 hw) (wd6 hw) at_71 74 rfl (by decide) (by decide) (fun T h9 b10 X hnb10 E A D => ?_)
        have ne_b8_b10 : b8 ≠ b10 := fun q => absurd (q ▸ E_b8.lt) (by rw [hnb10]; exact Nat.lt_irrefl _)
        have g_b10 : n0 ≤ b10 := by rw [hnb10]; exact zn
        have zn : n0 ≤ h9.size := Nat.le_trans zn E.1
        have zk : k0 ≤ h9.size := Nat.le_trans zk E.1
        have E_b8 := E_b8.ext E
        have F_position_b8 := F_position_b8.ext E
        have F_value_b8 := F_value_b8.ext E
        have E_b10 := A
        have F_line_b10 : Fld Z h9 b10 "com/example/vigilant_mailbox/vigilantmailbox/model/Position" "line" "I" (.int (0 : Int32)) := D (Or.inr (wd14 hw)) (ty := .int) (by decide)
        have F_column_b10 : Fld Z h9 b10 "com/example/vigilant_mailbox/vigilantmailbox/model/Position" "column" "I" (.int (0 : Int32)) := D (Or.inr (wd16 hw)) (ty := .int) (by decide)
        refine dup w X at_74 75 rfl rfl ?_
        refine iconst w X (1 : Int32) at_75 76 rfl rfl ?_
        refine iconst w X (1 : Int32) at_76 77 rfl rfl ?_
        refine callNV w X [(.int (1 : Int32)), (.int (1 : Int32))] (wd7 hw) (wd8 hw) (wd6 hw) (wd9 hw) rfl (by decide) (rm_po hw b10 h9 n0 zn g_b10 E_b10 F_line_b10 F_column_b10) at_77 80 rfl 3 (by decide) (by decide) (lenOf pd2 rfl) rfl (Nat.le_of_eq rfl) rfl (by decide) (by decide) (fun T h11 X hq => ?_)
        obtain ⟨Kq, E_b10⟩ := hq
        have zn : n0 ≤ h11.size := Nat.le_trans zn Kq.1
        have zk : k0 ≤ h11.size := Nat.le_trans zk Kq.1
        have E_b8 := E_b8.keep Kq
        have F_position_b8 := F_position_b8.keep Kq (ninS ne_b8_b10 nin0)
        have F_value_b8 := F_value_b8.keep Kq (ninS ne_b8_b10 nin0)
        refine lload w X at_80 82 rfl rfl ?_
        refine callNW w X ws zk [(.ref b10), (.long i6_6)] (wd17 hw) (wd18 hw) (wd3 hw) (wd19 hw) rfl (by decide) (rm_il hw b8 b10 i6_6 h11 n0 zn g_b8 E_b8 E_b10 F_position_b8 F_value_b8 (Ne.symm ne_b8_b10)) at_82 85 rfl 1 (by decide) (by decide) (lenOf pd3 rfl) rfl (Nat.le_of_eq rfl) rfl (by decide) (by decide) (fun s k0 v T h12 w X ws zk hq => ?_)
        obtain ⟨rfl, hq⟩ := hq
        obtain ⟨Kq, E_b8, F_value_b8⟩ := hq
        have zn : n0 ≤ h12.size := Nat.le_trans zn Kq.1
        have E_b10 := E_b10.keep Kq
        show G (T.setTop (mkF m 85 #[.val (.long v), .second, .val (.int xv), .val (.int k), .val (.int i4_1), .val (.int i5_2), .val (.long i6_6), .second, .unset, .unset] [(.ref b8)]))
        refine astore w X at_85 87 rfl rfl #[.val (.long v), .second, .val (.int xv), .val (.int k), .val (.int i4_1), .val (.int i5_2), .val (.long i6_6), .second, .val (.ref b8), .unset] rfl ?_
        refine lload w X at_87 89 rfl rfl ?_
        refine l2i w X (i6_6.toInt32) at_89 90 rfl rfl ?_
        refine i2l w X ((i6_6.toInt32).toInt64) at_90 91 rfl rfl ?_
        refine lload w X at_91 93 rfl rfl ?_
        refine lcmp w X (lcmpW ((i6_6.toInt32).toInt64) i6_6) at_93 94 rfl rfl ?_
        refine if_ne w X at_94 101 97 (by decide) (by decide) rfl (fun hc94_13 => ?_) (fun hc94_13 => ?_)
        ·
          refine iconst w X (0 : Int32) at_101 102 rfl rfl ?_
          refine istore w X (0 : Int32) at_102 104 rfl rfl #[.val (.long v), .second, .val (.int xv), .val (.int k), .val (.int i4_1), .val (.int i5_2), .val (.long i6_6), .second, .val (.ref b8), .val (.int (0 : Int32))] rfl ?_
          refine aload w X at_104 106 rfl rfl rfl ?_
          refine callVPI w X [] (wd44 hw) (wd45 hw) (notFace_of_selects (args := #[]) (mvT w.2.2.2.2.1 (wd47 hw))) (wd47 hw) (wd46 hw) (wd3 hw) (wd48 hw) (by decide) E_b8 (rm_fi hw b8 i6_6 h12 n0 zn F_value_b8) at_106 109 rfl 0 (by decide) (by decide) (lenOf pd4 rfl) rfl (Nat.le_of_eq rfl) rfl (by decide) (by decide) (fun r14 T X hq => ?_)
          have hr14 := hq
          refine iload w X at_109 111 rfl rfl ?_
          refine icmp_ne w X at_111 129 114 (by decide) (by decide) rfl (fun q => False.elim (by exact q (hr14.trans ((own_lc _).2 hc94_13)))) (fun hc111_15 => ?_)
          refine aload w X at_114 116 rfl rfl rfl ?_
          refine callVPJ w X [] (wd51 hw) (wd52 hw) (notFace_of_selects (args := #[]) (mvT w.2.2.2.2.1 (wd54 hw))) (wd54 hw) (wd53 hw) (wd3 hw) (wd55 hw) (by decide) E_b8 (rm_va hw b8 i6_6 h12 n0 zn F_value_b8) at_116 119 rfl 0 (by decide) (by decide) (lenOf pd5 rfl) rfl (Nat.le_of_eq rfl) rfl (by decide) (by decide) (fun r16 T X hq => ?_)
          have hr16 := hq
          refine lload w X at_119 121 rfl rfl ?_
          refine lcmp w X (lcmpW r16 i6_6) at_121 122 rfl rfl ?_
          refine if_ne w X at_122 129 125 (by decide) (by decide) rfl (fun q => False.elim (by exact q (own_eq hr16))) (fun hc122_17 => ?_)
          refine iconst w X (1 : Int32) at_125 126 rfl rfl ?_
          refine goto w X at_126 130 (by decide) (by decide) ?_
          refine retN w X (t := .boolean) rfl (by simp) at_130 (by decide) (by decide) ?_
          refine And.intro zk ?_
          exact ⟨_, rfl, rfl⟩
        ·
          refine iconst w X (1 : Int32) at_97 98 rfl rfl ?_
          refine goto w X at_98 102 (by decide) (by decide) ?_
          refine istore w X (1 : Int32) at_102 104 rfl rfl #[.val (.long v), .second, .val (.int xv), .val (.int k), .val (.int i4_1), .val (.int i5_2), .val (.long i6_6), .second, .val (.ref b8), .val (.int (1 : Int32))] rfl ?_
          refine aload w X at_104 106 rfl rfl rfl ?_
          refine callVPI w X [] (wd44 hw) (wd45 hw) (notFace_of_selects (args := #[]) (mvT w.2.2.2.2.1 (wd47 hw))) (wd47 hw) (wd46 hw) (wd3 hw) (wd48 hw) (by decide) E_b8 (rm_fi hw b8 i6_6 h12 n0 zn F_value_b8) at_106 109 rfl 0 (by decide) (by decide) (lenOf pd4 rfl) rfl (Nat.le_of_eq rfl) rfl (by decide) (by decide) (fun r18 T X hq => ?_)
          have hr18 := hq
          refine iload w X at_109 111 rfl rfl ?_
          refine icmp_ne w X at_111 129 114 (by decide) (by decide) rfl (fun q => False.elim (by exact q (hr18.trans ((own_lc _).1 hc94_13)))) (fun hc111_19 => ?_)
          refine aload w X at_114 116 rfl rfl rfl ?_
          refine callVPJ w X [] (wd51 hw) (wd52 hw) (notFace_of_selects (args := #[]) (mvT w.2.2.2.2.1 (wd54 hw))) (wd54 hw) (wd53 hw) (wd3 hw) (wd55 hw) (by decide) E_b8 (rm_va hw b8 i6_6 h12 n0 zn F_value_b8) at_116 119 rfl 0 (by decide) (by decide) (lenOf pd5 rfl) rfl (Nat.le_of_eq rfl) rfl (by decide) (by decide) (fun r20 T X hq => ?_)
          have hr20 := hq
          refine lload w X at_119 121 rfl rfl ?_
          refine lcmp w X (lcmpW r20 i6_6) at_121 122 rfl rfl ?_
          refine if_ne w X at_122 129 125 (by decide) (by decide) rfl (fun q => False.elim (by exact q (own_eq hr20))) (fun hc122_21 => ?_)
          refine iconst w X (1 : Int32) at_125 126 rfl rfl ?_
          refine goto w X at_126 130 (by decide) (by decide) ?_
          refine retN w X (t := .boolean) rfl (by simp) at_130 (by decide) (by decide) ?_
          refine And.intro zk ?_
          exact ⟨_, rfl, rfl⟩
      ·
        refine ldc2J w X (wd56 hw) at_49 52 rfl ?_
        refine iload w X at_52 54 rfl rfl ?_
        refine i2l w X (i5_2.toInt64) at_54 55 rfl rfl ?_
        refine lsub w X ((-2147483648 : Int64) - (i5_2.toInt64)) at_55 56 rfl rfl ?_
        refine lconst w X (1 : Int64) at_56 57 rfl rfl ?_
        refine lsub w X (((-2147483648 : Int64) - (i5_2.toInt64)) - (1 : Int64)) at_57 58 rfl rfl ?_
        obtain ⟨i6_22, hi6_22⟩ : ∃ z : Int64, z = (((-2147483648 : Int64) - (i5_2.toInt64)) - (1 : Int64)) := ⟨_, rfl⟩
        refine lstore w X i6_22 at_58 60 rfl hi6_22 #[.val (.long v), .second, .val (.int xv), .val (.int k), .val (.int i4_1), .val (.int i5_2), .val (.long i6_22), .second, .unset, .unset] rfl ?_
        refine goto w X at_60 67 (by decide) (by decide) ?_
        refine new w X (wd1 hw) (wd2 hw) (wd3 hw) at_67 70 rfl (by decide) (by decide) (fun T h23 b24 X hnb24 E A D => ?_)
        have g_b24 : n0 ≤ b24 := by rw [hnb24]; exact zn
        have zn : n0 ≤ h23.size := Nat.le_trans zn E.1
        have zk : k0 ≤ h23.size := Nat.le_trans zk E.1
        have E_b24 := A
        have F_position_b24 : Fld Z h23 b24 "com/example/vigilant_mailbox/vigilantmailbox/model/Expression" "position" "Lcom/example/vigilant_mailbox/vigilantmailbox/model/Position;" .null := D (Or.inr (wd41 hw)) (ty := (.object "com/example/vigilant_mailbox/vigilantmailbox/model/Position")) (by decide)
        have F_value_b24 : Fld Z h23 b24 "com/example/vigilant_mailbox/vigilantmailbox/model/IntegerLiteral" "value" "J" (.long (0 : Int64)) := D (Or.inr (wd43 hw)) (ty := .long) (by decide)
        refine dup w X at_70 71 rfl rfl ?_
        refine new w X (wd4 hw) (wd5 hw) (wd6 hw) at_71 74 rfl (by decide) (by decide) (fun T h25 b26 X hnb26 E A D => ?_)
        have ne_b24_b26 : b24 ≠ b26 := fun q => absurd (q ▸ E_b24.lt) (by rw [hnb26]; exact Nat.lt_irrefl _)
        have g_b26 : n0 ≤ b26 := by rw [hnb26]; exact zn
        have zn : n0 ≤ h25.size := Nat.le_trans zn E.1
        have zk : k0 ≤ h25.size := Nat.le_trans zk E.1
        have E_b24 := E_b24.ext E
        have F_position_b24 := F_position_b24.ext E
        have F_value_b24 := F_value_b24.ext E
        have E_b26 := A
        have F_line_b26 : Fld Z h25 b26 "com/example/vigilant_mailbox/vigilantmailbox/model/Position" "line" "I" (.int (0 : Int32)) := D (Or.inr (wd14 hw)) (ty := .int) (by decide)
        have F_column_b26 : Fld Z h25 b26 "com/example/vigilant_mailbox/vigilantmailbox/model/Position" "column" "I" (.int (0 : Int32)) := D (Or.inr (wd16 hw)) (ty := .int) (by decide)
        refine dup w X at_74 75 rfl rfl ?_
        refine iconst w X (1 : Int32) at_75 76 rfl rfl ?_
        refine iconst w X (1 : Int32) at_76 77 rfl rfl ?_
        refine callNV w X [(.int (1 : Int32)), (.int (1 : Int32))] (wd7 hw) (wd8 hw) (wd6 hw) (wd9 hw) rfl (by decide) (rm_po hw b26 h25 n0 zn g_b26 E_b26 F_line_b26 F_column_b26) at_77 80 rfl 3 (by decide) (by decide) (lenOf pd2 rfl) rfl (Nat.le_of_eq rfl) rfl (by decide) (by decide) (fun T h27 X hq => ?_)
        obtain ⟨Kq, E_b26⟩ := hq
        have zn : n0 ≤ h27.size := Nat.le_trans zn Kq.1
        have zk : k0 ≤ h27.size := Nat.le_trans zk Kq.1
        have E_b24 := E_b24.keep Kq
        have F_position_b24 := F_position_b24.keep Kq (ninS ne_b24_b26 nin0)
        have F_value_b24 := F_value_b24.keep Kq (ninS ne_b24_b26 nin0)
        refine lload w X at_80 82 rfl rfl ?_
        refine callNW w X ws zk [(.ref b26), (.long i6_22)] (wd17 hw) (wd18 hw) (wd3 hw) (wd19 hw) rfl (by decide) (rm_il hw b24 b26 i6_22 h27 n0 zn g_b24 E_b24 E_b26 F_position_b24 F_value_b24 (Ne.symm ne_b24_b26)) at_82 85 rfl 1 (by decide) (by decide) (lenOf pd3 rfl) rfl (Nat.le_of_eq rfl) rfl (by decide) (by decide) (fun s k0 v T h28 w X ws zk hq => ?_)
        obtain ⟨rfl, hq⟩ := hq
        obtain ⟨Kq, E_b24, F_value_b24⟩ := hq
        have zn : n0 ≤ h28.size := Nat.le_trans zn Kq.1
        have E_b26 := E_b26.keep Kq
        show G (T.setTop (mkF m 85 #[.val (.long v), .second, .val (.int xv), .val (.int k), .val (.int i4_1), .val (.int i5_2), .val (.long i6_22), .second, .unset, .unset] [(.ref b24)]))
        refine astore w X at_85 87 rfl rfl #[.val (.long v), .second, .val (.int xv), .val (.int k), .val (.int i4_1), .val (.int i5_2), .val (.long i6_22), .second, .val (.ref b24), .unset] rfl ?_
        refine lload w X at_87 89 rfl rfl ?_
        refine l2i w X (i6_22.toInt32) at_89 90 rfl rfl ?_
        refine i2l w X ((i6_22.toInt32).toInt64) at_90 91 rfl rfl ?_
        refine lload w X at_91 93 rfl rfl ?_
        refine lcmp w X (lcmpW ((i6_22.toInt32).toInt64) i6_22) at_93 94 rfl rfl ?_
        refine if_ne w X at_94 101 97 (by decide) (by decide) rfl (fun hc94_29 => ?_) (fun hc94_29 => ?_)
        ·
          refine iconst w X (0 : Int32) at_101 102 rfl rfl ?_
          refine istore w X (0 : Int32) at_102 104 rfl rfl #[.val (.long v), .second, .val (.int xv), .val (.int k), .val (.int i4_1), .val (.int i5_2), .val (.long i6_22), .second, .val (.ref b24), .val (.int (0 : Int32))] rfl ?_
          refine aload w X at_104 106 rfl rfl rfl ?_
          refine callVPI w X [] (wd44 hw) (wd45 hw) (notFace_of_selects (args := #[]) (mvT w.2.2.2.2.1 (wd47 hw))) (wd47 hw) (wd46 hw) (wd3 hw) (wd48 hw) (by decide) E_b24 (rm_fi hw b24 i6_22 h28 n0 zn F_value_b24) at_106 109 rfl 0 (by decide) (by decide) (lenOf pd4 rfl) rfl (Nat.le_of_eq rfl) rfl (by decide) (by decide) (fun r30 T X hq => ?_)
          have hr30 := hq
          refine iload w X at_109 111 rfl rfl ?_
          refine icmp_ne w X at_111 129 114 (by decide) (by decide) rfl (fun q => False.elim (by exact q (hr30.trans ((own_lc _).2 hc94_29)))) (fun hc111_31 => ?_)
          refine aload w X at_114 116 rfl rfl rfl ?_
          refine callVPJ w X [] (wd51 hw) (wd52 hw) (notFace_of_selects (args := #[]) (mvT w.2.2.2.2.1 (wd54 hw))) (wd54 hw) (wd53 hw) (wd3 hw) (wd55 hw) (by decide) E_b24 (rm_va hw b24 i6_22 h28 n0 zn F_value_b24) at_116 119 rfl 0 (by decide) (by decide) (lenOf pd5 rfl) rfl (Nat.le_of_eq rfl) rfl (by decide) (by decide) (fun r32 T X hq => ?_)
          have hr32 := hq
          refine lload w X at_119 121 rfl rfl ?_
          refine lcmp w X (lcmpW r32 i6_22) at_121 122 rfl rfl ?_
          refine if_ne w X at_122 129 125 (by decide) (by decide) rfl (fun q => False.elim (by exact q (own_eq hr32))) (fun hc122_33 => ?_)
          refine iconst w X (1 : Int32) at_125 126 rfl rfl ?_
          refine goto w X at_126 130 (by decide) (by decide) ?_
          refine retN w X (t := .boolean) rfl (by simp) at_130 (by decide) (by decide) ?_
          refine And.intro zk ?_
          exact ⟨_, rfl, rfl⟩
        ·
          refine iconst w X (1 : Int32) at_97 98 rfl rfl ?_
          refine goto w X at_98 102 (by decide) (by decide) ?_
          refine istore w X (1 : Int32) at_102 104 rfl rfl #[.val (.long v), .second, .val (.int xv), .val (.int k), .val (.int i4_1), .val (.int i5_2), .val (.long i6_22), .second, .val (.ref b24), .val (.int (1 : Int32))] rfl ?_
          refine aload w X at_104 106 rfl rfl rfl ?_
          refine callVPI w X [] (wd44 hw) (wd45 hw) (notFace_of_selects (args := #[]) (mvT w.2.2.2.2.1 (wd47 hw))) (wd47 hw) (wd46 hw) (wd3 hw) (wd48 hw) (by decide) E_b24 (rm_fi hw b24 i6_22 h28 n0 zn F_value_b24) at_106 109 rfl 0 (by decide) (by decide) (lenOf pd4 rfl) rfl (Nat.le_of_eq rfl) rfl (by decide) (by decide) (fun r34 T X hq => ?_)
          have hr34 := hq
          refine iload w X at_109 111 rfl rfl ?_
          refine icmp_ne w X at_111 129 114 (by decide) (by decide) rfl (fun q => False.elim (by exact q (hr34.trans ((own_lc _).1 hc94_29)))) (fun hc111_35 => ?_)
          refine aload w X at_114 116 rfl rfl rfl ?_
          refine callVPJ w X [] (wd51 hw) (wd52 hw) (notFace_of_selects (args := #[]) (mvT w.2.2.2.2.1 (wd54 hw))) (wd54 hw) (wd53 hw) (wd3 hw) (wd55 hw) (by decide) E_b24 (rm_va hw b24 i6_22 h28 n0 zn F_value_b24) at_116 119 rfl 0 (by decide) (by decide) (lenOf pd5 rfl) rfl (Nat.le_of_eq rfl) rfl (by decide) (by decide) (fun r36 T X hq => ?_)
          have hr36 := hq
          refine lload w X at_119 121 rfl rfl ?_
          refine lcmp w X (lcmpW r36 i6_22) at_121 122 rfl rfl ?_
          refine if_ne w X at_122 129 125 (by decide) (by decide) rfl (fun q => False.elim (by exact q (own_eq hr36))) (fun hc122_37 => ?_)
          refine iconst w X (1 : Int32) at_125 126 rfl rfl ?_
          refine goto w X at_126 130 (by decide) (by decide) ?_
          refine retN w X (t := .boolean) rfl (by simp) at_130 (by decide) (by decide) ?_
          refine And.intro zk ?_
          exact ⟨_, rfl, rfl⟩
    ·
      refine ldc2J w X (wd0 hw) at_31 34 rfl ?_
      refine iload w X at_34 36 rfl rfl ?_
      refine i2l w X (i5_2.toInt64) at_36 37 rfl rfl ?_
      refine ladd w X ((2147483647 : Int64) + (i5_2.toInt64)) at_37 38 rfl rfl ?_
      obtain ⟨i6_38, hi6_38⟩ : ∃ z : Int64, z = ((2147483647 : Int64) + (i5_2.toInt64)) := ⟨_, rfl⟩
      refine lstore w X i6_38 at_38 40 rfl hi6_38 #[.val (.long v), .second, .val (.int xv), .val (.int k), .val (.int i4_1), .val (.int i5_2), .val (.long i6_38), .second, .unset, .unset] rfl ?_
      refine goto w X at_40 67 (by decide) (by decide) ?_
      refine new w X (wd1 hw) (wd2 hw) (wd3 hw) at_67 70 rfl (by decide) (by decide) (fun T h39 b40 X hnb40 E A D => ?_)
      have g_b40 : n0 ≤ b40 := by rw [hnb40]; exact zn
      have zn : n0 ≤ h39.size := Nat.le_trans zn E.1
      have zk : k0 ≤ h39.size := Nat.le_trans zk E.1
      have E_b40 := A
      have F_position_b40 : Fld Z h39 b40 "com/example/vigilant_mailbox/vigilantmailbox/model/Expression" "position" "Lcom/example/vigilant_mailbox/vigilantmailbox/model/Position;" .null := D (Or.inr (wd41 hw)) (ty := (.object "com/example/vigilant_mailbox/vigilantmailbox/model/Position")) (by decide)
      have F_value_b40 : Fld Z h39 b40 "com/example/vigilant_mailbox/vigilantmailbox/model/IntegerLiteral" "value" "J" (.long (0 : Int64)) := D (Or.inr (wd43 hw)) (ty := .long) (by decide)
      refine dup w X at_70 71 rfl rfl ?_
      refine new w X (wd4 hw) (wd5 hw) (wd6 hw) at_71 74 rfl (by decide) (by decide) (fun T h41 b42 X hnb42 E A D => ?_)
      have ne_b40_b42 : b40 ≠ b42 := fun q => absurd (q ▸ E_b40.lt) (by rw [hnb42]; exact Nat.lt_irrefl _)
      have g_b42 : n0 ≤ b42 := by rw [hnb42]; exact zn
      have zn : n0 ≤ h41.size := Nat.le_trans zn E.1
      have zk : k0 ≤ h41.size := Nat.le_trans zk E.1
      have E_b40 := E_b40.ext E
      have F_position_b40 := F_position_b40.ext E
      have F_value_b40 := F_value_b40.ext E
      have E_b42 := A
      have F_line_b42 : Fld Z h41 b42 "com/example/vigilant_mailbox/vigilantmailbox/model/Position" "line" "I" (.int (0 : Int32)) := D (Or.inr (wd14 hw)) (ty := .int) (by decide)
      have F_column_b42 : Fld Z h41 b42 "com/example/vigilant_mailbox/vigilantmailbox/model/Position" "column" "I" (.int (0 : Int32)) := D (Or.inr (wd16 hw)) (ty := .int) (by decide)
      refine dup w X at_74 75 rfl rfl ?_
      refine iconst w X (1 : Int32) at_75 76 rfl rfl ?_
      refine iconst w X (1 : Int32) at_76 77 rfl rfl ?_
      refine callNV w X [(.int (1 : Int32)), (.int (1 : Int32))] (wd7 hw) (wd8 hw) (wd6 hw) (wd9 hw) rfl (by decide) (rm_po hw b42 h41 n0 zn g_b42 E_b42 F_line_b42 F_column_b42) at_77 80 rfl 3 (by decide) (by decide) (lenOf pd2 rfl) rfl (Nat.le_of_eq rfl) rfl (by decide) (by decide) (fun T h43 X hq => ?_)
      obtain ⟨Kq, E_b42⟩ := hq
      have zn : n0 ≤ h43.size := Nat.le_trans zn Kq.1
      have zk : k0 ≤ h43.size := Nat.le_trans zk Kq.1
      have E_b40 := E_b40.keep Kq
      have F_position_b40 := F_position_b40.keep Kq (ninS ne_b40_b42 nin0)
      have F_value_b40 := F_value_b40.keep Kq (ninS ne_b40_b42 nin0)
      refine lload w X at_80 82 rfl rfl ?_
      refine callNW w X ws zk [(.ref b42), (.long i6_38)] (wd17 hw) (wd18 hw) (wd3 hw) (wd19 hw) rfl (by decide) (rm_il hw b40 b42 i6_38 h43 n0 zn g_b40 E_b40 E_b42 F_position_b40 F_value_b40 (Ne.symm ne_b40_b42)) at_82 85 rfl 1 (by decide) (by decide) (lenOf pd3 rfl) rfl (Nat.le_of_eq rfl) rfl (by decide) (by decide) (fun s k0 v T h44 w X ws zk hq => ?_)
      obtain ⟨rfl, hq⟩ := hq
      obtain ⟨Kq, E_b40, F_value_b40⟩ := hq
      have zn : n0 ≤ h44.size := Nat.le_trans zn Kq.1
      have E_b42 := E_b42.keep Kq
      show G (T.setTop (mkF m 85 #[.val (.long v), .second, .val (.int xv), .val (.int k), .val (.int i4_1), .val (.int i5_2), .val (.long i6_38), .second, .unset, .unset] [(.ref b40)]))
      refine astore w X at_85 87 rfl rfl #[.val (.long v), .second, .val (.int xv), .val (.int k), .val (.int i4_1), .val (.int i5_2), .val (.long i6_38), .second, .val (.ref b40), .unset] rfl ?_
      refine lload w X at_87 89 rfl rfl ?_
      refine l2i w X (i6_38.toInt32) at_89 90 rfl rfl ?_
      refine i2l w X ((i6_38.toInt32).toInt64) at_90 91 rfl rfl ?_
      refine lload w X at_91 93 rfl rfl ?_
      refine lcmp w X (lcmpW ((i6_38.toInt32).toInt64) i6_38) at_93 94 rfl rfl ?_
      refine if_ne w X at_94 101 97 (by decide) (by decide) rfl (fun hc94_45 => ?_) (fun hc94_45 => ?_)
      ·
        refine iconst w X (0 : Int32) at_101 102 rfl rfl ?_
        refine istore w X (0 : Int32) at_102 104 rfl rfl #[.val (.long v), .second, .val (.int xv), .val (.int k), .val (.int i4_1), .val (.int i5_2), .val (.long i6_38), .second, .val (.ref b40), .val (.int (0 : Int32))] rfl ?_
        refine aload w X at_104 106 rfl rfl rfl ?_
        refine callVPI w X [] (wd44 hw) (wd45 hw) (notFace_of_selects (args := #[]) (mvT w.2.2.2.2.1 (wd47 hw))) (wd47 hw) (wd46 hw) (wd3 hw) (wd48 hw) (by decide) E_b40 (rm_fi hw b40 i6_38 h44 n0 zn F_value_b40) at_106 109 rfl 0 (by decide) (by decide) (lenOf pd4 rfl) rfl (Nat.le_of_eq rfl) rfl (by decide) (by decide) (fun r46 T X hq => ?_)
        have hr46 := hq
        refine iload w X at_109 111 rfl rfl ?_
        refine icmp_ne w X at_111 129 114 (by decide) (by decide) rfl (fun q => False.elim (by exact q (hr46.trans ((own_lc _).2 hc94_45)))) (fun hc111_47 => ?_)
        refine aload w X at_114 116 rfl rfl rfl ?_
        refine callVPJ w X [] (wd51 hw) (wd52 hw) (notFace_of_selects (args := #[]) (mvT w.2.2.2.2.1 (wd54 hw))) (wd54 hw) (wd53 hw) (wd3 hw) (wd55 hw) (by decide) E_b40 (rm_va hw b40 i6_38 h44 n0 zn F_value_b40) at_116 119 rfl 0 (by decide) (by decide) (lenOf pd5 rfl) rfl (Nat.le_of_eq rfl) rfl (by decide) (by decide) (fun r48 T X hq => ?_)
        have hr48 := hq
        refine lload w X at_119 121 rfl rfl ?_
        refine lcmp w X (lcmpW r48 i6_38) at_121 122 rfl rfl ?_
        refine if_ne w X at_122 129 125 (by decide) (by decide) rfl (fun q => False.elim (by exact q (own_eq hr48))) (fun hc122_49 => ?_)
        refine iconst w X (1 : Int32) at_125 126 rfl rfl ?_
        refine goto w X at_126 130 (by decide) (by decide) ?_
        refine retN w X (t := .boolean) rfl (by simp) at_130 (by decide) (by decide) ?_
        refine And.intro zk ?_
        exact ⟨_, rfl, rfl⟩
      ·
        refine iconst w X (1 : Int32) at_97 98 rfl rfl ?_
        refine goto w X at_98 102 (by decide) (by decide) ?_
        refine istore w X (1 : Int32) at_102 104 rfl rfl #[.val (.long v), .second, .val (.int xv), .val (.int k), .val (.int i4_1), .val (.int i5_2), .val (.long i6_38), .second, .val (.ref b40), .val (.int (1 : Int32))] rfl ?_
        refine aload w X at_104 106 rfl rfl rfl ?_
        refine callVPI w X [] (wd44 hw) (wd45 hw) (notFace_of_selects (args := #[]) (mvT w.2.2.2.2.1 (wd47 hw))) (wd47 hw) (wd46 hw) (wd3 hw) (wd48 hw) (by decide) E_b40 (rm_fi hw b40 i6_38 h44 n0 zn F_value_b40) at_106 109 rfl 0 (by decide) (by decide) (lenOf pd4 rfl) rfl (Nat.le_of_eq rfl) rfl (by decide) (by decide) (fun r50 T X hq => ?_)
        have hr50 := hq
        refine iload w X at_109 111 rfl rfl ?_
        refine icmp_ne w X at_111 129 114 (by decide) (by decide) rfl (fun q => False.elim (by exact q (hr50.trans ((own_lc _).1 hc94_45)))) (fun hc111_51 => ?_)
        refine aload w X at_114 116 rfl rfl rfl ?_
        refine callVPJ w X [] (wd51 hw) (wd52 hw) (notFace_of_selects (args := #[]) (mvT w.2.2.2.2.1 (wd54 hw))) (wd54 hw) (wd53 hw) (wd3 hw) (wd55 hw) (by decide) E_b40 (rm_va hw b40 i6_38 h44 n0 zn F_value_b40) at_116 119 rfl 0 (by decide) (by decide) (lenOf pd5 rfl) rfl (Nat.le_of_eq rfl) rfl (by decide) (by decide) (fun r52 T X hq => ?_)
        have hr52 := hq
        refine lload w X at_119 121 rfl rfl ?_
        refine lcmp w X (lcmpW r52 i6_38) at_121 122 rfl rfl ?_
        refine if_ne w X at_122 129 125 (by decide) (by decide) rfl (fun q => False.elim (by exact q (own_eq hr52))) (fun hc122_53 => ?_)
        refine iconst w X (1 : Int32) at_125 126 rfl rfl ?_
        refine goto w X at_126 130 (by decide) (by decide) ?_
        refine retN w X (t := .boolean) rfl (by simp) at_130 (by decide) (by decide) ?_
        refine And.intro zk ?_
        exact ⟨_, rfl, rfl⟩
  ·
    refine lloadN w X at_19 20 rfl rfl ?_
    refine lstore w X v at_20 22 rfl rfl #[.val (.long v), .second, .val (.int xv), .val (.int k), .val (.int i4_1), .val (.int i5_2), .val (.long v), .second, .unset, .unset] rfl ?_
    refine goto w X at_22 67 (by decide) (by decide) ?_
    refine new w X (wd1 hw) (wd2 hw) (wd3 hw) at_67 70 rfl (by decide) (by decide) (fun T h54 b55 X hnb55 E A D => ?_)
    have g_b55 : n0 ≤ b55 := by rw [hnb55]; exact zn
    have zn : n0 ≤ h54.size := Nat.le_trans zn E.1
    have zk : k0 ≤ h54.size := Nat.le_trans zk E.1
    have E_b55 := A
    have F_position_b55 : Fld Z h54 b55 "com/example/vigilant_mailbox/vigilantmailbox/model/Expression" "position" "Lcom/example/vigilant_mailbox/vigilantmailbox/model/Position;" .null := D (Or.inr (wd41 hw)) (ty := (.object "com/example/vigilant_mailbox/vigilantmailbox/model/Position")) (by decide)
    have F_value_b55 : Fld Z h54 b55 "com/example/vigilant_mailbox/vigilantmailbox/model/IntegerLiteral" "value" "J" (.long (0 : Int64)) := D (Or.inr (wd43 hw)) (ty := .long) (by decide)
    refine dup w X at_70 71 rfl rfl ?_
    refine new w X (wd4 hw) (wd5 hw) (wd6 hw) at_71 74 rfl (by decide) (by decide) (fun T h56 b57 X hnb57 E A D => ?_)
    have ne_b55_b57 : b55 ≠ b57 := fun q => absurd (q ▸ E_b55.lt) (by rw [hnb57]; exact Nat.lt_irrefl _)
    have g_b57 : n0 ≤ b57 := by rw [hnb57]; exact zn
    have zn : n0 ≤ h56.size := Nat.le_trans zn E.1
    have zk : k0 ≤ h56.size := Nat.le_trans zk E.1
    have E_b55 := E_b55.ext E
    have F_position_b55 := F_position_b55.ext E
    have F_value_b55 := F_value_b55.ext E
    have E_b57 := A
    have F_line_b57 : Fld Z h56 b57 "com/example/vigilant_mailbox/vigilantmailbox/model/Position" "line" "I" (.int (0 : Int32)) := D (Or.inr (wd14 hw)) (ty := .int) (by decide)
    have F_column_b57 : Fld Z h56 b57 "com/example/vigilant_mailbox/vigilantmailbox/model/Position" "column" "I" (.int (0 : Int32)) := D (Or.inr (wd16 hw)) (ty := .int) (by decide)
    refine dup w X at_74 75 rfl rfl ?_
    refine iconst w X (1 : Int32) at_75 76 rfl rfl ?_
    refine iconst w X (1 : Int32) at_76 77 rfl rfl ?_
    refine callNV w X [(.int (1 : Int32)), (.int (1 : Int32))] (wd7 hw) (wd8 hw) (wd6 hw) (wd9 hw) rfl (by decide) (rm_po hw b57 h56 n0 zn g_b57 E_b57 F_line_b57 F_column_b57) at_77 80 rfl 3 (by decide) (by decide) (lenOf pd2 rfl) rfl (Nat.le_of_eq rfl) rfl (by decide) (by decide) (fun T h58 X hq => ?_)
    obtain ⟨Kq, E_b57⟩ := hq
    have zn : n0 ≤ h58.size := Nat.le_trans zn Kq.1
    have zk : k0 ≤ h58.size := Nat.le_trans zk Kq.1
    have E_b55 := E_b55.keep Kq
    have F_position_b55 := F_position_b55.keep Kq (ninS ne_b55_b57 nin0)
    have F_value_b55 := F_value_b55.keep Kq (ninS ne_b55_b57 nin0)
    refine lload w X at_80 82 rfl rfl ?_
    refine callNW w X ws zk [(.ref b57), (.long v)] (wd17 hw) (wd18 hw) (wd3 hw) (wd19 hw) rfl (by decide) (rm_il hw b55 b57 v h58 n0 zn g_b55 E_b55 E_b57 F_position_b55 F_value_b55 (Ne.symm ne_b55_b57)) at_82 85 rfl 1 (by decide) (by decide) (lenOf pd3 rfl) rfl (Nat.le_of_eq rfl) rfl (by decide) (by decide) (fun s k0 v T h59 w X ws zk hq => ?_)
    obtain ⟨rfl, hq⟩ := hq
    obtain ⟨Kq, E_b55, F_value_b55⟩ := hq
    have zn : n0 ≤ h59.size := Nat.le_trans zn Kq.1
    have E_b57 := E_b57.keep Kq
    show G (T.setTop (mkF m 85 #[.val (.long v), .second, .val (.int xv), .val (.int k), .val (.int i4_1), .val (.int i5_2), .val (.long v), .second, .unset, .unset] [(.ref b55)]))
    refine astore w X at_85 87 rfl rfl #[.val (.long v), .second, .val (.int xv), .val (.int k), .val (.int i4_1), .val (.int i5_2), .val (.long v), .second, .val (.ref b55), .unset] rfl ?_
    refine lload w X at_87 89 rfl rfl ?_
    refine l2i w X (v.toInt32) at_89 90 rfl rfl ?_
    refine i2l w X ((v.toInt32).toInt64) at_90 91 rfl rfl ?_
    refine lload w X at_91 93 rfl rfl ?_
    refine lcmp w X (lcmpW ((v.toInt32).toInt64) v) at_93 94 rfl rfl ?_
    refine if_ne w X at_94 101 97 (by decide) (by decide) rfl (fun hc94_60 => ?_) (fun hc94_60 => ?_)
    ·
      refine iconst w X (0 : Int32) at_101 102 rfl rfl ?_
      refine istore w X (0 : Int32) at_102 104 rfl rfl #[.val (.long v), .second, .val (.int xv), .val (.int k), .val (.int i4_1), .val (.int i5_2), .val (.long v), .second, .val (.ref b55), .val (.int (0 : Int32))] rfl ?_
      refine aload w X at_104 106 rfl rfl rfl ?_
      refine callVPI w X [] (wd44 hw) (wd45 hw) (notFace_of_selects (args := #[]) (mvT w.2.2.2.2.1 (wd47 hw))) (wd47 hw) (wd46 hw) (wd3 hw) (wd48 hw) (by decide) E_b55 (rm_fi hw b55 v h59 n0 zn F_value_b55) at_106 109 rfl 0 (by decide) (by decide) (lenOf pd4 rfl) rfl (Nat.le_of_eq rfl) rfl (by decide) (by decide) (fun r61 T X hq => ?_)
      have hr61 := hq
      refine iload w X at_109 111 rfl rfl ?_
      refine icmp_ne w X at_111 129 114 (by decide) (by decide) rfl (fun q => False.elim (by exact q (hr61.trans ((own_lc _).2 hc94_60)))) (fun hc111_62 => ?_)
      refine aload w X at_114 116 rfl rfl rfl ?_
      refine callVPJ w X [] (wd51 hw) (wd52 hw) (notFace_of_selects (args := #[]) (mvT w.2.2.2.2.1 (wd54 hw))) (wd54 hw) (wd53 hw) (wd3 hw) (wd55 hw) (by decide) E_b55 (rm_va hw b55 v h59 n0 zn F_value_b55) at_116 119 rfl 0 (by decide) (by decide) (lenOf pd5 rfl) rfl (Nat.le_of_eq rfl) rfl (by decide) (by decide) (fun r63 T X hq => ?_)
      have hr63 := hq
      refine lload w X at_119 121 rfl rfl ?_
      refine lcmp w X (lcmpW r63 v) at_121 122 rfl rfl ?_
      refine if_ne w X at_122 129 125 (by decide) (by decide) rfl (fun q => False.elim (by exact q (own_eq hr63))) (fun hc122_64 => ?_)
      refine iconst w X (1 : Int32) at_125 126 rfl rfl ?_
      refine goto w X at_126 130 (by decide) (by decide) ?_
      refine retN w X (t := .boolean) rfl (by simp) at_130 (by decide) (by decide) ?_
      refine And.intro zk ?_
      exact ⟨_, rfl, rfl⟩
    ·
      refine iconst w X (1 : Int32) at_97 98 rfl rfl ?_
      refine goto w X at_98 102 (by decide) (by decide) ?_
      refine istore w X (1 : Int32) at_102 104 rfl rfl #[.val (.long v), .second, .val (.int xv), .val (.int k), .val (.int i4_1), .val (.int i5_2), .val (.long v), .second, .val (.ref b55), .val (.int (1 : Int32))] rfl ?_
      refine aload w X at_104 106 rfl rfl rfl ?_
      refine callVPI w X [] (wd44 hw) (wd45 hw) (notFace_of_selects (args := #[]) (mvT w.2.2.2.2.1 (wd47 hw))) (wd47 hw) (wd46 hw) (wd3 hw) (wd48 hw) (by decide) E_b55 (rm_fi hw b55 v h59 n0 zn F_value_b55) at_106 109 rfl 0 (by decide) (by decide) (lenOf pd4 rfl) rfl (Nat.le_of_eq rfl) rfl (by decide) (by decide) (fun r65 T X hq => ?_)
      have hr65 := hq
      refine iload w X at_109 111 rfl rfl ?_
      refine icmp_ne w X at_111 129 114 (by decide) (by decide) rfl (fun q => False.elim (by exact q (hr65.trans ((own_lc _).1 hc94_60)))) (fun hc111_66 => ?_)
      refine aload w X at_114 116 rfl rfl rfl ?_
      refine callVPJ w X [] (wd51 hw) (wd52 hw) (notFace_of_selects (args := #[]) (mvT w.2.2.2.2.1 (wd54 hw))) (wd54 hw) (wd53 hw) (wd3 hw) (wd55 hw) (by decide) E_b55 (rm_va hw b55 v h59 n0 zn F_value_b55) at_116 119 rfl 0 (by decide) (by decide) (lenOf pd5 rfl) rfl (Nat.le_of_eq rfl) rfl (by decide) (by decide) (fun r67 T X hq => ?_)
      have hr67 := hq
      refine lload w X at_119 121 rfl rfl ?_
      refine lcmp w X (lcmpW r67 v) at_121 122 rfl rfl ?_
      refine if_ne w X at_122 129 125 (by decide) (by decide) rfl (fun q => False.elim (by exact q (own_eq hr67))) (fun hc122_68 => ?_)
      refine iconst w X (1 : Int32) at_125 126 rfl rfl ?_
      refine goto w X at_126 130 (by decide) (by decide) ?_
      refine retN w X (t := .boolean) rfl (by simp) at_130 (by decide) (by decide) ?_
      refine And.intro zk ?_
      exact ⟨_, rfl, rfl⟩
set_option maxRecDepth 65536 in
set_option maxHeartbeats 40000000 in
theorem comes_1 {Post : Tables → Env → Array Value → State → Outcome → State → Prop} (hpost : ∀ tb e args s v u, (limb_1_1.after args s (.returned v) u = true ∧ limb_1_2.after args s (.returned v) u = true ∧ True) → ReturnedEndW s (.returned v) u (Jvm.fieldLocs frame_1_writes args s ++ Jvm.arrayLocs frame_1_arrays args s ++ Jvm.staticLocs frame_1_statics s) 16 1152 → Post tb e args s (.returned v) u) :
    ArmFor flags0 classFile x code maxLocals ret World_1 tables_1 room_1 Calls_1 rest_1 Pre_1 Post := by
  intro l hfl _ _ p e ha hc hk s m args below hf hA hF happ hP
  obtain ⟨hcalls, hrest, hpre⟩ := hP
  obtain ⟨-, -, -, hnamed, -, -, -, hat⟩ := (Spec.applies_iff hf).mp happ
  obtain ⟨hg, hn⟩ := and_e (Cond.before_iff.mp (show (Jvm.Cond.and given_1 narrow_1).before args s = true from hpre))
  obtain ⟨g1, g2⟩ := and_e hg
  obtain ⟨g3, g4⟩ := and_e g2
  obtain ⟨g5, g6⟩ := and_e g4
  obtain ⟨w0, w1, w2, rfl⟩ : ∃ w0 w1 w2 : Value, args = #[w0, w1, w2] := by
    have hs : args.size = 3 := by simpa [Cond.value, given_1] using g1
    obtain ⟨L⟩ := args
    match L, hs with
    | [w0, w1, w2], _ => exact ⟨w0, w1, w2, rfl⟩
  have hw := fun d (hd : d ∈ tables_1) => atoms_spec (ws := Jvm.Cond.code x code maxLocals ret :: tables_1) hat d (List.mem_cons_of_mem _ hd)
  obtain ⟨i0, ei0⟩ := isL_v g3
  obtain rfl : w0 = (.long i0) := Option.some.inj ei0
  obtain ⟨i1, ei1⟩ := is_v g5
  obtain rfl : w1 = (.int i1) := Option.some.inj ei1
  obtain ⟨i2, ei2⟩ := is_v g6
  obtain rfl : w2 = (.int i2) := Option.some.inj ei2
  obtain ⟨n, o, h1, h2, h3, _, L, rfl, ⟨⟨_, rfl, rfl⟩, N⟩, hq⟩ := rm_law (l := l) hw i0 i1 i2 s.heap s.heap.size (Nat.le_refl _) p e ha hc hk s m _ below hf ((Spec.applies_iff_loose hf).mp happ).1 ⟨rfl, State.Warmed39.refl s, rfl⟩ trivial
  refine ⟨n, _, h1, h2, h3, hpost _ _ _ _ _ _ ⟨Cond.after_iff.mpr rfl, Cond.after_iff.mpr (eq_i res_at (Term.int_eval (1)) rfl), trivial⟩ ⟨hq.1, hq.2.1, hq.2.2.1, (hq.2.2.2.sift fun y hy => Or.inr (N y hy)).mono (by decide) (by decide)⟩⟩
theorem main_1_1 : Claimed_1_1 := comes_1 fun _ _ _ _ _ _ h hF => ⟨h.1, hF⟩
theorem main_1_2 : Claimed_1_2 := comes_1 fun _ _ _ _ _ _ h hF => ⟨h.2.1, hF⟩
end Jvm.Pilot.@@N@@
namespace Jvm.Pilot.@@N@@
open Jvm Jvm.ClassFile Sem Op Lib Jvm.Free Jvm.Stand Jvm.Pilot.@@N@@.Jvm.D
/-! MADE BY PROGRAM (witnessworld.py) out of the Statement's table words and the real class files: 17 classes; the members and pool entries that the words name. The judged class is class 1, her method 1. -/
namespace start1
open Jvm.ClassFile
def u (s : String) : CpInfo := .utf8 (stringToUtf16 s)
/-- a pool by its gaps: so many unusable entries, then the entry; so many at the end -/
def gap : Nat → List CpInfo → List CpInfo
  | 0, r => r
  | n + 1, r => .unusable :: gap n r
def poolList (es : List (Nat × CpInfo)) (last : Nat) : List CpInfo := es.foldr (fun e r => gap e.1 (e.2 :: r)) (gap last [])
def pool (es : List (Nat × CpInfo)) (last : Nat) : Array CpInfo := ⟨poolList es last⟩
def fileOf (pool : Array CpInfo) (this : Nat) (attrs : Array Attribute := #[]) (ms : Array MethodInfo := #[]) (fl : Nat := 33) (sup : Nat := 0) (ifs : Array Nat := #[]) (fds : Array FieldInfo := #[]) : ClassFile where
  minorVersion := 0
  majorVersion := 65
  constantPool := pool
  accessFlags := fl
  thisClass := this
  superClass := sup
  interfaces := ifs
  fields := fds
  methods := ms
  attributes := attrs
def plain (name : String) (sup : Option ClassId) : Class where
  name := name
  kind := .ordinary
  loader := none
  accessFlags := 33
  super := sup
  interfaces := #[]
  cf := none
  fields := #[]
  methods := #[]
  instanceTypes := #[]
  staticTypes := #[]
  resolved := #[]
  callSites := []
  init := .initialized
  statics := none
  mirror := none

def pool0 : Array CpInfo := pool [(5, u "<init>"), (0, u "()V"), (1, .class_ 10), (1, u "java/lang/Object")] 113

def k0c0 : Code := { maxStack := 0, maxLocals := 1, code := object_method_1_code, exceptionTable := #[], attributes := #[] }
def k0m0 : Method := { name := "<init>", desc := "()V", sig := { parameters := [], returnType := none }, accessFlags := 1, code := some k0c0 }
/-- java/lang/Object -/
def k0 : Class := { plain "java/lang/Object" none with
  accessFlags := 33
  interfaces := #[]
  cf := some (fileOf pool0 8 #[] #[{ accessFlags := 1, nameIndex := 5, descriptorIndex := 6, attributes := #[] }] 33 0 #[] #[])
  fields := #[]
  methods := #[k0m0]
  instanceTypes := #[]
  staticTypes := #[]
  resolved := Array.replicate 124 none
  statics := none }

def pool1 : Array CpInfo := pool [(2, .class_ 4), (1, u "java/lang/Object"), (0, u "<init>"), (0, u "()V"), (0, .long 2147483647), (1, .long 18446744071562067968), (1, .class_ 12), (0, u "com/example/vigilant_mailbox/vigilantmailbox/model/IntegerLiteral"), (0, .class_ 14), (0, u "com/example/vigilant_mailbox/vigilantmailbox/model/Position"), (0, .methodref 13 16), (0, .nameAndType 5 17), (0, u "(II)V"), (0, .methodref 11 19), (0, .nameAndType 5 20), (0, u "(Lcom/example/vigilant_mailbox/vigilantmailbox/model/Position;J)V"), (0, .methodref 11 22), (0, .nameAndType 23 24), (0, u "fitsInt"), (0, u "()Z"), (0, .methodref 11 26), (0, .nameAndType 27 28), (0, u "value"), (0, u "()J"), (0, .class_ 30), (0, u "com/example/vigilant_mailbox/vigilantmailbox/model/IntegerLiteralFitsIntPinLaw"), (2, u "law"), (0, u "(JII)Z")] 3

def k1m0 : Method := { name := "<init>", desc := "()V", sig := { parameters := [], returnType := none }, accessFlags := 1, code := none }
def k1c1 : Code := { maxStack := 6, maxLocals := 10, code := code, exceptionTable := #[], attributes := #[] }
def k1m1 : Method := { name := "law", desc := "(JII)Z", sig := { parameters := [.long, .int, .int], returnType := some .boolean }, accessFlags := 9, code := some k1c1 }
/-- com/example/vigilant_mailbox/vigilantmailbox/model/IntegerLiteralFitsIntPinLaw -/
def k1 : Class := { plain "com/example/vigilant_mailbox/vigilantmailbox/model/IntegerLiteralFitsIntPinLaw" (some 0) with
  accessFlags := 49
  interfaces := #[]
  cf := some (fileOf pool1 29 #[] #[{ accessFlags := 1, nameIndex := 5, descriptorIndex := 6, attributes := #[] }, { accessFlags := 9, nameIndex := 33, descriptorIndex := 34, attributes := #[] }] 49 2 #[] #[])
  fields := #[]
  methods := #[k1m0, k1m1]
  instanceTypes := #[]
  staticTypes := #[]
  resolved := Array.replicate 38 none
  statics := none }

def pool2 : Array CpInfo := pool [(1, .methodref 2 3), (0, .class_ 4), (0, .nameAndType 5 6), (0, u "java/lang/Object"), (0, u "<init>"), (0, u "()V"), (0, .string 8), (0, u "position"), (0, .methodref 10 11), (0, .class_ 12), (0, .nameAndType 13 14), (0, u "java/util/Objects"), (0, u "requireNonNull"), (0, u "(Ljava/lang/Object;Ljava/lang/String;)Ljava/lang/Object;"), (0, .class_ 16), (0, u "com/example/vigilant_mailbox/vigilantmailbox/model/Position"), (0, .fieldref 18 19), (0, .class_ 20), (0, .nameAndType 8 21), (0, u "com/example/vigilant_mailbox/vigilantmailbox/model/Expression"), (0, u "Lcom/example/vigilant_mailbox/vigilantmailbox/model/Position;"), (51, u "(Lcom/example/vigilant_mailbox/vigilantmailbox/model/Position;)V")] 39

def k2c0 : Code := { maxStack := 3, maxLocals := 2, code := prog_59_method_1_code, exceptionTable := #[], attributes := #[] }
def k2m0 : Method := { name := "<init>", desc := "(Lcom/example/vigilant_mailbox/vigilantmailbox/model/Position;)V", sig := { parameters := [(.object "com/example/vigilant_mailbox/vigilantmailbox/model/Position")], returnType := none }, accessFlags := 0, code := some k2c0 }
/-- com/example/vigilant_mailbox/vigilantmailbox/model/Expression -/
def k2 : Class := { plain "com/example/vigilant_mailbox/vigilantmailbox/model/Expression" (some 0) with
  accessFlags := 1057
  interfaces := #[]
  cf := some (fileOf pool2 18 #[] #[{ accessFlags := 0, nameIndex := 5, descriptorIndex := 73, attributes := #[] }] 1057 2 #[] #[{ accessFlags := 18, nameIndex := 8, descriptorIndex := 21, attributes := #[] }])
  fields := #[{ name := "position", type := (.object "com/example/vigilant_mailbox/vigilantmailbox/model/Position"), accessFlags := 18, slot := 0, constantValue := 0 }]
  methods := #[k2m0]
  instanceTypes := #[(.object "com/example/vigilant_mailbox/vigilantmailbox/model/Position")]
  staticTypes := #[]
  resolved := Array.replicate 113 none
  statics := none }

def pool3 : Array CpInfo := pool [(1, .methodref 2 3), (0, .class_ 4), (0, .nameAndType 5 6), (0, u "com/example/vigilant_mailbox/vigilantmailbox/model/Expression"), (0, u "<init>"), (0, u "(Lcom/example/vigilant_mailbox/vigilantmailbox/model/Position;)V"), (0, .fieldref 8 9), (0, .class_ 10), (0, .nameAndType 11 12), (0, u "com/example/vigilant_mailbox/vigilantmailbox/model/IntegerLiteral"), (0, u "value"), (0, u "J"), (2, .long 18446744071562067968), (1, .long 2147483647), (7, u "(Lcom/example/vigilant_mailbox/vigilantmailbox/model/Position;J)V"), (2, u "()J"), (0, u "fitsInt"), (0, u "()Z")] 7

def k3c0 : Code := { maxStack := 3, maxLocals := 4, code := prog_65_method_1_code, exceptionTable := #[], attributes := #[] }
def k3m0 : Method := { name := "<init>", desc := "(Lcom/example/vigilant_mailbox/vigilantmailbox/model/Position;J)V", sig := { parameters := [(.object "com/example/vigilant_mailbox/vigilantmailbox/model/Position"), .long], returnType := none }, accessFlags := 1, code := some k3c0 }
def k3c1 : Code := { maxStack := 2, maxLocals := 1, code := prog_65_method_2_code, exceptionTable := #[], attributes := #[] }
def k3m1 : Method := { name := "value", desc := "()J", sig := { parameters := [], returnType := some .long }, accessFlags := 1, code := some k3c1 }
def k3c2 : Code := { maxStack := 4, maxLocals := 1, code := prog_65_method_3_code, exceptionTable := #[], attributes := #[] }
def k3m2 : Method := { name := "fitsInt", desc := "()Z", sig := { parameters := [], returnType := some .boolean }, accessFlags := 1, code := some k3c2 }
/-- com/example/vigilant_mailbox/vigilantmailbox/model/IntegerLiteral -/
def k3 : Class := { plain "com/example/vigilant_mailbox/vigilantmailbox/model/IntegerLiteral" (some 2) with
  accessFlags := 49
  interfaces := #[]
  cf := some (fileOf pool3 8 #[] #[{ accessFlags := 1, nameIndex := 5, descriptorIndex := 25, attributes := #[] }, { accessFlags := 1, nameIndex := 11, descriptorIndex := 28, attributes := #[] }, { accessFlags := 1, nameIndex := 29, descriptorIndex := 30, attributes := #[] }] 49 2 #[] #[{ accessFlags := 18, nameIndex := 11, descriptorIndex := 12, attributes := #[] }])
  fields := #[{ name := "value", type := .long, accessFlags := 18, slot := 1, constantValue := 0 }]
  methods := #[k3m0, k3m1, k3m2]
  instanceTypes := #[(.object "com/example/vigilant_mailbox/vigilantmailbox/model/Position"), .long]
  staticTypes := #[]
  resolved := Array.replicate 38 none
  statics := none }

def pool4 : Array CpInfo := pool [(1, .methodref 2 3), (0, .class_ 4), (0, .nameAndType 5 6), (0, u "java/lang/Object"), (0, u "<init>"), (0, u "()V"), (9, .fieldref 17 18), (0, .class_ 19), (0, .nameAndType 20 21), (0, u "com/example/vigilant_mailbox/vigilantmailbox/model/Position"), (0, u "line"), (0, u "I"), (0, .fieldref 17 23), (0, .nameAndType 24 21), (0, u "column"), (1, u "(II)V")] 25

def k4c0 : Code := { maxStack := 4, maxLocals := 3, code := prog_76_method_1_code, exceptionTable := #[], attributes := #[] }
def k4m0 : Method := { name := "<init>", desc := "(II)V", sig := { parameters := [.int, .int], returnType := none }, accessFlags := 1, code := some k4c0 }
/-- com/example/vigilant_mailbox/vigilantmailbox/model/Position -/
def k4 : Class := { plain "com/example/vigilant_mailbox/vigilantmailbox/model/Position" (some 0) with
  accessFlags := 49
  interfaces := #[]
  cf := some (fileOf pool4 17 #[] #[{ accessFlags := 1, nameIndex := 5, descriptorIndex := 26, attributes := #[] }] 49 2 #[] #[{ accessFlags := 18, nameIndex := 20, descriptorIndex := 21, attributes := #[] }, { accessFlags := 18, nameIndex := 24, descriptorIndex := 21, attributes := #[] }])
  fields := #[{ name := "line", type := .int, accessFlags := 18, slot := 0, constantValue := 0 }, { name := "column", type := .int, accessFlags := 18, slot := 1, constantValue := 0 }]
  methods := #[k4m0]
  instanceTypes := #[.int, .int]
  staticTypes := #[]
  resolved := Array.replicate 52 none
  statics := none }

def pool5 : Array CpInfo := pool [(1, .class_ 2), (0, u "java/io/Serializable"), (0, .class_ 4), (0, u "java/lang/Object")] 2

/-- java/io/Serializable -/
def k5 : Class := { plain "java/io/Serializable" (some 0) with
  accessFlags := 1537
  interfaces := #[]
  cf := some (fileOf pool5 1 #[] #[] 1537 3 #[] #[])
  fields := #[]
  methods := #[]
  instanceTypes := #[]
  staticTypes := #[]
  resolved := Array.replicate 7 none
  statics := none }

def pool6 : Array CpInfo := pool [(1, .class_ 2), (0, u "java/lang/Comparable"), (0, .class_ 4), (0, u "java/lang/Object")] 7

/-- java/lang/Comparable -/
def k6 : Class := { plain "java/lang/Comparable" (some 0) with
  accessFlags := 1537
  interfaces := #[]
  cf := some (fileOf pool6 1 #[] #[] 1537 3 #[] #[])
  fields := #[]
  methods := #[]
  instanceTypes := #[]
  staticTypes := #[]
  resolved := Array.replicate 12 none
  statics := none }

def pool7 : Array CpInfo := pool [(2, .class_ 4), (1, u "java/lang/CharSequence"), (42, .class_ 48), (0, u "java/lang/CharSequence$1CodePointIterator"), (10, .class_ 60), (0, u "java/lang/CharSequence$1CharIterator"), (5, .class_ 67), (0, u "java/lang/Object")] 63

/-- java/lang/CharSequence -/
def k7 : Class := { plain "java/lang/CharSequence" (some 0) with
  accessFlags := 1537
  interfaces := #[]
  cf := some (fileOf pool7 2 #[.nestMembers #[47, 59]] #[] 1537 66 #[] #[])
  fields := #[]
  methods := #[]
  instanceTypes := #[]
  staticTypes := #[]
  resolved := Array.replicate 131 none
  statics := none }

def pool8 : Array CpInfo := pool [(1, .class_ 2), (0, u "java/lang/constant/Constable"), (0, .class_ 4), (0, u "java/lang/Object")] 6

/-- java/lang/constant/Constable -/
def k8 : Class := { plain "java/lang/constant/Constable" (some 0) with
  accessFlags := 1537
  interfaces := #[]
  cf := some (fileOf pool8 1 #[] #[] 1537 3 #[] #[])
  fields := #[]
  methods := #[]
  instanceTypes := #[]
  staticTypes := #[]
  resolved := Array.replicate 11 none
  statics := none }

def pool9 : Array CpInfo := pool [(1, .class_ 2), (0, u "java/lang/constant/ConstantDesc"), (0, .class_ 4), (0, u "java/lang/Object")] 32

/-- java/lang/constant/ConstantDesc -/
def k9 : Class := { plain "java/lang/constant/ConstantDesc" (some 0) with
  accessFlags := 1537
  interfaces := #[]
  cf := some (fileOf pool9 1 #[] #[] 1537 3 #[] #[])
  fields := #[]
  methods := #[]
  instanceTypes := #[]
  staticTypes := #[]
  resolved := Array.replicate 37 none
  statics := none }

def pool10 : Array CpInfo := pool [(2, .class_ 4), (1, u "java/lang/Object"), (0, u "<init>"), (0, u "()V"), (3, .class_ 12), (1, u "java/lang/String"), (0, u "value"), (0, u "[B"), (2, u "coder"), (0, u "B"), (2, u "hash"), (0, u "I"), (2, u "hashIsZero"), (0, u "Z"), (13, u "COMPACT_STRINGS"), (534, .class_ 576), (0, u "java/lang/CharSequence"), (22, u "CASE_INSENSITIVE_ORDER"), (0, u "Ljava/util/Comparator;"), (500, u "serialPersistentFields"), (0, u "[Ljava/io/ObjectStreamField;"), (0, .class_ 1104), (0, u "java/lang/String$CaseInsensitiveComparator"), (1, .class_ 1107), (0, u "java/io/Serializable"), (0, .class_ 1109), (0, u "java/lang/Comparable"), (0, .class_ 1111), (0, u "java/lang/constant/Constable"), (0, .class_ 1113), (0, u "java/lang/constant/ConstantDesc"), (2, u "serialVersionUID"), (0, u "J"), (3, u "REPL"), (0, u "C"), (2, u "LATIN1"), (1, u "UTF16")] 323

def k10m0 : Method := { name := "<init>", desc := "()V", sig := { parameters := [], returnType := none }, accessFlags := 1, code := none }
/-- java/lang/String -/
def k10 : Class := { plain "java/lang/String" (some 0) with
  accessFlags := 49
  interfaces := #[5, 6, 7, 8, 9]
  cf := some (fileOf pool10 10 #[.nestMembers #[1103]] #[{ accessFlags := 1, nameIndex := 5, descriptorIndex := 6, attributes := #[] }] 49 2 #[1106, 1108, 575, 1110, 1112] #[{ accessFlags := 18, nameIndex := 13, descriptorIndex := 14, attributes := #[] }, { accessFlags := 18, nameIndex := 17, descriptorIndex := 18, attributes := #[] }, { accessFlags := 2, nameIndex := 21, descriptorIndex := 22, attributes := #[] }, { accessFlags := 2, nameIndex := 25, descriptorIndex := 26, attributes := #[] }, { accessFlags := 26, nameIndex := 1116, descriptorIndex := 1117, attributes := #[] }, { accessFlags := 24, nameIndex := 40, descriptorIndex := 26, attributes := #[] }, { accessFlags := 26, nameIndex := 1101, descriptorIndex := 1102, attributes := #[] }, { accessFlags := 26, nameIndex := 1121, descriptorIndex := 1122, attributes := #[] }, { accessFlags := 25, nameIndex := 599, descriptorIndex := 600, attributes := #[] }, { accessFlags := 24, nameIndex := 1125, descriptorIndex := 18, attributes := #[] }, { accessFlags := 24, nameIndex := 1127, descriptorIndex := 18, attributes := #[] }])
  fields := #[{ name := "value", type := (.array .byte), accessFlags := 18, slot := 0, constantValue := 0 }, { name := "coder", type := .byte, accessFlags := 18, slot := 1, constantValue := 0 }, { name := "hash", type := .int, accessFlags := 2, slot := 2, constantValue := 0 }, { name := "hashIsZero", type := .boolean, accessFlags := 2, slot := 3, constantValue := 0 }, { name := "serialVersionUID", type := .long, accessFlags := 26, slot := 0, constantValue := 0 }, { name := "COMPACT_STRINGS", type := .boolean, accessFlags := 24, slot := 1, constantValue := 0 }, { name := "serialPersistentFields", type := (.array (.object "java/io/ObjectStreamField")), accessFlags := 26, slot := 2, constantValue := 0 }, { name := "REPL", type := .char, accessFlags := 26, slot := 3, constantValue := 0 }, { name := "CASE_INSENSITIVE_ORDER", type := (.object "java/util/Comparator"), accessFlags := 25, slot := 4, constantValue := 0 }, { name := "LATIN1", type := .byte, accessFlags := 24, slot := 5, constantValue := 0 }, { name := "UTF16", type := .byte, accessFlags := 24, slot := 6, constantValue := 0 }]
  methods := #[k10m0]
  instanceTypes := #[(.array .byte), .byte, .int, .boolean]
  staticTypes := #[.long, .boolean, (.array (.object "java/io/ObjectStreamField")), .char, (.object "java/util/Comparator"), .byte, .byte]
  resolved := Array.replicate 1451 none
  statics := none }

def pool11 : Array CpInfo := pool [(2, .class_ 4), (1, u "java/lang/Object"), (0, u "<init>"), (0, u "()V"), (35, .class_ 44), (1, u "java/util/Objects"), (0, u "requireNonNull"), (48, u "(Ljava/lang/Object;Ljava/lang/String;)Ljava/lang/Object;")] 89

def k11m0 : Method := { name := "<init>", desc := "()V", sig := { parameters := [], returnType := none }, accessFlags := 2, code := none }
def k11c1 : Code := { maxStack := 3, maxLocals := 2, code := jdk_31_method_11_code, exceptionTable := #[], attributes := #[] }
def k11m1 : Method := { name := "requireNonNull", desc := "(Ljava/lang/Object;Ljava/lang/String;)Ljava/lang/Object;", sig := { parameters := [(.object "java/lang/Object"), (.object "java/lang/String")], returnType := some (.object "java/lang/Object") }, accessFlags := 9, code := some k11c1 }
/-- java/util/Objects -/
def k11 : Class := { plain "java/util/Objects" (some 0) with
  accessFlags := 49
  interfaces := #[]
  cf := some (fileOf pool11 42 #[] #[{ accessFlags := 2, nameIndex := 5, descriptorIndex := 6, attributes := #[] }, { accessFlags := 9, nameIndex := 45, descriptorIndex := 94, attributes := #[] }] 49 2 #[] #[])
  fields := #[]
  methods := #[k11m0, k11m1]
  instanceTypes := #[]
  staticTypes := #[]
  resolved := Array.replicate 184 none
  statics := none }

def pool12 : Array CpInfo := pool [(1, u "java/lang/Cloneable"), (0, .class_ 1), (0, u "java/lang/Object"), (0, .class_ 3)] 3

/-- java/lang/Cloneable -/
def k12 : Class := { plain "java/lang/Cloneable" (some 0) with
  accessFlags := 1537
  interfaces := #[]
  cf := some (fileOf pool12 2 #[] #[] 1537 4 #[] #[])
  fields := #[]
  methods := #[]
  instanceTypes := #[]
  staticTypes := #[]
  resolved := Array.replicate 8 none
  statics := none }

/-- the primitive byte -/
def k13 : Class := { plain "byte" none with kind := .primitive 'B', accessFlags := 0x411 }
/-- [B -/
def k14 : Class := { plain "[B" (some 0) with kind := .array 13 .byte, interfaces := #[12, 5], accessFlags := 1041 }

/-- the primitive int -/
def k15 : Class := { plain "int" none with kind := .primitive 'I', accessFlags := 0x411 }
/-- [I -/
def k16 : Class := { plain "[I" (some 0) with kind := .array 15 .int, interfaces := #[12, 5], accessFlags := 1041 }

def heap : Heap := #[]
def classes : Array Class := #[k0, k1, k2, k3, k4, k5, k6, k7, k8, k9, k10, k11, k12, k13, k14, k15, k16]
def interned : List (Array UInt16 × Addr) := []
def slotsUsed : Nat := 0
def theMethod : MethodId := ⟨1, 1⟩
def args0 : Array Value := #[.long 5, .int 6, .int 7]
def aboutOver (below : List Frame) : State where
  vm := { classes := classes, interned := interned.toArray }
  heap := heap
  slotsUsed := slotsUsed
  threads := #[{ frames := .invoking theMethod args0 :: below }]
def below0 : List Frame := [.native { method := ⟨0, 0⟩, args := #[] }]
def about1 : State := aboutOver below0
def p0 : Program := .bare "" "" ""
def e0 : Env := launch0.env 0 0 0
theorem w_frames : about1.frames = Frame.invoking theMethod args0 :: below0 := rfl
set_option maxRecDepth 65536 in
theorem w_args : argsFit about1.vm theMethod args0 = true := by decide +kernel
set_option maxRecDepth 65536 in
theorem w_heap : heapFits about1 = true := by decide +kernel
set_option maxRecDepth 65536 in
theorem w_runnable : about1.curStatus? = some .runnable := by decide +kernel
set_option maxRecDepth 65536 in
theorem w_alone : about1.alone = true := by decide +kernel
set_option maxRecDepth 65536 in
theorem w_named : about1.methodNamed? x = some theMethod := by decide +kernel
set_option maxRecDepth 65536 in
theorem w_hears : about1.hears theMethod below0 = true := by decide +kernel
set_option maxRecDepth 65536 in
theorem w_ripe : about1.ripe theMethod args0 below0 = true := by decide +kernel
theorem w_running : about1.status = .running := rfl
set_option maxRecDepth 65536 in
theorem w_room : about1.hasRoom e0.platform room_1 = true :=
  launch0.hasRoom_least _ room_1 (by decide +kernel) (by decide +kernel) (by decide +kernel) (by decide +kernel) (by decide +kernel) (by decide +kernel)
theorem allAtoms_all (ts : List Jvm.Cond) (a : Array Jvm.Value) (st : Jvm.State) : (allAtoms ts).before a st = ts.all (fun c => c.before a st) := by
  induction ts with
  | nil => rfl
  | cons c t ih =>
    show (Jvm.Cond.and c (allAtoms t)).before a st = _
    rw [Jvm.Cond.before_and, ih, List.all_cons]
def words1 : List Jvm.Cond := Jvm.Cond.code x code maxLocals ret :: tables_1
/-- a 'code' word, met by the world's own term for the bytes: nothing is compared byte by byte -/
theorem code_word {y : MethodName} {bytes : ByteArray} {mx : Nat} {rt : Option FieldType} {a : Array Value} {s : State} {m : MethodId} {meth : Method} {c : Code} (h1 : s.methodNamed? y = some m) (h2 : s.vm.method? m = some meth) (h3 : meth.code = some c) (h4 : c.code = bytes)
    (h5 : (c.maxLocals == mx && c.exceptionTable.isEmpty && decide (c.maxStack ≤ mostOperands) && decide (meth.sig.returnType = rt) && !meth.locks && decide (parseMethodDescriptor y.desc = some meth.sig)) = true) : (Jvm.Cond.code y bytes mx rt).before a s = true := by
  simp only [Bool.and_eq_true, beq_iff_eq, Bool.not_eq_true', decide_eq_true_eq] at h5
  obtain ⟨⟨⟨⟨⟨g1, g2⟩, g3⟩, g4⟩, g5⟩, g6⟩ := h5
  simp [Cond.before, Cond.holds, Cond.value, h1, h2, h3, h4, g1, g2, g3, g4, g5, g6]
def isCode : Jvm.Cond → Bool
  | .code _ _ _ _ => true
  | _ => false
theorem all_split {L : List Jvm.Cond} {P : Jvm.Cond → Bool} (h1 : L.all (fun c => isCode c || P c) = true) (h2 : ∀ c ∈ L.filter isCode, P c = true) : L.all P = true := by
  refine List.all_eq_true.mpr fun c hc => ?_
  have h := List.all_eq_true.mp h1 c hc
  rcases Bool.eq_false_or_eq_true (isCode c) with hi | hi
  · exact h2 c (List.mem_filter.mpr ⟨hc, hi⟩)
  · simpa [hi] using h
set_option maxRecDepth 65536 in
theorem w_c0 : (Jvm.Cond.code x code maxLocals ret).before args0 about1 = true := code_word (m := ⟨1, 1⟩) (meth := k1m1) (c := k1c1) (by decide +kernel) rfl rfl rfl (by decide +kernel)
set_option maxRecDepth 65536 in
theorem w_c1 : (Jvm.Cond.code ({ cls := "com/example/vigilant_mailbox/vigilantmailbox/model/Position", name := "<init>", desc := "(II)V" } : Jvm.MethodName) prog_76_method_1_code (3 : Nat) (Option.none : Option Jvm.ClassFile.FieldType)).before args0 about1 = true := code_word (m := ⟨4, 0⟩) (meth := k4m0) (c := k4c0) (by decide +kernel) rfl rfl rfl (by decide +kernel)
set_option maxRecDepth 65536 in
theorem w_c2 : (Jvm.Cond.code ({ cls := "java/lang/Object", name := "<init>", desc := "()V" } : Jvm.MethodName) object_method_1_code (1 : Nat) (Option.none : Option Jvm.ClassFile.FieldType)).before args0 about1 = true := code_word (m := ⟨0, 0⟩) (meth := k0m0) (c := k0c0) (by decide +kernel) rfl rfl rfl (by decide +kernel)
set_option maxRecDepth 65536 in
theorem w_c3 : (Jvm.Cond.code ({ cls := "com/example/vigilant_mailbox/vigilantmailbox/model/IntegerLiteral", name := "<init>", desc := "(Lcom/example/vigilant_mailbox/vigilantmailbox/model/Position;J)V" } : Jvm.MethodName) prog_65_method_1_code (4 : Nat) (Option.none : Option Jvm.ClassFile.FieldType)).before args0 about1 = true := code_word (m := ⟨3, 0⟩) (meth := k3m0) (c := k3c0) (by decide +kernel) rfl rfl rfl (by decide +kernel)
set_option maxRecDepth 65536 in
theorem w_c4 : (Jvm.Cond.code ({ cls := "com/example/vigilant_mailbox/vigilantmailbox/model/Expression", name := "<init>", desc := "(Lcom/example/vigilant_mailbox/vigilantmailbox/model/Position;)V" } : Jvm.MethodName) prog_59_method_1_code (2 : Nat) (Option.none : Option Jvm.ClassFile.FieldType)).before args0 about1 = true := code_word (m := ⟨2, 0⟩) (meth := k2m0) (c := k2c0) (by decide +kernel) rfl rfl rfl (by decide +kernel)
set_option maxRecDepth 65536 in
theorem w_c5 : (Jvm.Cond.code ({ cls := "java/util/Objects", name := "requireNonNull", desc := "(Ljava/lang/Object;Ljava/lang/String;)Ljava/lang/Object;" } : Jvm.MethodName) jdk_31_method_11_code (2 : Nat) (Option.some (Jvm.ClassFile.FieldType.object "java/lang/Object"))).before args0 about1 = true := code_word (m := ⟨11, 1⟩) (meth := k11m1) (c := k11c1) (by decide +kernel) rfl rfl rfl (by decide +kernel)
set_option maxRecDepth 65536 in
theorem w_c6 : (Jvm.Cond.code ({ cls := "com/example/vigilant_mailbox/vigilantmailbox/model/IntegerLiteral", name := "fitsInt", desc := "()Z" } : Jvm.MethodName) prog_65_method_3_code (1 : Nat) (Option.some Jvm.ClassFile.FieldType.boolean)).before args0 about1 = true := code_word (m := ⟨3, 2⟩) (meth := k3m2) (c := k3c2) (by decide +kernel) rfl rfl rfl (by decide +kernel)
set_option maxRecDepth 65536 in
theorem w_c7 : (Jvm.Cond.code ({ cls := "com/example/vigilant_mailbox/vigilantmailbox/model/IntegerLiteral", name := "value", desc := "()J" } : Jvm.MethodName) prog_65_method_2_code (1 : Nat) (Option.some Jvm.ClassFile.FieldType.long)).before args0 about1 = true := code_word (m := ⟨3, 1⟩) (meth := k3m1) (c := k3c1) (by decide +kernel) rfl rfl rfl (by decide +kernel)
def codes1 : List Jvm.Cond := [Jvm.Cond.code x code maxLocals ret, Jvm.Cond.code ({ cls := "com/example/vigilant_mailbox/vigilantmailbox/model/Position", name := "<init>", desc := "(II)V" } : Jvm.MethodName) prog_76_method_1_code (3 : Nat) (Option.none : Option Jvm.ClassFile.FieldType), Jvm.Cond.code ({ cls := "java/lang/Object", name := "<init>", desc := "()V" } : Jvm.MethodName) object_method_1_code (1 : Nat) (Option.none : Option Jvm.ClassFile.FieldType), Jvm.Cond.code ({ cls := "com/example/vigilant_mailbox/vigilantmailbox/model/IntegerLiteral", name := "<init>", desc := "(Lcom/example/vigilant_mailbox/vigilantmailbox/model/Position;J)V" } : Jvm.MethodName) prog_65_method_1_code (4 : Nat) (Option.none : Option Jvm.ClassFile.FieldType), Jvm.Cond.code ({ cls := "com/example/vigilant_mailbox/vigilantmailbox/model/Expression", name := "<init>", desc := "(Lcom/example/vigilant_mailbox/vigilantmailbox/model/Position;)V" } : Jvm.MethodName) prog_59_method_1_code (2 : Nat) (Option.none : Option Jvm.ClassFile.FieldType), Jvm.Cond.code ({ cls := "java/util/Objects", name := "requireNonNull", desc := "(Ljava/lang/Object;Ljava/lang/String;)Ljava/lang/Object;" } : Jvm.MethodName) jdk_31_method_11_code (2 : Nat) (Option.some (Jvm.ClassFile.FieldType.object "java/lang/Object")), Jvm.Cond.code ({ cls := "com/example/vigilant_mailbox/vigilantmailbox/model/IntegerLiteral", name := "fitsInt", desc := "()Z" } : Jvm.MethodName) prog_65_method_3_code (1 : Nat) (Option.some Jvm.ClassFile.FieldType.boolean), Jvm.Cond.code ({ cls := "com/example/vigilant_mailbox/vigilantmailbox/model/IntegerLiteral", name := "value", desc := "()J" } : Jvm.MethodName) prog_65_method_2_code (1 : Nat) (Option.some Jvm.ClassFile.FieldType.long)]
set_option maxRecDepth 65536 in
theorem codes_eq : words1.filter isCode = codes1 := rfl
theorem w_codes : ∀ c ∈ words1.filter isCode, c.before args0 about1 = true := by
  rw [codes_eq]
  intro c hc
  simp only [codes1, List.mem_cons, List.not_mem_nil, or_false] at hc
  rcases hc with rfl | rfl | rfl | rfl | rfl | rfl | rfl | rfl
  · exact w_c0
  · exact w_c1
  · exact w_c2
  · exact w_c3
  · exact w_c4
  · exact w_c5
  · exact w_c6
  · exact w_c7
set_option maxRecDepth 65536 in
theorem w_t1 : (words1.take 24).all (fun c => isCode c || c.before args0 about1) = true := by decide +kernel
set_option maxRecDepth 65536 in
theorem w_t2 : ((words1.drop 24).take 24).all (fun c => isCode c || c.before args0 about1) = true := by decide +kernel
set_option maxRecDepth 65536 in
theorem w_t3 : ((words1.drop 24).drop 24).all (fun c => isCode c || c.before args0 about1) = true := by decide +kernel
theorem w_tables : (allAtoms (Jvm.Cond.code x code maxLocals ret :: tables_1)).before args0 about1 = true := by
  rw [allAtoms_all]
  show words1.all (fun c => c.before args0 about1) = true
  refine all_split ?_ w_codes
  rw [← List.take_append_drop 24 words1, List.all_append, w_t1, ← List.take_append_drop 24 (words1.drop 24), List.all_append, w_t2, w_t3]
  rfl
set_option maxRecDepth 65536 in
theorem w_case : (Jvm.Cond.and given_1 narrow_1).before args0 about1 = true := by decide +kernel
theorem w_applies : (headSpec (Jvm.Cond.code x code maxLocals ret :: tables_1) room_1).applies x e0.platform about1 = true :=
  (Spec.applies_iff w_frames).mpr ⟨w_running, w_runnable, w_alone, w_named, w_hears, w_ripe, w_room, w_tables⟩
theorem atStart : AtStart classFile x code maxLocals ret World_1 tables_1 room_1 Calls_1 rest_1 Pre_1 launch0 p0 e0 about1 theMethod args0 below0 :=
  ⟨lists_1, trivial, launch0.admits_env _ _ _, launch0.least_env, fairChoices_fair.cas, fairChoices_fair.clock, w_frames, w_args, w_heap, w_applies, trivial, trivial, w_case⟩
end start1
theorem witness_1 : WitnessClaimed_1 := ⟨start1.p0, start1.e0, start1.about1, start1.theMethod, start1.args0, start1.below0, start1.atStart⟩
end Jvm.Pilot.@@N@@
