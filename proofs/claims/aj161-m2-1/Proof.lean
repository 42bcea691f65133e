import JvmDerived
import JvmDerived.Pilot.@@N@@Statement
import JvmDerived.Pilot.@@N@@Code
set_option linter.unusedVariables false
set_option linter.unusedSimpArgs false
namespace Jvm.Own
open Jvm Jvm.ClassFile Sem Op Lib Jvm.Free Jvm.Stand Jvm.LawKit Jvm.RoadKit
/-- where the run stands: nothing older than n0 is written, the heap is h -/
def Sd (p : Program) (l : Launch) (e : Env) (R : Room) (s : State) (m : MethodId) (args : Array Value) (below : List Frame) (meth : Method) (c : Code) (n0 : Nat) (T : State) (h : Heap) (cells slots : Nat) : Prop :=
  ∃ locs, Stand p l e R s m args below meth c T locs cells slots ∧ Fr n0 locs ∧ T.heap = h
/-- what a walk knows throughout -/
def Wk (p : Program) (l : Launch) (e : Env) (R : Room) (s : State) (m : MethodId) (args : Array Value) (below : List Frame) (meth : Method) (c : Code) (n0 : Nat) (Z : State) (own nm : String) (bc : ByteArray) (ml : Nat) (rt : Option FieldType) (Q : Option Value → Heap → Prop) (G : State → Prop) : Prop :=
  (∀ S S' : State, (∀ t, Steps p.tables e below S' t → Steps p.tables e below S t) → G S' → G S) ∧
  p.tables.exec = Jvm.exec ∧ c.code = bc ∧ c.maxLocals = ml ∧ Z.Warmed39 s.vm ∧ s.vm.findClass own = some m.cls ∧ meth.sig.returnType = rt ∧ meth.name = nm ∧
  (∀ (T : State) (h : Heap) (cells slots : Nat) (v : Option Value), Sd p l e R s m args below meth c n0 T h cells slots → cells ≤ R.cells → slots ≤ R.slots → (meth.sig.returnType = none → v = none) → Q v h →
    ∀ S : State, (∀ fs : List Frame, (∀ (f : JFrame) (acts : List Action), f.method = m → f.locked = none → f.entered = [] → (doReturn e (T.setTop f) acts v).1 = T.setFrames fs) → Steps p.tables e below S (T.setFrames fs)) → G S)
/-- a body's contract -/
abbrev Met (l : Launch) (Z : State) (x : MethodName) (bc : ByteArray) (ml : Nat) (rt : Option FieldType) (ws : List Jvm.Cond) (rm : Room) (av : Array Value) (h : Heap) (n0 : Nat) (Q : Option Value → Heap → Prop) : Prop :=
  MetFree l x (head1 (Jvm.Cond.code x bc ml rt :: ws) rm) (fun a U => a = av ∧ Z.Warmed39 U.vm ∧ U.heap = h) (fun _ _ _ _ _ => True) (fun _ U o U' => ∃ v L, o = .returned v ∧ (Q v U'.heap ∧ Fr n0 L) ∧ FrameEnd U o U' L rm.cells rm.slots)
def RI (P : Int32 → Heap → Prop) (v : Option Value) (h : Heap) : Prop := ∃ r, v = some (.int r) ∧ P r h
def RJ (P : Int64 → Heap → Prop) (v : Option Value) (h : Heap) : Prop := ∃ r, v = some (.long r) ∧ P r h
def RR (P : Value → Heap → Prop) (v : Option Value) (h : Heap) : Prop := ∃ r, v = some r ∧ P r h
def RV (P : Heap → Prop) (v : Option Value) (h : Heap) : Prop := v = none ∧ P h
section Law
variable {p : Program} {l : Launch} {e : Env} {R : Room} {s : State} {m : MethodId} {args : Array Value} {below : List Frame} {meth : Method} {c : Code} {n0 : Nat} {T : State} {h : Heap} {cells slots : Nat} {Z : State} {a0 : Array Value} {own nm : String} {bc : ByteArray} {ml : Nat} {rt : Option FieldType} {Q : Option Value → Heap → Prop} {G : State → Prop}
variable {pc : Nat} {ls : Array Slot} {st : List Value}
theorem nf_same {s : State} {a : Array Value} {C : String} {y y' : MethodName} (hs : (Cond.selects C y' y').before a s = true) (hi : (Cond.instanceMethod y').before a s = true) (hc : y'.cls = y.cls) : NotFace s y := fun r0 h0 => by
  obtain ⟨mk, methM, hn, -⟩ := Cond.instanceMethod_spec hi
  have h1 := findClass_of_methodNamed h0
  have h2 := findClass_of_methodNamed hn
  rw [hc] at h2
  have e : r0.cls = mk.cls := Option.some.inj (h1.symm.trans h2)
  rw [e]
  exact notFace_of_selects hs mk hn
theorem privB {p : Program} {l : Launch} {e : Env} {R : Room} {s : State} {m : MethodId} {args : Array Value} {below : List Frame} {meth : Method} {c : Code} {T : State} {locs : List Loc} {cells slots : Nat} (X : Stand p l e R s m args below meth c T locs cells slots) (hexec : p.tables.exec = Jvm.exec) {own : String} {index : Nat} {y : MethodName} {bytes : ByteArray} {maxL : Nat} {ret : Option FieldType}
    (hown : s.vm.findClass own = some m.cls) (hlink : (Cond.methodLink own index y).before args s = true) (hinst : (Cond.instanceMethod y).before args s = true) (hnf : NotFace s y)
    (hpriv : s.PrivateAt y) (hcode : (Cond.code y bytes maxL ret).before args s = true) (hy : y.cls ≠ "java/lang/invoke/MethodHandle" ∧ y.cls ≠ "java/lang/invoke/VarHandle")
    {W : Nat} {Pre : Free.Pt → Array Value → Prop} {Post : Free.Pt → Array Value → Option Value → Free.Pt → Prop} (hK : Free.Back l R p e below s args y 3 W Pre Post)
    {g : JFrame} (hg : g.method = m) (hsize : g.locals.size = c.maxLocals) {s₀ : State} (hcome : Steps p.tables e below s₀ (T.setTop g)) {a : Addr} {cell : Cell} (hcell : T.heap[a]? = some cell) (hobj : ∀ q, cell.vm ≠ .statics q)
    {argsL rest : List Value} (hlen : ∀ sig, parseMethodDescriptor y.desc = some sig → argsL.length = sig.parameters.length)
    (hstack : g.stack = argsL.reverse ++ .ref a :: rest) (hW : 2 * g.monitorRoom + (rest.map fun v => v.category).sum ≤ W) (hdg : decode c.code g.pc = .ok (.invokevirtual index, 3))
    (hpre : ∀ vm₁, s.WarmedH vm₁ → Pre ⟨T.setVm vm₁, locs, cells, slots⟩ (.ref a :: argsL).toArray) :
    ∃ (v : Option Value) (vm₁ : Vm) (B : Free.Pt), s.WarmedH vm₁ ∧ Stand p l e R s m args below meth c B.U B.locs B.cells B.slots ∧ Post ⟨T.setVm vm₁, locs, cells, slots⟩ (.ref a :: argsL).toArray v B ∧
      Steps p.tables e below s₀ (B.U.setTop { g with pc := g.pc + 3, stack := v.toList ++ rest }) := by
  obtain ⟨mk, methM, hnamed, hmethM, hstM, habM⟩ := Cond.instanceMethod_spec hinst
  obtain ⟨methM', cM, hmethM', -, -, -, -, -, -, hsigM⟩ := Cond.code_spec hnamed hcode
  cases hmethM.symm.trans hmethM'
  obtain ⟨kP, hkP, hkPi⟩ := hnf mk hnamed
  have hselP : selectMethod e.platform s.vm cell.cls mk = .method mk := selectMethod_private hmethM (hpriv mk methM hnamed hmethM)
  obtain ⟨vm₁, X₁, hstep₁⟩ := X.invokevirtual hexec hown hlink hnamed hmethM hstM hkP hkPi hy (a := a) (cell := cell) hcell hobj hselP hmethM habM hkP hkPi (g := g) hg (argsL := argsL) (rest := rest) (hlen _ hsigM) hstack hdg
  obtain ⟨v, B, X', hpost, hsteps⟩ := hK m meth c ⟨T.setVm vm₁, locs, cells, slots⟩ { g with stack := rest } (.invokevirtual index) mk (.ref a :: argsL).toArray X₁ hg hsize hdg hW (X₁.named hnamed) (hpre vm₁ X₁.warmed)
  exact ⟨v, vm₁, B, X₁.warmed, X', hpost, (hcome.trans (hstep₁ _ fun acts => by rw [doInvoke_state]; exact Steps.refl _)).trans hsteps⟩
theorem start {x : MethodName} {ws : List Jvm.Cond} {rm : Room} {av : Array Value} (hpl : plainFor x = true) (hef : ∀ m, entryFrame m av ml = mkF m 0 ls [])
    (body : ∀ (p : Program) (e : Env) (s : State) (m : MethodId) (below : List Frame) (meth : Method) (c : Code) (T : State) (G : State → Prop), Wk p l e rm s m av below meth c n0 Z x.cls x.name bc ml rt Q G → Sd p l e rm s m av below meth c n0 T h 0 0 → G (T.setTop (mkF m 0 ls []))) :
    Met l Z x bc ml rt ws rm av h n0 Q := by
  refine MetFree.of_bodySF hpl hisR ?_
  intro p e s m args below meth c s₁ Bd hml0 hP hK
  obtain ⟨rfl, hZ, hh⟩ := hP
  have X0 : Stand p l e rm s m args below meth c s₁ [] 0 0 := Stand.of_body Bd
  have e0 : s₁.heap = h := by rw [← hh, Bd.state]; rfl
  rw [hef m]
  refine body p e s m below meth c s₁ (fun S => ∃ s₂ o, Steps p.tables e below S s₂ ∧ s₂.status = .running ∧ Ended s₂ below o ∧ ∃ v L, o = .returned v ∧ (Q v s₂.heap ∧ Fr n0 L) ∧ FrameEnd s o s₂ L rm.cells rm.slots)
    ⟨fun S S' hs hg => ?_, Bd.exec, Bd.bytes, hml0, hZ, findClass_of_methodNamed Bd.named, Bd.returns, (name_of_methodNamed Bd.named Bd.method).1, ?_⟩ ⟨[], X0, Fr.nil n0, e0⟩
  · obtain ⟨s2, o, h1, h2⟩ := hg
    exact ⟨s2, o, hs _ h1, h2⟩
  · intro T h cells slots v ⟨locs, X, N, eT⟩ hc hl hv hQ S hS
    obtain ⟨fs, hr, hrun, hended, hW, hsame⟩ := X.leave (v := v) hv Bd.notSynchronized
    subst eT
    exact ⟨_, _, hS fs hr, hrun, hended, v, locs, rfl, ⟨hQ, N⟩, ⟨_, rfl⟩, hW, hsame.mono hc hl⟩
theorem Sd.mono {cells' slots' : Nat} (X : Sd p l e R s m args below meth c n0 T h cells slots) (hc : cells ≤ cells') (hl : slots ≤ slots') : Sd p l e R s m args below meth c n0 T h cells' slots' := by
  obtain ⟨locs, X, N, eT⟩ := X
  exact ⟨locs, { X with same := X.same.mono hc hl }, N, eT⟩

theorem aloadN (w : Wk p l e R s m args below meth c n0 Z own nm bc ml rt Q G) (X : Sd p l e R s m args below meth c n0 T h cells slots) {k : Fin 4} {v : Value} (hd : decode bc pc = .ok (.aload_n k, 1)) (pc' : Nat) (hp : pc + 1 = pc') (hl : ls[k.val]? = some (.val v)) (hv : v.isRef = true) (k : G (T.setTop (mkF m pc' ls (v :: st)))) : G (T.setTop (mkF m pc ls st)) := by
  obtain ⟨locs, Y, -, -⟩ := X
  subst hp
  exact w.1 _ _ (fun t q => XS.aloadN Y.here w.2.1 rfl (hb w.2.2.1 hd) hl hv q) k
theorem aload (w : Wk p l e R s m args below meth c n0 Z own nm bc ml rt Q G) (X : Sd p l e R s m args below meth c n0 T h cells slots) {k : Nat} {v : Value} (hd : decode bc pc = .ok (.aload k, 2)) (pc' : Nat) (hp : pc + 2 = pc') (hl : ls[k]? = some (.val v)) (hv : v.isRef = true) (k : G (T.setTop (mkF m pc' ls (v :: st)))) : G (T.setTop (mkF m pc ls st)) := by
  obtain ⟨locs, Y, -, -⟩ := X
  subst hp
  exact w.1 _ _ (fun t q => XS.aload Y.here w.2.1 rfl (hb w.2.2.1 hd) hl hv q) k
theorem iloadN (w : Wk p l e R s m args below meth c n0 Z own nm bc ml rt Q G) (X : Sd p l e R s m args below meth c n0 T h cells slots) {k : Fin 4} {v : Int32} (hd : decode bc pc = .ok (.iload_n k, 1)) (pc' : Nat) (hp : pc + 1 = pc') (hl : ls[k.val]? = some (.val (.int v))) (k : G (T.setTop (mkF m pc' ls (.int v :: st)))) : G (T.setTop (mkF m pc ls st)) := by
  obtain ⟨locs, Y, -, -⟩ := X
  subst hp
  exact w.1 _ _ (fun t q => XS.iloadN Y.here w.2.1 rfl (hb w.2.2.1 hd) hl q) k
theorem iload (w : Wk p l e R s m args below meth c n0 Z own nm bc ml rt Q G) (X : Sd p l e R s m args below meth c n0 T h cells slots) {k : Nat} {v : Int32} (hd : decode bc pc = .ok (.iload k, 2)) (pc' : Nat) (hp : pc + 2 = pc') (hl : ls[k]? = some (.val (.int v))) (k : G (T.setTop (mkF m pc' ls (.int v :: st)))) : G (T.setTop (mkF m pc ls st)) := by
  obtain ⟨locs, Y, -, -⟩ := X
  subst hp
  exact w.1 _ _ (fun t q => XS.iload Y.here w.2.1 rfl (hb w.2.2.1 hd) hl q) k
theorem lloadN (w : Wk p l e R s m args below meth c n0 Z own nm bc ml rt Q G) (X : Sd p l e R s m args below meth c n0 T h cells slots) {k : Fin 4} {v : Int64} (hd : decode bc pc = .ok (.lload_n k, 1)) (pc' : Nat) (hp : pc + 1 = pc') (hl : ls[k.val]? = some (.val (.long v))) (k : G (T.setTop (mkF m pc' ls (.long v :: st)))) : G (T.setTop (mkF m pc ls st)) := by
  obtain ⟨locs, Y, -, -⟩ := X
  subst hp
  exact w.1 _ _ (fun t q => XT.lloadN Y.here w.2.1 rfl (hb w.2.2.1 hd) hl q) k
theorem lload (w : Wk p l e R s m args below meth c n0 Z own nm bc ml rt Q G) (X : Sd p l e R s m args below meth c n0 T h cells slots) {k : Nat} {v : Int64} (hd : decode bc pc = .ok (.lload k, 2)) (pc' : Nat) (hp : pc + 2 = pc') (hl : ls[k]? = some (.val (.long v))) (k : G (T.setTop (mkF m pc' ls (.long v :: st)))) : G (T.setTop (mkF m pc ls st)) := by
  obtain ⟨locs, Y, -, -⟩ := X
  subst hp
  exact w.1 _ _ (fun t q => XT.lload Y.here w.2.1 rfl (hb w.2.2.1 hd) hl q) k
theorem istoreN (w : Wk p l e R s m args below meth c n0 Z own nm bc ml rt Q G) (X : Sd p l e R s m args below meth c n0 T h cells slots) {k : Fin 4} {x : Int32} (z : Int32) (hd : decode bc pc = .ok (.istore_n k, 1)) (pc' : Nat) (hp : pc + 1 = pc') (hz : z = x) (l' : Array Slot) (hl : storeLocals ls k.val (.int z) = some l') (k : G (T.setTop (mkF m pc' l' st))) : G (T.setTop (mkF m pc ls (.int x :: st))) := by
  obtain ⟨locs, Y, -, -⟩ := X
  subst hp
  subst hz
  exact w.1 _ _ (fun t q => XS.istoreN Y.here w.2.1 rfl (hb w.2.2.1 hd) rfl hl q) k
theorem istore (w : Wk p l e R s m args below meth c n0 Z own nm bc ml rt Q G) (X : Sd p l e R s m args below meth c n0 T h cells slots) {k : Nat} {x : Int32} (z : Int32) (hd : decode bc pc = .ok (.istore k, 2)) (pc' : Nat) (hp : pc + 2 = pc') (hz : z = x) (l' : Array Slot) (hl : storeLocals ls k (.int z) = some l') (k : G (T.setTop (mkF m pc' l' st))) : G (T.setTop (mkF m pc ls (.int x :: st))) := by
  obtain ⟨locs, Y, -, -⟩ := X
  subst hp
  subst hz
  exact w.1 _ _ (fun t q => XS.istore Y.here w.2.1 rfl (hb w.2.2.1 hd) rfl hl q) k
theorem lstoreN (w : Wk p l e R s m args below meth c n0 Z own nm bc ml rt Q G) (X : Sd p l e R s m args below meth c n0 T h cells slots) {k : Fin 4} {x : Int64} (z : Int64) (hd : decode bc pc = .ok (.lstore_n k, 1)) (pc' : Nat) (hp : pc + 1 = pc') (hz : z = x) (l' : Array Slot) (hl : storeLocals ls k.val (.long z) = some l') (k : G (T.setTop (mkF m pc' l' st))) : G (T.setTop (mkF m pc ls (.long x :: st))) := by
  obtain ⟨locs, Y, -, -⟩ := X
  subst hp
  subst hz
  exact w.1 _ _ (fun t q => XT.lstoreN Y.here w.2.1 rfl (hb w.2.2.1 hd) rfl hl q) k
theorem lstore (w : Wk p l e R s m args below meth c n0 Z own nm bc ml rt Q G) (X : Sd p l e R s m args below meth c n0 T h cells slots) {k : Nat} {x : Int64} (z : Int64) (hd : decode bc pc = .ok (.lstore k, 2)) (pc' : Nat) (hp : pc + 2 = pc') (hz : z = x) (l' : Array Slot) (hl : storeLocals ls k (.long z) = some l') (k : G (T.setTop (mkF m pc' l' st))) : G (T.setTop (mkF m pc ls (.long x :: st))) := by
  obtain ⟨locs, Y, -, -⟩ := X
  subst hp
  subst hz
  exact w.1 _ _ (fun t q => XT.lstore Y.here w.2.1 rfl (hb w.2.2.1 hd) rfl hl q) k
theorem astoreN (w : Wk p l e R s m args below meth c n0 Z own nm bc ml rt Q G) (X : Sd p l e R s m args below meth c n0 T h cells slots) {k : Fin 4} {x : Value} (hd : decode bc pc = .ok (.astore_n k, 1)) (pc' : Nat) (hp : pc + 1 = pc') (hv : x.isRef = true) (l' : Array Slot) (hl : storeLocals ls k.val x = some l') (k : G (T.setTop (mkF m pc' l' st))) : G (T.setTop (mkF m pc ls (x :: st))) := by
  obtain ⟨locs, Y, -, -⟩ := X
  subst hp
  exact w.1 _ _ (fun t q => XS.astoreN Y.here w.2.1 rfl (hb w.2.2.1 hd) rfl hv hl q) k
theorem astore (w : Wk p l e R s m args below meth c n0 Z own nm bc ml rt Q G) (X : Sd p l e R s m args below meth c n0 T h cells slots) {k : Nat} {x : Value} (hd : decode bc pc = .ok (.astore k, 2)) (pc' : Nat) (hp : pc + 2 = pc') (hv : x.isRef = true) (l' : Array Slot) (hl : storeLocals ls k x = some l') (k : G (T.setTop (mkF m pc' l' st))) : G (T.setTop (mkF m pc ls (x :: st))) := by
  obtain ⟨locs, Y, -, -⟩ := X
  subst hp
  exact w.1 _ _ (fun t q => XS.astore Y.here w.2.1 rfl (hb w.2.2.1 hd) rfl hv hl q) k
theorem iconst (w : Wk p l e R s m args below meth c n0 Z own nm bc ml rt Q G) (X : Sd p l e R s m args below meth c n0 T h cells slots) {i : Int} (v : Int32) (hd : decode bc pc = .ok (.iconst i, 1)) (pc' : Nat) (hp : pc + 1 = pc') (hv : Int32.ofInt i = v) (k : G (T.setTop (mkF m pc' ls (.int v :: st)))) : G (T.setTop (mkF m pc ls st)) := by
  obtain ⟨locs, Y, -, -⟩ := X
  subst hp
  subst hv
  exact w.1 _ _ (fun t q => XS.iconst Y.here w.2.1 rfl (hb w.2.2.1 hd) q) k
theorem bipush (w : Wk p l e R s m args below meth c n0 Z own nm bc ml rt Q G) (X : Sd p l e R s m args below meth c n0 T h cells slots) {i : Int} (v : Int32) (hd : decode bc pc = .ok (.bipush i, 2)) (pc' : Nat) (hp : pc + 2 = pc') (hv : (Int8.ofInt i).toInt32 = v) (k : G (T.setTop (mkF m pc' ls (.int v :: st)))) : G (T.setTop (mkF m pc ls st)) := by
  obtain ⟨locs, Y, -, -⟩ := X
  subst hp
  subst hv
  exact w.1 _ _ (fun t q => XS.bipush Y.here w.2.1 rfl (hb w.2.2.1 hd) q) k
theorem sipush (w : Wk p l e R s m args below meth c n0 Z own nm bc ml rt Q G) (X : Sd p l e R s m args below meth c n0 T h cells slots) {i : Int} (v : Int32) (hd : decode bc pc = .ok (.sipush i, 3)) (pc' : Nat) (hp : pc + 3 = pc') (hv : (Int16.ofInt i).toInt32 = v) (k : G (T.setTop (mkF m pc' ls (.int v :: st)))) : G (T.setTop (mkF m pc ls st)) := by
  obtain ⟨locs, Y, -, -⟩ := X
  subst hp
  subst hv
  exact w.1 _ _ (fun t q => XS.sipush Y.here w.2.1 rfl (hb w.2.2.1 hd) q) k
theorem lconst (w : Wk p l e R s m args below meth c n0 Z own nm bc ml rt Q G) (X : Sd p l e R s m args below meth c n0 T h cells slots) {i : Fin 2} (v : Int64) (hd : decode bc pc = .ok (.lconst i, 1)) (pc' : Nat) (hp : pc + 1 = pc') (hv : Int64.ofNat i = v) (k : G (T.setTop (mkF m pc' ls (.long v :: st)))) : G (T.setTop (mkF m pc ls st)) := by
  obtain ⟨locs, Y, -, -⟩ := X
  subst hp
  subst hv
  exact w.1 _ _ (fun t q => XS.lconst Y.here w.2.1 rfl (hb w.2.2.1 hd) q) k
theorem aconstNull (w : Wk p l e R s m args below meth c n0 Z own nm bc ml rt Q G) (X : Sd p l e R s m args below meth c n0 T h cells slots)  (hd : decode bc pc = .ok (.aconst_null, 1)) (pc' : Nat) (hp : pc + 1 = pc')  (k : G (T.setTop (mkF m pc' ls (.null :: st)))) : G (T.setTop (mkF m pc ls st)) := by
  obtain ⟨locs, Y, -, -⟩ := X
  subst hp
  exact w.1 _ _ (fun t q => XS.aconstNull Y.here w.2.1 rfl (hb w.2.2.1 hd) q) k
theorem iadd (w : Wk p l e R s m args below meth c n0 Z own nm bc ml rt Q G) (X : Sd p l e R s m args below meth c n0 T h cells slots) {x y : Int32} (z : Int32) (hd : decode bc pc = .ok (.iadd, 1)) (pc' : Nat) (hp : pc + 1 = pc') (hz : z = x + y) (k : G (T.setTop (mkF m pc' ls (.int z :: st)))) : G (T.setTop (mkF m pc ls (.int y :: .int x :: st))) := by
  obtain ⟨locs, Y, -, -⟩ := X
  subst hp
  subst hz
  exact w.1 _ _ (fun t q => XS.iadd Y.here w.2.1 rfl (hb w.2.2.1 hd) rfl q) k
theorem isub (w : Wk p l e R s m args below meth c n0 Z own nm bc ml rt Q G) (X : Sd p l e R s m args below meth c n0 T h cells slots) {x y : Int32} (z : Int32) (hd : decode bc pc = .ok (.isub, 1)) (pc' : Nat) (hp : pc + 1 = pc') (hz : z = x - y) (k : G (T.setTop (mkF m pc' ls (.int z :: st)))) : G (T.setTop (mkF m pc ls (.int y :: .int x :: st))) := by
  obtain ⟨locs, Y, -, -⟩ := X
  subst hp
  subst hz
  exact w.1 _ _ (fun t q => XS.isub Y.here w.2.1 rfl (hb w.2.2.1 hd) rfl q) k
theorem imul (w : Wk p l e R s m args below meth c n0 Z own nm bc ml rt Q G) (X : Sd p l e R s m args below meth c n0 T h cells slots) {x y : Int32} (z : Int32) (hd : decode bc pc = .ok (.imul, 1)) (pc' : Nat) (hp : pc + 1 = pc') (hz : z = x * y) (k : G (T.setTop (mkF m pc' ls (.int z :: st)))) : G (T.setTop (mkF m pc ls (.int y :: .int x :: st))) := by
  obtain ⟨locs, Y, -, -⟩ := X
  subst hp
  subst hz
  exact w.1 _ _ (fun t q => XS.imul Y.here w.2.1 rfl (hb w.2.2.1 hd) rfl q) k
theorem iand (w : Wk p l e R s m args below meth c n0 Z own nm bc ml rt Q G) (X : Sd p l e R s m args below meth c n0 T h cells slots) {x y : Int32} (z : Int32) (hd : decode bc pc = .ok (.iand, 1)) (pc' : Nat) (hp : pc + 1 = pc') (hz : z = x &&& y) (k : G (T.setTop (mkF m pc' ls (.int z :: st)))) : G (T.setTop (mkF m pc ls (.int y :: .int x :: st))) := by
  obtain ⟨locs, Y, -, -⟩ := X
  subst hp
  subst hz
  exact w.1 _ _ (fun t q => XS.iand Y.here w.2.1 rfl (hb w.2.2.1 hd) rfl q) k
theorem ior (w : Wk p l e R s m args below meth c n0 Z own nm bc ml rt Q G) (X : Sd p l e R s m args below meth c n0 T h cells slots) {x y : Int32} (z : Int32) (hd : decode bc pc = .ok (.ior, 1)) (pc' : Nat) (hp : pc + 1 = pc') (hz : z = x ||| y) (k : G (T.setTop (mkF m pc' ls (.int z :: st)))) : G (T.setTop (mkF m pc ls (.int y :: .int x :: st))) := by
  obtain ⟨locs, Y, -, -⟩ := X
  subst hp
  subst hz
  exact w.1 _ _ (fun t q => XS.ior Y.here w.2.1 rfl (hb w.2.2.1 hd) rfl q) k
theorem ixor (w : Wk p l e R s m args below meth c n0 Z own nm bc ml rt Q G) (X : Sd p l e R s m args below meth c n0 T h cells slots) {x y : Int32} (z : Int32) (hd : decode bc pc = .ok (.ixor, 1)) (pc' : Nat) (hp : pc + 1 = pc') (hz : z = x ^^^ y) (k : G (T.setTop (mkF m pc' ls (.int z :: st)))) : G (T.setTop (mkF m pc ls (.int y :: .int x :: st))) := by
  obtain ⟨locs, Y, -, -⟩ := X
  subst hp
  subst hz
  exact w.1 _ _ (fun t q => XS.ixor Y.here w.2.1 rfl (hb w.2.2.1 hd) rfl q) k
theorem ishl (w : Wk p l e R s m args below meth c n0 Z own nm bc ml rt Q G) (X : Sd p l e R s m args below meth c n0 T h cells slots) {x y : Int32} (z : Int32) (hd : decode bc pc = .ok (.ishl, 1)) (pc' : Nat) (hp : pc + 1 = pc') (hz : z = x <<< (y &&& 31)) (k : G (T.setTop (mkF m pc' ls (.int z :: st)))) : G (T.setTop (mkF m pc ls (.int y :: .int x :: st))) := by
  obtain ⟨locs, Y, -, -⟩ := X
  subst hp
  subst hz
  exact w.1 _ _ (fun t q => XS.ishl Y.here w.2.1 rfl (hb w.2.2.1 hd) rfl q) k
theorem ishr (w : Wk p l e R s m args below meth c n0 Z own nm bc ml rt Q G) (X : Sd p l e R s m args below meth c n0 T h cells slots) {x y : Int32} (z : Int32) (hd : decode bc pc = .ok (.ishr, 1)) (pc' : Nat) (hp : pc + 1 = pc') (hz : z = x >>> (y &&& 31)) (k : G (T.setTop (mkF m pc' ls (.int z :: st)))) : G (T.setTop (mkF m pc ls (.int y :: .int x :: st))) := by
  obtain ⟨locs, Y, -, -⟩ := X
  subst hp
  subst hz
  exact w.1 _ _ (fun t q => XS.ishr Y.here w.2.1 rfl (hb w.2.2.1 hd) rfl q) k
theorem iushr (w : Wk p l e R s m args below meth c n0 Z own nm bc ml rt Q G) (X : Sd p l e R s m args below meth c n0 T h cells slots) {x y : Int32} (z : Int32) (hd : decode bc pc = .ok (.iushr, 1)) (pc' : Nat) (hp : pc + 1 = pc') (hz : z = (x.toUInt32 >>> (y &&& 31).toUInt32).toInt32) (k : G (T.setTop (mkF m pc' ls (.int z :: st)))) : G (T.setTop (mkF m pc ls (.int y :: .int x :: st))) := by
  obtain ⟨locs, Y, -, -⟩ := X
  subst hp
  subst hz
  exact w.1 _ _ (fun t q => XS.iushr Y.here w.2.1 rfl (hb w.2.2.1 hd) rfl q) k
theorem irem (w : Wk p l e R s m args below meth c n0 Z own nm bc ml rt Q G) (X : Sd p l e R s m args below meth c n0 T h cells slots) {x y : Int32} (z : Int32) (hd : decode bc pc = .ok (.irem, 1)) (pc' : Nat) (hp : pc + 1 = pc') (hz : z = x % y) (hy : y ≠ 0) (k : G (T.setTop (mkF m pc' ls (.int z :: st)))) : G (T.setTop (mkF m pc ls (.int y :: .int x :: st))) := by
  obtain ⟨locs, Y, -, -⟩ := X
  subst hp
  subst hz
  exact w.1 _ _ (fun t q => Jvm.RoadKit.iremM Y w.2.1 rfl (hb w.2.2.1 hd) rfl hy q) k
theorem idiv (w : Wk p l e R s m args below meth c n0 Z own nm bc ml rt Q G) (X : Sd p l e R s m args below meth c n0 T h cells slots) {x y : Int32} (z : Int32) (hd : decode bc pc = .ok (.idiv, 1)) (pc' : Nat) (hp : pc + 1 = pc') (hz : z = x / y) (hy : y ≠ 0) (k : G (T.setTop (mkF m pc' ls (.int z :: st)))) : G (T.setTop (mkF m pc ls (.int y :: .int x :: st))) := by
  obtain ⟨locs, Y, -, -⟩ := X
  subst hp
  subst hz
  exact w.1 _ _ (fun t q => XS.idiv Y.here w.2.1 rfl (hb w.2.2.1 hd) rfl hy q) k
theorem ineg (w : Wk p l e R s m args below meth c n0 Z own nm bc ml rt Q G) (X : Sd p l e R s m args below meth c n0 T h cells slots) {x : Int32} (z : Int32) (hd : decode bc pc = .ok (.ineg, 1)) (pc' : Nat) (hp : pc + 1 = pc') (hz : z = -x) (k : G (T.setTop (mkF m pc' ls (.int z :: st)))) : G (T.setTop (mkF m pc ls (.int x :: st))) := by
  obtain ⟨locs, Y, -, -⟩ := X
  subst hp
  subst hz
  exact w.1 _ _ (fun t q => XS.ineg Y.here w.2.1 rfl (hb w.2.2.1 hd) rfl q) k
theorem ladd (w : Wk p l e R s m args below meth c n0 Z own nm bc ml rt Q G) (X : Sd p l e R s m args below meth c n0 T h cells slots) {x y : Int64} (z : Int64) (hd : decode bc pc = .ok (.ladd, 1)) (pc' : Nat) (hp : pc + 1 = pc') (hz : z = x + y) (k : G (T.setTop (mkF m pc' ls (.long z :: st)))) : G (T.setTop (mkF m pc ls (.long y :: .long x :: st))) := by
  obtain ⟨locs, Y, -, -⟩ := X
  subst hp
  subst hz
  exact w.1 _ _ (fun t q => XS.ladd Y.here w.2.1 rfl (hb w.2.2.1 hd) rfl q) k
theorem lsub (w : Wk p l e R s m args below meth c n0 Z own nm bc ml rt Q G) (X : Sd p l e R s m args below meth c n0 T h cells slots) {x y : Int64} (z : Int64) (hd : decode bc pc = .ok (.lsub, 1)) (pc' : Nat) (hp : pc + 1 = pc') (hz : z = x - y) (k : G (T.setTop (mkF m pc' ls (.long z :: st)))) : G (T.setTop (mkF m pc ls (.long y :: .long x :: st))) := by
  obtain ⟨locs, Y, -, -⟩ := X
  subst hp
  subst hz
  exact w.1 _ _ (fun t q => XS.lsub Y.here w.2.1 rfl (hb w.2.2.1 hd) rfl q) k
theorem lmul (w : Wk p l e R s m args below meth c n0 Z own nm bc ml rt Q G) (X : Sd p l e R s m args below meth c n0 T h cells slots) {x y : Int64} (z : Int64) (hd : decode bc pc = .ok (.lmul, 1)) (pc' : Nat) (hp : pc + 1 = pc') (hz : z = x * y) (k : G (T.setTop (mkF m pc' ls (.long z :: st)))) : G (T.setTop (mkF m pc ls (.long y :: .long x :: st))) := by
  obtain ⟨locs, Y, -, -⟩ := X
  subst hp
  subst hz
  exact w.1 _ _ (fun t q => XS.lmul Y.here w.2.1 rfl (hb w.2.2.1 hd) rfl q) k
theorem land (w : Wk p l e R s m args below meth c n0 Z own nm bc ml rt Q G) (X : Sd p l e R s m args below meth c n0 T h cells slots) {x y : Int64} (z : Int64) (hd : decode bc pc = .ok (.land, 1)) (pc' : Nat) (hp : pc + 1 = pc') (hz : z = x &&& y) (k : G (T.setTop (mkF m pc' ls (.long z :: st)))) : G (T.setTop (mkF m pc ls (.long y :: .long x :: st))) := by
  obtain ⟨locs, Y, -, -⟩ := X
  subst hp
  subst hz
  exact w.1 _ _ (fun t q => XS.land Y.here w.2.1 rfl (hb w.2.2.1 hd) rfl q) k
theorem lor (w : Wk p l e R s m args below meth c n0 Z own nm bc ml rt Q G) (X : Sd p l e R s m args below meth c n0 T h cells slots) {x y : Int64} (z : Int64) (hd : decode bc pc = .ok (.lor, 1)) (pc' : Nat) (hp : pc + 1 = pc') (hz : z = x ||| y) (k : G (T.setTop (mkF m pc' ls (.long z :: st)))) : G (T.setTop (mkF m pc ls (.long y :: .long x :: st))) := by
  obtain ⟨locs, Y, -, -⟩ := X
  subst hp
  subst hz
  exact w.1 _ _ (fun t q => XS.lor Y.here w.2.1 rfl (hb w.2.2.1 hd) rfl q) k
theorem lxor (w : Wk p l e R s m args below meth c n0 Z own nm bc ml rt Q G) (X : Sd p l e R s m args below meth c n0 T h cells slots) {x y : Int64} (z : Int64) (hd : decode bc pc = .ok (.lxor, 1)) (pc' : Nat) (hp : pc + 1 = pc') (hz : z = x ^^^ y) (k : G (T.setTop (mkF m pc' ls (.long z :: st)))) : G (T.setTop (mkF m pc ls (.long y :: .long x :: st))) := by
  obtain ⟨locs, Y, -, -⟩ := X
  subst hp
  subst hz
  exact w.1 _ _ (fun t q => XS.lxor Y.here w.2.1 rfl (hb w.2.2.1 hd) rfl q) k
theorem lshl (w : Wk p l e R s m args below meth c n0 Z own nm bc ml rt Q G) (X : Sd p l e R s m args below meth c n0 T h cells slots) {x : Int64} {y : Int32} (z : Int64) (hd : decode bc pc = .ok (.lshl, 1)) (pc' : Nat) (hp : pc + 1 = pc') (hz : z = x <<< (y &&& 0x3f).toInt64) (k : G (T.setTop (mkF m pc' ls (.long z :: st)))) : G (T.setTop (mkF m pc ls (.int y :: .long x :: st))) := by
  obtain ⟨locs, Y, -, -⟩ := X
  subst hp
  subst hz
  exact w.1 _ _ (fun t q => XS.lshl Y.here w.2.1 rfl (hb w.2.2.1 hd) rfl q) k
theorem lshr (w : Wk p l e R s m args below meth c n0 Z own nm bc ml rt Q G) (X : Sd p l e R s m args below meth c n0 T h cells slots) {x : Int64} {y : Int32} (z : Int64) (hd : decode bc pc = .ok (.lshr, 1)) (pc' : Nat) (hp : pc + 1 = pc') (hz : z = x >>> (y &&& 0x3f).toInt64) (k : G (T.setTop (mkF m pc' ls (.long z :: st)))) : G (T.setTop (mkF m pc ls (.int y :: .long x :: st))) := by
  obtain ⟨locs, Y, -, -⟩ := X
  subst hp
  subst hz
  exact w.1 _ _ (fun t q => XS.lshr Y.here w.2.1 rfl (hb w.2.2.1 hd) rfl q) k
theorem lushr (w : Wk p l e R s m args below meth c n0 Z own nm bc ml rt Q G) (X : Sd p l e R s m args below meth c n0 T h cells slots) {x : Int64} {y : Int32} (z : Int64) (hd : decode bc pc = .ok (.lushr, 1)) (pc' : Nat) (hp : pc + 1 = pc') (hz : z = (x.toUInt64 >>> (y &&& 0x3f).toInt64.toUInt64).toInt64) (k : G (T.setTop (mkF m pc' ls (.long z :: st)))) : G (T.setTop (mkF m pc ls (.int y :: .long x :: st))) := by
  obtain ⟨locs, Y, -, -⟩ := X
  subst hp
  subst hz
  exact w.1 _ _ (fun t q => XS.lushr Y.here w.2.1 rfl (hb w.2.2.1 hd) rfl q) k
theorem i2b (w : Wk p l e R s m args below meth c n0 Z own nm bc ml rt Q G) (X : Sd p l e R s m args below meth c n0 T h cells slots) {x : Int32} (z : Int32) (hd : decode bc pc = .ok (.i2b, 1)) (pc' : Nat) (hp : pc + 1 = pc') (hz : z = x.toInt8.toInt32) (k : G (T.setTop (mkF m pc' ls (.int z :: st)))) : G (T.setTop (mkF m pc ls (.int x :: st))) := by
  obtain ⟨locs, Y, -, -⟩ := X
  subst hp
  subst hz
  exact w.1 _ _ (fun t q => XS.i2b Y.here w.2.1 rfl (hb w.2.2.1 hd) rfl q) k
theorem i2c (w : Wk p l e R s m args below meth c n0 Z own nm bc ml rt Q G) (X : Sd p l e R s m args below meth c n0 T h cells slots) {x : Int32} (z : Int32) (hd : decode bc pc = .ok (.i2c, 1)) (pc' : Nat) (hp : pc + 1 = pc') (hz : z = x.toUInt32.toUInt16.toUInt32.toInt32) (k : G (T.setTop (mkF m pc' ls (.int z :: st)))) : G (T.setTop (mkF m pc ls (.int x :: st))) := by
  obtain ⟨locs, Y, -, -⟩ := X
  subst hp
  subst hz
  exact w.1 _ _ (fun t q => XS.i2c Y.here w.2.1 rfl (hb w.2.2.1 hd) rfl q) k
theorem i2s (w : Wk p l e R s m args below meth c n0 Z own nm bc ml rt Q G) (X : Sd p l e R s m args below meth c n0 T h cells slots) {x : Int32} (z : Int32) (hd : decode bc pc = .ok (.i2s, 1)) (pc' : Nat) (hp : pc + 1 = pc') (hz : z = x.toInt16.toInt32) (k : G (T.setTop (mkF m pc' ls (.int z :: st)))) : G (T.setTop (mkF m pc ls (.int x :: st))) := by
  obtain ⟨locs, Y, -, -⟩ := X
  subst hp
  subst hz
  exact w.1 _ _ (fun t q => XS.i2s Y.here w.2.1 rfl (hb w.2.2.1 hd) rfl q) k
theorem l2i (w : Wk p l e R s m args below meth c n0 Z own nm bc ml rt Q G) (X : Sd p l e R s m args below meth c n0 T h cells slots) {x : Int64} (z : Int32) (hd : decode bc pc = .ok (.l2i, 1)) (pc' : Nat) (hp : pc + 1 = pc') (hz : z = x.toInt32) (k : G (T.setTop (mkF m pc' ls (.int z :: st)))) : G (T.setTop (mkF m pc ls (.long x :: st))) := by
  obtain ⟨locs, Y, -, -⟩ := X
  subst hp
  subst hz
  exact w.1 _ _ (fun t q => XS.l2i Y.here w.2.1 rfl (hb w.2.2.1 hd) rfl q) k
theorem i2l (w : Wk p l e R s m args below meth c n0 Z own nm bc ml rt Q G) (X : Sd p l e R s m args below meth c n0 T h cells slots) {x : Int32} (z : Int64) (hd : decode bc pc = .ok (.i2l, 1)) (pc' : Nat) (hp : pc + 1 = pc') (hz : z = x.toInt64) (k : G (T.setTop (mkF m pc' ls (.long z :: st)))) : G (T.setTop (mkF m pc ls (.int x :: st))) := by
  obtain ⟨locs, Y, -, -⟩ := X
  subst hp
  subst hz
  exact w.1 _ _ (fun t q => XS.i2l Y.here w.2.1 rfl (hb w.2.2.1 hd) rfl q) k
theorem lcmp (w : Wk p l e R s m args below meth c n0 Z own nm bc ml rt Q G) (X : Sd p l e R s m args below meth c n0 T h cells slots) {x y : Int64} (z : Int32) (hd : decode bc pc = .ok (.lcmp, 1)) (pc' : Nat) (hp : pc + 1 = pc') (hz : z = lcmpW x y) (k : G (T.setTop (mkF m pc' ls (.int z :: st)))) : G (T.setTop (mkF m pc ls (.long y :: .long x :: st))) := by
  obtain ⟨locs, Y, -, -⟩ := X
  subst hp
  subst hz
  exact w.1 _ _ (fun t q => XS.lcmp Y.here w.2.1 rfl (hb w.2.2.1 hd) rfl q) k
theorem dup (w : Wk p l e R s m args below meth c n0 Z own nm bc ml rt Q G) (X : Sd p l e R s m args below meth c n0 T h cells slots) {x : Value} (hd : decode bc pc = .ok (.dup, 1)) (pc' : Nat) (hp : pc + 1 = pc') (hx : x.category = 1) (k : G (T.setTop (mkF m pc' ls (x :: x :: st)))) : G (T.setTop (mkF m pc ls (x :: st))) := by
  obtain ⟨locs, Y, -, -⟩ := X
  subst hp
  exact w.1 _ _ (fun t q => XS.dup Y.here w.2.1 rfl (hb w.2.2.1 hd) rfl hx q) k
theorem dupX1 (w : Wk p l e R s m args below meth c n0 Z own nm bc ml rt Q G) (X : Sd p l e R s m args below meth c n0 T h cells slots) {x y : Value} (hd : decode bc pc = .ok (.dup_x1, 1)) (pc' : Nat) (hp : pc + 1 = pc') (hx : x.category = 1) (hy : y.category = 1) (k : G (T.setTop (mkF m pc' ls (x :: y :: x :: st)))) : G (T.setTop (mkF m pc ls (x :: y :: st))) := by
  obtain ⟨locs, Y, -, -⟩ := X
  subst hp
  exact w.1 _ _ (fun t q => XS.dupX1 Y.here w.2.1 rfl (hb w.2.2.1 hd) rfl hx hy q) k
theorem dup2 (w : Wk p l e R s m args below meth c n0 Z own nm bc ml rt Q G) (X : Sd p l e R s m args below meth c n0 T h cells slots) {x y : Value} (hd : decode bc pc = .ok (.dup2, 1)) (pc' : Nat) (hp : pc + 1 = pc') (hx : x.category = 1) (hy : y.category = 1) (k : G (T.setTop (mkF m pc' ls (x :: y :: x :: y :: st)))) : G (T.setTop (mkF m pc ls (x :: y :: st))) := by
  obtain ⟨locs, Y, -, -⟩ := X
  subst hp
  exact w.1 _ _ (fun t q => XT.dup2 Y.here w.2.1 rfl (hb w.2.2.1 hd) rfl hx hy q) k
theorem popV (w : Wk p l e R s m args below meth c n0 Z own nm bc ml rt Q G) (X : Sd p l e R s m args below meth c n0 T h cells slots) {x : Value} (hd : decode bc pc = .ok (.pop, 1)) (pc' : Nat) (hp : pc + 1 = pc') (hx : x.category = 1) (k : G (T.setTop (mkF m pc' ls st))) : G (T.setTop (mkF m pc ls (x :: st))) := by
  obtain ⟨locs, Y, -, -⟩ := X
  subst hp
  exact w.1 _ _ (fun t q => XS.pop Y.here w.2.1 rfl (hb w.2.2.1 hd) rfl hx q) k
theorem iinc (w : Wk p l e R s m args below meth c n0 Z own nm bc ml rt Q G) (X : Sd p l e R s m args below meth c n0 T h cells slots) {k : Nat} {i : Int} {x : Int32} (z : Int32) (hd : decode bc pc = .ok (.iinc k i, 3)) (pc' : Nat) (hp : pc + 3 = pc') (hl : ls[k]? = some (.val (.int x))) (hz : z = x + Int32.ofInt i) (l' : Array Slot) (hl' : storeLocals ls k (.int z) = some l') (k : G (T.setTop (mkF m pc' l' st))) : G (T.setTop (mkF m pc ls st)) := by
  obtain ⟨locs, Y, -, -⟩ := X
  subst hp
  subst hz
  exact w.1 _ _ (fun t q => XS.iinc Y.here w.2.1 rfl (hb w.2.2.1 hd) hl hl' q) k
theorem goto (w : Wk p l e R s m args below meth c n0 Z own nm bc ml rt Q G) (X : Sd p l e R s m args below meth c n0 T h cells slots) {o : Int} (hd : decode bc pc = .ok (.goto o, 3)) (pc' : Nat) (ho : 0 ≤ (pc : Int) + o) (hp : ((pc : Int) + o).toNat = pc') (k : G (T.setTop (mkF m pc' ls st))) : G (T.setTop (mkF m pc ls st)) := by
  obtain ⟨locs, Y, -, -⟩ := X
  exact w.1 _ _ (fun t q => XS.goto Y.here w.2.1 rfl (pc0 := pc) (pc' := pc') rfl (hb w.2.2.1 hd) ho hp q) k
theorem ldcI (w : Wk p l e R s m args below meth c n0 Z own nm bc ml rt Q G) (X : Sd p l e R s m args below meth c n0 T h cells slots) {i : Nat} {v : Int32} (wc : (Cond.constant own i v).before a0 Z = true) (hd : decode bc pc = .ok (.ldc i, 2)) (pc' : Nat) (hp : pc + 2 = pc') (k : G (T.setTop (mkF m pc' ls (.int v :: st)))) : G (T.setTop (mkF m pc ls st)) := by
  obtain ⟨locs, Y, -, -⟩ := X
  subst hp
  exact w.1 _ _ (Y.ldcInt w.2.1 w.2.2.2.2.2.1 (mvT w.2.2.2.2.1 wc) (g := mkF m pc ls st) rfl (hb w.2.2.1 hd)) k
theorem ldcwI (w : Wk p l e R s m args below meth c n0 Z own nm bc ml rt Q G) (X : Sd p l e R s m args below meth c n0 T h cells slots) {i : Nat} {v : Int32} (wc : (Cond.constant own i v).before a0 Z = true) (hd : decode bc pc = .ok (.ldc_w i, 3)) (pc' : Nat) (hp : pc + 3 = pc') (k : G (T.setTop (mkF m pc' ls (.int v :: st)))) : G (T.setTop (mkF m pc ls st)) := by
  obtain ⟨locs, Y, -, -⟩ := X
  subst hp
  exact w.1 _ _ (Y.ldcwInt w.2.1 w.2.2.2.2.2.1 (mvT w.2.2.2.2.1 wc) (g := mkF m pc ls st) rfl (hb w.2.2.1 hd)) k
theorem ldc2J (w : Wk p l e R s m args below meth c n0 Z own nm bc ml rt Q G) (X : Sd p l e R s m args below meth c n0 T h cells slots) {i : Nat} {v : Int64} (wc : (Cond.constantLong own i v).before a0 Z = true) (hd : decode bc pc = .ok (.ldc2_w i, 3)) (pc' : Nat) (hp : pc + 3 = pc') (k : G (T.setTop (mkF m pc' ls (.long v :: st)))) : G (T.setTop (mkF m pc ls st)) := by
  obtain ⟨locs, Y, -, -⟩ := X
  subst hp
  exact w.1 _ _ (Y.ldc2Long w.2.1 w.2.2.2.2.2.1 (mvT w.2.2.2.2.1 wc) (g := mkF m pc ls st) rfl (hb w.2.2.1 hd)) k
theorem icmp_lt (w : Wk p l e R s m args below meth c n0 Z own nm bc ml rt Q G) (X : Sd p l e R s m args below meth c n0 T h cells slots) {x y : Int32} {o : Int} (hd : decode bc pc = .ok (.if_icmp .lt o, 3)) (pT pF : Nat) (ho : 0 ≤ (pc : Int) + o) (hp : ((pc : Int) + o).toNat = pT) (hq : pc + 3 = pF) (k1 : x < y → G (T.setTop (mkF m pT ls st))) (k2 : ¬ x < y → G (T.setTop (mkF m pF ls st))) : G (T.setTop (mkF m pc ls (.int y :: .int x :: st))) := by
  obtain ⟨locs, Y, -, -⟩ := X
  subst hq
  by_cases q : x < y
  · exact w.1 _ _ (fun t z => XS.icmpYes Y.here w.2.1 rfl (pc0 := pc) (pc' := pT) rfl (hb w.2.2.1 hd) rfl (tlt q).1 ho hp z) (k1 q)
  · exact w.1 _ _ (fun t z => XS.icmpNo Y.here w.2.1 rfl (hb w.2.2.1 hd) rfl (flt q).1 z) (k2 q)
theorem if_lt (w : Wk p l e R s m args below meth c n0 Z own nm bc ml rt Q G) (X : Sd p l e R s m args below meth c n0 T h cells slots) {x : Int32} {o : Int} (hd : decode bc pc = .ok (.ifCond .lt o, 3)) (pT pF : Nat) (ho : 0 ≤ (pc : Int) + o) (hp : ((pc : Int) + o).toNat = pT) (hq : pc + 3 = pF) (k1 : x < 0 → G (T.setTop (mkF m pT ls st))) (k2 : ¬ x < 0 → G (T.setTop (mkF m pF ls st))) : G (T.setTop (mkF m pc ls (.int x :: st))) := by
  obtain ⟨locs, Y, -, -⟩ := X
  subst hq
  by_cases q : x < 0
  · exact w.1 _ _ (fun t z => XS.ifYes Y.here w.2.1 rfl (pc0 := pc) (pc' := pT) rfl (hb w.2.2.1 hd) rfl ((if0 _ _).trans (tlt q).1) ho hp z) (k1 q)
  · exact w.1 _ _ (fun t z => XS.ifNo Y.here w.2.1 rfl (hb w.2.2.1 hd) rfl ((if0 _ _).trans (flt q).1) z) (k2 q)
theorem icmp_ge (w : Wk p l e R s m args below meth c n0 Z own nm bc ml rt Q G) (X : Sd p l e R s m args below meth c n0 T h cells slots) {x y : Int32} {o : Int} (hd : decode bc pc = .ok (.if_icmp .ge o, 3)) (pT pF : Nat) (ho : 0 ≤ (pc : Int) + o) (hp : ((pc : Int) + o).toNat = pT) (hq : pc + 3 = pF) (k1 : ¬ x < y → G (T.setTop (mkF m pT ls st))) (k2 : x < y → G (T.setTop (mkF m pF ls st))) : G (T.setTop (mkF m pc ls (.int y :: .int x :: st))) := by
  obtain ⟨locs, Y, -, -⟩ := X
  subst hq
  by_cases q : x < y
  · exact w.1 _ _ (fun t z => XS.icmpNo Y.here w.2.1 rfl (hb w.2.2.1 hd) rfl (tlt q).2.1 z) (k2 q)
  · exact w.1 _ _ (fun t z => XS.icmpYes Y.here w.2.1 rfl (pc0 := pc) (pc' := pT) rfl (hb w.2.2.1 hd) rfl (flt q).2.1 ho hp z) (k1 q)
theorem if_ge (w : Wk p l e R s m args below meth c n0 Z own nm bc ml rt Q G) (X : Sd p l e R s m args below meth c n0 T h cells slots) {x : Int32} {o : Int} (hd : decode bc pc = .ok (.ifCond .ge o, 3)) (pT pF : Nat) (ho : 0 ≤ (pc : Int) + o) (hp : ((pc : Int) + o).toNat = pT) (hq : pc + 3 = pF) (k1 : ¬ x < 0 → G (T.setTop (mkF m pT ls st))) (k2 : x < 0 → G (T.setTop (mkF m pF ls st))) : G (T.setTop (mkF m pc ls (.int x :: st))) := by
  obtain ⟨locs, Y, -, -⟩ := X
  subst hq
  by_cases q : x < 0
  · exact w.1 _ _ (fun t z => XS.ifNo Y.here w.2.1 rfl (hb w.2.2.1 hd) rfl ((if0 _ _).trans (tlt q).2.1) z) (k2 q)
  · exact w.1 _ _ (fun t z => XS.ifYes Y.here w.2.1 rfl (pc0 := pc) (pc' := pT) rfl (hb w.2.2.1 hd) rfl ((if0 _ _).trans (flt q).2.1) ho hp z) (k1 q)
theorem icmp_gt (w : Wk p l e R s m args below meth c n0 Z own nm bc ml rt Q G) (X : Sd p l e R s m args below meth c n0 T h cells slots) {x y : Int32} {o : Int} (hd : decode bc pc = .ok (.if_icmp .gt o, 3)) (pT pF : Nat) (ho : 0 ≤ (pc : Int) + o) (hp : ((pc : Int) + o).toNat = pT) (hq : pc + 3 = pF) (k1 : y < x → G (T.setTop (mkF m pT ls st))) (k2 : ¬ y < x → G (T.setTop (mkF m pF ls st))) : G (T.setTop (mkF m pc ls (.int y :: .int x :: st))) := by
  obtain ⟨locs, Y, -, -⟩ := X
  subst hq
  by_cases q : y < x
  · exact w.1 _ _ (fun t z => XS.icmpYes Y.here w.2.1 rfl (pc0 := pc) (pc' := pT) rfl (hb w.2.2.1 hd) rfl (tlt q).2.2.1 ho hp z) (k1 q)
  · exact w.1 _ _ (fun t z => XS.icmpNo Y.here w.2.1 rfl (hb w.2.2.1 hd) rfl (flt q).2.2.1 z) (k2 q)
theorem if_gt (w : Wk p l e R s m args below meth c n0 Z own nm bc ml rt Q G) (X : Sd p l e R s m args below meth c n0 T h cells slots) {x : Int32} {o : Int} (hd : decode bc pc = .ok (.ifCond .gt o, 3)) (pT pF : Nat) (ho : 0 ≤ (pc : Int) + o) (hp : ((pc : Int) + o).toNat = pT) (hq : pc + 3 = pF) (k1 : 0 < x → G (T.setTop (mkF m pT ls st))) (k2 : ¬ 0 < x → G (T.setTop (mkF m pF ls st))) : G (T.setTop (mkF m pc ls (.int x :: st))) := by
  obtain ⟨locs, Y, -, -⟩ := X
  subst hq
  by_cases q : 0 < x
  · exact w.1 _ _ (fun t z => XS.ifYes Y.here w.2.1 rfl (pc0 := pc) (pc' := pT) rfl (hb w.2.2.1 hd) rfl ((if0 _ _).trans (tlt q).2.2.1) ho hp z) (k1 q)
  · exact w.1 _ _ (fun t z => XS.ifNo Y.here w.2.1 rfl (hb w.2.2.1 hd) rfl ((if0 _ _).trans (flt q).2.2.1) z) (k2 q)
theorem icmp_le (w : Wk p l e R s m args below meth c n0 Z own nm bc ml rt Q G) (X : Sd p l e R s m args below meth c n0 T h cells slots) {x y : Int32} {o : Int} (hd : decode bc pc = .ok (.if_icmp .le o, 3)) (pT pF : Nat) (ho : 0 ≤ (pc : Int) + o) (hp : ((pc : Int) + o).toNat = pT) (hq : pc + 3 = pF) (k1 : ¬ y < x → G (T.setTop (mkF m pT ls st))) (k2 : y < x → G (T.setTop (mkF m pF ls st))) : G (T.setTop (mkF m pc ls (.int y :: .int x :: st))) := by
  obtain ⟨locs, Y, -, -⟩ := X
  subst hq
  by_cases q : y < x
  · exact w.1 _ _ (fun t z => XS.icmpNo Y.here w.2.1 rfl (hb w.2.2.1 hd) rfl (tlt q).2.2.2 z) (k2 q)
  · exact w.1 _ _ (fun t z => XS.icmpYes Y.here w.2.1 rfl (pc0 := pc) (pc' := pT) rfl (hb w.2.2.1 hd) rfl (flt q).2.2.2 ho hp z) (k1 q)
theorem if_le (w : Wk p l e R s m args below meth c n0 Z own nm bc ml rt Q G) (X : Sd p l e R s m args below meth c n0 T h cells slots) {x : Int32} {o : Int} (hd : decode bc pc = .ok (.ifCond .le o, 3)) (pT pF : Nat) (ho : 0 ≤ (pc : Int) + o) (hp : ((pc : Int) + o).toNat = pT) (hq : pc + 3 = pF) (k1 : ¬ 0 < x → G (T.setTop (mkF m pT ls st))) (k2 : 0 < x → G (T.setTop (mkF m pF ls st))) : G (T.setTop (mkF m pc ls (.int x :: st))) := by
  obtain ⟨locs, Y, -, -⟩ := X
  subst hq
  by_cases q : 0 < x
  · exact w.1 _ _ (fun t z => XS.ifNo Y.here w.2.1 rfl (hb w.2.2.1 hd) rfl ((if0 _ _).trans (tlt q).2.2.2) z) (k2 q)
  · exact w.1 _ _ (fun t z => XS.ifYes Y.here w.2.1 rfl (pc0 := pc) (pc' := pT) rfl (hb w.2.2.1 hd) rfl ((if0 _ _).trans (flt q).2.2.2) ho hp z) (k1 q)
theorem icmp_eq (w : Wk p l e R s m args below meth c n0 Z own nm bc ml rt Q G) (X : Sd p l e R s m args below meth c n0 T h cells slots) {x y : Int32} {o : Int} (hd : decode bc pc = .ok (.if_icmp .eq o, 3)) (pT pF : Nat) (ho : 0 ≤ (pc : Int) + o) (hp : ((pc : Int) + o).toNat = pT) (hq : pc + 3 = pF) (k1 : x = y → G (T.setTop (mkF m pT ls st))) (k2 : ¬ x = y → G (T.setTop (mkF m pF ls st))) : G (T.setTop (mkF m pc ls (.int y :: .int x :: st))) := by
  obtain ⟨locs, Y, -, -⟩ := X
  subst hq
  by_cases q : x = y
  · exact w.1 _ _ (fun t z => XS.icmpYes Y.here w.2.1 rfl (pc0 := pc) (pc' := pT) rfl (hb w.2.2.1 hd) rfl (teq q).1 ho hp z) (k1 q)
  · exact w.1 _ _ (fun t z => XS.icmpNo Y.here w.2.1 rfl (hb w.2.2.1 hd) rfl (feq q).1 z) (k2 q)
theorem if_eq (w : Wk p l e R s m args below meth c n0 Z own nm bc ml rt Q G) (X : Sd p l e R s m args below meth c n0 T h cells slots) {x : Int32} {o : Int} (hd : decode bc pc = .ok (.ifCond .eq o, 3)) (pT pF : Nat) (ho : 0 ≤ (pc : Int) + o) (hp : ((pc : Int) + o).toNat = pT) (hq : pc + 3 = pF) (k1 : x = 0 → G (T.setTop (mkF m pT ls st))) (k2 : ¬ x = 0 → G (T.setTop (mkF m pF ls st))) : G (T.setTop (mkF m pc ls (.int x :: st))) := by
  obtain ⟨locs, Y, -, -⟩ := X
  subst hq
  by_cases q : x = 0
  · exact w.1 _ _ (fun t z => XS.ifYes Y.here w.2.1 rfl (pc0 := pc) (pc' := pT) rfl (hb w.2.2.1 hd) rfl ((if0 _ _).trans (teq q).1) ho hp z) (k1 q)
  · exact w.1 _ _ (fun t z => XS.ifNo Y.here w.2.1 rfl (hb w.2.2.1 hd) rfl ((if0 _ _).trans (feq q).1) z) (k2 q)
theorem icmp_ne (w : Wk p l e R s m args below meth c n0 Z own nm bc ml rt Q G) (X : Sd p l e R s m args below meth c n0 T h cells slots) {x y : Int32} {o : Int} (hd : decode bc pc = .ok (.if_icmp .ne o, 3)) (pT pF : Nat) (ho : 0 ≤ (pc : Int) + o) (hp : ((pc : Int) + o).toNat = pT) (hq : pc + 3 = pF) (k1 : ¬ x = y → G (T.setTop (mkF m pT ls st))) (k2 : x = y → G (T.setTop (mkF m pF ls st))) : G (T.setTop (mkF m pc ls (.int y :: .int x :: st))) := by
  obtain ⟨locs, Y, -, -⟩ := X
  subst hq
  by_cases q : x = y
  · exact w.1 _ _ (fun t z => XS.icmpNo Y.here w.2.1 rfl (hb w.2.2.1 hd) rfl (teq q).2 z) (k2 q)
  · exact w.1 _ _ (fun t z => XS.icmpYes Y.here w.2.1 rfl (pc0 := pc) (pc' := pT) rfl (hb w.2.2.1 hd) rfl (feq q).2 ho hp z) (k1 q)
theorem if_ne (w : Wk p l e R s m args below meth c n0 Z own nm bc ml rt Q G) (X : Sd p l e R s m args below meth c n0 T h cells slots) {x : Int32} {o : Int} (hd : decode bc pc = .ok (.ifCond .ne o, 3)) (pT pF : Nat) (ho : 0 ≤ (pc : Int) + o) (hp : ((pc : Int) + o).toNat = pT) (hq : pc + 3 = pF) (k1 : ¬ x = 0 → G (T.setTop (mkF m pT ls st))) (k2 : x = 0 → G (T.setTop (mkF m pF ls st))) : G (T.setTop (mkF m pc ls (.int x :: st))) := by
  obtain ⟨locs, Y, -, -⟩ := X
  subst hq
  by_cases q : x = 0
  · exact w.1 _ _ (fun t z => XS.ifNo Y.here w.2.1 rfl (hb w.2.2.1 hd) rfl ((if0 _ _).trans (teq q).2) z) (k2 q)
  · exact w.1 _ _ (fun t z => XS.ifYes Y.here w.2.1 rfl (pc0 := pc) (pc' := pT) rfl (hb w.2.2.1 hd) rfl ((if0 _ _).trans (feq q).2) ho hp z) (k1 q)
theorem acmp_eq (w : Wk p l e R s m args below meth c n0 Z own nm bc ml rt Q G) (X : Sd p l e R s m args below meth c n0 T h cells slots) {x y : Value} (hx : x.isRef = true) (hy : y.isRef = true) {o : Int} (hd : decode bc pc = .ok (.if_acmp .eq o, 3)) (pT pF : Nat) (ho : 0 ≤ (pc : Int) + o) (hp : ((pc : Int) + o).toNat = pT) (hq : pc + 3 = pF) (k1 : x = y → G (T.setTop (mkF m pT ls st))) (k2 : ¬ x = y → G (T.setTop (mkF m pF ls st))) : G (T.setTop (mkF m pc ls (y :: x :: st))) := by
  obtain ⟨locs, Y, -, -⟩ := X
  subst hq
  by_cases q : x = y
  · exact w.1 _ _ (fun t z => Jvm.RoadKit.acmp (g := mkF m pc ls (y :: x :: st)) Y w.2.1 rfl hx hy (pc0 := pc) (pc' := pT) (same := true) rfl (hb w.2.2.1 hd) rfl (decide_eq_true q) ho (by simp [acV]; omega) z) (k1 q)
  · exact w.1 _ _ (fun t z => Jvm.RoadKit.acmp (g := mkF m pc ls (y :: x :: st)) Y w.2.1 rfl hx hy (pc0 := pc) (pc' := pc + 3) (same := false) rfl (hb w.2.2.1 hd) rfl (decide_eq_false q) ho (by simp [acV]) z) (k2 q)
theorem acmp_ne (w : Wk p l e R s m args below meth c n0 Z own nm bc ml rt Q G) (X : Sd p l e R s m args below meth c n0 T h cells slots) {x y : Value} (hx : x.isRef = true) (hy : y.isRef = true) {o : Int} (hd : decode bc pc = .ok (.if_acmp .ne o, 3)) (pT pF : Nat) (ho : 0 ≤ (pc : Int) + o) (hp : ((pc : Int) + o).toNat = pT) (hq : pc + 3 = pF) (k1 : ¬ x = y → G (T.setTop (mkF m pT ls st))) (k2 : x = y → G (T.setTop (mkF m pF ls st))) : G (T.setTop (mkF m pc ls (y :: x :: st))) := by
  obtain ⟨locs, Y, -, -⟩ := X
  subst hq
  by_cases q : x = y
  · exact w.1 _ _ (fun t z => Jvm.RoadKit.acmp (g := mkF m pc ls (y :: x :: st)) Y w.2.1 rfl hx hy (pc0 := pc) (pc' := pc + 3) (same := true) rfl (hb w.2.2.1 hd) rfl (decide_eq_true q) ho (by simp [acV]) z) (k2 q)
  · exact w.1 _ _ (fun t z => Jvm.RoadKit.acmp (g := mkF m pc ls (y :: x :: st)) Y w.2.1 rfl hx hy (pc0 := pc) (pc' := pT) (same := false) rfl (hb w.2.2.1 hd) rfl (decide_eq_false q) ho (by simp [acV]; omega) z) (k1 q)
theorem ifnull_ref (w : Wk p l e R s m args below meth c n0 Z own nm bc ml rt Q G) (X : Sd p l e R s m args below meth c n0 T h cells slots) {b : Addr} {o : Int} (hd : decode bc pc = .ok (.ifnull o, 3)) (pF : Nat) (hq : pc + 3 = pF) (k : G (T.setTop (mkF m pF ls st))) : G (T.setTop (mkF m pc ls (.ref b :: st))) := by
  obtain ⟨locs, Y, -, -⟩ := X
  subst hq
  exact w.1 _ _ (fun t z => XS.ifnullNo Y.here w.2.1 rfl (hb w.2.2.1 hd) rfl z) k
theorem ifnull_null (w : Wk p l e R s m args below meth c n0 Z own nm bc ml rt Q G) (X : Sd p l e R s m args below meth c n0 T h cells slots) {o : Int} (hd : decode bc pc = .ok (.ifnull o, 3)) (pT : Nat) (ho : 0 ≤ (pc : Int) + o) (hp : ((pc : Int) + o).toNat = pT) (k : G (T.setTop (mkF m pT ls st))) : G (T.setTop (mkF m pc ls (.null :: st))) := by
  obtain ⟨locs, Y, -, -⟩ := X
  exact w.1 _ _ (fun t z => XS.ifnullYes Y.here w.2.1 rfl (pc0 := pc) (pc' := pT) rfl (hb w.2.2.1 hd) rfl ho hp z) k
theorem ifnonnull_ref (w : Wk p l e R s m args below meth c n0 Z own nm bc ml rt Q G) (X : Sd p l e R s m args below meth c n0 T h cells slots) {b : Addr} {o : Int} (hd : decode bc pc = .ok (.ifnonnull o, 3)) (pT : Nat) (ho : 0 ≤ (pc : Int) + o) (hp : ((pc : Int) + o).toNat = pT) (k : G (T.setTop (mkF m pT ls st))) : G (T.setTop (mkF m pc ls (.ref b :: st))) := by
  obtain ⟨locs, Y, -, -⟩ := X
  exact w.1 _ _ (fun t z => XT.ifnonnullYes Y.here w.2.1 rfl (pc0 := pc) (pc' := pT) rfl (hb w.2.2.1 hd) rfl ho hp z) k
theorem ifnonnull_null (w : Wk p l e R s m args below meth c n0 Z own nm bc ml rt Q G) (X : Sd p l e R s m args below meth c n0 T h cells slots) {o : Int} (hd : decode bc pc = .ok (.ifnonnull o, 3)) (pF : Nat) (hq : pc + 3 = pF) (k : G (T.setTop (mkF m pF ls st))) : G (T.setTop (mkF m pc ls (.null :: st))) := by
  obtain ⟨locs, Y, -, -⟩ := X
  subst hq
  exact w.1 _ _ (fun t z => XT.ifnonnullNo Y.here w.2.1 rfl (hb w.2.2.1 hd) rfl z) k
theorem lswHit (w : Wk p l e R s m args below meth c n0 Z own nm bc ml rt Q G) (X : Sd p l e R s m args below meth c n0 T h cells slots) {i : Int32} {df : Int} {ps : Array (Int × Int)} {len : Nat} (hd : decode bc pc = .ok (.lookupswitch df ps, len)) (hs : (ps.toList.zip (ps.toList.drop 1)).all (fun (a, next) => a.1 < next.1) = true) {a off : Int} (pc' : Nat) (hf : ps.find? (·.1 == i.toInt) = some (a, off)) (ho : 0 ≤ (pc : Int) + off) (hp : ((pc : Int) + off).toNat = pc') (k : G (T.setTop (mkF m pc' ls st))) : G (T.setTop (mkF m pc ls (.int i :: st))) := by
  obtain ⟨locs, Y, -, -⟩ := X
  subst hp
  exact w.1 _ _ (fun t z => Y.lookupswitchHit w.2.1 (g := mkF m pc ls (.int i :: st)) rfl rfl (hb w.2.2.1 hd) hs hf ho t z) k
theorem lswMiss (w : Wk p l e R s m args below meth c n0 Z own nm bc ml rt Q G) (X : Sd p l e R s m args below meth c n0 T h cells slots) {i : Int32} {df : Int} {ps : Array (Int × Int)} {len : Nat} (hd : decode bc pc = .ok (.lookupswitch df ps, len)) (hs : (ps.toList.zip (ps.toList.drop 1)).all (fun (a, next) => a.1 < next.1) = true) (pc' : Nat) (hf : ps.find? (·.1 == i.toInt) = none) (ho : 0 ≤ (pc : Int) + df) (hp : ((pc : Int) + df).toNat = pc') (k : G (T.setTop (mkF m pc' ls st))) : G (T.setTop (mkF m pc ls (.int i :: st))) := by
  obtain ⟨locs, Y, -, -⟩ := X
  subst hp
  exact w.1 _ _ (fun t z => Y.lookupswitchMiss w.2.1 (g := mkF m pc ls (.int i :: st)) rfl rfl (hb w.2.2.1 hd) hs hf ho t z) k
theorem tswIn (w : Wk p l e R s m args below meth c n0 Z own nm bc ml rt Q G) (X : Sd p l e R s m args below meth c n0 T h cells slots) {i : Int32} {df lo hi : Int} {ofs : Array Int} {len : Nat} (hd : decode bc pc = .ok (.tableswitch df lo hi ofs, len)) (pc' : Nat) {off : Int} (hin : ¬ (i.toInt < lo ∨ i.toInt > hi)) (hoff : ofs[(i.toInt - lo).toNat]? = some off) (ho : 0 ≤ (pc : Int) + off) (hp : ((pc : Int) + off).toNat = pc') (k : G (T.setTop (mkF m pc' ls st))) : G (T.setTop (mkF m pc ls (.int i :: st))) := by
  obtain ⟨locs, Y, -, -⟩ := X
  exact w.1 _ _ (fun t z => XS.tswIn Y.here w.2.1 rfl (pc0 := pc) (pc' := pc') rfl (hb w.2.2.1 hd) rfl hin hoff ho hp z) k
theorem tswOut (w : Wk p l e R s m args below meth c n0 Z own nm bc ml rt Q G) (X : Sd p l e R s m args below meth c n0 T h cells slots) {i : Int32} {df lo hi : Int} {ofs : Array Int} {len : Nat} (hd : decode bc pc = .ok (.tableswitch df lo hi ofs, len)) (pc' : Nat) (hout : i.toInt < lo ∨ i.toInt > hi) (ho : 0 ≤ (pc : Int) + df) (hp : ((pc : Int) + df).toNat = pc') (k : G (T.setTop (mkF m pc' ls st))) : G (T.setTop (mkF m pc ls (.int i :: st))) := by
  obtain ⟨locs, Y, -, -⟩ := X
  exact w.1 _ _ (fun t z => XS.tswOut Y.here w.2.1 rfl (pc0 := pc) (pc' := pc') rfl (hb w.2.2.1 hd) rfl hout ho hp z) k
theorem retI (w : Wk p l e R s m args below meth c n0 Z own nm bc ml rt Q G) (X : Sd p l e R s m args below meth c n0 T h cells slots) {z : Int32} (hrt : rt = some .int) (hd : decode bc pc = .ok (.ireturn, 1)) (hc : cells ≤ R.cells) (hl : slots ≤ R.slots) (k : Q (some (.int z)) h) : G (T.setTop (mkF m pc ls (.int z :: st))) := by
  have hr : meth.sig.returnType = some .int := w.2.2.2.2.2.2.1.trans hrt
  refine w.2.2.2.2.2.2.2.2 T h cells slots (some (.int z)) X hc hl (fun q => by rw [hr] at q; cases q) k _ (fun fs hfs => ?_)
  obtain ⟨locs, Y, -, -⟩ := X
  exact retOut Y w.2.1 hr rfl (Or.inl ⟨rfl, Or.inl rfl, z, rfl⟩) (hb w.2.2.1 hd) hfs
theorem retN (w : Wk p l e R s m args below meth c n0 Z own nm bc ml rt Q G) (X : Sd p l e R s m args below meth c n0 T h cells slots) {z : Int32} {t : FieldType} (hrt : rt = some t) (ht : t = .boolean ∨ t = .byte ∨ t = .char ∨ t = .short) (hd : decode bc pc = .ok (.ireturn, 1)) (hc : cells ≤ R.cells) (hl : slots ≤ R.slots) (k : Q (some (.int (nar t z))) h) : G (T.setTop (mkF m pc ls (.int z :: st))) := by
  have hr : meth.sig.returnType = some t := w.2.2.2.2.2.2.1.trans hrt
  refine w.2.2.2.2.2.2.2.2 T h cells slots (some (.int (nar t z))) X hc hl (fun q => by rw [hr] at q; cases q) k _ (fun fs hfs => ?_)
  obtain ⟨locs, Y, -, -⟩ := X
  exact Jvm.RoadKit.retN Y w.2.1 hr ht (hb w.2.2.1 hd) hfs
theorem retJ (w : Wk p l e R s m args below meth c n0 Z own nm bc ml rt Q G) (X : Sd p l e R s m args below meth c n0 T h cells slots) {z : Int64} (hrt : rt = some .long) (hd : decode bc pc = .ok (.lreturn, 1)) (hc : cells ≤ R.cells) (hl : slots ≤ R.slots) (k : Q (some (.long z)) h) : G (T.setTop (mkF m pc ls (.long z :: st))) := by
  have hr : meth.sig.returnType = some .long := w.2.2.2.2.2.2.1.trans hrt
  refine w.2.2.2.2.2.2.2.2 T h cells slots (some (.long z)) X hc hl (fun q => by rw [hr] at q; cases q) k _ (fun fs hfs => ?_)
  obtain ⟨locs, Y, -, -⟩ := X
  exact retOut Y w.2.1 hr rfl (Or.inr (Or.inl ⟨rfl, rfl, z, rfl⟩)) (hb w.2.2.1 hd) hfs
theorem retA (w : Wk p l e R s m args below meth c n0 Z own nm bc ml rt Q G) (X : Sd p l e R s m args below meth c n0 T h cells slots) {z : Value} {t : FieldType} (hrt : rt = some t) (ht : t.isReference = true) (hz : z.isRef = true) (hd : decode bc pc = .ok (.areturn, 1)) (hc : cells ≤ R.cells) (hl : slots ≤ R.slots) (k : Q (some z) h) : G (T.setTop (mkF m pc ls (z :: st))) := by
  have hr : meth.sig.returnType = some t := w.2.2.2.2.2.2.1.trans hrt
  refine w.2.2.2.2.2.2.2.2 T h cells slots (some z) X hc hl (fun q => by rw [hr] at q; cases q) k _ (fun fs hfs => ?_)
  obtain ⟨locs, Y, -, -⟩ := X
  refine retOut Y w.2.1 hr ?_ (Or.inr (Or.inr (Or.inr (Or.inr ⟨rfl, ht, hz⟩)))) (hb w.2.2.1 hd) hfs
  rcases ref_cases hz with rfl | ⟨a, rfl⟩ <;> cases t <;> first | rfl | (cases ht; done)
theorem retV (w : Wk p l e R s m args below meth c n0 Z own nm bc ml rt Q G) (X : Sd p l e R s m args below meth c n0 T h cells slots) (hrt : rt = none) (hd : decode bc pc = .ok (.return_, 1)) (hc : cells ≤ R.cells) (hl : slots ≤ R.slots) (k : Q none h) : G (T.setTop (mkF m pc ls [])) := by
  have hr : meth.sig.returnType = none := w.2.2.2.2.2.2.1.trans hrt
  refine w.2.2.2.2.2.2.2.2 T h cells slots none X hc hl (fun _ => rfl) k _ (fun fs hfs => ?_)
  obtain ⟨locs, Y, -, -⟩ := X
  exact Y.returnOut w.2.1 hr (hb w.2.2.1 hd) hfs
theorem getfield (w : Wk p l e R s m args below meth c n0 Z own nm bc ml rt Q G) (X : Sd p l e R s m args below meth c n0 T h cells slots) {R0 O n d : String} {i : Nat} {a : Addr} {v : Value} (wl : (Cond.fieldLink own i R0 n d).before a0 Z = true) (via : Via Z R0 O n d) (F : Fld Z h a O n d v) (hd : decode bc pc = .ok (.getfield i, 3)) (pc' : Nat) (hp : pc + 3 = pc') (k : ∀ T' : State, Sd p l e R s m args below meth c n0 T' h cells slots → G (T'.setTop (mkF m pc' ls (v :: st)))) : G (T.setTop (mkF m pc ls (.ref a :: st))) := by
  obtain ⟨locs, Y, N, eT⟩ := X
  subst hp
  obtain ⟨T', Y', e', q⟩ := getF Y w.2.1 w.2.2.2.2.1 (host := "") w.2.2.2.2.2.1 (Or.inl wl) via eT F (g := mkF m pc ls (.ref a :: st)) rfl rfl (hb w.2.2.1 hd)
  exact w.1 _ _ q (k T' ⟨locs, Y', N, e'⟩)
theorem getfieldNest (w : Wk p l e R s m args below meth c n0 Z own nm bc ml rt Q G) (X : Sd p l e R s m args below meth c n0 T h cells slots) {R0 O n d host : String} {i : Nat} {a : Addr} {v : Value} (wl : (Cond.fieldLinkNest own i R0 n d host).before a0 Z = true) (via : Via Z R0 O n d) (F : Fld Z h a O n d v) (hd : decode bc pc = .ok (.getfield i, 3)) (pc' : Nat) (hp : pc + 3 = pc') (k : ∀ T' : State, Sd p l e R s m args below meth c n0 T' h cells slots → G (T'.setTop (mkF m pc' ls (v :: st)))) : G (T.setTop (mkF m pc ls (.ref a :: st))) := by
  obtain ⟨locs, Y, N, eT⟩ := X
  subst hp
  obtain ⟨T', Y', e', q⟩ := getF Y w.2.1 w.2.2.2.2.1 w.2.2.2.2.2.1 (Or.inr wl) via eT F (g := mkF m pc ls (.ref a :: st)) rfl rfl (hb w.2.2.1 hd)
  exact w.1 _ _ q (k T' ⟨locs, Y', N, e'⟩)
theorem getstatic (w : Wk p l e R s m args below meth c n0 Z own nm bc ml rt Q G) (X : Sd p l e R s m args below meth c n0 T h cells slots) {R0 O n d : String} {i : Nat} {v : Value} (wl : (Cond.fieldLink own i R0 n d).before a0 Z = true) (via : Via Z R0 O n d) (F : Sta Z h O n d v) (hd : decode bc pc = .ok (.getstatic i, 3)) (pc' : Nat) (hp : pc + 3 = pc') (k : ∀ T' : State, Sd p l e R s m args below meth c n0 T' h cells slots → G (T'.setTop (mkF m pc' ls (v :: st)))) : G (T.setTop (mkF m pc ls st)) := by
  obtain ⟨locs, Y, N, eT⟩ := X
  subst hp
  obtain ⟨T', Y', e', q⟩ := getS2 (host := "") Y w.2.1 w.2.2.2.2.1 w.2.2.2.2.2.1 (Or.inl wl) via eT F (g := mkF m pc ls st) rfl (hb w.2.2.1 hd)
  exact w.1 _ _ q (k T' ⟨locs, Y', N, e'⟩)
theorem getstaticNest (w : Wk p l e R s m args below meth c n0 Z own nm bc ml rt Q G) (X : Sd p l e R s m args below meth c n0 T h cells slots) {R0 O n d host : String} {i : Nat} {v : Value} (wl : (Cond.fieldLinkNest own i R0 n d host).before a0 Z = true) (via : Via Z R0 O n d) (F : Sta Z h O n d v) (hd : decode bc pc = .ok (.getstatic i, 3)) (pc' : Nat) (hp : pc + 3 = pc') (k : ∀ T' : State, Sd p l e R s m args below meth c n0 T' h cells slots → G (T'.setTop (mkF m pc' ls (v :: st)))) : G (T.setTop (mkF m pc ls st)) := by
  obtain ⟨locs, Y, N, eT⟩ := X
  subst hp
  obtain ⟨T', Y', e', q⟩ := getS2 Y w.2.1 w.2.2.2.2.1 w.2.2.2.2.2.1 (Or.inr wl) via eT F (g := mkF m pc ls st) rfl (hb w.2.2.1 hd)
  exact w.1 _ _ q (k T' ⟨locs, Y', N, e'⟩)
theorem checkcast (w : Wk p l e R s m args below meth c n0 Z own nm bc ml rt Q G) (X : Sd p l e R s m args below meth c n0 T h cells slots) {K : String} {i : Nat} {a : Addr} (wl : (Cond.classLink own i K).before a0 Z = true) (F : Ins Z h a K true) (hd : decode bc pc = .ok (.checkcast i, 3)) (pc' : Nat) (hp : pc + 3 = pc') (k : ∀ T' : State, Sd p l e R s m args below meth c n0 T' h cells slots → G (T'.setTop (mkF m pc' ls (.ref a :: st)))) : G (T.setTop (mkF m pc ls (.ref a :: st))) := by
  obtain ⟨locs, Y, N, eT⟩ := X
  subst hp
  obtain ⟨T', Y', e', q⟩ := castY Y w.2.1 w.2.2.2.2.1 w.2.2.2.2.2.1 wl eT F (g := mkF m pc ls (.ref a :: st)) rfl rfl (hb w.2.2.1 hd)
  exact w.1 _ _ q (k T' ⟨locs, Y', N, e'⟩)
theorem putfield (w : Wk p l e R s m args below meth c n0 Z own nm bc ml rt Q G) (X : Sd p l e R s m args below meth c n0 T h cells slots) {R0 O n d C : String} {i kk : Nat} {ty : FieldType} {a : Addr} {v old : Value} (wl : (Cond.fieldLink own i R0 n d).before a0 Z = true) (via : Via Z R0 O n d) (F : Fld Z h a O n d old) (E : Exa Z h a C) (L : (Cond.lays C O n d).before a0 Z = true ∨ ((Cond.laysFinal C O n d).before a0 Z = true ∧ own = O ∧ nm = "<init>")) (wi : (Cond.instantiable C kk).before a0 Z = true) (hty : parseFieldDescriptor d = some ty) (hn : narrow ty v = v) (hf : fits ty v = true) (ha : n0 ≤ a) (hd : decode bc pc = .ok (.putfield i, 3)) (pc' : Nat) (hp : pc + 3 = pc')
    (k : ∀ (T' : State) (h' : Heap), Sd p l e R s m args below meth c n0 T' h' cells slots → Wr h h' a (Jvm.RoadKit.slotOf Z O n d) v → G (T'.setTop (mkF m pc' ls st))) : G (T.setTop (mkF m pc ls (v :: .ref a :: st))) := by
  obtain ⟨locs, Y, N, eT⟩ := X
  subst hp
  obtain ⟨T', h', Y', e', W', q⟩ := putF Y w.2.1 w.2.2.2.2.1 (host := "") w.2.2.2.2.2.1 (Or.inl wl) via eT F E (L.imp id fun z => ⟨z.1, z.2.1, w.2.2.2.2.2.2.2.1.trans z.2.2⟩) wi hty hn hf (g := mkF m pc ls (v :: .ref a :: st)) rfl rfl (hb w.2.2.1 hd)
  exact w.1 _ _ q (k T' h' ⟨_, Y', Fr.snoc Y' N ha, e'⟩ W')
theorem putfieldN (w : Wk p l e R s m args below meth c n0 Z own nm bc ml rt Q G) (X : Sd p l e R s m args below meth c n0 T h cells slots) {R0 O n d C : String} {i kk : Nat} {ty : FieldType} {a : Addr} {v v' old : Value} (wl : (Cond.fieldLink own i R0 n d).before a0 Z = true) (via : Via Z R0 O n d) (F : Fld Z h a O n d old) (E : Exa Z h a C) (L : (Cond.lays C O n d).before a0 Z = true ∨ ((Cond.laysFinal C O n d).before a0 Z = true ∧ own = O ∧ nm = "<init>")) (wi : (Cond.instantiable C kk).before a0 Z = true) (hty : parseFieldDescriptor d = some ty) (hn : narrow ty v = v') (hf : fits ty v' = true) (ha : n0 ≤ a) (hd : decode bc pc = .ok (.putfield i, 3)) (pc' : Nat) (hp : pc + 3 = pc')
    (k : ∀ (T' : State) (h' : Heap), Sd p l e R s m args below meth c n0 T' h' cells slots → Wr h h' a (Jvm.RoadKit.slotOf Z O n d) v' → G (T'.setTop (mkF m pc' ls st))) : G (T.setTop (mkF m pc ls (v :: .ref a :: st))) := by
  obtain ⟨locs, Y, N, eT⟩ := X
  subst hp
  obtain ⟨T', h', Y', e', W', q⟩ := putFN Y w.2.1 w.2.2.2.2.1 w.2.2.2.2.2.1 wl via eT F E (L.imp id fun z => ⟨z.1, z.2.1, w.2.2.2.2.2.2.2.1.trans z.2.2⟩) wi hty hn hf (g := mkF m pc ls (v :: .ref a :: st)) rfl rfl (hb w.2.2.1 hd)
  exact w.1 _ _ q (k T' h' ⟨_, Y', Fr.snoc Y' N ha, e'⟩ W')
theorem new (w : Wk p l e R s m args below meth c n0 Z own nm bc ml rt Q G) (X : Sd p l e R s m args below meth c n0 T h cells slots) {C : String} {i n : Nat} (wl : (Cond.classLink own i C).before a0 Z = true) (wi : (Cond.instantiable C n).before a0 Z = true) (wz : (Cond.initialized C).before a0 Z = true) (hd : decode bc pc = .ok (.new i, 3)) (pc' : Nat) (hp : pc + 3 = pc') (hc : cells + 1 ≤ R.cells) (hl : slots + n ≤ R.slots)
    (k : ∀ (T' : State) (h' : Heap) (a : Addr), Sd p l e R s m args below meth c n0 T' h' (cells + 1) (slots + n) → a = h.size → Ext h h' → Exa Z h' a C → (∀ {O nm d : String} {ty : FieldType}, Laid Z a0 C O nm d → parseFieldDescriptor d = some ty → Fld Z h' a O nm d (defaultValue ty)) → G (T'.setTop (mkF m pc' ls (.ref a :: st)))) : G (T.setTop (mkF m pc ls st)) := by
  obtain ⟨locs, Y, N, eT⟩ := X
  subst hp
  obtain ⟨T', h', Y', e', E', A', D', -, q⟩ := newO Y w.2.1 w.2.2.2.2.1 w.2.2.2.2.2.1 wl wi wz eT (g := mkF m pc ls st) rfl (hb w.2.2.1 hd) hc hl
  exact w.1 _ _ q (k T' h' _ ⟨locs, Y', N, e'⟩ rfl E' A' D')
theorem newarr (w : Wk p l e R s m args below meth c n0 Z own nm bc ml rt Q G) (X : Sd p l e R s m args below meth c n0 T h cells slots) {aty : ArrayType} {n : Int32} (wa : (Cond.arrayClass (newarray.typeOf aty)).before a0 Z = true) (hd : decode bc pc = .ok (.newarray aty, 2)) (pc' : Nat) (hp : pc + 2 = pc') (hn : ¬ n < 0) (cap : Nat) (hcap : n.toNatClampNeg ≤ cap) (hb' : cap * 8 ≤ 536870912) (hc : cells + 1 ≤ R.cells) (hl : slots + cap ≤ R.slots)
    (k : ∀ (T' : State) (h' : Heap) (a : Addr) (cA : ClassId), Sd p l e R s m args below meth c n0 T' h' (cells + 1) (slots + cap) → a = h.size → Ext h h' → Arr Z h' a (newA cA (newarray.typeOf aty) n) (newarray.typeOf aty) → G (T'.setTop (mkF m pc' ls (.ref a :: st)))) : G (T.setTop (mkF m pc ls (.int n :: st))) := by
  obtain ⟨locs, Y, N, eT⟩ := X
  subst hp
  obtain ⟨T', h', cA, Y', e', E', A', q⟩ := newP Y w.2.1 w.2.2.2.2.1 wa eT (g := mkF m pc ls (.int n :: st)) rfl (hb w.2.2.1 hd) rfl hn hcap hb' hc hl
  exact w.1 _ _ q (k T' h' _ cA ⟨locs, Y', N, e'⟩ rfl E' A')
theorem initObj (w : Wk p l e R s m args below meth c n0 Z own nm bc ml rt Q G) (X : Sd p l e R s m args below meth c n0 T h cells slots) {i : Nat} {a : Addr} (w1 : (Cond.methodLink own i Lib.objectInit).before a0 Z = true) (w2 : (Cond.instanceMethod Lib.objectInit).before a0 Z = true) (w3 : (Cond.code Lib.objectInit ⟨#[0xb1]⟩ 1 none).before a0 Z = true) (hd : decode bc pc = .ok (.invokespecial i, 3)) (pc' : Nat) (hp : pc + 3 = pc') (hsz : ls.size = ml) (hf : 1 ≤ R.frames) (Wd : Nat) (hW : (st.map fun v => v.category).sum ≤ Wd) (hl : Wd + 12 ≤ R.locals)
    (k : ∀ T' : State, Sd p l e R s m args below meth c n0 T' h cells slots → G (T'.setTop (mkF m pc' ls st))) : G (T.setTop (mkF m pc ls (.ref a :: st))) := by
  obtain ⟨locs, Y, N, eT⟩ := X
  subst hp
  obtain ⟨T', Y', e', q⟩ := initO Y w.2.1 w.2.2.2.2.1 w.2.2.2.2.2.1 w1 w2 w3 eT (g := mkF m pc ls (.ref a :: st)) rfl (hsz.trans w.2.2.2.1.symm) rfl (hb w.2.2.1 hd) hf (W := Wd) (by show 2 * 0 + _ ≤ _; omega) hl
  exact w.1 _ _ q (k T' ⟨locs, Y', N, e'⟩)
theorem callS (w : Wk p l e R s m args below meth c n0 Z own nm bc ml rt Q G) (X : Sd p l e R s m args below meth c n0 T h cells slots) {y : MethodName} {ybc : ByteArray} {yml : Nat} {yrt : Option FieldType} {rm : Room} {i : Nat} {sk : List Value} {Qy : Option Value → Heap → Prop} (av : List Value) (w1 : (Cond.methodLink own i y).before a0 Z = true) (w2 : (Cond.static y).before a0 Z = true) (w3 : (Cond.initialized y.cls).before a0 Z = true) (w4 : (Cond.code y ybc yml yrt).before a0 Z = true) (hy : y.cls ≠ "java/lang/invoke/MethodHandle" ∧ y.cls ≠ "java/lang/invoke/VarHandle") (hM : Met l Z y ybc yml yrt [] rm av.toArray h n0 Qy) (hd : decode bc pc = .ok (.invokestatic i, 3)) (pc' : Nat) (hp : pc + 3 = pc') (Wd : Nat) (hfr : rm.frames + 1 ≤ R.frames) (hlo : Wd + (yml + 11) + rm.locals ≤ R.locals) (hlen : ∀ sig, parseMethodDescriptor y.desc = some sig → av.length = sig.parameters.length) (hst : sk = av.reverse ++ st) (hW : (st.map fun v => v.category).sum ≤ Wd) (hsz : ls.size = ml) (hc : cells + rm.cells ≤ R.cells) (hs : slots + rm.slots ≤ R.slots) (k : ∀ (v : Option Value) (T' : State) (h' : Heap), Sd p l e R s m args below meth c n0 T' h' (cells + rm.cells) (slots + rm.slots) → Qy v h' → G (T'.setTop (mkF m pc' ls (v.toList ++ st)))) : G (T.setTop (mkF m pc ls sk)) := by
  obtain ⟨locs, Y, N, eT⟩ := X
  subst hp hst
  have hZ := w.2.2.2.2.1
  obtain ⟨v, _, ⟨T', L', k', n'⟩, -, Y', ⟨Lc, ⟨hQ, NL⟩, l1, y1, z1⟩, q⟩ := Jvm.LawKit.callS Y w.2.1 (y := y) w.2.2.2.2.2.1 (mvT hZ w1) (mvT hZ w2) (mvT hZ w3) (mvT hZ w4) hy (backOf (W := Wd) (Q := fun v h' L => Qy v h' ∧ Fr n0 L) hM hZ w4 w3 hfr hlo) (g := mkF m pc ls (av.reverse ++ st)) rfl (hsz.trans w.2.2.2.1.symm) (argsL := av) (rest := st) hlen rfl (by show 2 * 0 + _ ≤ _; omega) (hb w.2.2.1 hd) (fun _ _ => ⟨rfl, eT, hc, hs⟩)
  dsimp only [Pt.U, Pt.locs, Pt.cells, Pt.slots] at Y' l1 y1 z1 q hQ
  subst l1 y1 z1
  exact w.1 _ _ q (k v T' _ ⟨_, Y', Fr.app N NL, rfl⟩ hQ)
theorem callN (w : Wk p l e R s m args below meth c n0 Z own nm bc ml rt Q G) (X : Sd p l e R s m args below meth c n0 T h cells slots) {y : MethodName} {ybc : ByteArray} {yml : Nat} {rm : Room} {i : Nat} {sk : List Value} {Qy : Option Value → Heap → Prop} {a : Addr} (av : List Value) (w1 : (Cond.methodLink own i y).before a0 Z = true) (w2 : (Cond.instanceMethod y).before a0 Z = true) (w3 : (Cond.initialized y.cls).before a0 Z = true) (w4 : (Cond.code y ybc yml none).before a0 Z = true) (hi : y.name = "<init>") (hy : y.cls ≠ "java/lang/invoke/MethodHandle" ∧ y.cls ≠ "java/lang/invoke/VarHandle") (hM : Met l Z y ybc yml none [] rm (.ref a :: av).toArray h n0 Qy) (hd : decode bc pc = .ok (.invokespecial i, 3)) (pc' : Nat) (hp : pc + 3 = pc') (Wd : Nat) (hfr : rm.frames + 1 ≤ R.frames) (hlo : Wd + (yml + 11) + rm.locals ≤ R.locals) (hlen : ∀ sig, parseMethodDescriptor y.desc = some sig → av.length = sig.parameters.length) (hst : sk = av.reverse ++ .ref a :: st) (hW : (st.map fun v => v.category).sum ≤ Wd) (hsz : ls.size = ml) (hc : cells + rm.cells ≤ R.cells) (hs : slots + rm.slots ≤ R.slots) (k : ∀ (v : Option Value) (T' : State) (h' : Heap), Sd p l e R s m args below meth c n0 T' h' (cells + rm.cells) (slots + rm.slots) → Qy v h' → G (T'.setTop (mkF m pc' ls (v.toList ++ st)))) : G (T.setTop (mkF m pc ls sk)) := by
  obtain ⟨locs, Y, N, eT⟩ := X
  subst hp hst
  have hZ := w.2.2.2.2.1
  obtain ⟨v, _, ⟨T', L', k', n'⟩, -, Y', ⟨Lc, ⟨hQ, NL⟩, l1, y1, z1⟩, q⟩ := Y.specialBack w.2.1 (y := y) hi w.2.2.2.2.2.1 (mvT hZ w1) (mvT hZ w2) (mvT hZ w4) hy (backOf (W := Wd) (Q := fun v h' L => Qy v h' ∧ Fr n0 L) hM hZ w4 w3 hfr hlo) (g := mkF m pc ls (av.reverse ++ .ref a :: st)) rfl (hsz.trans w.2.2.2.1.symm) (Steps.refl _) (a := a) (argsL := av) (rest := st) hlen rfl (by show 2 * 0 + _ ≤ _; omega) (hb w.2.2.1 hd) (fun _ _ => ⟨rfl, eT, hc, hs⟩)
  dsimp only [Pt.U, Pt.locs, Pt.cells, Pt.slots] at Y' l1 y1 z1 q hQ
  subst l1 y1 z1
  exact w.1 _ _ (fun t z => q.trans z) (k v T' _ ⟨_, Y', Fr.app N NL, rfl⟩ hQ)
theorem callV (w : Wk p l e R s m args below meth c n0 Z own nm bc ml rt Q G) (X : Sd p l e R s m args below meth c n0 T h cells slots) {y z : MethodName} {ybc : ByteArray} {yml : Nat} {yrt : Option FieldType} {rm : Room} {i : Nat} {sk : List Value} {Qy : Option Value → Heap → Prop} {C : String} {a : Addr} (av : List Value) (w1 : (Cond.methodLink own i y).before a0 Z = true) (w2 : (Cond.declares y).before a0 Z = true) (hnf : NotFace s y) (w5 : (Cond.selects C y z).before a0 Z = true) (w6 : (Cond.instanceMethod z).before a0 Z = true) (w3 : (Cond.initialized z.cls).before a0 Z = true) (w4 : (Cond.code z ybc yml yrt).before a0 Z = true) (hy : y.cls ≠ "java/lang/invoke/MethodHandle" ∧ y.cls ≠ "java/lang/invoke/VarHandle") (E : Exa Z h a C) (hM : Met l Z z ybc yml yrt [] rm (.ref a :: av).toArray h n0 Qy) (hd : decode bc pc = .ok (.invokevirtual i, 3)) (pc' : Nat) (hp : pc + 3 = pc') (Wd : Nat) (hfr : rm.frames + 1 ≤ R.frames) (hlo : Wd + (yml + 11) + rm.locals ≤ R.locals) (hlen : ∀ sig, parseMethodDescriptor y.desc = some sig → av.length = sig.parameters.length) (hst : sk = av.reverse ++ .ref a :: st) (hW : (st.map fun v => v.category).sum ≤ Wd) (hsz : ls.size = ml) (hc : cells + rm.cells ≤ R.cells) (hs : slots + rm.slots ≤ R.slots) (k : ∀ (v : Option Value) (T' : State) (h' : Heap), Sd p l e R s m args below meth c n0 T' h' (cells + rm.cells) (slots + rm.slots) → Qy v h' → G (T'.setTop (mkF m pc' ls (v.toList ++ st)))) : G (T.setTop (mkF m pc ls sk)) := by
  obtain ⟨locs, Y, N, eT⟩ := X
  subst hp hst
  have hZ := w.2.2.2.2.1
  obtain ⟨cq, kq, qa, qb, qc⟩ := isOf hZ eT E
  obtain ⟨v, _, ⟨T', L', k', n'⟩, -, Y', ⟨Lc, ⟨hQ, NL⟩, l1, y1, z1⟩, q⟩ := Y.virtualBack w.2.1 (y := y) (z := z) w.2.2.2.2.2.1 (mvT hZ w1) (mvT hZ w2) hnf (mvT hZ w5) (mvT hZ w6) hy (backOf (W := Wd) (Q := fun v h' L => Qy v h' ∧ Fr n0 L) hM hZ w4 w3 hfr hlo) qa qc (g := mkF m pc ls (av.reverse ++ .ref a :: st)) rfl (hsz.trans w.2.2.2.1.symm) (Steps.refl _) (argsL := av) (rest := st) hlen rfl (by show 2 * 0 + _ ≤ _; omega) (hb w.2.2.1 hd) (fun _ _ => ⟨rfl, eT, hc, hs⟩)
  dsimp only [Pt.U, Pt.locs, Pt.cells, Pt.slots] at Y' l1 y1 z1 q hQ
  subst l1 y1 z1
  exact w.1 _ _ (fun t z => q.trans z) (k v T' _ ⟨_, Y', Fr.app N NL, rfl⟩ hQ)
theorem callP (w : Wk p l e R s m args below meth c n0 Z own nm bc ml rt Q G) (X : Sd p l e R s m args below meth c n0 T h cells slots) {y : MethodName} {ybc : ByteArray} {yml : Nat} {yrt : Option FieldType} {rm : Room} {i : Nat} {sk : List Value} {Qy : Option Value → Heap → Prop} {a : Addr} (av : List Value) (w1 : (Cond.methodLink own i y).before a0 Z = true) (w6 : (Cond.instanceMethod y).before a0 Z = true) (hnf : NotFace s y) (w7 : (Cond.privateMethod y).before a0 Z = true) (w3 : (Cond.initialized y.cls).before a0 Z = true) (w4 : (Cond.code y ybc yml yrt).before a0 Z = true) (hy : y.cls ≠ "java/lang/invoke/MethodHandle" ∧ y.cls ≠ "java/lang/invoke/VarHandle") {C : String} (E : Exa Z h a C) (hM : Met l Z y ybc yml yrt [] rm (.ref a :: av).toArray h n0 Qy) (hd : decode bc pc = .ok (.invokevirtual i, 3)) (pc' : Nat) (hp : pc + 3 = pc') (Wd : Nat) (hfr : rm.frames + 1 ≤ R.frames) (hlo : Wd + (yml + 11) + rm.locals ≤ R.locals) (hlen : ∀ sig, parseMethodDescriptor y.desc = some sig → av.length = sig.parameters.length) (hst : sk = av.reverse ++ .ref a :: st) (hW : (st.map fun v => v.category).sum ≤ Wd) (hsz : ls.size = ml) (hc : cells + rm.cells ≤ R.cells) (hs : slots + rm.slots ≤ R.slots) (k : ∀ (v : Option Value) (T' : State) (h' : Heap), Sd p l e R s m args below meth c n0 T' h' (cells + rm.cells) (slots + rm.slots) → Qy v h' → G (T'.setTop (mkF m pc' ls (v.toList ++ st)))) : G (T.setTop (mkF m pc ls sk)) := by
  obtain ⟨locs, Y, N, eT⟩ := X
  subst hp hst
  have hZ := w.2.2.2.2.1
  obtain ⟨cq, qa, qc⟩ := E.cell
  obtain ⟨v, _, ⟨T', L', k', n'⟩, -, Y', ⟨Lc, ⟨hQ, NL⟩, l1, y1, z1⟩, q⟩ := privB Y w.2.1 (y := y) w.2.2.2.2.2.1 (mvT hZ w1) (mvT hZ w6) hnf (Cond.privateMethod_at (mvP hZ w7 (args := #[]))) (mvT hZ w4) hy (backOf (W := Wd) (Q := fun v h' L => Qy v h' ∧ Fr n0 L) hM hZ w4 w3 hfr hlo) (g := mkF m pc ls (av.reverse ++ .ref a :: st)) rfl (hsz.trans w.2.2.2.1.symm) (Steps.refl _) (a := a) (by rw [eT]; exact qa) qc (argsL := av) (rest := st) hlen rfl (by show 2 * 0 + _ ≤ _; omega) (hb w.2.2.1 hd) (fun _ _ => ⟨rfl, eT, hc, hs⟩)
  dsimp only [Pt.U, Pt.locs, Pt.cells, Pt.slots] at Y' l1 y1 z1 q hQ
  subst l1 y1 z1
  exact w.1 _ _ (fun t z => q.trans z) (k v T' _ ⟨_, Y', Fr.app N NL, rfl⟩ hQ)
theorem callSI (w : Wk p l e R s m args below meth c n0 Z own nm bc ml rt Q G) (X : Sd p l e R s m args below meth c n0 T h cells slots) {y : MethodName} {ybc : ByteArray} {yml : Nat} {yrt : Option FieldType} {rm : Room} {i : Nat} {sk : List Value} {P : Int32 → Heap → Prop}  (av : List Value) (w1 : (Cond.methodLink own i y).before a0 Z = true) (w2 : (Cond.static y).before a0 Z = true) (w3 : (Cond.initialized y.cls).before a0 Z = true) (w4 : (Cond.code y ybc yml yrt).before a0 Z = true) (hy : y.cls ≠ "java/lang/invoke/MethodHandle" ∧ y.cls ≠ "java/lang/invoke/VarHandle") (hM : Met l Z y ybc yml yrt [] rm av.toArray h n0 (RI P)) (hd : decode bc pc = .ok (.invokestatic i, 3)) (pc' : Nat) (hp : pc + 3 = pc') (Wd : Nat) (hfr : rm.frames + 1 ≤ R.frames) (hlo : Wd + (yml + 11) + rm.locals ≤ R.locals) (hlen : ∀ sig, parseMethodDescriptor y.desc = some sig → av.length = sig.parameters.length) (hst : sk = av.reverse ++ st) (hW : (st.map fun v => v.category).sum ≤ Wd) (hsz : ls.size = ml) (hc : cells + rm.cells ≤ R.cells) (hs : slots + rm.slots ≤ R.slots) (k : ∀ (r : Int32) (T' : State) (h' : Heap), Sd p l e R s m args below meth c n0 T' h' (cells + rm.cells) (slots + rm.slots) → P r h' → G (T'.setTop (mkF m pc' ls (.int r :: st)))) : G (T.setTop (mkF m pc ls sk)) := by
  refine callS w X av w1 w2 w3 w4 hy hM hd pc' hp Wd hfr hlo hlen hst hW hsz hc hs (fun v T' h' Y hq => ?_)
  obtain ⟨r, rfl, hr⟩ := hq
  exact k r T' h' Y hr
theorem callSPI (w : Wk p l e R s m args below meth c n0 Z own nm bc ml rt Q G) (X : Sd p l e R s m args below meth c n0 T h cells slots) {y : MethodName} {ybc : ByteArray} {yml : Nat} {yrt : Option FieldType} {rm : Room} {i : Nat} {sk : List Value} {P : Int32 → Prop}  (av : List Value) (w1 : (Cond.methodLink own i y).before a0 Z = true) (w2 : (Cond.static y).before a0 Z = true) (w3 : (Cond.initialized y.cls).before a0 Z = true) (w4 : (Cond.code y ybc yml yrt).before a0 Z = true) (hy : y.cls ≠ "java/lang/invoke/MethodHandle" ∧ y.cls ≠ "java/lang/invoke/VarHandle") (hM : Met l Z y ybc yml yrt [] rm av.toArray h n0 (RI fun r h' => h' = h ∧ P r)) (hd : decode bc pc = .ok (.invokestatic i, 3)) (pc' : Nat) (hp : pc + 3 = pc') (Wd : Nat) (hfr : rm.frames + 1 ≤ R.frames) (hlo : Wd + (yml + 11) + rm.locals ≤ R.locals) (hlen : ∀ sig, parseMethodDescriptor y.desc = some sig → av.length = sig.parameters.length) (hst : sk = av.reverse ++ st) (hW : (st.map fun v => v.category).sum ≤ Wd) (hsz : ls.size = ml) (hc : cells + rm.cells ≤ R.cells) (hs : slots + rm.slots ≤ R.slots) (k : ∀ (r : Int32) (T' : State), Sd p l e R s m args below meth c n0 T' h (cells + rm.cells) (slots + rm.slots) → P r → G (T'.setTop (mkF m pc' ls (.int r :: st)))) : G (T.setTop (mkF m pc ls sk)) := by
  refine callSI w X av w1 w2 w3 w4 hy hM hd pc' hp Wd hfr hlo hlen hst hW hsz hc hs (fun r T' h' Y hq => ?_)
  obtain ⟨q, hr⟩ := hq
  subst q
  exact k r T' Y hr
theorem callSJ (w : Wk p l e R s m args below meth c n0 Z own nm bc ml rt Q G) (X : Sd p l e R s m args below meth c n0 T h cells slots) {y : MethodName} {ybc : ByteArray} {yml : Nat} {yrt : Option FieldType} {rm : Room} {i : Nat} {sk : List Value} {P : Int64 → Heap → Prop}  (av : List Value) (w1 : (Cond.methodLink own i y).before a0 Z = true) (w2 : (Cond.static y).before a0 Z = true) (w3 : (Cond.initialized y.cls).before a0 Z = true) (w4 : (Cond.code y ybc yml yrt).before a0 Z = true) (hy : y.cls ≠ "java/lang/invoke/MethodHandle" ∧ y.cls ≠ "java/lang/invoke/VarHandle") (hM : Met l Z y ybc yml yrt [] rm av.toArray h n0 (RJ P)) (hd : decode bc pc = .ok (.invokestatic i, 3)) (pc' : Nat) (hp : pc + 3 = pc') (Wd : Nat) (hfr : rm.frames + 1 ≤ R.frames) (hlo : Wd + (yml + 11) + rm.locals ≤ R.locals) (hlen : ∀ sig, parseMethodDescriptor y.desc = some sig → av.length = sig.parameters.length) (hst : sk = av.reverse ++ st) (hW : (st.map fun v => v.category).sum ≤ Wd) (hsz : ls.size = ml) (hc : cells + rm.cells ≤ R.cells) (hs : slots + rm.slots ≤ R.slots) (k : ∀ (r : Int64) (T' : State) (h' : Heap), Sd p l e R s m args below meth c n0 T' h' (cells + rm.cells) (slots + rm.slots) → P r h' → G (T'.setTop (mkF m pc' ls (.long r :: st)))) : G (T.setTop (mkF m pc ls sk)) := by
  refine callS w X av w1 w2 w3 w4 hy hM hd pc' hp Wd hfr hlo hlen hst hW hsz hc hs (fun v T' h' Y hq => ?_)
  obtain ⟨r, rfl, hr⟩ := hq
  exact k r T' h' Y hr
theorem callSPJ (w : Wk p l e R s m args below meth c n0 Z own nm bc ml rt Q G) (X : Sd p l e R s m args below meth c n0 T h cells slots) {y : MethodName} {ybc : ByteArray} {yml : Nat} {yrt : Option FieldType} {rm : Room} {i : Nat} {sk : List Value} {P : Int64 → Prop}  (av : List Value) (w1 : (Cond.methodLink own i y).before a0 Z = true) (w2 : (Cond.static y).before a0 Z = true) (w3 : (Cond.initialized y.cls).before a0 Z = true) (w4 : (Cond.code y ybc yml yrt).before a0 Z = true) (hy : y.cls ≠ "java/lang/invoke/MethodHandle" ∧ y.cls ≠ "java/lang/invoke/VarHandle") (hM : Met l Z y ybc yml yrt [] rm av.toArray h n0 (RJ fun r h' => h' = h ∧ P r)) (hd : decode bc pc = .ok (.invokestatic i, 3)) (pc' : Nat) (hp : pc + 3 = pc') (Wd : Nat) (hfr : rm.frames + 1 ≤ R.frames) (hlo : Wd + (yml + 11) + rm.locals ≤ R.locals) (hlen : ∀ sig, parseMethodDescriptor y.desc = some sig → av.length = sig.parameters.length) (hst : sk = av.reverse ++ st) (hW : (st.map fun v => v.category).sum ≤ Wd) (hsz : ls.size = ml) (hc : cells + rm.cells ≤ R.cells) (hs : slots + rm.slots ≤ R.slots) (k : ∀ (r : Int64) (T' : State), Sd p l e R s m args below meth c n0 T' h (cells + rm.cells) (slots + rm.slots) → P r → G (T'.setTop (mkF m pc' ls (.long r :: st)))) : G (T.setTop (mkF m pc ls sk)) := by
  refine callSJ w X av w1 w2 w3 w4 hy hM hd pc' hp Wd hfr hlo hlen hst hW hsz hc hs (fun r T' h' Y hq => ?_)
  obtain ⟨q, hr⟩ := hq
  subst q
  exact k r T' Y hr
theorem callSR (w : Wk p l e R s m args below meth c n0 Z own nm bc ml rt Q G) (X : Sd p l e R s m args below meth c n0 T h cells slots) {y : MethodName} {ybc : ByteArray} {yml : Nat} {yrt : Option FieldType} {rm : Room} {i : Nat} {sk : List Value} {P : Value → Heap → Prop}  (av : List Value) (w1 : (Cond.methodLink own i y).before a0 Z = true) (w2 : (Cond.static y).before a0 Z = true) (w3 : (Cond.initialized y.cls).before a0 Z = true) (w4 : (Cond.code y ybc yml yrt).before a0 Z = true) (hy : y.cls ≠ "java/lang/invoke/MethodHandle" ∧ y.cls ≠ "java/lang/invoke/VarHandle") (hM : Met l Z y ybc yml yrt [] rm av.toArray h n0 (RR P)) (hd : decode bc pc = .ok (.invokestatic i, 3)) (pc' : Nat) (hp : pc + 3 = pc') (Wd : Nat) (hfr : rm.frames + 1 ≤ R.frames) (hlo : Wd + (yml + 11) + rm.locals ≤ R.locals) (hlen : ∀ sig, parseMethodDescriptor y.desc = some sig → av.length = sig.parameters.length) (hst : sk = av.reverse ++ st) (hW : (st.map fun v => v.category).sum ≤ Wd) (hsz : ls.size = ml) (hc : cells + rm.cells ≤ R.cells) (hs : slots + rm.slots ≤ R.slots) (k : ∀ (r : Value) (T' : State) (h' : Heap), Sd p l e R s m args below meth c n0 T' h' (cells + rm.cells) (slots + rm.slots) → P r h' → G (T'.setTop (mkF m pc' ls (r :: st)))) : G (T.setTop (mkF m pc ls sk)) := by
  refine callS w X av w1 w2 w3 w4 hy hM hd pc' hp Wd hfr hlo hlen hst hW hsz hc hs (fun v T' h' Y hq => ?_)
  obtain ⟨r, rfl, hr⟩ := hq
  exact k r T' h' Y hr
theorem callSPR (w : Wk p l e R s m args below meth c n0 Z own nm bc ml rt Q G) (X : Sd p l e R s m args below meth c n0 T h cells slots) {y : MethodName} {ybc : ByteArray} {yml : Nat} {yrt : Option FieldType} {rm : Room} {i : Nat} {sk : List Value} {P : Value → Prop}  (av : List Value) (w1 : (Cond.methodLink own i y).before a0 Z = true) (w2 : (Cond.static y).before a0 Z = true) (w3 : (Cond.initialized y.cls).before a0 Z = true) (w4 : (Cond.code y ybc yml yrt).before a0 Z = true) (hy : y.cls ≠ "java/lang/invoke/MethodHandle" ∧ y.cls ≠ "java/lang/invoke/VarHandle") (hM : Met l Z y ybc yml yrt [] rm av.toArray h n0 (RR fun r h' => h' = h ∧ P r)) (hd : decode bc pc = .ok (.invokestatic i, 3)) (pc' : Nat) (hp : pc + 3 = pc') (Wd : Nat) (hfr : rm.frames + 1 ≤ R.frames) (hlo : Wd + (yml + 11) + rm.locals ≤ R.locals) (hlen : ∀ sig, parseMethodDescriptor y.desc = some sig → av.length = sig.parameters.length) (hst : sk = av.reverse ++ st) (hW : (st.map fun v => v.category).sum ≤ Wd) (hsz : ls.size = ml) (hc : cells + rm.cells ≤ R.cells) (hs : slots + rm.slots ≤ R.slots) (k : ∀ (r : Value) (T' : State), Sd p l e R s m args below meth c n0 T' h (cells + rm.cells) (slots + rm.slots) → P r → G (T'.setTop (mkF m pc' ls (r :: st)))) : G (T.setTop (mkF m pc ls sk)) := by
  refine callSR w X av w1 w2 w3 w4 hy hM hd pc' hp Wd hfr hlo hlen hst hW hsz hc hs (fun r T' h' Y hq => ?_)
  obtain ⟨q, hr⟩ := hq
  subst q
  exact k r T' Y hr
theorem callSV (w : Wk p l e R s m args below meth c n0 Z own nm bc ml rt Q G) (X : Sd p l e R s m args below meth c n0 T h cells slots) {y : MethodName} {ybc : ByteArray} {yml : Nat} {yrt : Option FieldType} {rm : Room} {i : Nat} {sk : List Value} {P : Heap → Prop}  (av : List Value) (w1 : (Cond.methodLink own i y).before a0 Z = true) (w2 : (Cond.static y).before a0 Z = true) (w3 : (Cond.initialized y.cls).before a0 Z = true) (w4 : (Cond.code y ybc yml yrt).before a0 Z = true) (hy : y.cls ≠ "java/lang/invoke/MethodHandle" ∧ y.cls ≠ "java/lang/invoke/VarHandle") (hM : Met l Z y ybc yml yrt [] rm av.toArray h n0 (RV P)) (hd : decode bc pc = .ok (.invokestatic i, 3)) (pc' : Nat) (hp : pc + 3 = pc') (Wd : Nat) (hfr : rm.frames + 1 ≤ R.frames) (hlo : Wd + (yml + 11) + rm.locals ≤ R.locals) (hlen : ∀ sig, parseMethodDescriptor y.desc = some sig → av.length = sig.parameters.length) (hst : sk = av.reverse ++ st) (hW : (st.map fun v => v.category).sum ≤ Wd) (hsz : ls.size = ml) (hc : cells + rm.cells ≤ R.cells) (hs : slots + rm.slots ≤ R.slots) (k : ∀  (T' : State) (h' : Heap), Sd p l e R s m args below meth c n0 T' h' (cells + rm.cells) (slots + rm.slots) → P h' → G (T'.setTop (mkF m pc' ls (st)))) : G (T.setTop (mkF m pc ls sk)) := by
  refine callS w X av w1 w2 w3 w4 hy hM hd pc' hp Wd hfr hlo hlen hst hW hsz hc hs (fun v T' h' Y hq => ?_)
  obtain ⟨rfl, hr⟩ := hq
  exact k T' h' Y hr
theorem callSPV (w : Wk p l e R s m args below meth c n0 Z own nm bc ml rt Q G) (X : Sd p l e R s m args below meth c n0 T h cells slots) {y : MethodName} {ybc : ByteArray} {yml : Nat} {yrt : Option FieldType} {rm : Room} {i : Nat} {sk : List Value}  (av : List Value) (w1 : (Cond.methodLink own i y).before a0 Z = true) (w2 : (Cond.static y).before a0 Z = true) (w3 : (Cond.initialized y.cls).before a0 Z = true) (w4 : (Cond.code y ybc yml yrt).before a0 Z = true) (hy : y.cls ≠ "java/lang/invoke/MethodHandle" ∧ y.cls ≠ "java/lang/invoke/VarHandle") (hM : Met l Z y ybc yml yrt [] rm av.toArray h n0 (RV fun h' => h' = h)) (hd : decode bc pc = .ok (.invokestatic i, 3)) (pc' : Nat) (hp : pc + 3 = pc') (Wd : Nat) (hfr : rm.frames + 1 ≤ R.frames) (hlo : Wd + (yml + 11) + rm.locals ≤ R.locals) (hlen : ∀ sig, parseMethodDescriptor y.desc = some sig → av.length = sig.parameters.length) (hst : sk = av.reverse ++ st) (hW : (st.map fun v => v.category).sum ≤ Wd) (hsz : ls.size = ml) (hc : cells + rm.cells ≤ R.cells) (hs : slots + rm.slots ≤ R.slots) (k : ∀ (T' : State), Sd p l e R s m args below meth c n0 T' h (cells + rm.cells) (slots + rm.slots) → G (T'.setTop (mkF m pc' ls st))) : G (T.setTop (mkF m pc ls sk)) := by
  refine callSV w X av w1 w2 w3 w4 hy hM hd pc' hp Wd hfr hlo hlen hst hW hsz hc hs (fun T' h' Y hq => ?_)
  subst hq
  exact k T' Y
theorem callNV (w : Wk p l e R s m args below meth c n0 Z own nm bc ml rt Q G) (X : Sd p l e R s m args below meth c n0 T h cells slots) {y : MethodName} {ybc : ByteArray} {yml : Nat} {rm : Room} {i : Nat} {sk : List Value} {P : Heap → Prop} {a : Addr} (av : List Value) (w1 : (Cond.methodLink own i y).before a0 Z = true) (w2 : (Cond.instanceMethod y).before a0 Z = true) (w3 : (Cond.initialized y.cls).before a0 Z = true) (w4 : (Cond.code y ybc yml none).before a0 Z = true) (hi : y.name = "<init>") (hy : y.cls ≠ "java/lang/invoke/MethodHandle" ∧ y.cls ≠ "java/lang/invoke/VarHandle") (hM : Met l Z y ybc yml none [] rm (.ref a :: av).toArray h n0 (RV P)) (hd : decode bc pc = .ok (.invokespecial i, 3)) (pc' : Nat) (hp : pc + 3 = pc') (Wd : Nat) (hfr : rm.frames + 1 ≤ R.frames) (hlo : Wd + (yml + 11) + rm.locals ≤ R.locals) (hlen : ∀ sig, parseMethodDescriptor y.desc = some sig → av.length = sig.parameters.length) (hst : sk = av.reverse ++ .ref a :: st) (hW : (st.map fun v => v.category).sum ≤ Wd) (hsz : ls.size = ml) (hc : cells + rm.cells ≤ R.cells) (hs : slots + rm.slots ≤ R.slots) (k : ∀  (T' : State) (h' : Heap), Sd p l e R s m args below meth c n0 T' h' (cells + rm.cells) (slots + rm.slots) → P h' → G (T'.setTop (mkF m pc' ls (st)))) : G (T.setTop (mkF m pc ls sk)) := by
  refine callN w X av w1 w2 w3 w4 hi hy hM hd pc' hp Wd hfr hlo hlen hst hW hsz hc hs (fun v T' h' Y hq => ?_)
  obtain ⟨rfl, hr⟩ := hq
  exact k T' h' Y hr
theorem callNPV (w : Wk p l e R s m args below meth c n0 Z own nm bc ml rt Q G) (X : Sd p l e R s m args below meth c n0 T h cells slots) {y : MethodName} {ybc : ByteArray} {yml : Nat} {rm : Room} {i : Nat} {sk : List Value} {a : Addr} (av : List Value) (w1 : (Cond.methodLink own i y).before a0 Z = true) (w2 : (Cond.instanceMethod y).before a0 Z = true) (w3 : (Cond.initialized y.cls).before a0 Z = true) (w4 : (Cond.code y ybc yml none).before a0 Z = true) (hi : y.name = "<init>") (hy : y.cls ≠ "java/lang/invoke/MethodHandle" ∧ y.cls ≠ "java/lang/invoke/VarHandle") (hM : Met l Z y ybc yml none [] rm (.ref a :: av).toArray h n0 (RV fun h' => h' = h)) (hd : decode bc pc = .ok (.invokespecial i, 3)) (pc' : Nat) (hp : pc + 3 = pc') (Wd : Nat) (hfr : rm.frames + 1 ≤ R.frames) (hlo : Wd + (yml + 11) + rm.locals ≤ R.locals) (hlen : ∀ sig, parseMethodDescriptor y.desc = some sig → av.length = sig.parameters.length) (hst : sk = av.reverse ++ .ref a :: st) (hW : (st.map fun v => v.category).sum ≤ Wd) (hsz : ls.size = ml) (hc : cells + rm.cells ≤ R.cells) (hs : slots + rm.slots ≤ R.slots) (k : ∀ (T' : State), Sd p l e R s m args below meth c n0 T' h (cells + rm.cells) (slots + rm.slots) → G (T'.setTop (mkF m pc' ls st))) : G (T.setTop (mkF m pc ls sk)) := by
  refine callNV w X av w1 w2 w3 w4 hi hy hM hd pc' hp Wd hfr hlo hlen hst hW hsz hc hs (fun T' h' Y hq => ?_)
  subst hq
  exact k T' Y
theorem callVI (w : Wk p l e R s m args below meth c n0 Z own nm bc ml rt Q G) (X : Sd p l e R s m args below meth c n0 T h cells slots) {y z : MethodName} {ybc : ByteArray} {yml : Nat} {yrt : Option FieldType} {rm : Room} {i : Nat} {sk : List Value} {P : Int32 → Heap → Prop} {a : Addr} {C : String} (av : List Value) (w1 : (Cond.methodLink own i y).before a0 Z = true) (w2 : (Cond.declares y).before a0 Z = true) (hnf : NotFace s y) (w5 : (Cond.selects C y z).before a0 Z = true) (w6 : (Cond.instanceMethod z).before a0 Z = true) (w3 : (Cond.initialized z.cls).before a0 Z = true) (w4 : (Cond.code z ybc yml yrt).before a0 Z = true) (hy : y.cls ≠ "java/lang/invoke/MethodHandle" ∧ y.cls ≠ "java/lang/invoke/VarHandle") (E : Exa Z h a C) (hM : Met l Z z ybc yml yrt [] rm (.ref a :: av).toArray h n0 (RI P)) (hd : decode bc pc = .ok (.invokevirtual i, 3)) (pc' : Nat) (hp : pc + 3 = pc') (Wd : Nat) (hfr : rm.frames + 1 ≤ R.frames) (hlo : Wd + (yml + 11) + rm.locals ≤ R.locals) (hlen : ∀ sig, parseMethodDescriptor y.desc = some sig → av.length = sig.parameters.length) (hst : sk = av.reverse ++ .ref a :: st) (hW : (st.map fun v => v.category).sum ≤ Wd) (hsz : ls.size = ml) (hc : cells + rm.cells ≤ R.cells) (hs : slots + rm.slots ≤ R.slots) (k : ∀ (r : Int32) (T' : State) (h' : Heap), Sd p l e R s m args below meth c n0 T' h' (cells + rm.cells) (slots + rm.slots) → P r h' → G (T'.setTop (mkF m pc' ls (.int r :: st)))) : G (T.setTop (mkF m pc ls sk)) := by
  refine callV w X av w1 w2 hnf w5 w6 w3 w4 hy E hM hd pc' hp Wd hfr hlo hlen hst hW hsz hc hs (fun v T' h' Y hq => ?_)
  obtain ⟨r, rfl, hr⟩ := hq
  exact k r T' h' Y hr
theorem callVPI (w : Wk p l e R s m args below meth c n0 Z own nm bc ml rt Q G) (X : Sd p l e R s m args below meth c n0 T h cells slots) {y z : MethodName} {ybc : ByteArray} {yml : Nat} {yrt : Option FieldType} {rm : Room} {i : Nat} {sk : List Value} {P : Int32 → Prop} {a : Addr} {C : String} (av : List Value) (w1 : (Cond.methodLink own i y).before a0 Z = true) (w2 : (Cond.declares y).before a0 Z = true) (hnf : NotFace s y) (w5 : (Cond.selects C y z).before a0 Z = true) (w6 : (Cond.instanceMethod z).before a0 Z = true) (w3 : (Cond.initialized z.cls).before a0 Z = true) (w4 : (Cond.code z ybc yml yrt).before a0 Z = true) (hy : y.cls ≠ "java/lang/invoke/MethodHandle" ∧ y.cls ≠ "java/lang/invoke/VarHandle") (E : Exa Z h a C) (hM : Met l Z z ybc yml yrt [] rm (.ref a :: av).toArray h n0 (RI fun r h' => h' = h ∧ P r)) (hd : decode bc pc = .ok (.invokevirtual i, 3)) (pc' : Nat) (hp : pc + 3 = pc') (Wd : Nat) (hfr : rm.frames + 1 ≤ R.frames) (hlo : Wd + (yml + 11) + rm.locals ≤ R.locals) (hlen : ∀ sig, parseMethodDescriptor y.desc = some sig → av.length = sig.parameters.length) (hst : sk = av.reverse ++ .ref a :: st) (hW : (st.map fun v => v.category).sum ≤ Wd) (hsz : ls.size = ml) (hc : cells + rm.cells ≤ R.cells) (hs : slots + rm.slots ≤ R.slots) (k : ∀ (r : Int32) (T' : State), Sd p l e R s m args below meth c n0 T' h (cells + rm.cells) (slots + rm.slots) → P r → G (T'.setTop (mkF m pc' ls (.int r :: st)))) : G (T.setTop (mkF m pc ls sk)) := by
  refine callVI w X av w1 w2 hnf w5 w6 w3 w4 hy E hM hd pc' hp Wd hfr hlo hlen hst hW hsz hc hs (fun r T' h' Y hq => ?_)
  obtain ⟨q, hr⟩ := hq
  subst q
  exact k r T' Y hr
theorem callVJ (w : Wk p l e R s m args below meth c n0 Z own nm bc ml rt Q G) (X : Sd p l e R s m args below meth c n0 T h cells slots) {y z : MethodName} {ybc : ByteArray} {yml : Nat} {yrt : Option FieldType} {rm : Room} {i : Nat} {sk : List Value} {P : Int64 → Heap → Prop} {a : Addr} {C : String} (av : List Value) (w1 : (Cond.methodLink own i y).before a0 Z = true) (w2 : (Cond.declares y).before a0 Z = true) (hnf : NotFace s y) (w5 : (Cond.selects C y z).before a0 Z = true) (w6 : (Cond.instanceMethod z).before a0 Z = true) (w3 : (Cond.initialized z.cls).before a0 Z = true) (w4 : (Cond.code z ybc yml yrt).before a0 Z = true) (hy : y.cls ≠ "java/lang/invoke/MethodHandle" ∧ y.cls ≠ "java/lang/invoke/VarHandle") (E : Exa Z h a C) (hM : Met l Z z ybc yml yrt [] rm (.ref a :: av).toArray h n0 (RJ P)) (hd : decode bc pc = .ok (.invokevirtual i, 3)) (pc' : Nat) (hp : pc + 3 = pc') (Wd : Nat) (hfr : rm.frames + 1 ≤ R.frames) (hlo : Wd + (yml + 11) + rm.locals ≤ R.locals) (hlen : ∀ sig, parseMethodDescriptor y.desc = some sig → av.length = sig.parameters.length) (hst : sk = av.reverse ++ .ref a :: st) (hW : (st.map fun v => v.category).sum ≤ Wd) (hsz : ls.size = ml) (hc : cells + rm.cells ≤ R.cells) (hs : slots + rm.slots ≤ R.slots) (k : ∀ (r : Int64) (T' : State) (h' : Heap), Sd p l e R s m args below meth c n0 T' h' (cells + rm.cells) (slots + rm.slots) → P r h' → G (T'.setTop (mkF m pc' ls (.long r :: st)))) : G (T.setTop (mkF m pc ls sk)) := by
  refine callV w X av w1 w2 hnf w5 w6 w3 w4 hy E hM hd pc' hp Wd hfr hlo hlen hst hW hsz hc hs (fun v T' h' Y hq => ?_)
  obtain ⟨r, rfl, hr⟩ := hq
  exact k r T' h' Y hr
theorem callVPJ (w : Wk p l e R s m args below meth c n0 Z own nm bc ml rt Q G) (X : Sd p l e R s m args below meth c n0 T h cells slots) {y z : MethodName} {ybc : ByteArray} {yml : Nat} {yrt : Option FieldType} {rm : Room} {i : Nat} {sk : List Value} {P : Int64 → Prop} {a : Addr} {C : String} (av : List Value) (w1 : (Cond.methodLink own i y).before a0 Z = true) (w2 : (Cond.declares y).before a0 Z = true) (hnf : NotFace s y) (w5 : (Cond.selects C y z).before a0 Z = true) (w6 : (Cond.instanceMethod z).before a0 Z = true) (w3 : (Cond.initialized z.cls).before a0 Z = true) (w4 : (Cond.code z ybc yml yrt).before a0 Z = true) (hy : y.cls ≠ "java/lang/invoke/MethodHandle" ∧ y.cls ≠ "java/lang/invoke/VarHandle") (E : Exa Z h a C) (hM : Met l Z z ybc yml yrt [] rm (.ref a :: av).toArray h n0 (RJ fun r h' => h' = h ∧ P r)) (hd : decode bc pc = .ok (.invokevirtual i, 3)) (pc' : Nat) (hp : pc + 3 = pc') (Wd : Nat) (hfr : rm.frames + 1 ≤ R.frames) (hlo : Wd + (yml + 11) + rm.locals ≤ R.locals) (hlen : ∀ sig, parseMethodDescriptor y.desc = some sig → av.length = sig.parameters.length) (hst : sk = av.reverse ++ .ref a :: st) (hW : (st.map fun v => v.category).sum ≤ Wd) (hsz : ls.size = ml) (hc : cells + rm.cells ≤ R.cells) (hs : slots + rm.slots ≤ R.slots) (k : ∀ (r : Int64) (T' : State), Sd p l e R s m args below meth c n0 T' h (cells + rm.cells) (slots + rm.slots) → P r → G (T'.setTop (mkF m pc' ls (.long r :: st)))) : G (T.setTop (mkF m pc ls sk)) := by
  refine callVJ w X av w1 w2 hnf w5 w6 w3 w4 hy E hM hd pc' hp Wd hfr hlo hlen hst hW hsz hc hs (fun r T' h' Y hq => ?_)
  obtain ⟨q, hr⟩ := hq
  subst q
  exact k r T' Y hr
theorem callVR (w : Wk p l e R s m args below meth c n0 Z own nm bc ml rt Q G) (X : Sd p l e R s m args below meth c n0 T h cells slots) {y z : MethodName} {ybc : ByteArray} {yml : Nat} {yrt : Option FieldType} {rm : Room} {i : Nat} {sk : List Value} {P : Value → Heap → Prop} {a : Addr} {C : String} (av : List Value) (w1 : (Cond.methodLink own i y).before a0 Z = true) (w2 : (Cond.declares y).before a0 Z = true) (hnf : NotFace s y) (w5 : (Cond.selects C y z).before a0 Z = true) (w6 : (Cond.instanceMethod z).before a0 Z = true) (w3 : (Cond.initialized z.cls).before a0 Z = true) (w4 : (Cond.code z ybc yml yrt).before a0 Z = true) (hy : y.cls ≠ "java/lang/invoke/MethodHandle" ∧ y.cls ≠ "java/lang/invoke/VarHandle") (E : Exa Z h a C) (hM : Met l Z z ybc yml yrt [] rm (.ref a :: av).toArray h n0 (RR P)) (hd : decode bc pc = .ok (.invokevirtual i, 3)) (pc' : Nat) (hp : pc + 3 = pc') (Wd : Nat) (hfr : rm.frames + 1 ≤ R.frames) (hlo : Wd + (yml + 11) + rm.locals ≤ R.locals) (hlen : ∀ sig, parseMethodDescriptor y.desc = some sig → av.length = sig.parameters.length) (hst : sk = av.reverse ++ .ref a :: st) (hW : (st.map fun v => v.category).sum ≤ Wd) (hsz : ls.size = ml) (hc : cells + rm.cells ≤ R.cells) (hs : slots + rm.slots ≤ R.slots) (k : ∀ (r : Value) (T' : State) (h' : Heap), Sd p l e R s m args below meth c n0 T' h' (cells + rm.cells) (slots + rm.slots) → P r h' → G (T'.setTop (mkF m pc' ls (r :: st)))) : G (T.setTop (mkF m pc ls sk)) := by
  refine callV w X av w1 w2 hnf w5 w6 w3 w4 hy E hM hd pc' hp Wd hfr hlo hlen hst hW hsz hc hs (fun v T' h' Y hq => ?_)
  obtain ⟨r, rfl, hr⟩ := hq
  exact k r T' h' Y hr
theorem callVPR (w : Wk p l e R s m args below meth c n0 Z own nm bc ml rt Q G) (X : Sd p l e R s m args below meth c n0 T h cells slots) {y z : MethodName} {ybc : ByteArray} {yml : Nat} {yrt : Option FieldType} {rm : Room} {i : Nat} {sk : List Value} {P : Value → Prop} {a : Addr} {C : String} (av : List Value) (w1 : (Cond.methodLink own i y).before a0 Z = true) (w2 : (Cond.declares y).before a0 Z = true) (hnf : NotFace s y) (w5 : (Cond.selects C y z).before a0 Z = true) (w6 : (Cond.instanceMethod z).before a0 Z = true) (w3 : (Cond.initialized z.cls).before a0 Z = true) (w4 : (Cond.code z ybc yml yrt).before a0 Z = true) (hy : y.cls ≠ "java/lang/invoke/MethodHandle" ∧ y.cls ≠ "java/lang/invoke/VarHandle") (E : Exa Z h a C) (hM : Met l Z z ybc yml yrt [] rm (.ref a :: av).toArray h n0 (RR fun r h' => h' = h ∧ P r)) (hd : decode bc pc = .ok (.invokevirtual i, 3)) (pc' : Nat) (hp : pc + 3 = pc') (Wd : Nat) (hfr : rm.frames + 1 ≤ R.frames) (hlo : Wd + (yml + 11) + rm.locals ≤ R.locals) (hlen : ∀ sig, parseMethodDescriptor y.desc = some sig → av.length = sig.parameters.length) (hst : sk = av.reverse ++ .ref a :: st) (hW : (st.map fun v => v.category).sum ≤ Wd) (hsz : ls.size = ml) (hc : cells + rm.cells ≤ R.cells) (hs : slots + rm.slots ≤ R.slots) (k : ∀ (r : Value) (T' : State), Sd p l e R s m args below meth c n0 T' h (cells + rm.cells) (slots + rm.slots) → P r → G (T'.setTop (mkF m pc' ls (r :: st)))) : G (T.setTop (mkF m pc ls sk)) := by
  refine callVR w X av w1 w2 hnf w5 w6 w3 w4 hy E hM hd pc' hp Wd hfr hlo hlen hst hW hsz hc hs (fun r T' h' Y hq => ?_)
  obtain ⟨q, hr⟩ := hq
  subst q
  exact k r T' Y hr
theorem callVV (w : Wk p l e R s m args below meth c n0 Z own nm bc ml rt Q G) (X : Sd p l e R s m args below meth c n0 T h cells slots) {y z : MethodName} {ybc : ByteArray} {yml : Nat} {yrt : Option FieldType} {rm : Room} {i : Nat} {sk : List Value} {P : Heap → Prop} {a : Addr} {C : String} (av : List Value) (w1 : (Cond.methodLink own i y).before a0 Z = true) (w2 : (Cond.declares y).before a0 Z = true) (hnf : NotFace s y) (w5 : (Cond.selects C y z).before a0 Z = true) (w6 : (Cond.instanceMethod z).before a0 Z = true) (w3 : (Cond.initialized z.cls).before a0 Z = true) (w4 : (Cond.code z ybc yml yrt).before a0 Z = true) (hy : y.cls ≠ "java/lang/invoke/MethodHandle" ∧ y.cls ≠ "java/lang/invoke/VarHandle") (E : Exa Z h a C) (hM : Met l Z z ybc yml yrt [] rm (.ref a :: av).toArray h n0 (RV P)) (hd : decode bc pc = .ok (.invokevirtual i, 3)) (pc' : Nat) (hp : pc + 3 = pc') (Wd : Nat) (hfr : rm.frames + 1 ≤ R.frames) (hlo : Wd + (yml + 11) + rm.locals ≤ R.locals) (hlen : ∀ sig, parseMethodDescriptor y.desc = some sig → av.length = sig.parameters.length) (hst : sk = av.reverse ++ .ref a :: st) (hW : (st.map fun v => v.category).sum ≤ Wd) (hsz : ls.size = ml) (hc : cells + rm.cells ≤ R.cells) (hs : slots + rm.slots ≤ R.slots) (k : ∀  (T' : State) (h' : Heap), Sd p l e R s m args below meth c n0 T' h' (cells + rm.cells) (slots + rm.slots) → P h' → G (T'.setTop (mkF m pc' ls (st)))) : G (T.setTop (mkF m pc ls sk)) := by
  refine callV w X av w1 w2 hnf w5 w6 w3 w4 hy E hM hd pc' hp Wd hfr hlo hlen hst hW hsz hc hs (fun v T' h' Y hq => ?_)
  obtain ⟨rfl, hr⟩ := hq
  exact k T' h' Y hr
theorem callVPV (w : Wk p l e R s m args below meth c n0 Z own nm bc ml rt Q G) (X : Sd p l e R s m args below meth c n0 T h cells slots) {y z : MethodName} {ybc : ByteArray} {yml : Nat} {yrt : Option FieldType} {rm : Room} {i : Nat} {sk : List Value} {a : Addr} {C : String} (av : List Value) (w1 : (Cond.methodLink own i y).before a0 Z = true) (w2 : (Cond.declares y).before a0 Z = true) (hnf : NotFace s y) (w5 : (Cond.selects C y z).before a0 Z = true) (w6 : (Cond.instanceMethod z).before a0 Z = true) (w3 : (Cond.initialized z.cls).before a0 Z = true) (w4 : (Cond.code z ybc yml yrt).before a0 Z = true) (hy : y.cls ≠ "java/lang/invoke/MethodHandle" ∧ y.cls ≠ "java/lang/invoke/VarHandle") (E : Exa Z h a C) (hM : Met l Z z ybc yml yrt [] rm (.ref a :: av).toArray h n0 (RV fun h' => h' = h)) (hd : decode bc pc = .ok (.invokevirtual i, 3)) (pc' : Nat) (hp : pc + 3 = pc') (Wd : Nat) (hfr : rm.frames + 1 ≤ R.frames) (hlo : Wd + (yml + 11) + rm.locals ≤ R.locals) (hlen : ∀ sig, parseMethodDescriptor y.desc = some sig → av.length = sig.parameters.length) (hst : sk = av.reverse ++ .ref a :: st) (hW : (st.map fun v => v.category).sum ≤ Wd) (hsz : ls.size = ml) (hc : cells + rm.cells ≤ R.cells) (hs : slots + rm.slots ≤ R.slots) (k : ∀ (T' : State), Sd p l e R s m args below meth c n0 T' h (cells + rm.cells) (slots + rm.slots) → G (T'.setTop (mkF m pc' ls st))) : G (T.setTop (mkF m pc ls sk)) := by
  refine callVV w X av w1 w2 hnf w5 w6 w3 w4 hy E hM hd pc' hp Wd hfr hlo hlen hst hW hsz hc hs (fun T' h' Y hq => ?_)
  subst hq
  exact k T' Y
theorem callPI (w : Wk p l e R s m args below meth c n0 Z own nm bc ml rt Q G) (X : Sd p l e R s m args below meth c n0 T h cells slots) {y : MethodName} {ybc : ByteArray} {yml : Nat} {yrt : Option FieldType} {rm : Room} {i : Nat} {sk : List Value} {P : Int32 → Heap → Prop} {a : Addr} {C : String} (av : List Value) (w1 : (Cond.methodLink own i y).before a0 Z = true) (w6 : (Cond.instanceMethod y).before a0 Z = true) (hnf : NotFace s y) (w7 : (Cond.privateMethod y).before a0 Z = true) (w3 : (Cond.initialized y.cls).before a0 Z = true) (w4 : (Cond.code y ybc yml yrt).before a0 Z = true) (hy : y.cls ≠ "java/lang/invoke/MethodHandle" ∧ y.cls ≠ "java/lang/invoke/VarHandle") (E : Exa Z h a C) (hM : Met l Z y ybc yml yrt [] rm (.ref a :: av).toArray h n0 (RI P)) (hd : decode bc pc = .ok (.invokevirtual i, 3)) (pc' : Nat) (hp : pc + 3 = pc') (Wd : Nat) (hfr : rm.frames + 1 ≤ R.frames) (hlo : Wd + (yml + 11) + rm.locals ≤ R.locals) (hlen : ∀ sig, parseMethodDescriptor y.desc = some sig → av.length = sig.parameters.length) (hst : sk = av.reverse ++ .ref a :: st) (hW : (st.map fun v => v.category).sum ≤ Wd) (hsz : ls.size = ml) (hc : cells + rm.cells ≤ R.cells) (hs : slots + rm.slots ≤ R.slots) (k : ∀ (r : Int32) (T' : State) (h' : Heap), Sd p l e R s m args below meth c n0 T' h' (cells + rm.cells) (slots + rm.slots) → P r h' → G (T'.setTop (mkF m pc' ls (.int r :: st)))) : G (T.setTop (mkF m pc ls sk)) := by
  refine callP w X av w1 w6 hnf w7 w3 w4 hy E hM hd pc' hp Wd hfr hlo hlen hst hW hsz hc hs (fun v T' h' Y hq => ?_)
  obtain ⟨r, rfl, hr⟩ := hq
  exact k r T' h' Y hr
theorem callPPI (w : Wk p l e R s m args below meth c n0 Z own nm bc ml rt Q G) (X : Sd p l e R s m args below meth c n0 T h cells slots) {y : MethodName} {ybc : ByteArray} {yml : Nat} {yrt : Option FieldType} {rm : Room} {i : Nat} {sk : List Value} {P : Int32 → Prop} {a : Addr} {C : String} (av : List Value) (w1 : (Cond.methodLink own i y).before a0 Z = true) (w6 : (Cond.instanceMethod y).before a0 Z = true) (hnf : NotFace s y) (w7 : (Cond.privateMethod y).before a0 Z = true) (w3 : (Cond.initialized y.cls).before a0 Z = true) (w4 : (Cond.code y ybc yml yrt).before a0 Z = true) (hy : y.cls ≠ "java/lang/invoke/MethodHandle" ∧ y.cls ≠ "java/lang/invoke/VarHandle") (E : Exa Z h a C) (hM : Met l Z y ybc yml yrt [] rm (.ref a :: av).toArray h n0 (RI fun r h' => h' = h ∧ P r)) (hd : decode bc pc = .ok (.invokevirtual i, 3)) (pc' : Nat) (hp : pc + 3 = pc') (Wd : Nat) (hfr : rm.frames + 1 ≤ R.frames) (hlo : Wd + (yml + 11) + rm.locals ≤ R.locals) (hlen : ∀ sig, parseMethodDescriptor y.desc = some sig → av.length = sig.parameters.length) (hst : sk = av.reverse ++ .ref a :: st) (hW : (st.map fun v => v.category).sum ≤ Wd) (hsz : ls.size = ml) (hc : cells + rm.cells ≤ R.cells) (hs : slots + rm.slots ≤ R.slots) (k : ∀ (r : Int32) (T' : State), Sd p l e R s m args below meth c n0 T' h (cells + rm.cells) (slots + rm.slots) → P r → G (T'.setTop (mkF m pc' ls (.int r :: st)))) : G (T.setTop (mkF m pc ls sk)) := by
  refine callPI w X av w1 w6 hnf w7 w3 w4 hy E hM hd pc' hp Wd hfr hlo hlen hst hW hsz hc hs (fun r T' h' Y hq => ?_)
  obtain ⟨q, hr⟩ := hq
  subst q
  exact k r T' Y hr
theorem callPJ (w : Wk p l e R s m args below meth c n0 Z own nm bc ml rt Q G) (X : Sd p l e R s m args below meth c n0 T h cells slots) {y : MethodName} {ybc : ByteArray} {yml : Nat} {yrt : Option FieldType} {rm : Room} {i : Nat} {sk : List Value} {P : Int64 → Heap → Prop} {a : Addr} {C : String} (av : List Value) (w1 : (Cond.methodLink own i y).before a0 Z = true) (w6 : (Cond.instanceMethod y).before a0 Z = true) (hnf : NotFace s y) (w7 : (Cond.privateMethod y).before a0 Z = true) (w3 : (Cond.initialized y.cls).before a0 Z = true) (w4 : (Cond.code y ybc yml yrt).before a0 Z = true) (hy : y.cls ≠ "java/lang/invoke/MethodHandle" ∧ y.cls ≠ "java/lang/invoke/VarHandle") (E : Exa Z h a C) (hM : Met l Z y ybc yml yrt [] rm (.ref a :: av).toArray h n0 (RJ P)) (hd : decode bc pc = .ok (.invokevirtual i, 3)) (pc' : Nat) (hp : pc + 3 = pc') (Wd : Nat) (hfr : rm.frames + 1 ≤ R.frames) (hlo : Wd + (yml + 11) + rm.locals ≤ R.locals) (hlen : ∀ sig, parseMethodDescriptor y.desc = some sig → av.length = sig.parameters.length) (hst : sk = av.reverse ++ .ref a :: st) (hW : (st.map fun v => v.category).sum ≤ Wd) (hsz : ls.size = ml) (hc : cells + rm.cells ≤ R.cells) (hs : slots + rm.slots ≤ R.slots) (k : ∀ (r : Int64) (T' : State) (h' : Heap), Sd p l e R s m args below meth c n0 T' h' (cells + rm.cells) (slots + rm.slots) → P r h' → G (T'.setTop (mkF m pc' ls (.long r :: st)))) : G (T.setTop (mkF m pc ls sk)) := by
  refine callP w X av w1 w6 hnf w7 w3 w4 hy E hM hd pc' hp Wd hfr hlo hlen hst hW hsz hc hs (fun v T' h' Y hq => ?_)
  obtain ⟨r, rfl, hr⟩ := hq
  exact k r T' h' Y hr
theorem callPPJ (w : Wk p l e R s m args below meth c n0 Z own nm bc ml rt Q G) (X : Sd p l e R s m args below meth c n0 T h cells slots) {y : MethodName} {ybc : ByteArray} {yml : Nat} {yrt : Option FieldType} {rm : Room} {i : Nat} {sk : List Value} {P : Int64 → Prop} {a : Addr} {C : String} (av : List Value) (w1 : (Cond.methodLink own i y).before a0 Z = true) (w6 : (Cond.instanceMethod y).before a0 Z = true) (hnf : NotFace s y) (w7 : (Cond.privateMethod y).before a0 Z = true) (w3 : (Cond.initialized y.cls).before a0 Z = true) (w4 : (Cond.code y ybc yml yrt).before a0 Z = true) (hy : y.cls ≠ "java/lang/invoke/MethodHandle" ∧ y.cls ≠ "java/lang/invoke/VarHandle") (E : Exa Z h a C) (hM : Met l Z y ybc yml yrt [] rm (.ref a :: av).toArray h n0 (RJ fun r h' => h' = h ∧ P r)) (hd : decode bc pc = .ok (.invokevirtual i, 3)) (pc' : Nat) (hp : pc + 3 = pc') (Wd : Nat) (hfr : rm.frames + 1 ≤ R.frames) (hlo : Wd + (yml + 11) + rm.locals ≤ R.locals) (hlen : ∀ sig, parseMethodDescriptor y.desc = some sig → av.length = sig.parameters.length) (hst : sk = av.reverse ++ .ref a :: st) (hW : (st.map fun v => v.category).sum ≤ Wd) (hsz : ls.size = ml) (hc : cells + rm.cells ≤ R.cells) (hs : slots + rm.slots ≤ R.slots) (k : ∀ (r : Int64) (T' : State), Sd p l e R s m args below meth c n0 T' h (cells + rm.cells) (slots + rm.slots) → P r → G (T'.setTop (mkF m pc' ls (.long r :: st)))) : G (T.setTop (mkF m pc ls sk)) := by
  refine callPJ w X av w1 w6 hnf w7 w3 w4 hy E hM hd pc' hp Wd hfr hlo hlen hst hW hsz hc hs (fun r T' h' Y hq => ?_)
  obtain ⟨q, hr⟩ := hq
  subst q
  exact k r T' Y hr
theorem callPR (w : Wk p l e R s m args below meth c n0 Z own nm bc ml rt Q G) (X : Sd p l e R s m args below meth c n0 T h cells slots) {y : MethodName} {ybc : ByteArray} {yml : Nat} {yrt : Option FieldType} {rm : Room} {i : Nat} {sk : List Value} {P : Value → Heap → Prop} {a : Addr} {C : String} (av : List Value) (w1 : (Cond.methodLink own i y).before a0 Z = true) (w6 : (Cond.instanceMethod y).before a0 Z = true) (hnf : NotFace s y) (w7 : (Cond.privateMethod y).before a0 Z = true) (w3 : (Cond.initialized y.cls).before a0 Z = true) (w4 : (Cond.code y ybc yml yrt).before a0 Z = true) (hy : y.cls ≠ "java/lang/invoke/MethodHandle" ∧ y.cls ≠ "java/lang/invoke/VarHandle") (E : Exa Z h a C) (hM : Met l Z y ybc yml yrt [] rm (.ref a :: av).toArray h n0 (RR P)) (hd : decode bc pc = .ok (.invokevirtual i, 3)) (pc' : Nat) (hp : pc + 3 = pc') (Wd : Nat) (hfr : rm.frames + 1 ≤ R.frames) (hlo : Wd + (yml + 11) + rm.locals ≤ R.locals) (hlen : ∀ sig, parseMethodDescriptor y.desc = some sig → av.length = sig.parameters.length) (hst : sk = av.reverse ++ .ref a :: st) (hW : (st.map fun v => v.category).sum ≤ Wd) (hsz : ls.size = ml) (hc : cells + rm.cells ≤ R.cells) (hs : slots + rm.slots ≤ R.slots) (k : ∀ (r : Value) (T' : State) (h' : Heap), Sd p l e R s m args below meth c n0 T' h' (cells + rm.cells) (slots + rm.slots) → P r h' → G (T'.setTop (mkF m pc' ls (r :: st)))) : G (T.setTop (mkF m pc ls sk)) := by
  refine callP w X av w1 w6 hnf w7 w3 w4 hy E hM hd pc' hp Wd hfr hlo hlen hst hW hsz hc hs (fun v T' h' Y hq => ?_)
  obtain ⟨r, rfl, hr⟩ := hq
  exact k r T' h' Y hr
theorem callPPR (w : Wk p l e R s m args below meth c n0 Z own nm bc ml rt Q G) (X : Sd p l e R s m args below meth c n0 T h cells slots) {y : MethodName} {ybc : ByteArray} {yml : Nat} {yrt : Option FieldType} {rm : Room} {i : Nat} {sk : List Value} {P : Value → Prop} {a : Addr} {C : String} (av : List Value) (w1 : (Cond.methodLink own i y).before a0 Z = true) (w6 : (Cond.instanceMethod y).before a0 Z = true) (hnf : NotFace s y) (w7 : (Cond.privateMethod y).before a0 Z = true) (w3 : (Cond.initialized y.cls).before a0 Z = true) (w4 : (Cond.code y ybc yml yrt).before a0 Z = true) (hy : y.cls ≠ "java/lang/invoke/MethodHandle" ∧ y.cls ≠ "java/lang/invoke/VarHandle") (E : Exa Z h a C) (hM : Met l Z y ybc yml yrt [] rm (.ref a :: av).toArray h n0 (RR fun r h' => h' = h ∧ P r)) (hd : decode bc pc = .ok (.invokevirtual i, 3)) (pc' : Nat) (hp : pc + 3 = pc') (Wd : Nat) (hfr : rm.frames + 1 ≤ R.frames) (hlo : Wd + (yml + 11) + rm.locals ≤ R.locals) (hlen : ∀ sig, parseMethodDescriptor y.desc = some sig → av.length = sig.parameters.length) (hst : sk = av.reverse ++ .ref a :: st) (hW : (st.map fun v => v.category).sum ≤ Wd) (hsz : ls.size = ml) (hc : cells + rm.cells ≤ R.cells) (hs : slots + rm.slots ≤ R.slots) (k : ∀ (r : Value) (T' : State), Sd p l e R s m args below meth c n0 T' h (cells + rm.cells) (slots + rm.slots) → P r → G (T'.setTop (mkF m pc' ls (r :: st)))) : G (T.setTop (mkF m pc ls sk)) := by
  refine callPR w X av w1 w6 hnf w7 w3 w4 hy E hM hd pc' hp Wd hfr hlo hlen hst hW hsz hc hs (fun r T' h' Y hq => ?_)
  obtain ⟨q, hr⟩ := hq
  subst q
  exact k r T' Y hr
theorem callPV (w : Wk p l e R s m args below meth c n0 Z own nm bc ml rt Q G) (X : Sd p l e R s m args below meth c n0 T h cells slots) {y : MethodName} {ybc : ByteArray} {yml : Nat} {yrt : Option FieldType} {rm : Room} {i : Nat} {sk : List Value} {P : Heap → Prop} {a : Addr} {C : String} (av : List Value) (w1 : (Cond.methodLink own i y).before a0 Z = true) (w6 : (Cond.instanceMethod y).before a0 Z = true) (hnf : NotFace s y) (w7 : (Cond.privateMethod y).before a0 Z = true) (w3 : (Cond.initialized y.cls).before a0 Z = true) (w4 : (Cond.code y ybc yml yrt).before a0 Z = true) (hy : y.cls ≠ "java/lang/invoke/MethodHandle" ∧ y.cls ≠ "java/lang/invoke/VarHandle") (E : Exa Z h a C) (hM : Met l Z y ybc yml yrt [] rm (.ref a :: av).toArray h n0 (RV P)) (hd : decode bc pc = .ok (.invokevirtual i, 3)) (pc' : Nat) (hp : pc + 3 = pc') (Wd : Nat) (hfr : rm.frames + 1 ≤ R.frames) (hlo : Wd + (yml + 11) + rm.locals ≤ R.locals) (hlen : ∀ sig, parseMethodDescriptor y.desc = some sig → av.length = sig.parameters.length) (hst : sk = av.reverse ++ .ref a :: st) (hW : (st.map fun v => v.category).sum ≤ Wd) (hsz : ls.size = ml) (hc : cells + rm.cells ≤ R.cells) (hs : slots + rm.slots ≤ R.slots) (k : ∀  (T' : State) (h' : Heap), Sd p l e R s m args below meth c n0 T' h' (cells + rm.cells) (slots + rm.slots) → P h' → G (T'.setTop (mkF m pc' ls (st)))) : G (T.setTop (mkF m pc ls sk)) := by
  refine callP w X av w1 w6 hnf w7 w3 w4 hy E hM hd pc' hp Wd hfr hlo hlen hst hW hsz hc hs (fun v T' h' Y hq => ?_)
  obtain ⟨rfl, hr⟩ := hq
  exact k T' h' Y hr
theorem callPPV (w : Wk p l e R s m args below meth c n0 Z own nm bc ml rt Q G) (X : Sd p l e R s m args below meth c n0 T h cells slots) {y : MethodName} {ybc : ByteArray} {yml : Nat} {yrt : Option FieldType} {rm : Room} {i : Nat} {sk : List Value} {a : Addr} {C : String} (av : List Value) (w1 : (Cond.methodLink own i y).before a0 Z = true) (w6 : (Cond.instanceMethod y).before a0 Z = true) (hnf : NotFace s y) (w7 : (Cond.privateMethod y).before a0 Z = true) (w3 : (Cond.initialized y.cls).before a0 Z = true) (w4 : (Cond.code y ybc yml yrt).before a0 Z = true) (hy : y.cls ≠ "java/lang/invoke/MethodHandle" ∧ y.cls ≠ "java/lang/invoke/VarHandle") (E : Exa Z h a C) (hM : Met l Z y ybc yml yrt [] rm (.ref a :: av).toArray h n0 (RV fun h' => h' = h)) (hd : decode bc pc = .ok (.invokevirtual i, 3)) (pc' : Nat) (hp : pc + 3 = pc') (Wd : Nat) (hfr : rm.frames + 1 ≤ R.frames) (hlo : Wd + (yml + 11) + rm.locals ≤ R.locals) (hlen : ∀ sig, parseMethodDescriptor y.desc = some sig → av.length = sig.parameters.length) (hst : sk = av.reverse ++ .ref a :: st) (hW : (st.map fun v => v.category).sum ≤ Wd) (hsz : ls.size = ml) (hc : cells + rm.cells ≤ R.cells) (hs : slots + rm.slots ≤ R.slots) (k : ∀ (T' : State), Sd p l e R s m args below meth c n0 T' h (cells + rm.cells) (slots + rm.slots) → G (T'.setTop (mkF m pc' ls st))) : G (T.setTop (mkF m pc ls sk)) := by
  refine callPV w X av w1 w6 hnf w7 w3 w4 hy E hM hd pc' hp Wd hfr hlo hlen hst hW hsz hc hs (fun T' h' Y hq => ?_)
  subst hq
  exact k T' Y
end Law
/-! numbers, for omega -/
theorem b32 (x : Int32) : -2147483648 ≤ x.toInt ∧ x.toInt < 2147483648 := ⟨Int32.le_toInt x, Int32.toInt_lt x⟩
theorem b64 (x : Int64) : -9223372036854775808 ≤ x.toInt ∧ x.toInt < 9223372036854775808 := ⟨Int64.le_toInt x, Int64.toInt_lt x⟩
theorem k_mulR (x y : Int32) (d : Int) (hy : y.toInt = d) : ((x * y).toInt - (x.toInt * d)) % 4294967296 = 0 := by have := c_imul x y; rwa [hy] at this
theorem k_mulL (x y : Int32) (d : Int) (hx : x.toInt = d) : ((x * y).toInt - (d * y.toInt)) % 4294967296 = 0 := by have := c_imul x y; rwa [hx] at this
theorem k_mask (x m : Int32) (k : Nat) (P : Int) (hk : k ≤ 31) (hm : m.toBitVec.toNat = 2 ^ k - 1) (hP : ((2 ^ k : Nat) : Int) = P) : (x &&& m).toInt = x.toInt % P := by rw [c_mask x m k hk hm, hP]
theorem k_maskL (m x : Int32) (k : Nat) (P : Int) (hk : k ≤ 31) (hm : m.toBitVec.toNat = 2 ^ k - 1) (hP : ((2 ^ k : Nat) : Int) = P) : (m &&& x).toInt = x.toInt % P := by rw [Int32.and_comm, c_mask x m k hk hm, hP]
theorem k_mask64 (x m : Int64) (k : Nat) (P : Int) (hk : k ≤ 63) (hm : m.toBitVec.toNat = 2 ^ k - 1) (hP : ((2 ^ k : Nat) : Int) = P) : (x &&& m).toInt = x.toInt % P := by rw [c_maskL x m k hk hm, hP]
theorem k_or_and (x p q r : Int32) (h : p ||| q = r) : (x &&& p) ||| (x &&& q) = x &&& r := by
  subst h
  apply Int32.toBitVec_inj.mp
  simp only [Int32.toBitVec_or, Int32.toBitVec_and]
  apply BitVec.eq_of_getLsbD_eq
  intro i hi
  simp only [BitVec.getLsbD_or, BitVec.getLsbD_and]
  cases x.toBitVec.getLsbD i <;> simp
theorem k_field (x p q r : Int32) (k j : Nat) (P J : Int) (hpq : p ||| q = r) (h0 : p &&& q = 0) (hk : k ≤ 31) (hq : q.toBitVec.toNat = 2 ^ k - 1) (hP : ((2 ^ k : Nat) : Int) = P) (hj : j ≤ 31) (hr : r.toBitVec.toNat = 2 ^ j - 1) (hJ : ((2 ^ j : Nat) : Int) = J) (hp0 : 0 ≤ p.toInt) (hJ2 : J ≤ 1073741824) (hP1 : 1 ≤ P) (hPJ : P ≤ J) : (x &&& p).toInt = x.toInt % J - x.toInt % P := by
  have e1 : (x &&& p) &&& q = 0 := by rw [Int32.and_assoc, h0, Int32.and_zero]
  have e2 := k_mask (x &&& p) q k P hk hq hP
  rw [e1] at e2
  have e3 := k_or_and x p q r hpq
  have e4 := k_mask x q k P hk hq hP
  have e5 := k_mask x r j J hj hr hJ
  have e6 := c_or (x &&& p) (x &&& q) k hk P hP.symm
  rw [e3, e4, e5] at e6
  have e7 := c_and x p hp0
  have e8 : (0 : Int32).toInt = 0 := rfl
  rw [e8] at e2
  have m1 := Int.emod_nonneg x.toInt (show P ≠ 0 by omega)
  have m2 := Int.emod_lt_of_pos x.toInt (show (0 : Int) < P by omega)
  have m3 := Int.emod_nonneg x.toInt (show J ≠ 0 by omega)
  have m4 := Int.emod_lt_of_pos x.toInt (show (0 : Int) < J by omega)
  have e9 := e6 e2.symm m1 m2
  have b := b32 (x &&& p)
  omega
theorem k_shr (x q : Int32) (k : Nat) (P : Int) (hk : q.toBitVec.toNat % 32 = k) (hP : ((2 ^ k : Nat) : Int) = P) : (x >>> (q &&& 31)).toInt = x.toInt / P := by rw [c_ishr x q k hk, hP]
theorem k_shl (x q : Int32) (k : Nat) (P : Int) (hk : q.toBitVec.toNat % 32 = k) (hP : ((2 ^ k : Nat) : Int) = P) : ((x <<< (q &&& 31)).toInt - x.toInt * P) % 4294967296 = 0 := by have := c_ishl x q k hk; rwa [hP] at this
theorem k_ushr (x q : Int32) (k : Nat) (P : Int) (hk : q.toBitVec.toNat % 32 = k) (h0 : 0 < k) (hP : ((2 ^ k : Nat) : Int) = P) : ((x.toUInt32 >>> (q &&& 31).toUInt32).toInt32).toInt = (x.toInt % 4294967296) / P := by rw [c_iushr x q k hk h0, hP]

theorem nar_b (x : Int32) : nar .byte x.toInt8.toInt32 = x.toInt8.toInt32 := by simp [nar]
theorem lsw_eq {x v : Int32} {k : Int} (hv : v.toInt = k) (q : k = x.toInt) : x = v := Int32.toInt_inj.mp (by omega)
/-- an array of ints, bytes or chars with these elements -/
def PA (Z : State) (h : Heap) (a : Addr) (ty : FieldType) (bs : List Int32) : Prop :=
  ∃ c : Cell, Arr Z h a c ty ∧ c.slots.size = bs.length ∧ bs.length < 2147483648 ∧ (∀ i, i < bs.length → c.slots[i]? = some (.int (bs.getD i 0))) ∧ ∀ x ∈ bs, fits ty (.int x) = true
section Arrays
variable {p : Program} {l : Launch} {e : Env} {R : Room} {s : State} {m : MethodId} {args : Array Value} {below : List Frame} {meth : Method} {c : Code} {n0 : Nat} {T : State} {h h' : Heap} {cells slots : Nat} {Z : State} {a0 : Array Value} {own nm : String} {bc : ByteArray} {ml : Nat} {rt : Option FieldType} {Q : Option Value → Heap → Prop} {G : State → Prop}
variable {pc : Nat} {ls : Array Slot} {st : List Value} {a b : Addr} {ty : FieldType} {bs : List Int32} {j : Int32} {v : Value} {sl : Nat} {ws : List Addr}
theorem PA.lt (F : PA Z h a ty bs) : a < h.size := by obtain ⟨c, A, -⟩ := F; exact A.lt
theorem PA.ext (F : PA Z h a ty bs) (E : Ext h h') : PA Z h' a ty bs := by obtain ⟨c, A, r⟩ := F; exact ⟨c, A.ext E, r⟩
theorem PA.other (F : PA Z h b ty bs) (W : Wr h h' a sl v) (q : b ≠ a) : PA Z h' b ty bs := by obtain ⟨c, A, r⟩ := F; exact ⟨c, A.other W q, r⟩
theorem PA.keep (F : PA Z h a ty bs) (K : Keep h h' ws) (q : a ∉ ws) : PA Z h' a ty bs := by obtain ⟨c, A, r⟩ := F; exact ⟨c, ⟨K.2.1 a c A.1 q, A.2⟩, r⟩
theorem PA.fit (F : PA Z h a ty bs) : ∀ x ∈ bs, fits ty (.int x) = true := by obtain ⟨c, A, r⟩ := F; exact r.2.2.2
theorem PA.len (F : PA Z h a ty bs) : bs.length < 2147483648 := by obtain ⟨c, A, r⟩ := F; exact r.2.1
theorem clampI {j : Int32} (h : ¬ j < 0) : (j.toNatClampNeg : Int) = j.toInt := by
  rw [Int32.lt_iff_toInt_lt] at h
  have e0 : (0 : Int32).toInt = 0 := rfl
  simp only [Int32.toNatClampNeg]; omega
theorem PA.new {cA : ClassId} {n : Int32} (ty : FieldType) (hty : defaultValue ty = .int 0) (hf : fits ty (.int 0) = true) (k : Nat) (A : Arr Z h a (newA cA ty n) ty) (hn : n.toNatClampNeg = k) : PA Z h a ty (List.replicate k 0) := by
  refine ⟨_, A, by rw [sz_new, hn, List.length_replicate], ?_, fun i hi => ?_, fun x hx => ?_⟩
  · rw [List.length_replicate, ← hn]; have := Int32.toInt_lt n; simp only [Int32.toNatClampNeg]; omega
  · rw [List.length_replicate] at hi
    simp [newA, hn, hi, hty, List.getD_eq_getElem?_getD]
  · rw [List.eq_of_mem_replicate hx]; exact hf
theorem PA.ofL {cl : Cell} {n : Int32} (A : Arr Z h a cl ty) (hs : cl.slots.size < 2 ^ 31) (hn : cl.slots.size.toInt32 = n) (hz : n.toNatClampNeg = bs.length) (hz0 : ¬ n < 0) (H : HasL cl 0 (bs.map Value.int)) (hf : ∀ x ∈ bs, fits ty (.int x) = true) : PA Z h a ty bs := by
  have S : cl.slots.size = n.toNatClampNeg := by rw [← hn]; simp only [Int32.toNatClampNeg, len_toInt hs]; rfl
  refine ⟨cl, A, S.trans hz, by omega, fun i hi => ?_, hf⟩
  have := HasL.at (dv := .int 0) (bs.map Value.int) 0 H i (by rw [List.length_map]; exact hi)
  rw [Nat.zero_add] at this
  rw [this]
  simp [List.getD_eq_getElem?_getD, List.getElem?_map, List.getElem?_eq_getElem hi]
theorem PA.inb {c : Cell} (hlen : c.slots.size = bs.length) (h1 : ¬ j < 0) (h2 : j.toNatClampNeg < bs.length) : ¬ (j < 0 ∨ c.slots.size ≤ j.toNatClampNeg) := fun q => q.elim h1 fun z => absurd h2 (Nat.not_lt.mpr (hlen ▸ z))

theorem iaload (w : Wk p l e R s m args below meth c n0 Z own nm bc ml rt Q G) (X : Sd p l e R s m args below meth c n0 T h cells slots) (F : PA Z h a .int bs) (h1 : ¬ j < 0) (i : Nat) (hi : j.toNatClampNeg = i) (h2 : i < bs.length) (hd : decode bc pc = .ok (.iaload, 1)) (pc' : Nat) (hp : pc + 1 = pc') (z : Int32) (hz : z = bs.getD i 0) (k : G (T.setTop (mkF m pc' ls (.int z :: st)))) : G (T.setTop (mkF m pc ls (.int j :: .ref a :: st))) := by
  obtain ⟨locs, Y, N, eT⟩ := X
  subst hp hz hi
  obtain ⟨cl, A, hl, -, hg, -⟩ := F
  exact w.1 _ _ (fun t q => Y.iaload w.2.1 (j := j) (v := .int (bs.getD j.toNatClampNeg 0)) (by rw [eT]; exact A.1) (State.isArrayOf_alike w.2.2.2.2.1.alike A.2.1) A.2.2 (PA.inb hl h1 h2) (hg _ h2) (g := mkF m pc ls (.int j :: .ref a :: st)) rfl rfl (hb w.2.2.1 hd) t q) k
theorem baload (w : Wk p l e R s m args below meth c n0 Z own nm bc ml rt Q G) (X : Sd p l e R s m args below meth c n0 T h cells slots) (F : PA Z h a .byte bs) (h1 : ¬ j < 0) (i : Nat) (hi : j.toNatClampNeg = i) (h2 : i < bs.length) (hd : decode bc pc = .ok (.baload, 1)) (pc' : Nat) (hp : pc + 1 = pc') (z : Int32) (hz : z = bs.getD i 0) (k : G (T.setTop (mkF m pc' ls (.int z :: st)))) : G (T.setTop (mkF m pc ls (.int j :: .ref a :: st))) := by
  obtain ⟨locs, Y, N, eT⟩ := X
  subst hp hz hi
  obtain ⟨cl, A, hl, -, hg, -⟩ := F
  exact w.1 _ _ (fun t q => Y.baloadBytes w.2.1 (j := j) (v := .int (bs.getD j.toNatClampNeg 0)) (by rw [eT]; exact A.1) (State.isArrayOf_alike w.2.2.2.2.1.alike A.2.1) A.2.2 (PA.inb hl h1 h2) (hg _ h2) (g := mkF m pc ls (.int j :: .ref a :: st)) rfl rfl (hb w.2.2.1 hd) t q) k
theorem caload (w : Wk p l e R s m args below meth c n0 Z own nm bc ml rt Q G) (X : Sd p l e R s m args below meth c n0 T h cells slots) (F : PA Z h a .char bs) (h1 : ¬ j < 0) (i : Nat) (hi : j.toNatClampNeg = i) (h2 : i < bs.length) (hd : decode bc pc = .ok (.caload, 1)) (pc' : Nat) (hp : pc + 1 = pc') (z : Int32) (hz : z = bs.getD i 0) (k : G (T.setTop (mkF m pc' ls (.int z :: st)))) : G (T.setTop (mkF m pc ls (.int j :: .ref a :: st))) := by
  obtain ⟨locs, Y, N, eT⟩ := X
  subst hp hz hi
  obtain ⟨cl, A, hl, -, hg, -⟩ := F
  exact w.1 _ _ (fun t q => Y.caload w.2.1 (j := j) (v := .int (bs.getD j.toNatClampNeg 0)) (by rw [eT]; exact A.1) (State.isArrayOf_alike w.2.2.2.2.1.alike A.2.1) A.2.2 (PA.inb hl h1 h2) (hg _ h2) (g := mkF m pc ls (.int j :: .ref a :: st)) rfl rfl (hb w.2.2.1 hd) t q) k
theorem zaload (w : Wk p l e R s m args below meth c n0 Z own nm bc ml rt Q G) (X : Sd p l e R s m args below meth c n0 T h cells slots) (F : PA Z h a .boolean bs) (h1 : ¬ j < 0) (i : Nat) (hi : j.toNatClampNeg = i) (h2 : i < bs.length) (hd : decode bc pc = .ok (.baload, 1)) (pc' : Nat) (hp : pc + 1 = pc') (z : Int32) (hz : z = bs.getD i 0) (k : G (T.setTop (mkF m pc' ls (.int z :: st)))) : G (T.setTop (mkF m pc ls (.int j :: .ref a :: st))) := by
  obtain ⟨locs, Y, N, eT⟩ := X
  subst hp hz hi
  obtain ⟨cl, A, hl, -, hg, -⟩ := F
  exact w.1 _ _ (fun t q => Y.baloadBooleans w.2.1 (j := j) (v := .int (bs.getD j.toNatClampNeg 0)) (by rw [eT]; exact A.1) (State.isArrayOf_alike w.2.2.2.2.1.alike A.2.1) A.2.2 (PA.inb hl h1 h2) (hg _ h2) (g := mkF m pc ls (.int j :: .ref a :: st)) rfl rfl (hb w.2.2.1 hd) t q) k
theorem iastore (w : Wk p l e R s m args below meth c n0 Z own nm bc ml rt Q G) (X : Sd p l e R s m args below meth c n0 T h cells slots) {x : Int32} (F : PA Z h a .int bs) (h1 : ¬ j < 0) (i : Nat) (hi : j.toNatClampNeg = i) (h2 : i < bs.length) (ha : n0 ≤ a) (hd : decode bc pc = .ok (.iastore, 1)) (pc' : Nat) (hp : pc + 1 = pc') (z : Int32) (hz : z = x)
    (k : ∀ (T' : State) (h' : Heap), Sd p l e R s m args below meth c n0 T' h' cells slots → Wr h h' a i (.int z) → PA Z h' a .int (bs.set i z) → G (T'.setTop (mkF m pc' ls st))) : G (T.setTop (mkF m pc ls (.int x :: .int j :: .ref a :: st))) := by
  obtain ⟨locs, Y, N, eT⟩ := X
  subst hp hz hi
  obtain ⟨cl, A, hl, hl2, hg, hf⟩ := F
  obtain ⟨T', h', Y', e', W', q⟩ := stI Y w.2.1 w.2.2.2.2.1 eT A (j := j) (PA.inb hl h1 h2) (g := mkF m pc ls (.int z :: .int j :: .ref a :: st)) rfl rfl (hb w.2.2.1 hd)
  refine w.1 _ _ q (k T' h' ⟨_, Y', Fr.snoc Y' N ha, e'⟩ W' ⟨_, A.same W', by rw [sz_set, List.length_set]; exact hl, by rw [List.length_set]; exact hl2, fun i hi => ?_, fun y hy => ?_⟩)
  · rw [List.length_set] at hi
    by_cases u : j.toNatClampNeg = i
    · subst u; simp [Cell.setSlot, hl, hi, List.getD_eq_getElem?_getD]
    · have := hg i hi
      simp only [Cell.setSlot, List.getD_eq_getElem?_getD] at this ⊢
      rw [Array.getElem?_setIfInBounds_ne u, List.getElem?_set_ne u]; exact this
  · rcases List.mem_or_eq_of_mem_set hy with y1 | rfl
    · exact hf y y1
    · exact rfl
theorem bastore (w : Wk p l e R s m args below meth c n0 Z own nm bc ml rt Q G) (X : Sd p l e R s m args below meth c n0 T h cells slots) {x : Int32} (F : PA Z h a .byte bs) (h1 : ¬ j < 0) (i : Nat) (hi : j.toNatClampNeg = i) (h2 : i < bs.length) (ha : n0 ≤ a) (hd : decode bc pc = .ok (.bastore, 1)) (pc' : Nat) (hp : pc + 1 = pc') (z : Int32) (hz : z = (nar .byte x))
    (k : ∀ (T' : State) (h' : Heap), Sd p l e R s m args below meth c n0 T' h' cells slots → Wr h h' a i (.int z) → PA Z h' a .byte (bs.set i z) → G (T'.setTop (mkF m pc' ls st))) : G (T.setTop (mkF m pc ls (.int x :: .int j :: .ref a :: st))) := by
  obtain ⟨locs, Y, N, eT⟩ := X
  subst hp hz hi
  obtain ⟨cl, A, hl, hl2, hg, hf⟩ := F
  obtain ⟨T', h', Y', e', W', q⟩ := stB Y w.2.1 w.2.2.2.2.1 eT A (j := j) (PA.inb hl h1 h2) (g := mkF m pc ls (.int x :: .int j :: .ref a :: st)) rfl rfl (hb w.2.2.1 hd)
  refine w.1 _ _ q (k T' h' ⟨_, Y', Fr.snoc Y' N ha, e'⟩ W' ⟨_, A.same W', by rw [sz_set, List.length_set]; exact hl, by rw [List.length_set]; exact hl2, fun i hi => ?_, fun y hy => ?_⟩)
  · rw [List.length_set] at hi
    by_cases u : j.toNatClampNeg = i
    · subst u; simp [Cell.setSlot, hl, hi, List.getD_eq_getElem?_getD]
    · have := hg i hi
      simp only [Cell.setSlot, List.getD_eq_getElem?_getD] at this ⊢
      rw [Array.getElem?_setIfInBounds_ne u, List.getElem?_set_ne u]; exact this
  · rcases List.mem_or_eq_of_mem_set hy with y1 | rfl
    · exact hf y y1
    · exact (fits_nar_byte x)
theorem castore (w : Wk p l e R s m args below meth c n0 Z own nm bc ml rt Q G) (X : Sd p l e R s m args below meth c n0 T h cells slots) {x : Int32} (F : PA Z h a .char bs) (h1 : ¬ j < 0) (i : Nat) (hi : j.toNatClampNeg = i) (h2 : i < bs.length) (ha : n0 ≤ a) (hd : decode bc pc = .ok (.castore, 1)) (pc' : Nat) (hp : pc + 1 = pc') (z : Int32) (hz : z = (nar .char x))
    (k : ∀ (T' : State) (h' : Heap), Sd p l e R s m args below meth c n0 T' h' cells slots → Wr h h' a i (.int z) → PA Z h' a .char (bs.set i z) → G (T'.setTop (mkF m pc' ls st))) : G (T.setTop (mkF m pc ls (.int x :: .int j :: .ref a :: st))) := by
  obtain ⟨locs, Y, N, eT⟩ := X
  subst hp hz hi
  obtain ⟨cl, A, hl, hl2, hg, hf⟩ := F
  obtain ⟨T', h', Y', e', W', q⟩ := stC Y w.2.1 w.2.2.2.2.1 eT A (j := j) (PA.inb hl h1 h2) (g := mkF m pc ls (.int x :: .int j :: .ref a :: st)) rfl rfl (hb w.2.2.1 hd)
  refine w.1 _ _ q (k T' h' ⟨_, Y', Fr.snoc Y' N ha, e'⟩ W' ⟨_, A.same W', by rw [sz_set, List.length_set]; exact hl, by rw [List.length_set]; exact hl2, fun i hi => ?_, fun y hy => ?_⟩)
  · rw [List.length_set] at hi
    by_cases u : j.toNatClampNeg = i
    · subst u; simp [Cell.setSlot, hl, hi, List.getD_eq_getElem?_getD]
    · have := hg i hi
      simp only [Cell.setSlot, List.getD_eq_getElem?_getD] at this ⊢
      rw [Array.getElem?_setIfInBounds_ne u, List.getElem?_set_ne u]; exact this
  · rcases List.mem_or_eq_of_mem_set hy with y1 | rfl
    · exact hf y y1
    · exact (fits_nar_char x)
theorem zastore (w : Wk p l e R s m args below meth c n0 Z own nm bc ml rt Q G) (X : Sd p l e R s m args below meth c n0 T h cells slots) {x : Int32} (F : PA Z h a .boolean bs) (h1 : ¬ j < 0) (i : Nat) (hi : j.toNatClampNeg = i) (h2 : i < bs.length) (ha : n0 ≤ a) (hd : decode bc pc = .ok (.bastore, 1)) (pc' : Nat) (hp : pc + 1 = pc') (z : Int32) (hz : z = (nar .boolean x))
    (k : ∀ (T' : State) (h' : Heap), Sd p l e R s m args below meth c n0 T' h' cells slots → Wr h h' a i (.int z) → PA Z h' a .boolean (bs.set i z) → G (T'.setTop (mkF m pc' ls st))) : G (T.setTop (mkF m pc ls (.int x :: .int j :: .ref a :: st))) := by
  obtain ⟨locs, Y, N, eT⟩ := X
  subst hp hz hi
  obtain ⟨cl, A, hl, hl2, hg, hf⟩ := F
  obtain ⟨T', h', Y', e', W', q⟩ := stZ Y w.2.1 w.2.2.2.2.1 eT A (j := j) (PA.inb hl h1 h2) (g := mkF m pc ls (.int x :: .int j :: .ref a :: st)) rfl rfl (hb w.2.2.1 hd)
  refine w.1 _ _ q (k T' h' ⟨_, Y', Fr.snoc Y' N ha, e'⟩ W' ⟨_, A.same W', by rw [sz_set, List.length_set]; exact hl, by rw [List.length_set]; exact hl2, fun i hi => ?_, fun y hy => ?_⟩)
  · rw [List.length_set] at hi
    by_cases u : j.toNatClampNeg = i
    · subst u; simp [Cell.setSlot, hl, hi, List.getD_eq_getElem?_getD]
    · have := hg i hi
      simp only [Cell.setSlot, List.getD_eq_getElem?_getD] at this ⊢
      rw [Array.getElem?_setIfInBounds_ne u, List.getElem?_set_ne u]; exact this
  · rcases List.mem_or_eq_of_mem_set hy with y1 | rfl
    · exact hf y y1
    · exact (fits_nar_bool x)
theorem arraylength (w : Wk p l e R s m args below meth c n0 Z own nm bc ml rt Q G) (X : Sd p l e R s m args below meth c n0 T h cells slots) (F : PA Z h a ty bs) (hd : decode bc pc = .ok (.arraylength, 1)) (pc' : Nat) (hp : pc + 1 = pc') (z : Int32) (hz : z = Int32.ofNat bs.length) (k : G (T.setTop (mkF m pc' ls (.int z :: st)))) : G (T.setTop (mkF m pc ls (.ref a :: st))) := by
  obtain ⟨locs, Y, N, eT⟩ := X
  subst hp hz
  obtain ⟨cl, A, hl, -, -⟩ := F
  refine w.1 _ _ (fun t q => Y.arraylength w.2.1 (by rw [eT]; exact A.1) (State.isArrayOf_alike w.2.2.2.2.1.alike A.2.1) (g := mkF m pc ls (.ref a :: st)) rfl rfl (hb w.2.2.1 hd) t ?_) k
  rw [hl]; exact q
end Arrays
end Jvm.Own
namespace Jvm.Pilot.@@N@@
open Jvm Jvm.ClassFile Sem Op Lib Jvm.Free Jvm.Stand Jvm.LawKit Jvm.RoadKit Jvm.Own Bundle Jvm.Pilot.@@N@@.Jvm.D
/-- r is the length of the sequence that begins with these octets, n of them at hand; 0: none -/
def own_isLen (c0 c1 c2 c3 n r : Int) : Prop :=
  (r = 1 ∧ c0 < 128) ∨
  (r = 2 ∧ 194 ≤ c0 ∧ c0 ≤ 223 ∧ 2 ≤ n ∧ 128 ≤ c1 ∧ c1 ≤ 191) ∨
  (r = 3 ∧ 224 ≤ c0 ∧ c0 ≤ 239 ∧ 3 ≤ n ∧ 128 ≤ c1 ∧ c1 ≤ 191 ∧ (c0 = 224 → 160 ≤ c1) ∧ (c0 = 237 → c1 ≤ 159) ∧ 128 ≤ c2 ∧ c2 ≤ 191) ∨
  (r = 4 ∧ 240 ≤ c0 ∧ c0 ≤ 244 ∧ 4 ≤ n ∧ 128 ≤ c1 ∧ c1 ≤ 191 ∧ (c0 = 240 → 144 ≤ c1) ∧ (c0 = 244 → c1 ≤ 143) ∧ 128 ≤ c2 ∧ c2 ≤ 191 ∧ 128 ≤ c3 ∧ c3 ≤ 191) ∨
  (r = 0 ∧ ¬ c0 < 128 ∧ ¬ (194 ≤ c0 ∧ c0 ≤ 223 ∧ 2 ≤ n ∧ 128 ≤ c1 ∧ c1 ≤ 191) ∧
    ¬ (224 ≤ c0 ∧ c0 ≤ 239 ∧ 3 ≤ n ∧ 128 ≤ c1 ∧ c1 ≤ 191 ∧ (c0 = 224 → 160 ≤ c1) ∧ (c0 = 237 → c1 ≤ 159) ∧ 128 ≤ c2 ∧ c2 ≤ 191) ∧
    ¬ (240 ≤ c0 ∧ c0 ≤ 244 ∧ 4 ≤ n ∧ 128 ≤ c1 ∧ c1 ≤ 191 ∧ (c0 = 240 → 144 ≤ c1) ∧ (c0 = 244 → c1 ≤ 143) ∧ 128 ≤ c2 ∧ c2 ≤ 191 ∧ 128 ≤ c3 ∧ c3 ≤ 191))
theorem own_one {c0 c1 c2 c3 n r q : Int} (h : own_isLen c0 c1 c2 c3 n r) (k : own_isLen c0 c1 c2 c3 n q) : r = q := by
  unfold own_isLen at h k
  omega
theorem own_b255 (x : Int32) : (x.toInt8.toInt32 &&& 255) = x &&& 255 := by
  have h1 := k_mask x 255 8 256 (by decide) (by decide) (by decide)
  have h2 := k_mask x.toInt8.toInt32 255 8 256 (by decide) (by decide) (by decide)
  have h3 := c_i2b x
  apply Int32.toInt_inj.mp
  omega
theorem wd0 {a0 : Array Value} {Z : State} (hw : ∀ d ∈ tables_1, d.before a0 Z = true) : ((Jvm.Cond.arrayClass Jvm.ClassFile.FieldType.byte)).before a0 Z = true := hw _ (List.mem_of_getElem? (i := 0) rfl)
theorem wd1 {a0 : Array Value} {Z : State} (hw : ∀ d ∈ tables_1, d.before a0 Z = true) : ((Jvm.Cond.methodLink "com/example/homeward/homeward/server/Utf8SequenceLengthPinLaw" (7 : Nat) ({ cls := "com/example/homeward/homeward/server/Utf8", name := "sequenceLength", desc := "([BII)I" } : Jvm.MethodName))).before a0 Z = true := hw _ (List.mem_of_getElem? (i := 1) rfl)
theorem wd2 {a0 : Array Value} {Z : State} (hw : ∀ d ∈ tables_1, d.before a0 Z = true) : ((Jvm.Cond.static ({ cls := "com/example/homeward/homeward/server/Utf8", name := "sequenceLength", desc := "([BII)I" } : Jvm.MethodName))).before a0 Z = true := hw _ (List.mem_of_getElem? (i := 2) rfl)
theorem wd3 {a0 : Array Value} {Z : State} (hw : ∀ d ∈ tables_1, d.before a0 Z = true) : ((Jvm.Cond.initialized "com/example/homeward/homeward/server/Utf8")).before a0 Z = true := hw _ (List.mem_of_getElem? (i := 3) rfl)
theorem wd4 {a0 : Array Value} {Z : State} (hw : ∀ d ∈ tables_1, d.before a0 Z = true) : ((Jvm.Cond.code ({ cls := "com/example/homeward/homeward/server/Utf8", name := "sequenceLength", desc := "([BII)I" } : Jvm.MethodName) prog_52_method_3_code (9 : Nat) (Option.some Jvm.ClassFile.FieldType.int))).before a0 Z = true := hw _ (List.mem_of_getElem? (i := 4) rfl)
theorem wd5 {a0 : Array Value} {Z : State} (hw : ∀ d ∈ tables_1, d.before a0 Z = true) : ((Jvm.Cond.methodLink "com/example/homeward/homeward/server/Utf8SequenceLengthPinLaw" (13 : Nat) ({ cls := "com/example/homeward/homeward/server/Utf8SequenceLengthPinLaw", name := "expected", desc := "(IIIII)I" } : Jvm.MethodName))).before a0 Z = true := hw _ (List.mem_of_getElem? (i := 5) rfl)
theorem wd6 {a0 : Array Value} {Z : State} (hw : ∀ d ∈ tables_1, d.before a0 Z = true) : ((Jvm.Cond.static ({ cls := "com/example/homeward/homeward/server/Utf8SequenceLengthPinLaw", name := "expected", desc := "(IIIII)I" } : Jvm.MethodName))).before a0 Z = true := hw _ (List.mem_of_getElem? (i := 6) rfl)
theorem wd7 {a0 : Array Value} {Z : State} (hw : ∀ d ∈ tables_1, d.before a0 Z = true) : ((Jvm.Cond.initialized "com/example/homeward/homeward/server/Utf8SequenceLengthPinLaw")).before a0 Z = true := hw _ (List.mem_of_getElem? (i := 7) rfl)
theorem wd8 {a0 : Array Value} {Z : State} (hw : ∀ d ∈ tables_1, d.before a0 Z = true) : ((Jvm.Cond.code ({ cls := "com/example/homeward/homeward/server/Utf8SequenceLengthPinLaw", name := "expected", desc := "(IIIII)I" } : Jvm.MethodName) method_4_code (8 : Nat) (Option.some Jvm.ClassFile.FieldType.int))).before a0 Z = true := hw _ (List.mem_of_getElem? (i := 8) rfl)
theorem wd9 {a0 : Array Value} {Z : State} (hw : ∀ d ∈ tables_1, d.before a0 Z = true) : ((Jvm.Cond.methodLink "com/example/homeward/homeward/server/Utf8SequenceLengthPinLaw" (19 : Nat) ({ cls := "com/example/homeward/homeward/server/Utf8SequenceLengthPinLaw", name := "cont", desc := "(I)Z" } : Jvm.MethodName))).before a0 Z = true := hw _ (List.mem_of_getElem? (i := 9) rfl)
theorem wd10 {a0 : Array Value} {Z : State} (hw : ∀ d ∈ tables_1, d.before a0 Z = true) : ((Jvm.Cond.static ({ cls := "com/example/homeward/homeward/server/Utf8SequenceLengthPinLaw", name := "cont", desc := "(I)Z" } : Jvm.MethodName))).before a0 Z = true := hw _ (List.mem_of_getElem? (i := 10) rfl)
theorem wd11 {a0 : Array Value} {Z : State} (hw : ∀ d ∈ tables_1, d.before a0 Z = true) : ((Jvm.Cond.code ({ cls := "com/example/homeward/homeward/server/Utf8SequenceLengthPinLaw", name := "cont", desc := "(I)Z" } : Jvm.MethodName) method_3_code (1 : Nat) (Option.some Jvm.ClassFile.FieldType.boolean))).before a0 Z = true := hw _ (List.mem_of_getElem? (i := 11) rfl)
theorem wd12 {a0 : Array Value} {Z : State} (hw : ∀ d ∈ tables_1, d.before a0 Z = true) : ((Jvm.Cond.constant "com/example/homeward/homeward/server/Utf8SequenceLengthPinLaw" (24 : Nat) (1114111 : Int32))).before a0 Z = true := hw _ (List.mem_of_getElem? (i := 12) rfl)
theorem wd13 {a0 : Array Value} {Z : State} (hw : ∀ d ∈ tables_1, d.before a0 Z = true) : ((Jvm.Cond.constant "com/example/homeward/homeward/server/Utf8SequenceLengthPinLaw" (25 : Nat) (55296 : Int32))).before a0 Z = true := hw _ (List.mem_of_getElem? (i := 13) rfl)
theorem wd14 {a0 : Array Value} {Z : State} (hw : ∀ d ∈ tables_1, d.before a0 Z = true) : ((Jvm.Cond.methodLink "com/example/homeward/homeward/server/Utf8" (13 : Nat) ({ cls := "com/example/homeward/homeward/server/Utf8", name := "isContinuation", desc := "(B)Z" } : Jvm.MethodName))).before a0 Z = true := hw _ (List.mem_of_getElem? (i := 14) rfl)
theorem wd15 {a0 : Array Value} {Z : State} (hw : ∀ d ∈ tables_1, d.before a0 Z = true) : ((Jvm.Cond.static ({ cls := "com/example/homeward/homeward/server/Utf8", name := "isContinuation", desc := "(B)Z" } : Jvm.MethodName))).before a0 Z = true := hw _ (List.mem_of_getElem? (i := 15) rfl)
theorem wd16 {a0 : Array Value} {Z : State} (hw : ∀ d ∈ tables_1, d.before a0 Z = true) : ((Jvm.Cond.code ({ cls := "com/example/homeward/homeward/server/Utf8", name := "isContinuation", desc := "(B)Z" } : Jvm.MethodName) prog_52_method_7_code (1 : Nat) (Option.some Jvm.ClassFile.FieldType.boolean))).before a0 Z = true := hw _ (List.mem_of_getElem? (i := 16) rfl)
theorem wd17 {a0 : Array Value} {Z : State} (hw : ∀ d ∈ tables_1, d.before a0 Z = true) : ((Jvm.Cond.constant "com/example/homeward/homeward/server/Utf8SequenceLengthPinLaw" (23 : Nat) (65536 : Int32))).before a0 Z = true := hw _ (List.mem_of_getElem? (i := 17) rfl)
theorem wd18 {a0 : Array Value} {Z : State} (hw : ∀ d ∈ tables_1, d.before a0 Z = true) : ((Jvm.Cond.constant "com/example/homeward/homeward/server/Utf8SequenceLengthPinLaw" (26 : Nat) (57343 : Int32))).before a0 Z = true := hw _ (List.mem_of_getElem? (i := 18) rfl)
theorem pd0 : parseMethodDescriptor "(I)Z" = some ⟨[.int], some .boolean⟩ := by decide +kernel
theorem pd1 : parseMethodDescriptor "(B)Z" = some ⟨[.byte], some .boolean⟩ := by decide +kernel
theorem pd2 : parseMethodDescriptor "([BII)I" = some ⟨[(.array .byte), .int, .int], some .int⟩ := by decide +kernel
theorem pd3 : parseMethodDescriptor "(IIIII)I" = some ⟨[.int, .int, .int, .int, .int], some .int⟩ := by decide +kernel
set_option maxRecDepth 65536 in
set_option maxHeartbeats 40000000 in
theorem lf3_1 (v : Int32) (hc4_1 : v < (128 : Int32)) : ((0 : Int32) = (1 : Int32) ∧ 128 ≤ v.toInt ∧ v.toInt ≤ 191) ∨ ((0 : Int32) = (0 : Int32) ∧ ¬ (128 ≤ v.toInt ∧ v.toInt ≤ 191)) := by
  have := b32 v
  try simp only [Int32.lt_iff_toInt_lt, ← Int32.toInt_inj, Int32.reduceToInt, Int64.lt_iff_toInt_lt, ← Int64.toInt_inj, Int64.reduceToInt, true_and, and_true, true_or, or_true, false_or, or_false, false_and, and_false, not_true_eq_false, not_false_eq_true] at *
  omega
set_option maxRecDepth 65536 in
set_option maxHeartbeats 40000000 in
theorem lf3_2 (v : Int32) (hc4_1 : ¬ (v < (128 : Int32))) (hc11_2 : (191 : Int32) < v) : ((0 : Int32) = (1 : Int32) ∧ 128 ≤ v.toInt ∧ v.toInt ≤ 191) ∨ ((0 : Int32) = (0 : Int32) ∧ ¬ (128 ≤ v.toInt ∧ v.toInt ≤ 191)) := by
  have := b32 v
  try simp only [Int32.lt_iff_toInt_lt, ← Int32.toInt_inj, Int32.reduceToInt, Int64.lt_iff_toInt_lt, ← Int64.toInt_inj, Int64.reduceToInt, true_and, and_true, true_or, or_true, false_or, or_false, false_and, and_false, not_true_eq_false, not_false_eq_true] at *
  omega
set_option maxRecDepth 65536 in
set_option maxHeartbeats 40000000 in
theorem lf3_3 (v : Int32) (hc4_1 : ¬ (v < (128 : Int32))) (hc11_2 : ¬ ((191 : Int32) < v)) : ((1 : Int32) = (1 : Int32) ∧ 128 ≤ v.toInt ∧ v.toInt ≤ 191) ∨ ((1 : Int32) = (0 : Int32) ∧ ¬ (128 ≤ v.toInt ∧ v.toInt ≤ 191)) := by
  have := b32 v
  try simp only [Int32.lt_iff_toInt_lt, ← Int32.toInt_inj, Int32.reduceToInt, Int64.lt_iff_toInt_lt, ← Int64.toInt_inj, Int64.reduceToInt, true_and, and_true, true_or, or_true, false_or, or_false, false_and, and_false, not_true_eq_false, not_false_eq_true] at *
  omega
theorem d3_0 : decode method_3_code 0 = .ok (.iload_n 0, 1) := by decide +kernel
theorem d3_1 : decode method_3_code 1 = .ok (.sipush 128, 3) := by decide +kernel
theorem d3_4 : decode method_3_code 4 = .ok (.if_icmp .lt 14, 3) := by decide +kernel
theorem d3_7 : decode method_3_code 7 = .ok (.iload_n 0, 1) := by decide +kernel
theorem d3_8 : decode method_3_code 8 = .ok (.sipush 191, 3) := by decide +kernel
theorem d3_11 : decode method_3_code 11 = .ok (.if_icmp .gt 7, 3) := by decide +kernel
theorem d3_14 : decode method_3_code 14 = .ok (.iconst 1, 1) := by decide +kernel
theorem d3_15 : decode method_3_code 15 = .ok (.goto 4, 3) := by decide +kernel
theorem d3_18 : decode method_3_code 18 = .ok (.iconst 0, 1) := by decide +kernel
theorem d3_19 : decode method_3_code 19 = .ok (.ireturn, 1) := by decide +kernel
theorem pn3 : plainName "com/example/homeward/homeward/server/Utf8SequenceLengthPinLaw" = true := by first | (simp [plainName, overriddenIn]; done) | decide +kernel
set_option maxRecDepth 65536 in
set_option maxHeartbeats 40000000 in
theorem rm_cont {l : Launch} {Z : State} {a0 : Array Value} (hw : ∀ d ∈ tables_1, d.before a0 Z = true) (v : Int32) (h : Heap) (n0 : Nat) (zn : n0 ≤ h.size) :
    Met l Z (⟨"com/example/homeward/homeward/server/Utf8SequenceLengthPinLaw", "cont", "(I)Z"⟩ : MethodName) method_3_code 1 (some .boolean) [] ({ frames := 0, cells := 0, slots := 0, locals := 0 } : Room) #[(.int v)] h n0 (RI fun r h' => h' = h ∧ ((r = (1 : Int32) ∧ 128 ≤ v.toInt ∧ v.toInt ≤ 191) ∨ (r = (0 : Int32) ∧ ¬ (128 ≤ v.toInt ∧ v.toInt ≤ 191)))) := by
  refine start (ls := #[.val (.int v)]) (plainFor_of_name pn3) (fun m => by first | (simp [entryFrame, mkF, argsToLocals, Value.category]; done) | rfl) ?_
  intro p e s m below meth c T G w X
  refine iloadN w X d3_0 1 rfl rfl ?_
  refine sipush w X (128 : Int32) d3_1 4 rfl rfl ?_
  refine icmp_lt w X d3_4 18 7 (by decide) (by decide) rfl (fun hc4_1 => ?_) (fun hc4_1 => ?_)
  ·
    refine iconst w X (0 : Int32) d3_18 19 rfl rfl ?_
    refine retN w X (t := .boolean) rfl (by simp) d3_19 (by decide) (by decide) ?_
    exact ⟨(0 : Int32), rfl, rfl, lf3_1 v hc4_1⟩
  ·
    refine iloadN w X d3_7 8 rfl rfl ?_
    refine sipush w X (191 : Int32) d3_8 11 rfl rfl ?_
    refine icmp_gt w X d3_11 18 14 (by decide) (by decide) rfl (fun hc11_2 => ?_) (fun hc11_2 => ?_)
    ·
      refine iconst w X (0 : Int32) d3_18 19 rfl rfl ?_
      refine retN w X (t := .boolean) rfl (by simp) d3_19 (by decide) (by decide) ?_
      exact ⟨(0 : Int32), rfl, rfl, lf3_2 v hc4_1 hc11_2⟩
    ·
      refine iconst w X (1 : Int32) d3_14 15 rfl rfl ?_
      refine goto w X d3_15 19 (by decide) (by decide) ?_
      refine retN w X (t := .boolean) rfl (by simp) d3_19 (by decide) (by decide) ?_
      exact ⟨(1 : Int32), rfl, rfl, lf3_3 v hc4_1 hc11_2⟩
set_option maxRecDepth 65536 in
set_option maxHeartbeats 40000000 in
theorem lf4_1 (v : Int32) (hc8_1 : ¬ ((v &&& (192 : Int32)) = (128 : Int32))) : ((0 : Int32) = (1 : Int32) ∧ (v &&& (192 : Int32)) = (128 : Int32)) ∨ ((0 : Int32) = (0 : Int32) ∧ ¬ ((v &&& (192 : Int32)) = (128 : Int32))) := by
  simp_all
set_option maxRecDepth 65536 in
set_option maxHeartbeats 40000000 in
theorem lf4_2 (v : Int32) (hc8_1 : (v &&& (192 : Int32)) = (128 : Int32)) : ((1 : Int32) = (1 : Int32) ∧ (v &&& (192 : Int32)) = (128 : Int32)) ∨ ((1 : Int32) = (0 : Int32) ∧ ¬ ((v &&& (192 : Int32)) = (128 : Int32))) := by
  simp_all
theorem d4_0 : decode prog_52_method_7_code 0 = .ok (.iload_n 0, 1) := by decide +kernel
theorem d4_1 : decode prog_52_method_7_code 1 = .ok (.sipush 192, 3) := by decide +kernel
theorem d4_4 : decode prog_52_method_7_code 4 = .ok (.iand, 1) := by decide +kernel
theorem d4_5 : decode prog_52_method_7_code 5 = .ok (.sipush 128, 3) := by decide +kernel
theorem d4_8 : decode prog_52_method_7_code 8 = .ok (.if_icmp .ne 7, 3) := by decide +kernel
theorem d4_11 : decode prog_52_method_7_code 11 = .ok (.iconst 1, 1) := by decide +kernel
theorem d4_12 : decode prog_52_method_7_code 12 = .ok (.goto 4, 3) := by decide +kernel
theorem d4_15 : decode prog_52_method_7_code 15 = .ok (.iconst 0, 1) := by decide +kernel
theorem d4_16 : decode prog_52_method_7_code 16 = .ok (.ireturn, 1) := by decide +kernel
theorem pn4 : plainName "com/example/homeward/homeward/server/Utf8" = true := by first | (simp [plainName, overriddenIn]; done) | decide +kernel
set_option maxRecDepth 65536 in
set_option maxHeartbeats 40000000 in
theorem rm_isc {l : Launch} {Z : State} {a0 : Array Value} (hw : ∀ d ∈ tables_1, d.before a0 Z = true) (v : Int32) (h : Heap) (n0 : Nat) (zn : n0 ≤ h.size) :
    Met l Z (⟨"com/example/homeward/homeward/server/Utf8", "isContinuation", "(B)Z"⟩ : MethodName) prog_52_method_7_code 1 (some .boolean) [] ({ frames := 0, cells := 0, slots := 0, locals := 0 } : Room) #[(.int v)] h n0 (RI fun r h' => h' = h ∧ ((r = (1 : Int32) ∧ (v &&& (192 : Int32)) = (128 : Int32)) ∨ (r = (0 : Int32) ∧ ¬ ((v &&& (192 : Int32)) = (128 : Int32))))) := by
  refine start (ls := #[.val (.int v)]) (plainFor_of_name pn4) (fun m => by first | (simp [entryFrame, mkF, argsToLocals, Value.category]; done) | rfl) ?_
  intro p e s m below meth c T G w X
  refine iloadN w X d4_0 1 rfl rfl ?_
  refine sipush w X (192 : Int32) d4_1 4 rfl rfl ?_
  refine iand w X (v &&& (192 : Int32)) d4_4 5 rfl rfl ?_
  refine sipush w X (128 : Int32) d4_5 8 rfl rfl ?_
  refine icmp_ne w X d4_8 15 11 (by decide) (by decide) rfl (fun hc8_1 => ?_) (fun hc8_1 => ?_)
  ·
    refine iconst w X (0 : Int32) d4_15 16 rfl rfl ?_
    refine retN w X (t := .boolean) rfl (by simp) d4_16 (by decide) (by decide) ?_
    exact ⟨(0 : Int32), rfl, rfl, lf4_1 v hc8_1⟩
  ·
    refine iconst w X (1 : Int32) d4_11 12 rfl rfl ?_
    refine goto w X d4_12 16 (by decide) (by decide) ?_
    refine retN w X (t := .boolean) rfl (by simp) d4_16 (by decide) (by decide) ?_
    exact ⟨(1 : Int32), rfl, rfl, lf4_2 v hc8_1⟩
set_option maxRecDepth 65536 in
set_option maxHeartbeats 40000000 in
theorem lf2_1 (c0 : Int32) (c1 : Int32) (c2 : Int32) (c3 : Int32) (av0 : Int32) (hb0 : 0 ≤ c0.toInt ∧ c0.toInt ≤ 255) (hb1 : 0 ≤ c1.toInt ∧ c1.toInt ≤ 255) (hb2 : 0 ≤ c2.toInt ∧ c2.toInt ≤ 255) (hb3 : 0 ≤ c3.toInt ∧ c3.toInt ≤ 255) (hbn : 1 ≤ av0.toInt ∧ av0.toInt ≤ 4) (hc4_1 : ¬ (c0 < (128 : Int32))) (hc17_2 : ¬ ((c0 &&& (224 : Int32)) = (192 : Int32))) (hc40_3 : ¬ ((c0 &&& (240 : Int32)) = (224 : Int32))) (hc63_4 : ¬ ((c0 &&& (248 : Int32)) = (240 : Int32))) : own_isLen c0.toInt c1.toInt c2.toInt c3.toInt av0.toInt (0 : Int32).toInt := by
  have : (128 : Int32).toInt = 128 := rfl
  have : (224 : Int32).toInt = 224 := rfl
  have : (c0 &&& (224 : Int32)).toInt = c0.toInt % 256 - c0.toInt % 32 := k_field c0 (224 : Int32) (31 : Int32) (255 : Int32) 5 8 32 256 (by decide) (by decide) (by decide) (by decide) (by decide) (by decide) (by decide) (by decide) (by decide) (by decide) (by decide) (by decide)
  have : 0 ≤ (c0 &&& (224 : Int32)).toInt ∧ (c0 &&& (224 : Int32)).toInt ≤ 224 := by omega
  have : (192 : Int32).toInt = 192 := rfl
  have : (240 : Int32).toInt = 240 := rfl
  have : (c0 &&& (240 : Int32)).toInt = c0.toInt % 256 - c0.toInt % 16 := k_field c0 (240 : Int32) (15 : Int32) (255 : Int32) 4 8 16 256 (by decide) (by decide) (by decide) (by decide) (by decide) (by decide) (by decide) (by decide) (by decide) (by decide) (by decide) (by decide)
  have : 0 ≤ (c0 &&& (240 : Int32)).toInt ∧ (c0 &&& (240 : Int32)).toInt ≤ 240 := by omega
  have : (248 : Int32).toInt = 248 := rfl
  have : (c0 &&& (248 : Int32)).toInt = c0.toInt % 256 - c0.toInt % 8 := k_field c0 (248 : Int32) (7 : Int32) (255 : Int32) 3 8 8 256 (by decide) (by decide) (by decide) (by decide) (by decide) (by decide) (by decide) (by decide) (by decide) (by decide) (by decide) (by decide)
  have : 0 ≤ (c0 &&& (248 : Int32)).toInt ∧ (c0 &&& (248 : Int32)).toInt ≤ 248 := by omega
  have : (0 : Int32).toInt = 0 := rfl
  have := mt Int32.lt_iff_toInt_lt.mpr hc4_1
  have := mt Int32.toInt_inj.mp hc17_2
  have := mt Int32.toInt_inj.mp hc40_3
  have := mt Int32.toInt_inj.mp hc63_4
  unfold own_isLen
  exact Or.inr (Or.inr (Or.inr (Or.inr ⟨by omega, by omega, by omega, by omega, by omega⟩)))
set_option maxRecDepth 65536 in
set_option maxHeartbeats 40000000 in
theorem lf2_2 (c0 : Int32) (c1 : Int32) (c2 : Int32) (c3 : Int32) (av0 : Int32) (i6_5 : Int32) (r7 : Int32) (i6_9 : Int32) (r11 : Int32) (i6_13 : Int32) (r15 : Int32) (i6_17 : Int32) (hb0 : 0 ≤ c0.toInt ∧ c0.toInt ≤ 255) (hb1 : 0 ≤ c1.toInt ∧ c1.toInt ≤ 255) (hb2 : 0 ≤ c2.toInt ∧ c2.toInt ≤ 255) (hb3 : 0 ≤ c3.toInt ∧ c3.toInt ≤ 255) (hbn : 1 ≤ av0.toInt ∧ av0.toInt ≤ 4) (hc4_1 : ¬ (c0 < (128 : Int32))) (hc17_2 : ¬ ((c0 &&& (224 : Int32)) = (192 : Int32))) (hc40_3 : ¬ ((c0 &&& (240 : Int32)) = (224 : Int32))) (hc63_4 : (c0 &&& (248 : Int32)) = (240 : Int32)) (hi6_5 : i6_5 = (c0 &&& (7 : Int32))) (hc84_6 : ¬ (av0 < (4 : Int32))) (hr7 : (r7 = (1 : Int32) ∧ 128 ≤ c1.toInt ∧ c1.toInt ≤ 191) ∨ (r7 = (0 : Int32) ∧ ¬ (128 ≤ c1.toInt ∧ c1.toInt ≤ 191))) (hc93_8 : ¬ (r7 = 0)) (hi6_9 : i6_9 = ((i6_5 <<< ((6 : Int32) &&& 31)) ||| (c1 &&& (63 : Int32)))) (hc113_10 : ¬ ((4 : Int32) < (3 : Int32))) (hr11 : (r11 = (1 : Int32) ∧ 128 ≤ c2.toInt ∧ c2.toInt ≤ 191) ∨ (r11 = (0 : Int32) ∧ ¬ (128 ≤ c2.toInt ∧ c2.toInt ≤ 191))) (hc120_12 : ¬ (r11 = 0)) (hi6_13 : i6_13 = ((i6_9 <<< ((6 : Int32) &&& 31)) ||| (c2 &&& (63 : Int32)))) (hc140_14 : (4 : Int32) = (4 : Int32)) (hr15 : (r15 = (1 : Int32) ∧ 128 ≤ c3.toInt ∧ c3.toInt ≤ 191) ∨ (r15 = (0 : Int32) ∧ ¬ (128 ≤ c3.toInt ∧ c3.toInt ≤ 191))) (hc147_16 : ¬ (r15 = 0)) (hi6_17 : i6_17 = ((i6_13 <<< ((6 : Int32) &&& 31)) ||| (c3 &&& (63 : Int32)))) (hc167_18 : ¬ ((4 : Int32) = (2 : Int32))) (hc179_19 : ¬ ((4 : Int32) = (3 : Int32))) (hc196_20 : ¬ (i6_17 < (65536 : Int32))) (hc205_21 : ¬ ((1114111 : Int32) < i6_17)) (hc214_22 : i6_17 < (55296 : Int32)) : own_isLen c0.toInt c1.toInt c2.toInt c3.toInt av0.toInt (4 : Int32).toInt := by
  have : (128 : Int32).toInt = 128 := rfl
  have : (224 : Int32).toInt = 224 := rfl
  have : (c0 &&& (224 : Int32)).toInt = c0.toInt % 256 - c0.toInt % 32 := k_field c0 (224 : Int32) (31 : Int32) (255 : Int32) 5 8 32 256 (by decide) (by decide) (by decide) (by decide) (by decide) (by decide) (by decide) (by decide) (by decide) (by decide) (by decide) (by decide)
  have : 0 ≤ (c0 &&& (224 : Int32)).toInt ∧ (c0 &&& (224 : Int32)).toInt ≤ 224 := by omega
  have : (192 : Int32).toInt = 192 := rfl
  have : (240 : Int32).toInt = 240 := rfl
  have : (c0 &&& (240 : Int32)).toInt = c0.toInt % 256 - c0.toInt % 16 := k_field c0 (240 : Int32) (15 : Int32) (255 : Int32) 4 8 16 256 (by decide) (by decide) (by decide) (by decide) (by decide) (by decide) (by decide) (by decide) (by decide) (by decide) (by decide) (by decide)
  have : 0 ≤ (c0 &&& (240 : Int32)).toInt ∧ (c0 &&& (240 : Int32)).toInt ≤ 240 := by omega
  have : (248 : Int32).toInt = 248 := rfl
  have : (c0 &&& (248 : Int32)).toInt = c0.toInt % 256 - c0.toInt % 8 := k_field c0 (248 : Int32) (7 : Int32) (255 : Int32) 3 8 8 256 (by decide) (by decide) (by decide) (by decide) (by decide) (by decide) (by decide) (by decide) (by decide) (by decide) (by decide) (by decide)
  have : 0 ≤ (c0 &&& (248 : Int32)).toInt ∧ (c0 &&& (248 : Int32)).toInt ≤ 248 := by omega
  have : (7 : Int32).toInt = 7 := rfl
  have : (c0 &&& (7 : Int32)).toInt = c0.toInt % 8 := k_mask c0 (7 : Int32) 3 8 (by decide) (by decide) (by decide)
  have : 0 ≤ (c0 &&& (7 : Int32)).toInt ∧ (c0 &&& (7 : Int32)).toInt ≤ 7 := by omega
  have : i6_5.toInt = (c0 &&& (7 : Int32)).toInt := congrArg Int32.toInt hi6_5
  have : 0 ≤ i6_5.toInt ∧ i6_5.toInt ≤ 7 := by omega
  have : (4 : Int32).toInt = 4 := rfl
  have : (1 : Int32).toInt = 1 := rfl
  have : (0 : Int32).toInt = 0 := rfl
  have := b32 r7
  have : (i6_5 <<< ((6 : Int32) &&& 31)).toInt = i6_5.toInt * 64 := by
    have := k_shl i6_5 (6 : Int32) 6 64 (by decide) (by decide)
    have := b32 (i6_5 <<< ((6 : Int32) &&& 31))
    omega
  have : 0 ≤ (i6_5 <<< ((6 : Int32) &&& 31)).toInt ∧ (i6_5 <<< ((6 : Int32) &&& 31)).toInt ≤ 448 := by omega
  have : (63 : Int32).toInt = 63 := rfl
  have : (c1 &&& (63 : Int32)).toInt = c1.toInt % 64 := k_mask c1 (63 : Int32) 6 64 (by decide) (by decide) (by decide)
  have : 0 ≤ (c1 &&& (63 : Int32)).toInt ∧ (c1 &&& (63 : Int32)).toInt ≤ 63 := by omega
  have : ((i6_5 <<< ((6 : Int32) &&& 31)) ||| (c1 &&& (63 : Int32))).toInt = (i6_5 <<< ((6 : Int32) &&& 31)).toInt + (c1 &&& (63 : Int32)).toInt := by
    have := c_or (i6_5 <<< ((6 : Int32) &&& 31)) (c1 &&& (63 : Int32)) 6 (by decide) 64 (by decide) (by omega) (by omega) (by omega)
    have := b32 ((i6_5 <<< ((6 : Int32) &&& 31)) ||| (c1 &&& (63 : Int32)))
    omega
  have : 0 ≤ ((i6_5 <<< ((6 : Int32) &&& 31)) ||| (c1 &&& (63 : Int32))).toInt ∧ ((i6_5 <<< ((6 : Int32) &&& 31)) ||| (c1 &&& (63 : Int32))).toInt ≤ 511 := by omega
  have : i6_9.toInt = ((i6_5 <<< ((6 : Int32) &&& 31)) ||| (c1 &&& (63 : Int32))).toInt := congrArg Int32.toInt hi6_9
  have : 0 ≤ i6_9.toInt ∧ i6_9.toInt ≤ 511 := by omega
  have : (3 : Int32).toInt = 3 := rfl
  have := b32 r11
  have : (i6_9 <<< ((6 : Int32) &&& 31)).toInt = i6_9.toInt * 64 := by
    have := k_shl i6_9 (6 : Int32) 6 64 (by decide) (by decide)
    have := b32 (i6_9 <<< ((6 : Int32) &&& 31))
    omega
  have : 0 ≤ (i6_9 <<< ((6 : Int32) &&& 31)).toInt ∧ (i6_9 <<< ((6 : Int32) &&& 31)).toInt ≤ 32704 := by omega
  have : (c2 &&& (63 : Int32)).toInt = c2.toInt % 64 := k_mask c2 (63 : Int32) 6 64 (by decide) (by decide) (by decide)
  have : 0 ≤ (c2 &&& (63 : Int32)).toInt ∧ (c2 &&& (63 : Int32)).toInt ≤ 63 := by omega
  have : ((i6_9 <<< ((6 : Int32) &&& 31)) ||| (c2 &&& (63 : Int32))).toInt = (i6_9 <<< ((6 : Int32) &&& 31)).toInt + (c2 &&& (63 : Int32)).toInt := by
    have := c_or (i6_9 <<< ((6 : Int32) &&& 31)) (c2 &&& (63 : Int32)) 6 (by decide) 64 (by decide) (by omega) (by omega) (by omega)
    have := b32 ((i6_9 <<< ((6 : Int32) &&& 31)) ||| (c2 &&& (63 : Int32)))
    omega
  have : 0 ≤ ((i6_9 <<< ((6 : Int32) &&& 31)) ||| (c2 &&& (63 : Int32))).toInt ∧ ((i6_9 <<< ((6 : Int32) &&& 31)) ||| (c2 &&& (63 : Int32))).toInt ≤ 32767 := by omega
  have : i6_13.toInt = ((i6_9 <<< ((6 : Int32) &&& 31)) ||| (c2 &&& (63 : Int32))).toInt := congrArg Int32.toInt hi6_13
  have : 0 ≤ i6_13.toInt ∧ i6_13.toInt ≤ 32767 := by omega
  have := b32 r15
  have : (i6_13 <<< ((6 : Int32) &&& 31)).toInt = i6_13.toInt * 64 := by
    have := k_shl i6_13 (6 : Int32) 6 64 (by decide) (by decide)
    have := b32 (i6_13 <<< ((6 : Int32) &&& 31))
    omega
  have : 0 ≤ (i6_13 <<< ((6 : Int32) &&& 31)).toInt ∧ (i6_13 <<< ((6 : Int32) &&& 31)).toInt ≤ 2097088 := by omega
  have : (c3 &&& (63 : Int32)).toInt = c3.toInt % 64 := k_mask c3 (63 : Int32) 6 64 (by decide) (by decide) (by decide)
  have : 0 ≤ (c3 &&& (63 : Int32)).toInt ∧ (c3 &&& (63 : Int32)).toInt ≤ 63 := by omega
  have : ((i6_13 <<< ((6 : Int32) &&& 31)) ||| (c3 &&& (63 : Int32))).toInt = (i6_13 <<< ((6 : Int32) &&& 31)).toInt + (c3 &&& (63 : Int32)).toInt := by
    have := c_or (i6_13 <<< ((6 : Int32) &&& 31)) (c3 &&& (63 : Int32)) 6 (by decide) 64 (by decide) (by omega) (by omega) (by omega)
    have := b32 ((i6_13 <<< ((6 : Int32) &&& 31)) ||| (c3 &&& (63 : Int32)))
    omega
  have : 0 ≤ ((i6_13 <<< ((6 : Int32) &&& 31)) ||| (c3 &&& (63 : Int32))).toInt ∧ ((i6_13 <<< ((6 : Int32) &&& 31)) ||| (c3 &&& (63 : Int32))).toInt ≤ 2097151 := by omega
  have : i6_17.toInt = ((i6_13 <<< ((6 : Int32) &&& 31)) ||| (c3 &&& (63 : Int32))).toInt := congrArg Int32.toInt hi6_17
  have : 0 ≤ i6_17.toInt ∧ i6_17.toInt ≤ 2097151 := by omega
  have : (2 : Int32).toInt = 2 := rfl
  have : (65536 : Int32).toInt = 65536 := rfl
  have : (1114111 : Int32).toInt = 1114111 := rfl
  have : (55296 : Int32).toInt = 55296 := rfl
  have := mt Int32.lt_iff_toInt_lt.mpr hc4_1
  have := mt Int32.toInt_inj.mp hc17_2
  have := mt Int32.toInt_inj.mp hc40_3
  have := congrArg Int32.toInt hc63_4
  have := mt Int32.lt_iff_toInt_lt.mpr hc84_6
  simp only [Int32.lt_iff_toInt_lt, ← Int32.toInt_inj] at hr7
  have := mt Int32.toInt_inj.mp hc93_8
  have := mt Int32.lt_iff_toInt_lt.mpr hc113_10
  simp only [Int32.lt_iff_toInt_lt, ← Int32.toInt_inj] at hr11
  have := mt Int32.toInt_inj.mp hc120_12
  have := congrArg Int32.toInt hc140_14
  simp only [Int32.lt_iff_toInt_lt, ← Int32.toInt_inj] at hr15
  have := mt Int32.toInt_inj.mp hc147_16
  have := mt Int32.toInt_inj.mp hc167_18
  have := mt Int32.toInt_inj.mp hc179_19
  have := mt Int32.lt_iff_toInt_lt.mpr hc196_20
  have := mt Int32.lt_iff_toInt_lt.mpr hc205_21
  have := Int32.lt_iff_toInt_lt.mp hc214_22
  unfold own_isLen
  exact Or.inr (Or.inr (Or.inr (Or.inl ⟨by omega, by omega, by omega, by omega, by omega, by omega, by omega, by omega, by omega, by omega, by omega, by omega⟩)))
set_option maxRecDepth 65536 in
set_option maxHeartbeats 40000000 in
theorem lf2_3 (c0 : Int32) (c1 : Int32) (c2 : Int32) (c3 : Int32) (av0 : Int32) (i6_5 : Int32) (r7 : Int32) (i6_9 : Int32) (r11 : Int32) (i6_13 : Int32) (r15 : Int32) (i6_17 : Int32) (hb0 : 0 ≤ c0.toInt ∧ c0.toInt ≤ 255) (hb1 : 0 ≤ c1.toInt ∧ c1.toInt ≤ 255) (hb2 : 0 ≤ c2.toInt ∧ c2.toInt ≤ 255) (hb3 : 0 ≤ c3.toInt ∧ c3.toInt ≤ 255) (hbn : 1 ≤ av0.toInt ∧ av0.toInt ≤ 4) (hc4_1 : ¬ (c0 < (128 : Int32))) (hc17_2 : ¬ ((c0 &&& (224 : Int32)) = (192 : Int32))) (hc40_3 : ¬ ((c0 &&& (240 : Int32)) = (224 : Int32))) (hc63_4 : (c0 &&& (248 : Int32)) = (240 : Int32)) (hi6_5 : i6_5 = (c0 &&& (7 : Int32))) (hc84_6 : ¬ (av0 < (4 : Int32))) (hr7 : (r7 = (1 : Int32) ∧ 128 ≤ c1.toInt ∧ c1.toInt ≤ 191) ∨ (r7 = (0 : Int32) ∧ ¬ (128 ≤ c1.toInt ∧ c1.toInt ≤ 191))) (hc93_8 : ¬ (r7 = 0)) (hi6_9 : i6_9 = ((i6_5 <<< ((6 : Int32) &&& 31)) ||| (c1 &&& (63 : Int32)))) (hc113_10 : ¬ ((4 : Int32) < (3 : Int32))) (hr11 : (r11 = (1 : Int32) ∧ 128 ≤ c2.toInt ∧ c2.toInt ≤ 191) ∨ (r11 = (0 : Int32) ∧ ¬ (128 ≤ c2.toInt ∧ c2.toInt ≤ 191))) (hc120_12 : ¬ (r11 = 0)) (hi6_13 : i6_13 = ((i6_9 <<< ((6 : Int32) &&& 31)) ||| (c2 &&& (63 : Int32)))) (hc140_14 : (4 : Int32) = (4 : Int32)) (hr15 : (r15 = (1 : Int32) ∧ 128 ≤ c3.toInt ∧ c3.toInt ≤ 191) ∨ (r15 = (0 : Int32) ∧ ¬ (128 ≤ c3.toInt ∧ c3.toInt ≤ 191))) (hc147_16 : ¬ (r15 = 0)) (hi6_17 : i6_17 = ((i6_13 <<< ((6 : Int32) &&& 31)) ||| (c3 &&& (63 : Int32)))) (hc167_18 : ¬ ((4 : Int32) = (2 : Int32))) (hc179_19 : ¬ ((4 : Int32) = (3 : Int32))) (hc196_20 : ¬ (i6_17 < (65536 : Int32))) (hc205_21 : ¬ ((1114111 : Int32) < i6_17)) (hc214_22 : ¬ (i6_17 < (55296 : Int32))) (hc221_23 : (57343 : Int32) < i6_17) : own_isLen c0.toInt c1.toInt c2.toInt c3.toInt av0.toInt (4 : Int32).toInt := by
  have : (128 : Int32).toInt = 128 := rfl
  have : (224 : Int32).toInt = 224 := rfl
  have : (c0 &&& (224 : Int32)).toInt = c0.toInt % 256 - c0.toInt % 32 := k_field c0 (224 : Int32) (31 : Int32) (255 : Int32) 5 8 32 256 (by decide) (by decide) (by decide) (by decide) (by decide) (by decide) (by decide) (by decide) (by decide) (by decide) (by decide) (by decide)
  have : 0 ≤ (c0 &&& (224 : Int32)).toInt ∧ (c0 &&& (224 : Int32)).toInt ≤ 224 := by omega
  have : (192 : Int32).toInt = 192 := rfl
  have : (240 : Int32).toInt = 240 := rfl
  have : (c0 &&& (240 : Int32)).toInt = c0.toInt % 256 - c0.toInt % 16 := k_field c0 (240 : Int32) (15 : Int32) (255 : Int32) 4 8 16 256 (by decide) (by decide) (by decide) (by decide) (by decide) (by decide) (by decide) (by decide) (by decide) (by decide) (by decide) (by decide)
  have : 0 ≤ (c0 &&& (240 : Int32)).toInt ∧ (c0 &&& (240 : Int32)).toInt ≤ 240 := by omega
  have : (248 : Int32).toInt = 248 := rfl
  have : (c0 &&& (248 : Int32)).toInt = c0.toInt % 256 - c0.toInt % 8 := k_field c0 (248 : Int32) (7 : Int32) (255 : Int32) 3 8 8 256 (by decide) (by decide) (by decide) (by decide) (by decide) (by decide) (by decide) (by decide) (by decide) (by decide) (by decide) (by decide)
  have : 0 ≤ (c0 &&& (248 : Int32)).toInt ∧ (c0 &&& (248 : Int32)).toInt ≤ 248 := by omega
  have : (7 : Int32).toInt = 7 := rfl
  have : (c0 &&& (7 : Int32)).toInt = c0.toInt % 8 := k_mask c0 (7 : Int32) 3 8 (by decide) (by decide) (by decide)
  have : 0 ≤ (c0 &&& (7 : Int32)).toInt ∧ (c0 &&& (7 : Int32)).toInt ≤ 7 := by omega
  have : i6_5.toInt = (c0 &&& (7 : Int32)).toInt := congrArg Int32.toInt hi6_5
  have : 0 ≤ i6_5.toInt ∧ i6_5.toInt ≤ 7 := by omega
  have : (4 : Int32).toInt = 4 := rfl
  have : (1 : Int32).toInt = 1 := rfl
  have : (0 : Int32).toInt = 0 := rfl
  have := b32 r7
  have : (i6_5 <<< ((6 : Int32) &&& 31)).toInt = i6_5.toInt * 64 := by
    have := k_shl i6_5 (6 : Int32) 6 64 (by decide) (by decide)
    have := b32 (i6_5 <<< ((6 : Int32) &&& 31))
    omega
  have : 0 ≤ (i6_5 <<< ((6 : Int32) &&& 31)).toInt ∧ (i6_5 <<< ((6 : Int32) &&& 31)).toInt ≤ 448 := by omega
  have : (63 : Int32).toInt = 63 := rfl
  have : (c1 &&& (63 : Int32)).toInt = c1.toInt % 64 := k_mask c1 (63 : Int32) 6 64 (by decide) (by decide) (by decide)
  have : 0 ≤ (c1 &&& (63 : Int32)).toInt ∧ (c1 &&& (63 : Int32)).toInt ≤ 63 := by omega
  have : ((i6_5 <<< ((6 : Int32) &&& 31)) ||| (c1 &&& (63 : Int32))).toInt = (i6_5 <<< ((6 : Int32) &&& 31)).toInt + (c1 &&& (63 : Int32)).toInt := by
    have := c_or (i6_5 <<< ((6 : Int32) &&& 31)) (c1 &&& (63 : Int32)) 6 (by decide) 64 (by decide) (by omega) (by omega) (by omega)
    have := b32 ((i6_5 <<< ((6 : Int32) &&& 31)) ||| (c1 &&& (63 : Int32)))
    omega
  have : 0 ≤ ((i6_5 <<< ((6 : Int32) &&& 31)) ||| (c1 &&& (63 : Int32))).toInt ∧ ((i6_5 <<< ((6 : Int32) &&& 31)) ||| (c1 &&& (63 : Int32))).toInt ≤ 511 := by omega
  have : i6_9.toInt = ((i6_5 <<< ((6 : Int32) &&& 31)) ||| (c1 &&& (63 : Int32))).toInt := congrArg Int32.toInt hi6_9
  have : 0 ≤ i6_9.toInt ∧ i6_9.toInt ≤ 511 := by omega
  have : (3 : Int32).toInt = 3 := rfl
  have := b32 r11
  have : (i6_9 <<< ((6 : Int32) &&& 31)).toInt = i6_9.toInt * 64 := by
    have := k_shl i6_9 (6 : Int32) 6 64 (by decide) (by decide)
    have := b32 (i6_9 <<< ((6 : Int32) &&& 31))
    omega
  have : 0 ≤ (i6_9 <<< ((6 : Int32) &&& 31)).toInt ∧ (i6_9 <<< ((6 : Int32) &&& 31)).toInt ≤ 32704 := by omega
  have : (c2 &&& (63 : Int32)).toInt = c2.toInt % 64 := k_mask c2 (63 : Int32) 6 64 (by decide) (by decide) (by decide)
  have : 0 ≤ (c2 &&& (63 : Int32)).toInt ∧ (c2 &&& (63 : Int32)).toInt ≤ 63 := by omega
  have : ((i6_9 <<< ((6 : Int32) &&& 31)) ||| (c2 &&& (63 : Int32))).toInt = (i6_9 <<< ((6 : Int32) &&& 31)).toInt + (c2 &&& (63 : Int32)).toInt := by
    have := c_or (i6_9 <<< ((6 : Int32) &&& 31)) (c2 &&& (63 : Int32)) 6 (by decide) 64 (by decide) (by omega) (by omega) (by omega)
    have := b32 ((i6_9 <<< ((6 : Int32) &&& 31)) ||| (c2 &&& (63 : Int32)))
    omega
  have : 0 ≤ ((i6_9 <<< ((6 : Int32) &&& 31)) ||| (c2 &&& (63 : Int32))).toInt ∧ ((i6_9 <<< ((6 : Int32) &&& 31)) ||| (c2 &&& (63 : Int32))).toInt ≤ 32767 := by omega
  have : i6_13.toInt = ((i6_9 <<< ((6 : Int32) &&& 31)) ||| (c2 &&& (63 : Int32))).toInt := congrArg Int32.toInt hi6_13
  have : 0 ≤ i6_13.toInt ∧ i6_13.toInt ≤ 32767 := by omega
  have := b32 r15
  have : (i6_13 <<< ((6 : Int32) &&& 31)).toInt = i6_13.toInt * 64 := by
    have := k_shl i6_13 (6 : Int32) 6 64 (by decide) (by decide)
    have := b32 (i6_13 <<< ((6 : Int32) &&& 31))
    omega
  have : 0 ≤ (i6_13 <<< ((6 : Int32) &&& 31)).toInt ∧ (i6_13 <<< ((6 : Int32) &&& 31)).toInt ≤ 2097088 := by omega
  have : (c3 &&& (63 : Int32)).toInt = c3.toInt % 64 := k_mask c3 (63 : Int32) 6 64 (by decide) (by decide) (by decide)
  have : 0 ≤ (c3 &&& (63 : Int32)).toInt ∧ (c3 &&& (63 : Int32)).toInt ≤ 63 := by omega
  have : ((i6_13 <<< ((6 : Int32) &&& 31)) ||| (c3 &&& (63 : Int32))).toInt = (i6_13 <<< ((6 : Int32) &&& 31)).toInt + (c3 &&& (63 : Int32)).toInt := by
    have := c_or (i6_13 <<< ((6 : Int32) &&& 31)) (c3 &&& (63 : Int32)) 6 (by decide) 64 (by decide) (by omega) (by omega) (by omega)
    have := b32 ((i6_13 <<< ((6 : Int32) &&& 31)) ||| (c3 &&& (63 : Int32)))
    omega
  have : 0 ≤ ((i6_13 <<< ((6 : Int32) &&& 31)) ||| (c3 &&& (63 : Int32))).toInt ∧ ((i6_13 <<< ((6 : Int32) &&& 31)) ||| (c3 &&& (63 : Int32))).toInt ≤ 2097151 := by omega
  have : i6_17.toInt = ((i6_13 <<< ((6 : Int32) &&& 31)) ||| (c3 &&& (63 : Int32))).toInt := congrArg Int32.toInt hi6_17
  have : 0 ≤ i6_17.toInt ∧ i6_17.toInt ≤ 2097151 := by omega
  have : (2 : Int32).toInt = 2 := rfl
  have : (65536 : Int32).toInt = 65536 := rfl
  have : (1114111 : Int32).toInt = 1114111 := rfl
  have : (55296 : Int32).toInt = 55296 := rfl
  have : (57343 : Int32).toInt = 57343 := rfl
  have := mt Int32.lt_iff_toInt_lt.mpr hc4_1
  have := mt Int32.toInt_inj.mp hc17_2
  have := mt Int32.toInt_inj.mp hc40_3
  have := congrArg Int32.toInt hc63_4
  have := mt Int32.lt_iff_toInt_lt.mpr hc84_6
  simp only [Int32.lt_iff_toInt_lt, ← Int32.toInt_inj] at hr7
  have := mt Int32.toInt_inj.mp hc93_8
  have := mt Int32.lt_iff_toInt_lt.mpr hc113_10
  simp only [Int32.lt_iff_toInt_lt, ← Int32.toInt_inj] at hr11
  have := mt Int32.toInt_inj.mp hc120_12
  have := congrArg Int32.toInt hc140_14
  simp only [Int32.lt_iff_toInt_lt, ← Int32.toInt_inj] at hr15
  have := mt Int32.toInt_inj.mp hc147_16
  have := mt Int32.toInt_inj.mp hc167_18
  have := mt Int32.toInt_inj.mp hc179_19
  have := mt Int32.lt_iff_toInt_lt.mpr hc196_20
  have := mt Int32.lt_iff_toInt_lt.mpr hc205_21
  have := mt Int32.lt_iff_toInt_lt.mpr hc214_22
  have := Int32.lt_iff_toInt_lt.mp hc221_23
  unfold own_isLen
  exact Or.inr (Or.inr (Or.inr (Or.inl ⟨by omega, by omega, by omega, by omega, by omega, by omega, by omega, by omega, by omega, by omega, by omega, by omega⟩)))
set_option maxRecDepth 65536 in
set_option maxHeartbeats 40000000 in
theorem lf2_4 (c0 : Int32) (c1 : Int32) (c2 : Int32) (c3 : Int32) (av0 : Int32) (i6_5 : Int32) (r7 : Int32) (i6_9 : Int32) (r11 : Int32) (i6_13 : Int32) (r15 : Int32) (i6_17 : Int32) (hb0 : 0 ≤ c0.toInt ∧ c0.toInt ≤ 255) (hb1 : 0 ≤ c1.toInt ∧ c1.toInt ≤ 255) (hb2 : 0 ≤ c2.toInt ∧ c2.toInt ≤ 255) (hb3 : 0 ≤ c3.toInt ∧ c3.toInt ≤ 255) (hbn : 1 ≤ av0.toInt ∧ av0.toInt ≤ 4) (hc4_1 : ¬ (c0 < (128 : Int32))) (hc17_2 : ¬ ((c0 &&& (224 : Int32)) = (192 : Int32))) (hc40_3 : ¬ ((c0 &&& (240 : Int32)) = (224 : Int32))) (hc63_4 : (c0 &&& (248 : Int32)) = (240 : Int32)) (hi6_5 : i6_5 = (c0 &&& (7 : Int32))) (hc84_6 : ¬ (av0 < (4 : Int32))) (hr7 : (r7 = (1 : Int32) ∧ 128 ≤ c1.toInt ∧ c1.toInt ≤ 191) ∨ (r7 = (0 : Int32) ∧ ¬ (128 ≤ c1.toInt ∧ c1.toInt ≤ 191))) (hc93_8 : ¬ (r7 = 0)) (hi6_9 : i6_9 = ((i6_5 <<< ((6 : Int32) &&& 31)) ||| (c1 &&& (63 : Int32)))) (hc113_10 : ¬ ((4 : Int32) < (3 : Int32))) (hr11 : (r11 = (1 : Int32) ∧ 128 ≤ c2.toInt ∧ c2.toInt ≤ 191) ∨ (r11 = (0 : Int32) ∧ ¬ (128 ≤ c2.toInt ∧ c2.toInt ≤ 191))) (hc120_12 : ¬ (r11 = 0)) (hi6_13 : i6_13 = ((i6_9 <<< ((6 : Int32) &&& 31)) ||| (c2 &&& (63 : Int32)))) (hc140_14 : (4 : Int32) = (4 : Int32)) (hr15 : (r15 = (1 : Int32) ∧ 128 ≤ c3.toInt ∧ c3.toInt ≤ 191) ∨ (r15 = (0 : Int32) ∧ ¬ (128 ≤ c3.toInt ∧ c3.toInt ≤ 191))) (hc147_16 : ¬ (r15 = 0)) (hi6_17 : i6_17 = ((i6_13 <<< ((6 : Int32) &&& 31)) ||| (c3 &&& (63 : Int32)))) (hc167_18 : ¬ ((4 : Int32) = (2 : Int32))) (hc179_19 : ¬ ((4 : Int32) = (3 : Int32))) (hc196_20 : ¬ (i6_17 < (65536 : Int32))) (hc205_21 : ¬ ((1114111 : Int32) < i6_17)) (hc214_22 : ¬ (i6_17 < (55296 : Int32))) (hc221_23 : ¬ ((57343 : Int32) < i6_17)) : own_isLen c0.toInt c1.toInt c2.toInt c3.toInt av0.toInt (0 : Int32).toInt := by
  have : (128 : Int32).toInt = 128 := rfl
  have : (224 : Int32).toInt = 224 := rfl
  have : (c0 &&& (224 : Int32)).toInt = c0.toInt % 256 - c0.toInt % 32 := k_field c0 (224 : Int32) (31 : Int32) (255 : Int32) 5 8 32 256 (by decide) (by decide) (by decide) (by decide) (by decide) (by decide) (by decide) (by decide) (by decide) (by decide) (by decide) (by decide)
  have : 0 ≤ (c0 &&& (224 : Int32)).toInt ∧ (c0 &&& (224 : Int32)).toInt ≤ 224 := by omega
  have : (192 : Int32).toInt = 192 := rfl
  have : (240 : Int32).toInt = 240 := rfl
  have : (c0 &&& (240 : Int32)).toInt = c0.toInt % 256 - c0.toInt % 16 := k_field c0 (240 : Int32) (15 : Int32) (255 : Int32) 4 8 16 256 (by decide) (by decide) (by decide) (by decide) (by decide) (by decide) (by decide) (by decide) (by decide) (by decide) (by decide) (by decide)
  have : 0 ≤ (c0 &&& (240 : Int32)).toInt ∧ (c0 &&& (240 : Int32)).toInt ≤ 240 := by omega
  have : (248 : Int32).toInt = 248 := rfl
  have : (c0 &&& (248 : Int32)).toInt = c0.toInt % 256 - c0.toInt % 8 := k_field c0 (248 : Int32) (7 : Int32) (255 : Int32) 3 8 8 256 (by decide) (by decide) (by decide) (by decide) (by decide) (by decide) (by decide) (by decide) (by decide) (by decide) (by decide) (by decide)
  have : 0 ≤ (c0 &&& (248 : Int32)).toInt ∧ (c0 &&& (248 : Int32)).toInt ≤ 248 := by omega
  have : (7 : Int32).toInt = 7 := rfl
  have : (c0 &&& (7 : Int32)).toInt = c0.toInt % 8 := k_mask c0 (7 : Int32) 3 8 (by decide) (by decide) (by decide)
  have : 0 ≤ (c0 &&& (7 : Int32)).toInt ∧ (c0 &&& (7 : Int32)).toInt ≤ 7 := by omega
  have : i6_5.toInt = (c0 &&& (7 : Int32)).toInt := congrArg Int32.toInt hi6_5
  have : 0 ≤ i6_5.toInt ∧ i6_5.toInt ≤ 7 := by omega
  have : (4 : Int32).toInt = 4 := rfl
  have : (1 : Int32).toInt = 1 := rfl
  have : (0 : Int32).toInt = 0 := rfl
  have := b32 r7
  have : (i6_5 <<< ((6 : Int32) &&& 31)).toInt = i6_5.toInt * 64 := by
    have := k_shl i6_5 (6 : Int32) 6 64 (by decide) (by decide)
    have := b32 (i6_5 <<< ((6 : Int32) &&& 31))
    omega
  have : 0 ≤ (i6_5 <<< ((6 : Int32) &&& 31)).toInt ∧ (i6_5 <<< ((6 : Int32) &&& 31)).toInt ≤ 448 := by omega
  have : (63 : Int32).toInt = 63 := rfl
  have : (c1 &&& (63 : Int32)).toInt = c1.toInt % 64 := k_mask c1 (63 : Int32) 6 64 (by decide) (by decide) (by decide)
  have : 0 ≤ (c1 &&& (63 : Int32)).toInt ∧ (c1 &&& (63 : Int32)).toInt ≤ 63 := by omega
  have : ((i6_5 <<< ((6 : Int32) &&& 31)) ||| (c1 &&& (63 : Int32))).toInt = (i6_5 <<< ((6 : Int32) &&& 31)).toInt + (c1 &&& (63 : Int32)).toInt := by
    have := c_or (i6_5 <<< ((6 : Int32) &&& 31)) (c1 &&& (63 : Int32)) 6 (by decide) 64 (by decide) (by omega) (by omega) (by omega)
    have := b32 ((i6_5 <<< ((6 : Int32) &&& 31)) ||| (c1 &&& (63 : Int32)))
    omega
  have : 0 ≤ ((i6_5 <<< ((6 : Int32) &&& 31)) ||| (c1 &&& (63 : Int32))).toInt ∧ ((i6_5 <<< ((6 : Int32) &&& 31)) ||| (c1 &&& (63 : Int32))).toInt ≤ 511 := by omega
  have : i6_9.toInt = ((i6_5 <<< ((6 : Int32) &&& 31)) ||| (c1 &&& (63 : Int32))).toInt := congrArg Int32.toInt hi6_9
  have : 0 ≤ i6_9.toInt ∧ i6_9.toInt ≤ 511 := by omega
  have : (3 : Int32).toInt = 3 := rfl
  have := b32 r11
  have : (i6_9 <<< ((6 : Int32) &&& 31)).toInt = i6_9.toInt * 64 := by
    have := k_shl i6_9 (6 : Int32) 6 64 (by decide) (by decide)
    have := b32 (i6_9 <<< ((6 : Int32) &&& 31))
    omega
  have : 0 ≤ (i6_9 <<< ((6 : Int32) &&& 31)).toInt ∧ (i6_9 <<< ((6 : Int32) &&& 31)).toInt ≤ 32704 := by omega
  have : (c2 &&& (63 : Int32)).toInt = c2.toInt % 64 := k_mask c2 (63 : Int32) 6 64 (by decide) (by decide) (by decide)
  have : 0 ≤ (c2 &&& (63 : Int32)).toInt ∧ (c2 &&& (63 : Int32)).toInt ≤ 63 := by omega
  have : ((i6_9 <<< ((6 : Int32) &&& 31)) ||| (c2 &&& (63 : Int32))).toInt = (i6_9 <<< ((6 : Int32) &&& 31)).toInt + (c2 &&& (63 : Int32)).toInt := by
    have := c_or (i6_9 <<< ((6 : Int32) &&& 31)) (c2 &&& (63 : Int32)) 6 (by decide) 64 (by decide) (by omega) (by omega) (by omega)
    have := b32 ((i6_9 <<< ((6 : Int32) &&& 31)) ||| (c2 &&& (63 : Int32)))
    omega
  have : 0 ≤ ((i6_9 <<< ((6 : Int32) &&& 31)) ||| (c2 &&& (63 : Int32))).toInt ∧ ((i6_9 <<< ((6 : Int32) &&& 31)) ||| (c2 &&& (63 : Int32))).toInt ≤ 32767 := by omega
  have : i6_13.toInt = ((i6_9 <<< ((6 : Int32) &&& 31)) ||| (c2 &&& (63 : Int32))).toInt := congrArg Int32.toInt hi6_13
  have : 0 ≤ i6_13.toInt ∧ i6_13.toInt ≤ 32767 := by omega
  have := b32 r15
  have : (i6_13 <<< ((6 : Int32) &&& 31)).toInt = i6_13.toInt * 64 := by
    have := k_shl i6_13 (6 : Int32) 6 64 (by decide) (by decide)
    have := b32 (i6_13 <<< ((6 : Int32) &&& 31))
    omega
  have : 0 ≤ (i6_13 <<< ((6 : Int32) &&& 31)).toInt ∧ (i6_13 <<< ((6 : Int32) &&& 31)).toInt ≤ 2097088 := by omega
  have : (c3 &&& (63 : Int32)).toInt = c3.toInt % 64 := k_mask c3 (63 : Int32) 6 64 (by decide) (by decide) (by decide)
  have : 0 ≤ (c3 &&& (63 : Int32)).toInt ∧ (c3 &&& (63 : Int32)).toInt ≤ 63 := by omega
  have : ((i6_13 <<< ((6 : Int32) &&& 31)) ||| (c3 &&& (63 : Int32))).toInt = (i6_13 <<< ((6 : Int32) &&& 31)).toInt + (c3 &&& (63 : Int32)).toInt := by
    have := c_or (i6_13 <<< ((6 : Int32) &&& 31)) (c3 &&& (63 : Int32)) 6 (by decide) 64 (by decide) (by omega) (by omega) (by omega)
    have := b32 ((i6_13 <<< ((6 : Int32) &&& 31)) ||| (c3 &&& (63 : Int32)))
    omega
  have : 0 ≤ ((i6_13 <<< ((6 : Int32) &&& 31)) ||| (c3 &&& (63 : Int32))).toInt ∧ ((i6_13 <<< ((6 : Int32) &&& 31)) ||| (c3 &&& (63 : Int32))).toInt ≤ 2097151 := by omega
  have : i6_17.toInt = ((i6_13 <<< ((6 : Int32) &&& 31)) ||| (c3 &&& (63 : Int32))).toInt := congrArg Int32.toInt hi6_17
  have : 0 ≤ i6_17.toInt ∧ i6_17.toInt ≤ 2097151 := by omega
  have : (2 : Int32).toInt = 2 := rfl
  have : (65536 : Int32).toInt = 65536 := rfl
  have : (1114111 : Int32).toInt = 1114111 := rfl
  have : (55296 : Int32).toInt = 55296 := rfl
  have : (57343 : Int32).toInt = 57343 := rfl
  have := mt Int32.lt_iff_toInt_lt.mpr hc4_1
  have := mt Int32.toInt_inj.mp hc17_2
  have := mt Int32.toInt_inj.mp hc40_3
  have := congrArg Int32.toInt hc63_4
  have := mt Int32.lt_iff_toInt_lt.mpr hc84_6
  simp only [Int32.lt_iff_toInt_lt, ← Int32.toInt_inj] at hr7
  have := mt Int32.toInt_inj.mp hc93_8
  have := mt Int32.lt_iff_toInt_lt.mpr hc113_10
  simp only [Int32.lt_iff_toInt_lt, ← Int32.toInt_inj] at hr11
  have := mt Int32.toInt_inj.mp hc120_12
  have := congrArg Int32.toInt hc140_14
  simp only [Int32.lt_iff_toInt_lt, ← Int32.toInt_inj] at hr15
  have := mt Int32.toInt_inj.mp hc147_16
  have := mt Int32.toInt_inj.mp hc167_18
  have := mt Int32.toInt_inj.mp hc179_19
  have := mt Int32.lt_iff_toInt_lt.mpr hc196_20
  have := mt Int32.lt_iff_toInt_lt.mpr hc205_21
  have := mt Int32.lt_iff_toInt_lt.mpr hc214_22
  have := mt Int32.lt_iff_toInt_lt.mpr hc221_23
  unfold own_isLen
  exact Or.inr (Or.inr (Or.inr (Or.inr ⟨by omega, by omega, by omega, by omega, by omega⟩)))
set_option maxRecDepth 65536 in
set_option maxHeartbeats 40000000 in
theorem lf2_5 (c0 : Int32) (c1 : Int32) (c2 : Int32) (c3 : Int32) (av0 : Int32) (i6_5 : Int32) (r7 : Int32) (i6_9 : Int32) (r11 : Int32) (i6_13 : Int32) (r15 : Int32) (i6_17 : Int32) (hb0 : 0 ≤ c0.toInt ∧ c0.toInt ≤ 255) (hb1 : 0 ≤ c1.toInt ∧ c1.toInt ≤ 255) (hb2 : 0 ≤ c2.toInt ∧ c2.toInt ≤ 255) (hb3 : 0 ≤ c3.toInt ∧ c3.toInt ≤ 255) (hbn : 1 ≤ av0.toInt ∧ av0.toInt ≤ 4) (hc4_1 : ¬ (c0 < (128 : Int32))) (hc17_2 : ¬ ((c0 &&& (224 : Int32)) = (192 : Int32))) (hc40_3 : ¬ ((c0 &&& (240 : Int32)) = (224 : Int32))) (hc63_4 : (c0 &&& (248 : Int32)) = (240 : Int32)) (hi6_5 : i6_5 = (c0 &&& (7 : Int32))) (hc84_6 : ¬ (av0 < (4 : Int32))) (hr7 : (r7 = (1 : Int32) ∧ 128 ≤ c1.toInt ∧ c1.toInt ≤ 191) ∨ (r7 = (0 : Int32) ∧ ¬ (128 ≤ c1.toInt ∧ c1.toInt ≤ 191))) (hc93_8 : ¬ (r7 = 0)) (hi6_9 : i6_9 = ((i6_5 <<< ((6 : Int32) &&& 31)) ||| (c1 &&& (63 : Int32)))) (hc113_10 : ¬ ((4 : Int32) < (3 : Int32))) (hr11 : (r11 = (1 : Int32) ∧ 128 ≤ c2.toInt ∧ c2.toInt ≤ 191) ∨ (r11 = (0 : Int32) ∧ ¬ (128 ≤ c2.toInt ∧ c2.toInt ≤ 191))) (hc120_12 : ¬ (r11 = 0)) (hi6_13 : i6_13 = ((i6_9 <<< ((6 : Int32) &&& 31)) ||| (c2 &&& (63 : Int32)))) (hc140_14 : (4 : Int32) = (4 : Int32)) (hr15 : (r15 = (1 : Int32) ∧ 128 ≤ c3.toInt ∧ c3.toInt ≤ 191) ∨ (r15 = (0 : Int32) ∧ ¬ (128 ≤ c3.toInt ∧ c3.toInt ≤ 191))) (hc147_16 : ¬ (r15 = 0)) (hi6_17 : i6_17 = ((i6_13 <<< ((6 : Int32) &&& 31)) ||| (c3 &&& (63 : Int32)))) (hc167_18 : ¬ ((4 : Int32) = (2 : Int32))) (hc179_19 : ¬ ((4 : Int32) = (3 : Int32))) (hc196_20 : ¬ (i6_17 < (65536 : Int32))) (hc205_21 : (1114111 : Int32) < i6_17) : own_isLen c0.toInt c1.toInt c2.toInt c3.toInt av0.toInt (0 : Int32).toInt := by
  have : (128 : Int32).toInt = 128 := rfl
  have : (224 : Int32).toInt = 224 := rfl
  have : (c0 &&& (224 : Int32)).toInt = c0.toInt % 256 - c0.toInt % 32 := k_field c0 (224 : Int32) (31 : Int32) (255 : Int32) 5 8 32 256 (by decide) (by decide) (by decide) (by decide) (by decide) (by decide) (by decide) (by decide) (by decide) (by decide) (by decide) (by decide)
  have : 0 ≤ (c0 &&& (224 : Int32)).toInt ∧ (c0 &&& (224 : Int32)).toInt ≤ 224 := by omega
  have : (192 : Int32).toInt = 192 := rfl
  have : (240 : Int32).toInt = 240 := rfl
  have : (c0 &&& (240 : Int32)).toInt = c0.toInt % 256 - c0.toInt % 16 := k_field c0 (240 : Int32) (15 : Int32) (255 : Int32) 4 8 16 256 (by decide) (by decide) (by decide) (by decide) (by decide) (by decide) (by decide) (by decide) (by decide) (by decide) (by decide) (by decide)
  have : 0 ≤ (c0 &&& (240 : Int32)).toInt ∧ (c0 &&& (240 : Int32)).toInt ≤ 240 := by omega
  have : (248 : Int32).toInt = 248 := rfl
  have : (c0 &&& (248 : Int32)).toInt = c0.toInt % 256 - c0.toInt % 8 := k_field c0 (248 : Int32) (7 : Int32) (255 : Int32) 3 8 8 256 (by decide) (by decide) (by decide) (by decide) (by decide) (by decide) (by decide) (by decide) (by decide) (by decide) (by decide) (by decide)
  have : 0 ≤ (c0 &&& (248 : Int32)).toInt ∧ (c0 &&& (248 : Int32)).toInt ≤ 248 := by omega
  have : (7 : Int32).toInt = 7 := rfl
  have : (c0 &&& (7 : Int32)).toInt = c0.toInt % 8 := k_mask c0 (7 : Int32) 3 8 (by decide) (by decide) (by decide)
  have : 0 ≤ (c0 &&& (7 : Int32)).toInt ∧ (c0 &&& (7 : Int32)).toInt ≤ 7 := by omega
  have : i6_5.toInt = (c0 &&& (7 : Int32)).toInt := congrArg Int32.toInt hi6_5
  have : 0 ≤ i6_5.toInt ∧ i6_5.toInt ≤ 7 := by omega
  have : (4 : Int32).toInt = 4 := rfl
  have : (1 : Int32).toInt = 1 := rfl
  have : (0 : Int32).toInt = 0 := rfl
  have := b32 r7
  have : (i6_5 <<< ((6 : Int32) &&& 31)).toInt = i6_5.toInt * 64 := by
    have := k_shl i6_5 (6 : Int32) 6 64 (by decide) (by decide)
    have := b32 (i6_5 <<< ((6 : Int32) &&& 31))
    omega
  have : 0 ≤ (i6_5 <<< ((6 : Int32) &&& 31)).toInt ∧ (i6_5 <<< ((6 : Int32) &&& 31)).toInt ≤ 448 := by omega
  have : (63 : Int32).toInt = 63 := rfl
  have : (c1 &&& (63 : Int32)).toInt = c1.toInt % 64 := k_mask c1 (63 : Int32) 6 64 (by decide) (by decide) (by decide)
  have : 0 ≤ (c1 &&& (63 : Int32)).toInt ∧ (c1 &&& (63 : Int32)).toInt ≤ 63 := by omega
  have : ((i6_5 <<< ((6 : Int32) &&& 31)) ||| (c1 &&& (63 : Int32))).toInt = (i6_5 <<< ((6 : Int32) &&& 31)).toInt + (c1 &&& (63 : Int32)).toInt := by
    have := c_or (i6_5 <<< ((6 : Int32) &&& 31)) (c1 &&& (63 : Int32)) 6 (by decide) 64 (by decide) (by omega) (by omega) (by omega)
    have := b32 ((i6_5 <<< ((6 : Int32) &&& 31)) ||| (c1 &&& (63 : Int32)))
    omega
  have : 0 ≤ ((i6_5 <<< ((6 : Int32) &&& 31)) ||| (c1 &&& (63 : Int32))).toInt ∧ ((i6_5 <<< ((6 : Int32) &&& 31)) ||| (c1 &&& (63 : Int32))).toInt ≤ 511 := by omega
  have : i6_9.toInt = ((i6_5 <<< ((6 : Int32) &&& 31)) ||| (c1 &&& (63 : Int32))).toInt := congrArg Int32.toInt hi6_9
  have : 0 ≤ i6_9.toInt ∧ i6_9.toInt ≤ 511 := by omega
  have : (3 : Int32).toInt = 3 := rfl
  have := b32 r11
  have : (i6_9 <<< ((6 : Int32) &&& 31)).toInt = i6_9.toInt * 64 := by
    have := k_shl i6_9 (6 : Int32) 6 64 (by decide) (by decide)
    have := b32 (i6_9 <<< ((6 : Int32) &&& 31))
    omega
  have : 0 ≤ (i6_9 <<< ((6 : Int32) &&& 31)).toInt ∧ (i6_9 <<< ((6 : Int32) &&& 31)).toInt ≤ 32704 := by omega
  have : (c2 &&& (63 : Int32)).toInt = c2.toInt % 64 := k_mask c2 (63 : Int32) 6 64 (by decide) (by decide) (by decide)
  have : 0 ≤ (c2 &&& (63 : Int32)).toInt ∧ (c2 &&& (63 : Int32)).toInt ≤ 63 := by omega
  have : ((i6_9 <<< ((6 : Int32) &&& 31)) ||| (c2 &&& (63 : Int32))).toInt = (i6_9 <<< ((6 : Int32) &&& 31)).toInt + (c2 &&& (63 : Int32)).toInt := by
    have := c_or (i6_9 <<< ((6 : Int32) &&& 31)) (c2 &&& (63 : Int32)) 6 (by decide) 64 (by decide) (by omega) (by omega) (by omega)
    have := b32 ((i6_9 <<< ((6 : Int32) &&& 31)) ||| (c2 &&& (63 : Int32)))
    omega
  have : 0 ≤ ((i6_9 <<< ((6 : Int32) &&& 31)) ||| (c2 &&& (63 : Int32))).toInt ∧ ((i6_9 <<< ((6 : Int32) &&& 31)) ||| (c2 &&& (63 : Int32))).toInt ≤ 32767 := by omega
  have : i6_13.toInt = ((i6_9 <<< ((6 : Int32) &&& 31)) ||| (c2 &&& (63 : Int32))).toInt := congrArg Int32.toInt hi6_13
  have : 0 ≤ i6_13.toInt ∧ i6_13.toInt ≤ 32767 := by omega
  have := b32 r15
  have : (i6_13 <<< ((6 : Int32) &&& 31)).toInt = i6_13.toInt * 64 := by
    have := k_shl i6_13 (6 : Int32) 6 64 (by decide) (by decide)
    have := b32 (i6_13 <<< ((6 : Int32) &&& 31))
    omega
  have : 0 ≤ (i6_13 <<< ((6 : Int32) &&& 31)).toInt ∧ (i6_13 <<< ((6 : Int32) &&& 31)).toInt ≤ 2097088 := by omega
  have : (c3 &&& (63 : Int32)).toInt = c3.toInt % 64 := k_mask c3 (63 : Int32) 6 64 (by decide) (by decide) (by decide)
  have : 0 ≤ (c3 &&& (63 : Int32)).toInt ∧ (c3 &&& (63 : Int32)).toInt ≤ 63 := by omega
  have : ((i6_13 <<< ((6 : Int32) &&& 31)) ||| (c3 &&& (63 : Int32))).toInt = (i6_13 <<< ((6 : Int32) &&& 31)).toInt + (c3 &&& (63 : Int32)).toInt := by
    have := c_or (i6_13 <<< ((6 : Int32) &&& 31)) (c3 &&& (63 : Int32)) 6 (by decide) 64 (by decide) (by omega) (by omega) (by omega)
    have := b32 ((i6_13 <<< ((6 : Int32) &&& 31)) ||| (c3 &&& (63 : Int32)))
    omega
  have : 0 ≤ ((i6_13 <<< ((6 : Int32) &&& 31)) ||| (c3 &&& (63 : Int32))).toInt ∧ ((i6_13 <<< ((6 : Int32) &&& 31)) ||| (c3 &&& (63 : Int32))).toInt ≤ 2097151 := by omega
  have : i6_17.toInt = ((i6_13 <<< ((6 : Int32) &&& 31)) ||| (c3 &&& (63 : Int32))).toInt := congrArg Int32.toInt hi6_17
  have : 0 ≤ i6_17.toInt ∧ i6_17.toInt ≤ 2097151 := by omega
  have : (2 : Int32).toInt = 2 := rfl
  have : (65536 : Int32).toInt = 65536 := rfl
  have : (1114111 : Int32).toInt = 1114111 := rfl
  have := mt Int32.lt_iff_toInt_lt.mpr hc4_1
  have := mt Int32.toInt_inj.mp hc17_2
  have := mt Int32.toInt_inj.mp hc40_3
  have := congrArg Int32.toInt hc63_4
  have := mt Int32.lt_iff_toInt_lt.mpr hc84_6
  simp only [Int32.lt_iff_toInt_lt, ← Int32.toInt_inj] at hr7
  have := mt Int32.toInt_inj.mp hc93_8
  have := mt Int32.lt_iff_toInt_lt.mpr hc113_10
  simp only [Int32.lt_iff_toInt_lt, ← Int32.toInt_inj] at hr11
  have := mt Int32.toInt_inj.mp hc120_12
  have := congrArg Int32.toInt hc140_14
  simp only [Int32.lt_iff_toInt_lt, ← Int32.toInt_inj] at hr15
  have := mt Int32.toInt_inj.mp hc147_16
  have := mt Int32.toInt_inj.mp hc167_18
  have := mt Int32.toInt_inj.mp hc179_19
  have := mt Int32.lt_iff_toInt_lt.mpr hc196_20
  have := Int32.lt_iff_toInt_lt.mp hc205_21
  unfold own_isLen
  exact Or.inr (Or.inr (Or.inr (Or.inr ⟨by omega, by omega, by omega, by omega, by omega⟩)))
set_option maxRecDepth 65536 in
set_option maxHeartbeats 40000000 in
theorem lf2_6 (c0 : Int32) (c1 : Int32) (c2 : Int32) (c3 : Int32) (av0 : Int32) (i6_5 : Int32) (r7 : Int32) (i6_9 : Int32) (r11 : Int32) (i6_13 : Int32) (r15 : Int32) (i6_17 : Int32) (hb0 : 0 ≤ c0.toInt ∧ c0.toInt ≤ 255) (hb1 : 0 ≤ c1.toInt ∧ c1.toInt ≤ 255) (hb2 : 0 ≤ c2.toInt ∧ c2.toInt ≤ 255) (hb3 : 0 ≤ c3.toInt ∧ c3.toInt ≤ 255) (hbn : 1 ≤ av0.toInt ∧ av0.toInt ≤ 4) (hc4_1 : ¬ (c0 < (128 : Int32))) (hc17_2 : ¬ ((c0 &&& (224 : Int32)) = (192 : Int32))) (hc40_3 : ¬ ((c0 &&& (240 : Int32)) = (224 : Int32))) (hc63_4 : (c0 &&& (248 : Int32)) = (240 : Int32)) (hi6_5 : i6_5 = (c0 &&& (7 : Int32))) (hc84_6 : ¬ (av0 < (4 : Int32))) (hr7 : (r7 = (1 : Int32) ∧ 128 ≤ c1.toInt ∧ c1.toInt ≤ 191) ∨ (r7 = (0 : Int32) ∧ ¬ (128 ≤ c1.toInt ∧ c1.toInt ≤ 191))) (hc93_8 : ¬ (r7 = 0)) (hi6_9 : i6_9 = ((i6_5 <<< ((6 : Int32) &&& 31)) ||| (c1 &&& (63 : Int32)))) (hc113_10 : ¬ ((4 : Int32) < (3 : Int32))) (hr11 : (r11 = (1 : Int32) ∧ 128 ≤ c2.toInt ∧ c2.toInt ≤ 191) ∨ (r11 = (0 : Int32) ∧ ¬ (128 ≤ c2.toInt ∧ c2.toInt ≤ 191))) (hc120_12 : ¬ (r11 = 0)) (hi6_13 : i6_13 = ((i6_9 <<< ((6 : Int32) &&& 31)) ||| (c2 &&& (63 : Int32)))) (hc140_14 : (4 : Int32) = (4 : Int32)) (hr15 : (r15 = (1 : Int32) ∧ 128 ≤ c3.toInt ∧ c3.toInt ≤ 191) ∨ (r15 = (0 : Int32) ∧ ¬ (128 ≤ c3.toInt ∧ c3.toInt ≤ 191))) (hc147_16 : ¬ (r15 = 0)) (hi6_17 : i6_17 = ((i6_13 <<< ((6 : Int32) &&& 31)) ||| (c3 &&& (63 : Int32)))) (hc167_18 : ¬ ((4 : Int32) = (2 : Int32))) (hc179_19 : ¬ ((4 : Int32) = (3 : Int32))) (hc196_20 : i6_17 < (65536 : Int32)) : own_isLen c0.toInt c1.toInt c2.toInt c3.toInt av0.toInt (0 : Int32).toInt := by
  have : (128 : Int32).toInt = 128 := rfl
  have : (224 : Int32).toInt = 224 := rfl
  have : (c0 &&& (224 : Int32)).toInt = c0.toInt % 256 - c0.toInt % 32 := k_field c0 (224 : Int32) (31 : Int32) (255 : Int32) 5 8 32 256 (by decide) (by decide) (by decide) (by decide) (by decide) (by decide) (by decide) (by decide) (by decide) (by decide) (by decide) (by decide)
  have : 0 ≤ (c0 &&& (224 : Int32)).toInt ∧ (c0 &&& (224 : Int32)).toInt ≤ 224 := by omega
  have : (192 : Int32).toInt = 192 := rfl
  have : (240 : Int32).toInt = 240 := rfl
  have : (c0 &&& (240 : Int32)).toInt = c0.toInt % 256 - c0.toInt % 16 := k_field c0 (240 : Int32) (15 : Int32) (255 : Int32) 4 8 16 256 (by decide) (by decide) (by decide) (by decide) (by decide) (by decide) (by decide) (by decide) (by decide) (by decide) (by decide) (by decide)
  have : 0 ≤ (c0 &&& (240 : Int32)).toInt ∧ (c0 &&& (240 : Int32)).toInt ≤ 240 := by omega
  have : (248 : Int32).toInt = 248 := rfl
  have : (c0 &&& (248 : Int32)).toInt = c0.toInt % 256 - c0.toInt % 8 := k_field c0 (248 : Int32) (7 : Int32) (255 : Int32) 3 8 8 256 (by decide) (by decide) (by decide) (by decide) (by decide) (by decide) (by decide) (by decide) (by decide) (by decide) (by decide) (by decide)
  have : 0 ≤ (c0 &&& (248 : Int32)).toInt ∧ (c0 &&& (248 : Int32)).toInt ≤ 248 := by omega
  have : (7 : Int32).toInt = 7 := rfl
  have : (c0 &&& (7 : Int32)).toInt = c0.toInt % 8 := k_mask c0 (7 : Int32) 3 8 (by decide) (by decide) (by decide)
  have : 0 ≤ (c0 &&& (7 : Int32)).toInt ∧ (c0 &&& (7 : Int32)).toInt ≤ 7 := by omega
  have : i6_5.toInt = (c0 &&& (7 : Int32)).toInt := congrArg Int32.toInt hi6_5
  have : 0 ≤ i6_5.toInt ∧ i6_5.toInt ≤ 7 := by omega
  have : (4 : Int32).toInt = 4 := rfl
  have : (1 : Int32).toInt = 1 := rfl
  have : (0 : Int32).toInt = 0 := rfl
  have := b32 r7
  have : (i6_5 <<< ((6 : Int32) &&& 31)).toInt = i6_5.toInt * 64 := by
    have := k_shl i6_5 (6 : Int32) 6 64 (by decide) (by decide)
    have := b32 (i6_5 <<< ((6 : Int32) &&& 31))
    omega
  have : 0 ≤ (i6_5 <<< ((6 : Int32) &&& 31)).toInt ∧ (i6_5 <<< ((6 : Int32) &&& 31)).toInt ≤ 448 := by omega
  have : (63 : Int32).toInt = 63 := rfl
  have : (c1 &&& (63 : Int32)).toInt = c1.toInt % 64 := k_mask c1 (63 : Int32) 6 64 (by decide) (by decide) (by decide)
  have : 0 ≤ (c1 &&& (63 : Int32)).toInt ∧ (c1 &&& (63 : Int32)).toInt ≤ 63 := by omega
  have : ((i6_5 <<< ((6 : Int32) &&& 31)) ||| (c1 &&& (63 : Int32))).toInt = (i6_5 <<< ((6 : Int32) &&& 31)).toInt + (c1 &&& (63 : Int32)).toInt := by
    have := c_or (i6_5 <<< ((6 : Int32) &&& 31)) (c1 &&& (63 : Int32)) 6 (by decide) 64 (by decide) (by omega) (by omega) (by omega)
    have := b32 ((i6_5 <<< ((6 : Int32) &&& 31)) ||| (c1 &&& (63 : Int32)))
    omega
  have : 0 ≤ ((i6_5 <<< ((6 : Int32) &&& 31)) ||| (c1 &&& (63 : Int32))).toInt ∧ ((i6_5 <<< ((6 : Int32) &&& 31)) ||| (c1 &&& (63 : Int32))).toInt ≤ 511 := by omega
  have : i6_9.toInt = ((i6_5 <<< ((6 : Int32) &&& 31)) ||| (c1 &&& (63 : Int32))).toInt := congrArg Int32.toInt hi6_9
  have : 0 ≤ i6_9.toInt ∧ i6_9.toInt ≤ 511 := by omega
  have : (3 : Int32).toInt = 3 := rfl
  have := b32 r11
  have : (i6_9 <<< ((6 : Int32) &&& 31)).toInt = i6_9.toInt * 64 := by
    have := k_shl i6_9 (6 : Int32) 6 64 (by decide) (by decide)
    have := b32 (i6_9 <<< ((6 : Int32) &&& 31))
    omega
  have : 0 ≤ (i6_9 <<< ((6 : Int32) &&& 31)).toInt ∧ (i6_9 <<< ((6 : Int32) &&& 31)).toInt ≤ 32704 := by omega
  have : (c2 &&& (63 : Int32)).toInt = c2.toInt % 64 := k_mask c2 (63 : Int32) 6 64 (by decide) (by decide) (by decide)
  have : 0 ≤ (c2 &&& (63 : Int32)).toInt ∧ (c2 &&& (63 : Int32)).toInt ≤ 63 := by omega
  have : ((i6_9 <<< ((6 : Int32) &&& 31)) ||| (c2 &&& (63 : Int32))).toInt = (i6_9 <<< ((6 : Int32) &&& 31)).toInt + (c2 &&& (63 : Int32)).toInt := by
    have := c_or (i6_9 <<< ((6 : Int32) &&& 31)) (c2 &&& (63 : Int32)) 6 (by decide) 64 (by decide) (by omega) (by omega) (by omega)
    have := b32 ((i6_9 <<< ((6 : Int32) &&& 31)) ||| (c2 &&& (63 : Int32)))
    omega
  have : 0 ≤ ((i6_9 <<< ((6 : Int32) &&& 31)) ||| (c2 &&& (63 : Int32))).toInt ∧ ((i6_9 <<< ((6 : Int32) &&& 31)) ||| (c2 &&& (63 : Int32))).toInt ≤ 32767 := by omega
  have : i6_13.toInt = ((i6_9 <<< ((6 : Int32) &&& 31)) ||| (c2 &&& (63 : Int32))).toInt := congrArg Int32.toInt hi6_13
  have : 0 ≤ i6_13.toInt ∧ i6_13.toInt ≤ 32767 := by omega
  have := b32 r15
  have : (i6_13 <<< ((6 : Int32) &&& 31)).toInt = i6_13.toInt * 64 := by
    have := k_shl i6_13 (6 : Int32) 6 64 (by decide) (by decide)
    have := b32 (i6_13 <<< ((6 : Int32) &&& 31))
    omega
  have : 0 ≤ (i6_13 <<< ((6 : Int32) &&& 31)).toInt ∧ (i6_13 <<< ((6 : Int32) &&& 31)).toInt ≤ 2097088 := by omega
  have : (c3 &&& (63 : Int32)).toInt = c3.toInt % 64 := k_mask c3 (63 : Int32) 6 64 (by decide) (by decide) (by decide)
  have : 0 ≤ (c3 &&& (63 : Int32)).toInt ∧ (c3 &&& (63 : Int32)).toInt ≤ 63 := by omega
  have : ((i6_13 <<< ((6 : Int32) &&& 31)) ||| (c3 &&& (63 : Int32))).toInt = (i6_13 <<< ((6 : Int32) &&& 31)).toInt + (c3 &&& (63 : Int32)).toInt := by
    have := c_or (i6_13 <<< ((6 : Int32) &&& 31)) (c3 &&& (63 : Int32)) 6 (by decide) 64 (by decide) (by omega) (by omega) (by omega)
    have := b32 ((i6_13 <<< ((6 : Int32) &&& 31)) ||| (c3 &&& (63 : Int32)))
    omega
  have : 0 ≤ ((i6_13 <<< ((6 : Int32) &&& 31)) ||| (c3 &&& (63 : Int32))).toInt ∧ ((i6_13 <<< ((6 : Int32) &&& 31)) ||| (c3 &&& (63 : Int32))).toInt ≤ 2097151 := by omega
  have : i6_17.toInt = ((i6_13 <<< ((6 : Int32) &&& 31)) ||| (c3 &&& (63 : Int32))).toInt := congrArg Int32.toInt hi6_17
  have : 0 ≤ i6_17.toInt ∧ i6_17.toInt ≤ 2097151 := by omega
  have : (2 : Int32).toInt = 2 := rfl
  have : (65536 : Int32).toInt = 65536 := rfl
  have := mt Int32.lt_iff_toInt_lt.mpr hc4_1
  have := mt Int32.toInt_inj.mp hc17_2
  have := mt Int32.toInt_inj.mp hc40_3
  have := congrArg Int32.toInt hc63_4
  have := mt Int32.lt_iff_toInt_lt.mpr hc84_6
  simp only [Int32.lt_iff_toInt_lt, ← Int32.toInt_inj] at hr7
  have := mt Int32.toInt_inj.mp hc93_8
  have := mt Int32.lt_iff_toInt_lt.mpr hc113_10
  simp only [Int32.lt_iff_toInt_lt, ← Int32.toInt_inj] at hr11
  have := mt Int32.toInt_inj.mp hc120_12
  have := congrArg Int32.toInt hc140_14
  simp only [Int32.lt_iff_toInt_lt, ← Int32.toInt_inj] at hr15
  have := mt Int32.toInt_inj.mp hc147_16
  have := mt Int32.toInt_inj.mp hc167_18
  have := mt Int32.toInt_inj.mp hc179_19
  have := Int32.lt_iff_toInt_lt.mp hc196_20
  unfold own_isLen
  exact Or.inr (Or.inr (Or.inr (Or.inr ⟨by omega, by omega, by omega, by omega, by omega⟩)))
set_option maxRecDepth 65536 in
set_option maxHeartbeats 40000000 in
theorem lf2_7 (c0 : Int32) (c1 : Int32) (c2 : Int32) (c3 : Int32) (av0 : Int32) (i6_5 : Int32) (r7 : Int32) (i6_9 : Int32) (r11 : Int32) (i6_13 : Int32) (r15 : Int32) (hb0 : 0 ≤ c0.toInt ∧ c0.toInt ≤ 255) (hb1 : 0 ≤ c1.toInt ∧ c1.toInt ≤ 255) (hb2 : 0 ≤ c2.toInt ∧ c2.toInt ≤ 255) (hb3 : 0 ≤ c3.toInt ∧ c3.toInt ≤ 255) (hbn : 1 ≤ av0.toInt ∧ av0.toInt ≤ 4) (hc4_1 : ¬ (c0 < (128 : Int32))) (hc17_2 : ¬ ((c0 &&& (224 : Int32)) = (192 : Int32))) (hc40_3 : ¬ ((c0 &&& (240 : Int32)) = (224 : Int32))) (hc63_4 : (c0 &&& (248 : Int32)) = (240 : Int32)) (hi6_5 : i6_5 = (c0 &&& (7 : Int32))) (hc84_6 : ¬ (av0 < (4 : Int32))) (hr7 : (r7 = (1 : Int32) ∧ 128 ≤ c1.toInt ∧ c1.toInt ≤ 191) ∨ (r7 = (0 : Int32) ∧ ¬ (128 ≤ c1.toInt ∧ c1.toInt ≤ 191))) (hc93_8 : ¬ (r7 = 0)) (hi6_9 : i6_9 = ((i6_5 <<< ((6 : Int32) &&& 31)) ||| (c1 &&& (63 : Int32)))) (hc113_10 : ¬ ((4 : Int32) < (3 : Int32))) (hr11 : (r11 = (1 : Int32) ∧ 128 ≤ c2.toInt ∧ c2.toInt ≤ 191) ∨ (r11 = (0 : Int32) ∧ ¬ (128 ≤ c2.toInt ∧ c2.toInt ≤ 191))) (hc120_12 : ¬ (r11 = 0)) (hi6_13 : i6_13 = ((i6_9 <<< ((6 : Int32) &&& 31)) ||| (c2 &&& (63 : Int32)))) (hc140_14 : (4 : Int32) = (4 : Int32)) (hr15 : (r15 = (1 : Int32) ∧ 128 ≤ c3.toInt ∧ c3.toInt ≤ 191) ∨ (r15 = (0 : Int32) ∧ ¬ (128 ≤ c3.toInt ∧ c3.toInt ≤ 191))) (hc147_16 : r15 = 0) : own_isLen c0.toInt c1.toInt c2.toInt c3.toInt av0.toInt (0 : Int32).toInt := by
  have : (128 : Int32).toInt = 128 := rfl
  have : (224 : Int32).toInt = 224 := rfl
  have : (c0 &&& (224 : Int32)).toInt = c0.toInt % 256 - c0.toInt % 32 := k_field c0 (224 : Int32) (31 : Int32) (255 : Int32) 5 8 32 256 (by decide) (by decide) (by decide) (by decide) (by decide) (by decide) (by decide) (by decide) (by decide) (by decide) (by decide) (by decide)
  have : 0 ≤ (c0 &&& (224 : Int32)).toInt ∧ (c0 &&& (224 : Int32)).toInt ≤ 224 := by omega
  have : (192 : Int32).toInt = 192 := rfl
  have : (240 : Int32).toInt = 240 := rfl
  have : (c0 &&& (240 : Int32)).toInt = c0.toInt % 256 - c0.toInt % 16 := k_field c0 (240 : Int32) (15 : Int32) (255 : Int32) 4 8 16 256 (by decide) (by decide) (by decide) (by decide) (by decide) (by decide) (by decide) (by decide) (by decide) (by decide) (by decide) (by decide)
  have : 0 ≤ (c0 &&& (240 : Int32)).toInt ∧ (c0 &&& (240 : Int32)).toInt ≤ 240 := by omega
  have : (248 : Int32).toInt = 248 := rfl
  have : (c0 &&& (248 : Int32)).toInt = c0.toInt % 256 - c0.toInt % 8 := k_field c0 (248 : Int32) (7 : Int32) (255 : Int32) 3 8 8 256 (by decide) (by decide) (by decide) (by decide) (by decide) (by decide) (by decide) (by decide) (by decide) (by decide) (by decide) (by decide)
  have : 0 ≤ (c0 &&& (248 : Int32)).toInt ∧ (c0 &&& (248 : Int32)).toInt ≤ 248 := by omega
  have : (7 : Int32).toInt = 7 := rfl
  have : (c0 &&& (7 : Int32)).toInt = c0.toInt % 8 := k_mask c0 (7 : Int32) 3 8 (by decide) (by decide) (by decide)
  have : 0 ≤ (c0 &&& (7 : Int32)).toInt ∧ (c0 &&& (7 : Int32)).toInt ≤ 7 := by omega
  have : i6_5.toInt = (c0 &&& (7 : Int32)).toInt := congrArg Int32.toInt hi6_5
  have : 0 ≤ i6_5.toInt ∧ i6_5.toInt ≤ 7 := by omega
  have : (4 : Int32).toInt = 4 := rfl
  have : (1 : Int32).toInt = 1 := rfl
  have : (0 : Int32).toInt = 0 := rfl
  have := b32 r7
  have : (i6_5 <<< ((6 : Int32) &&& 31)).toInt = i6_5.toInt * 64 := by
    have := k_shl i6_5 (6 : Int32) 6 64 (by decide) (by decide)
    have := b32 (i6_5 <<< ((6 : Int32) &&& 31))
    omega
  have : 0 ≤ (i6_5 <<< ((6 : Int32) &&& 31)).toInt ∧ (i6_5 <<< ((6 : Int32) &&& 31)).toInt ≤ 448 := by omega
  have : (63 : Int32).toInt = 63 := rfl
  have : (c1 &&& (63 : Int32)).toInt = c1.toInt % 64 := k_mask c1 (63 : Int32) 6 64 (by decide) (by decide) (by decide)
  have : 0 ≤ (c1 &&& (63 : Int32)).toInt ∧ (c1 &&& (63 : Int32)).toInt ≤ 63 := by omega
  have : ((i6_5 <<< ((6 : Int32) &&& 31)) ||| (c1 &&& (63 : Int32))).toInt = (i6_5 <<< ((6 : Int32) &&& 31)).toInt + (c1 &&& (63 : Int32)).toInt := by
    have := c_or (i6_5 <<< ((6 : Int32) &&& 31)) (c1 &&& (63 : Int32)) 6 (by decide) 64 (by decide) (by omega) (by omega) (by omega)
    have := b32 ((i6_5 <<< ((6 : Int32) &&& 31)) ||| (c1 &&& (63 : Int32)))
    omega
  have : 0 ≤ ((i6_5 <<< ((6 : Int32) &&& 31)) ||| (c1 &&& (63 : Int32))).toInt ∧ ((i6_5 <<< ((6 : Int32) &&& 31)) ||| (c1 &&& (63 : Int32))).toInt ≤ 511 := by omega
  have : i6_9.toInt = ((i6_5 <<< ((6 : Int32) &&& 31)) ||| (c1 &&& (63 : Int32))).toInt := congrArg Int32.toInt hi6_9
  have : 0 ≤ i6_9.toInt ∧ i6_9.toInt ≤ 511 := by omega
  have : (3 : Int32).toInt = 3 := rfl
  have := b32 r11
  have : (i6_9 <<< ((6 : Int32) &&& 31)).toInt = i6_9.toInt * 64 := by
    have := k_shl i6_9 (6 : Int32) 6 64 (by decide) (by decide)
    have := b32 (i6_9 <<< ((6 : Int32) &&& 31))
    omega
  have : 0 ≤ (i6_9 <<< ((6 : Int32) &&& 31)).toInt ∧ (i6_9 <<< ((6 : Int32) &&& 31)).toInt ≤ 32704 := by omega
  have : (c2 &&& (63 : Int32)).toInt = c2.toInt % 64 := k_mask c2 (63 : Int32) 6 64 (by decide) (by decide) (by decide)
  have : 0 ≤ (c2 &&& (63 : Int32)).toInt ∧ (c2 &&& (63 : Int32)).toInt ≤ 63 := by omega
  have : ((i6_9 <<< ((6 : Int32) &&& 31)) ||| (c2 &&& (63 : Int32))).toInt = (i6_9 <<< ((6 : Int32) &&& 31)).toInt + (c2 &&& (63 : Int32)).toInt := by
    have := c_or (i6_9 <<< ((6 : Int32) &&& 31)) (c2 &&& (63 : Int32)) 6 (by decide) 64 (by decide) (by omega) (by omega) (by omega)
    have := b32 ((i6_9 <<< ((6 : Int32) &&& 31)) ||| (c2 &&& (63 : Int32)))
    omega
  have : 0 ≤ ((i6_9 <<< ((6 : Int32) &&& 31)) ||| (c2 &&& (63 : Int32))).toInt ∧ ((i6_9 <<< ((6 : Int32) &&& 31)) ||| (c2 &&& (63 : Int32))).toInt ≤ 32767 := by omega
  have : i6_13.toInt = ((i6_9 <<< ((6 : Int32) &&& 31)) ||| (c2 &&& (63 : Int32))).toInt := congrArg Int32.toInt hi6_13
  have : 0 ≤ i6_13.toInt ∧ i6_13.toInt ≤ 32767 := by omega
  have := b32 r15
  have := mt Int32.lt_iff_toInt_lt.mpr hc4_1
  have := mt Int32.toInt_inj.mp hc17_2
  have := mt Int32.toInt_inj.mp hc40_3
  have := congrArg Int32.toInt hc63_4
  have := mt Int32.lt_iff_toInt_lt.mpr hc84_6
  simp only [Int32.lt_iff_toInt_lt, ← Int32.toInt_inj] at hr7
  have := mt Int32.toInt_inj.mp hc93_8
  have := mt Int32.lt_iff_toInt_lt.mpr hc113_10
  simp only [Int32.lt_iff_toInt_lt, ← Int32.toInt_inj] at hr11
  have := mt Int32.toInt_inj.mp hc120_12
  have := congrArg Int32.toInt hc140_14
  simp only [Int32.lt_iff_toInt_lt, ← Int32.toInt_inj] at hr15
  have := congrArg Int32.toInt hc147_16
  unfold own_isLen
  exact Or.inr (Or.inr (Or.inr (Or.inr ⟨by omega, by omega, by omega, by omega, by omega⟩)))
set_option maxRecDepth 65536 in
set_option maxHeartbeats 40000000 in
theorem lf2_8 (c0 : Int32) (c1 : Int32) (c2 : Int32) (c3 : Int32) (av0 : Int32) (i6_5 : Int32) (r7 : Int32) (i6_9 : Int32) (r11 : Int32) (hb0 : 0 ≤ c0.toInt ∧ c0.toInt ≤ 255) (hb1 : 0 ≤ c1.toInt ∧ c1.toInt ≤ 255) (hb2 : 0 ≤ c2.toInt ∧ c2.toInt ≤ 255) (hb3 : 0 ≤ c3.toInt ∧ c3.toInt ≤ 255) (hbn : 1 ≤ av0.toInt ∧ av0.toInt ≤ 4) (hc4_1 : ¬ (c0 < (128 : Int32))) (hc17_2 : ¬ ((c0 &&& (224 : Int32)) = (192 : Int32))) (hc40_3 : ¬ ((c0 &&& (240 : Int32)) = (224 : Int32))) (hc63_4 : (c0 &&& (248 : Int32)) = (240 : Int32)) (hi6_5 : i6_5 = (c0 &&& (7 : Int32))) (hc84_6 : ¬ (av0 < (4 : Int32))) (hr7 : (r7 = (1 : Int32) ∧ 128 ≤ c1.toInt ∧ c1.toInt ≤ 191) ∨ (r7 = (0 : Int32) ∧ ¬ (128 ≤ c1.toInt ∧ c1.toInt ≤ 191))) (hc93_8 : ¬ (r7 = 0)) (hi6_9 : i6_9 = ((i6_5 <<< ((6 : Int32) &&& 31)) ||| (c1 &&& (63 : Int32)))) (hc113_10 : ¬ ((4 : Int32) < (3 : Int32))) (hr11 : (r11 = (1 : Int32) ∧ 128 ≤ c2.toInt ∧ c2.toInt ≤ 191) ∨ (r11 = (0 : Int32) ∧ ¬ (128 ≤ c2.toInt ∧ c2.toInt ≤ 191))) (hc120_12 : r11 = 0) : own_isLen c0.toInt c1.toInt c2.toInt c3.toInt av0.toInt (0 : Int32).toInt := by
  have : (128 : Int32).toInt = 128 := rfl
  have : (224 : Int32).toInt = 224 := rfl
  have : (c0 &&& (224 : Int32)).toInt = c0.toInt % 256 - c0.toInt % 32 := k_field c0 (224 : Int32) (31 : Int32) (255 : Int32) 5 8 32 256 (by decide) (by decide) (by decide) (by decide) (by decide) (by decide) (by decide) (by decide) (by decide) (by decide) (by decide) (by decide)
  have : 0 ≤ (c0 &&& (224 : Int32)).toInt ∧ (c0 &&& (224 : Int32)).toInt ≤ 224 := by omega
  have : (192 : Int32).toInt = 192 := rfl
  have : (240 : Int32).toInt = 240 := rfl
  have : (c0 &&& (240 : Int32)).toInt = c0.toInt % 256 - c0.toInt % 16 := k_field c0 (240 : Int32) (15 : Int32) (255 : Int32) 4 8 16 256 (by decide) (by decide) (by decide) (by decide) (by decide) (by decide) (by decide) (by decide) (by decide) (by decide) (by decide) (by decide)
  have : 0 ≤ (c0 &&& (240 : Int32)).toInt ∧ (c0 &&& (240 : Int32)).toInt ≤ 240 := by omega
  have : (248 : Int32).toInt = 248 := rfl
  have : (c0 &&& (248 : Int32)).toInt = c0.toInt % 256 - c0.toInt % 8 := k_field c0 (248 : Int32) (7 : Int32) (255 : Int32) 3 8 8 256 (by decide) (by decide) (by decide) (by decide) (by decide) (by decide) (by decide) (by decide) (by decide) (by decide) (by decide) (by decide)
  have : 0 ≤ (c0 &&& (248 : Int32)).toInt ∧ (c0 &&& (248 : Int32)).toInt ≤ 248 := by omega
  have : (7 : Int32).toInt = 7 := rfl
  have : (c0 &&& (7 : Int32)).toInt = c0.toInt % 8 := k_mask c0 (7 : Int32) 3 8 (by decide) (by decide) (by decide)
  have : 0 ≤ (c0 &&& (7 : Int32)).toInt ∧ (c0 &&& (7 : Int32)).toInt ≤ 7 := by omega
  have : i6_5.toInt = (c0 &&& (7 : Int32)).toInt := congrArg Int32.toInt hi6_5
  have : 0 ≤ i6_5.toInt ∧ i6_5.toInt ≤ 7 := by omega
  have : (4 : Int32).toInt = 4 := rfl
  have : (1 : Int32).toInt = 1 := rfl
  have : (0 : Int32).toInt = 0 := rfl
  have := b32 r7
  have : (i6_5 <<< ((6 : Int32) &&& 31)).toInt = i6_5.toInt * 64 := by
    have := k_shl i6_5 (6 : Int32) 6 64 (by decide) (by decide)
    have := b32 (i6_5 <<< ((6 : Int32) &&& 31))
    omega
  have : 0 ≤ (i6_5 <<< ((6 : Int32) &&& 31)).toInt ∧ (i6_5 <<< ((6 : Int32) &&& 31)).toInt ≤ 448 := by omega
  have : (63 : Int32).toInt = 63 := rfl
  have : (c1 &&& (63 : Int32)).toInt = c1.toInt % 64 := k_mask c1 (63 : Int32) 6 64 (by decide) (by decide) (by decide)
  have : 0 ≤ (c1 &&& (63 : Int32)).toInt ∧ (c1 &&& (63 : Int32)).toInt ≤ 63 := by omega
  have : ((i6_5 <<< ((6 : Int32) &&& 31)) ||| (c1 &&& (63 : Int32))).toInt = (i6_5 <<< ((6 : Int32) &&& 31)).toInt + (c1 &&& (63 : Int32)).toInt := by
    have := c_or (i6_5 <<< ((6 : Int32) &&& 31)) (c1 &&& (63 : Int32)) 6 (by decide) 64 (by decide) (by omega) (by omega) (by omega)
    have := b32 ((i6_5 <<< ((6 : Int32) &&& 31)) ||| (c1 &&& (63 : Int32)))
    omega
  have : 0 ≤ ((i6_5 <<< ((6 : Int32) &&& 31)) ||| (c1 &&& (63 : Int32))).toInt ∧ ((i6_5 <<< ((6 : Int32) &&& 31)) ||| (c1 &&& (63 : Int32))).toInt ≤ 511 := by omega
  have : i6_9.toInt = ((i6_5 <<< ((6 : Int32) &&& 31)) ||| (c1 &&& (63 : Int32))).toInt := congrArg Int32.toInt hi6_9
  have : 0 ≤ i6_9.toInt ∧ i6_9.toInt ≤ 511 := by omega
  have : (3 : Int32).toInt = 3 := rfl
  have := b32 r11
  have := mt Int32.lt_iff_toInt_lt.mpr hc4_1
  have := mt Int32.toInt_inj.mp hc17_2
  have := mt Int32.toInt_inj.mp hc40_3
  have := congrArg Int32.toInt hc63_4
  have := mt Int32.lt_iff_toInt_lt.mpr hc84_6
  simp only [Int32.lt_iff_toInt_lt, ← Int32.toInt_inj] at hr7
  have := mt Int32.toInt_inj.mp hc93_8
  have := mt Int32.lt_iff_toInt_lt.mpr hc113_10
  simp only [Int32.lt_iff_toInt_lt, ← Int32.toInt_inj] at hr11
  have := congrArg Int32.toInt hc120_12
  unfold own_isLen
  exact Or.inr (Or.inr (Or.inr (Or.inr ⟨by omega, by omega, by omega, by omega, by omega⟩)))
set_option maxRecDepth 65536 in
set_option maxHeartbeats 40000000 in
theorem lf2_9 (c0 : Int32) (c1 : Int32) (c2 : Int32) (c3 : Int32) (av0 : Int32) (i6_5 : Int32) (r7 : Int32) (hb0 : 0 ≤ c0.toInt ∧ c0.toInt ≤ 255) (hb1 : 0 ≤ c1.toInt ∧ c1.toInt ≤ 255) (hb2 : 0 ≤ c2.toInt ∧ c2.toInt ≤ 255) (hb3 : 0 ≤ c3.toInt ∧ c3.toInt ≤ 255) (hbn : 1 ≤ av0.toInt ∧ av0.toInt ≤ 4) (hc4_1 : ¬ (c0 < (128 : Int32))) (hc17_2 : ¬ ((c0 &&& (224 : Int32)) = (192 : Int32))) (hc40_3 : ¬ ((c0 &&& (240 : Int32)) = (224 : Int32))) (hc63_4 : (c0 &&& (248 : Int32)) = (240 : Int32)) (hi6_5 : i6_5 = (c0 &&& (7 : Int32))) (hc84_6 : ¬ (av0 < (4 : Int32))) (hr7 : (r7 = (1 : Int32) ∧ 128 ≤ c1.toInt ∧ c1.toInt ≤ 191) ∨ (r7 = (0 : Int32) ∧ ¬ (128 ≤ c1.toInt ∧ c1.toInt ≤ 191))) (hc93_8 : r7 = 0) : own_isLen c0.toInt c1.toInt c2.toInt c3.toInt av0.toInt (0 : Int32).toInt := by
  have : (128 : Int32).toInt = 128 := rfl
  have : (224 : Int32).toInt = 224 := rfl
  have : (c0 &&& (224 : Int32)).toInt = c0.toInt % 256 - c0.toInt % 32 := k_field c0 (224 : Int32) (31 : Int32) (255 : Int32) 5 8 32 256 (by decide) (by decide) (by decide) (by decide) (by decide) (by decide) (by decide) (by decide) (by decide) (by decide) (by decide) (by decide)
  have : 0 ≤ (c0 &&& (224 : Int32)).toInt ∧ (c0 &&& (224 : Int32)).toInt ≤ 224 := by omega
  have : (192 : Int32).toInt = 192 := rfl
  have : (240 : Int32).toInt = 240 := rfl
  have : (c0 &&& (240 : Int32)).toInt = c0.toInt % 256 - c0.toInt % 16 := k_field c0 (240 : Int32) (15 : Int32) (255 : Int32) 4 8 16 256 (by decide) (by decide) (by decide) (by decide) (by decide) (by decide) (by decide) (by decide) (by decide) (by decide) (by decide) (by decide)
  have : 0 ≤ (c0 &&& (240 : Int32)).toInt ∧ (c0 &&& (240 : Int32)).toInt ≤ 240 := by omega
  have : (248 : Int32).toInt = 248 := rfl
  have : (c0 &&& (248 : Int32)).toInt = c0.toInt % 256 - c0.toInt % 8 := k_field c0 (248 : Int32) (7 : Int32) (255 : Int32) 3 8 8 256 (by decide) (by decide) (by decide) (by decide) (by decide) (by decide) (by decide) (by decide) (by decide) (by decide) (by decide) (by decide)
  have : 0 ≤ (c0 &&& (248 : Int32)).toInt ∧ (c0 &&& (248 : Int32)).toInt ≤ 248 := by omega
  have : (7 : Int32).toInt = 7 := rfl
  have : (c0 &&& (7 : Int32)).toInt = c0.toInt % 8 := k_mask c0 (7 : Int32) 3 8 (by decide) (by decide) (by decide)
  have : 0 ≤ (c0 &&& (7 : Int32)).toInt ∧ (c0 &&& (7 : Int32)).toInt ≤ 7 := by omega
  have : i6_5.toInt = (c0 &&& (7 : Int32)).toInt := congrArg Int32.toInt hi6_5
  have : 0 ≤ i6_5.toInt ∧ i6_5.toInt ≤ 7 := by omega
  have : (4 : Int32).toInt = 4 := rfl
  have : (1 : Int32).toInt = 1 := rfl
  have : (0 : Int32).toInt = 0 := rfl
  have := b32 r7
  have := mt Int32.lt_iff_toInt_lt.mpr hc4_1
  have := mt Int32.toInt_inj.mp hc17_2
  have := mt Int32.toInt_inj.mp hc40_3
  have := congrArg Int32.toInt hc63_4
  have := mt Int32.lt_iff_toInt_lt.mpr hc84_6
  simp only [Int32.lt_iff_toInt_lt, ← Int32.toInt_inj] at hr7
  have := congrArg Int32.toInt hc93_8
  unfold own_isLen
  exact Or.inr (Or.inr (Or.inr (Or.inr ⟨by omega, by omega, by omega, by omega, by omega⟩)))
set_option maxRecDepth 65536 in
set_option maxHeartbeats 40000000 in
theorem lf2_10 (c0 : Int32) (c1 : Int32) (c2 : Int32) (c3 : Int32) (av0 : Int32) (i6_5 : Int32) (hb0 : 0 ≤ c0.toInt ∧ c0.toInt ≤ 255) (hb1 : 0 ≤ c1.toInt ∧ c1.toInt ≤ 255) (hb2 : 0 ≤ c2.toInt ∧ c2.toInt ≤ 255) (hb3 : 0 ≤ c3.toInt ∧ c3.toInt ≤ 255) (hbn : 1 ≤ av0.toInt ∧ av0.toInt ≤ 4) (hc4_1 : ¬ (c0 < (128 : Int32))) (hc17_2 : ¬ ((c0 &&& (224 : Int32)) = (192 : Int32))) (hc40_3 : ¬ ((c0 &&& (240 : Int32)) = (224 : Int32))) (hc63_4 : (c0 &&& (248 : Int32)) = (240 : Int32)) (hi6_5 : i6_5 = (c0 &&& (7 : Int32))) (hc84_6 : av0 < (4 : Int32)) : own_isLen c0.toInt c1.toInt c2.toInt c3.toInt av0.toInt (0 : Int32).toInt := by
  have : (128 : Int32).toInt = 128 := rfl
  have : (224 : Int32).toInt = 224 := rfl
  have : (c0 &&& (224 : Int32)).toInt = c0.toInt % 256 - c0.toInt % 32 := k_field c0 (224 : Int32) (31 : Int32) (255 : Int32) 5 8 32 256 (by decide) (by decide) (by decide) (by decide) (by decide) (by decide) (by decide) (by decide) (by decide) (by decide) (by decide) (by decide)
  have : 0 ≤ (c0 &&& (224 : Int32)).toInt ∧ (c0 &&& (224 : Int32)).toInt ≤ 224 := by omega
  have : (192 : Int32).toInt = 192 := rfl
  have : (240 : Int32).toInt = 240 := rfl
  have : (c0 &&& (240 : Int32)).toInt = c0.toInt % 256 - c0.toInt % 16 := k_field c0 (240 : Int32) (15 : Int32) (255 : Int32) 4 8 16 256 (by decide) (by decide) (by decide) (by decide) (by decide) (by decide) (by decide) (by decide) (by decide) (by decide) (by decide) (by decide)
  have : 0 ≤ (c0 &&& (240 : Int32)).toInt ∧ (c0 &&& (240 : Int32)).toInt ≤ 240 := by omega
  have : (248 : Int32).toInt = 248 := rfl
  have : (c0 &&& (248 : Int32)).toInt = c0.toInt % 256 - c0.toInt % 8 := k_field c0 (248 : Int32) (7 : Int32) (255 : Int32) 3 8 8 256 (by decide) (by decide) (by decide) (by decide) (by decide) (by decide) (by decide) (by decide) (by decide) (by decide) (by decide) (by decide)
  have : 0 ≤ (c0 &&& (248 : Int32)).toInt ∧ (c0 &&& (248 : Int32)).toInt ≤ 248 := by omega
  have : (7 : Int32).toInt = 7 := rfl
  have : (c0 &&& (7 : Int32)).toInt = c0.toInt % 8 := k_mask c0 (7 : Int32) 3 8 (by decide) (by decide) (by decide)
  have : 0 ≤ (c0 &&& (7 : Int32)).toInt ∧ (c0 &&& (7 : Int32)).toInt ≤ 7 := by omega
  have : i6_5.toInt = (c0 &&& (7 : Int32)).toInt := congrArg Int32.toInt hi6_5
  have : 0 ≤ i6_5.toInt ∧ i6_5.toInt ≤ 7 := by omega
  have : (4 : Int32).toInt = 4 := rfl
  have : (0 : Int32).toInt = 0 := rfl
  have := mt Int32.lt_iff_toInt_lt.mpr hc4_1
  have := mt Int32.toInt_inj.mp hc17_2
  have := mt Int32.toInt_inj.mp hc40_3
  have := congrArg Int32.toInt hc63_4
  have := Int32.lt_iff_toInt_lt.mp hc84_6
  unfold own_isLen
  exact Or.inr (Or.inr (Or.inr (Or.inr ⟨by omega, by omega, by omega, by omega, by omega⟩)))
set_option maxRecDepth 65536 in
set_option maxHeartbeats 40000000 in
theorem lf2_11 (c0 : Int32) (c1 : Int32) (c2 : Int32) (c3 : Int32) (av0 : Int32) (i6_24 : Int32) (r26 : Int32) (i6_28 : Int32) (r30 : Int32) (i6_32 : Int32) (hb0 : 0 ≤ c0.toInt ∧ c0.toInt ≤ 255) (hb1 : 0 ≤ c1.toInt ∧ c1.toInt ≤ 255) (hb2 : 0 ≤ c2.toInt ∧ c2.toInt ≤ 255) (hb3 : 0 ≤ c3.toInt ∧ c3.toInt ≤ 255) (hbn : 1 ≤ av0.toInt ∧ av0.toInt ≤ 4) (hc4_1 : ¬ (c0 < (128 : Int32))) (hc17_2 : ¬ ((c0 &&& (224 : Int32)) = (192 : Int32))) (hc40_3 : (c0 &&& (240 : Int32)) = (224 : Int32)) (hi6_24 : i6_24 = (c0 &&& (15 : Int32))) (hc84_25 : ¬ (av0 < (3 : Int32))) (hr26 : (r26 = (1 : Int32) ∧ 128 ≤ c1.toInt ∧ c1.toInt ≤ 191) ∨ (r26 = (0 : Int32) ∧ ¬ (128 ≤ c1.toInt ∧ c1.toInt ≤ 191))) (hc93_27 : ¬ (r26 = 0)) (hi6_28 : i6_28 = ((i6_24 <<< ((6 : Int32) &&& 31)) ||| (c1 &&& (63 : Int32)))) (hc113_29 : ¬ ((3 : Int32) < (3 : Int32))) (hr30 : (r30 = (1 : Int32) ∧ 128 ≤ c2.toInt ∧ c2.toInt ≤ 191) ∨ (r30 = (0 : Int32) ∧ ¬ (128 ≤ c2.toInt ∧ c2.toInt ≤ 191))) (hc120_31 : ¬ (r30 = 0)) (hi6_32 : i6_32 = ((i6_28 <<< ((6 : Int32) &&& 31)) ||| (c2 &&& (63 : Int32)))) (hc140_33 : ¬ ((3 : Int32) = (4 : Int32))) (hc167_34 : ¬ ((3 : Int32) = (2 : Int32))) (hc179_35 : (3 : Int32) = (3 : Int32)) (hc196_36 : ¬ (i6_32 < (2048 : Int32))) (hc205_37 : ¬ ((1114111 : Int32) < i6_32)) (hc214_38 : i6_32 < (55296 : Int32)) : own_isLen c0.toInt c1.toInt c2.toInt c3.toInt av0.toInt (3 : Int32).toInt := by
  have : (128 : Int32).toInt = 128 := rfl
  have : (224 : Int32).toInt = 224 := rfl
  have : (c0 &&& (224 : Int32)).toInt = c0.toInt % 256 - c0.toInt % 32 := k_field c0 (224 : Int32) (31 : Int32) (255 : Int32) 5 8 32 256 (by decide) (by decide) (by decide) (by decide) (by decide) (by decide) (by decide) (by decide) (by decide) (by decide) (by decide) (by decide)
  have : 0 ≤ (c0 &&& (224 : Int32)).toInt ∧ (c0 &&& (224 : Int32)).toInt ≤ 224 := by omega
  have : (192 : Int32).toInt = 192 := rfl
  have : (240 : Int32).toInt = 240 := rfl
  have : (c0 &&& (240 : Int32)).toInt = c0.toInt % 256 - c0.toInt % 16 := k_field c0 (240 : Int32) (15 : Int32) (255 : Int32) 4 8 16 256 (by decide) (by decide) (by decide) (by decide) (by decide) (by decide) (by decide) (by decide) (by decide) (by decide) (by decide) (by decide)
  have : 0 ≤ (c0 &&& (240 : Int32)).toInt ∧ (c0 &&& (240 : Int32)).toInt ≤ 240 := by omega
  have : (15 : Int32).toInt = 15 := rfl
  have : (c0 &&& (15 : Int32)).toInt = c0.toInt % 16 := k_mask c0 (15 : Int32) 4 16 (by decide) (by decide) (by decide)
  have : 0 ≤ (c0 &&& (15 : Int32)).toInt ∧ (c0 &&& (15 : Int32)).toInt ≤ 15 := by omega
  have : i6_24.toInt = (c0 &&& (15 : Int32)).toInt := congrArg Int32.toInt hi6_24
  have : 0 ≤ i6_24.toInt ∧ i6_24.toInt ≤ 15 := by omega
  have : (3 : Int32).toInt = 3 := rfl
  have : (1 : Int32).toInt = 1 := rfl
  have : (0 : Int32).toInt = 0 := rfl
  have := b32 r26
  have : (i6_24 <<< ((6 : Int32) &&& 31)).toInt = i6_24.toInt * 64 := by
    have := k_shl i6_24 (6 : Int32) 6 64 (by decide) (by decide)
    have := b32 (i6_24 <<< ((6 : Int32) &&& 31))
    omega
  have : 0 ≤ (i6_24 <<< ((6 : Int32) &&& 31)).toInt ∧ (i6_24 <<< ((6 : Int32) &&& 31)).toInt ≤ 960 := by omega
  have : (63 : Int32).toInt = 63 := rfl
  have : (c1 &&& (63 : Int32)).toInt = c1.toInt % 64 := k_mask c1 (63 : Int32) 6 64 (by decide) (by decide) (by decide)
  have : 0 ≤ (c1 &&& (63 : Int32)).toInt ∧ (c1 &&& (63 : Int32)).toInt ≤ 63 := by omega
  have : ((i6_24 <<< ((6 : Int32) &&& 31)) ||| (c1 &&& (63 : Int32))).toInt = (i6_24 <<< ((6 : Int32) &&& 31)).toInt + (c1 &&& (63 : Int32)).toInt := by
    have := c_or (i6_24 <<< ((6 : Int32) &&& 31)) (c1 &&& (63 : Int32)) 6 (by decide) 64 (by decide) (by omega) (by omega) (by omega)
    have := b32 ((i6_24 <<< ((6 : Int32) &&& 31)) ||| (c1 &&& (63 : Int32)))
    omega
  have : 0 ≤ ((i6_24 <<< ((6 : Int32) &&& 31)) ||| (c1 &&& (63 : Int32))).toInt ∧ ((i6_24 <<< ((6 : Int32) &&& 31)) ||| (c1 &&& (63 : Int32))).toInt ≤ 1023 := by omega
  have : i6_28.toInt = ((i6_24 <<< ((6 : Int32) &&& 31)) ||| (c1 &&& (63 : Int32))).toInt := congrArg Int32.toInt hi6_28
  have : 0 ≤ i6_28.toInt ∧ i6_28.toInt ≤ 1023 := by omega
  have := b32 r30
  have : (i6_28 <<< ((6 : Int32) &&& 31)).toInt = i6_28.toInt * 64 := by
    have := k_shl i6_28 (6 : Int32) 6 64 (by decide) (by decide)
    have := b32 (i6_28 <<< ((6 : Int32) &&& 31))
    omega
  have : 0 ≤ (i6_28 <<< ((6 : Int32) &&& 31)).toInt ∧ (i6_28 <<< ((6 : Int32) &&& 31)).toInt ≤ 65472 := by omega
  have : (c2 &&& (63 : Int32)).toInt = c2.toInt % 64 := k_mask c2 (63 : Int32) 6 64 (by decide) (by decide) (by decide)
  have : 0 ≤ (c2 &&& (63 : Int32)).toInt ∧ (c2 &&& (63 : Int32)).toInt ≤ 63 := by omega
  have : ((i6_28 <<< ((6 : Int32) &&& 31)) ||| (c2 &&& (63 : Int32))).toInt = (i6_28 <<< ((6 : Int32) &&& 31)).toInt + (c2 &&& (63 : Int32)).toInt := by
    have := c_or (i6_28 <<< ((6 : Int32) &&& 31)) (c2 &&& (63 : Int32)) 6 (by decide) 64 (by decide) (by omega) (by omega) (by omega)
    have := b32 ((i6_28 <<< ((6 : Int32) &&& 31)) ||| (c2 &&& (63 : Int32)))
    omega
  have : 0 ≤ ((i6_28 <<< ((6 : Int32) &&& 31)) ||| (c2 &&& (63 : Int32))).toInt ∧ ((i6_28 <<< ((6 : Int32) &&& 31)) ||| (c2 &&& (63 : Int32))).toInt ≤ 65535 := by omega
  have : i6_32.toInt = ((i6_28 <<< ((6 : Int32) &&& 31)) ||| (c2 &&& (63 : Int32))).toInt := congrArg Int32.toInt hi6_32
  have : 0 ≤ i6_32.toInt ∧ i6_32.toInt ≤ 65535 := by omega
  have : (4 : Int32).toInt = 4 := rfl
  have : (2 : Int32).toInt = 2 := rfl
  have : (2048 : Int32).toInt = 2048 := rfl
  have : (1114111 : Int32).toInt = 1114111 := rfl
  have : (55296 : Int32).toInt = 55296 := rfl
  have := mt Int32.lt_iff_toInt_lt.mpr hc4_1
  have := mt Int32.toInt_inj.mp hc17_2
  have := congrArg Int32.toInt hc40_3
  have := mt Int32.lt_iff_toInt_lt.mpr hc84_25
  simp only [Int32.lt_iff_toInt_lt, ← Int32.toInt_inj] at hr26
  have := mt Int32.toInt_inj.mp hc93_27
  have := mt Int32.lt_iff_toInt_lt.mpr hc113_29
  simp only [Int32.lt_iff_toInt_lt, ← Int32.toInt_inj] at hr30
  have := mt Int32.toInt_inj.mp hc120_31
  have := mt Int32.toInt_inj.mp hc140_33
  have := mt Int32.toInt_inj.mp hc167_34
  have := congrArg Int32.toInt hc179_35
  have := mt Int32.lt_iff_toInt_lt.mpr hc196_36
  have := mt Int32.lt_iff_toInt_lt.mpr hc205_37
  have := Int32.lt_iff_toInt_lt.mp hc214_38
  unfold own_isLen
  exact Or.inr (Or.inr (Or.inl ⟨by omega, by omega, by omega, by omega, by omega, by omega, by omega, by omega, by omega, by omega⟩))
set_option maxRecDepth 65536 in
set_option maxHeartbeats 40000000 in
theorem lf2_12 (c0 : Int32) (c1 : Int32) (c2 : Int32) (c3 : Int32) (av0 : Int32) (i6_24 : Int32) (r26 : Int32) (i6_28 : Int32) (r30 : Int32) (i6_32 : Int32) (hb0 : 0 ≤ c0.toInt ∧ c0.toInt ≤ 255) (hb1 : 0 ≤ c1.toInt ∧ c1.toInt ≤ 255) (hb2 : 0 ≤ c2.toInt ∧ c2.toInt ≤ 255) (hb3 : 0 ≤ c3.toInt ∧ c3.toInt ≤ 255) (hbn : 1 ≤ av0.toInt ∧ av0.toInt ≤ 4) (hc4_1 : ¬ (c0 < (128 : Int32))) (hc17_2 : ¬ ((c0 &&& (224 : Int32)) = (192 : Int32))) (hc40_3 : (c0 &&& (240 : Int32)) = (224 : Int32)) (hi6_24 : i6_24 = (c0 &&& (15 : Int32))) (hc84_25 : ¬ (av0 < (3 : Int32))) (hr26 : (r26 = (1 : Int32) ∧ 128 ≤ c1.toInt ∧ c1.toInt ≤ 191) ∨ (r26 = (0 : Int32) ∧ ¬ (128 ≤ c1.toInt ∧ c1.toInt ≤ 191))) (hc93_27 : ¬ (r26 = 0)) (hi6_28 : i6_28 = ((i6_24 <<< ((6 : Int32) &&& 31)) ||| (c1 &&& (63 : Int32)))) (hc113_29 : ¬ ((3 : Int32) < (3 : Int32))) (hr30 : (r30 = (1 : Int32) ∧ 128 ≤ c2.toInt ∧ c2.toInt ≤ 191) ∨ (r30 = (0 : Int32) ∧ ¬ (128 ≤ c2.toInt ∧ c2.toInt ≤ 191))) (hc120_31 : ¬ (r30 = 0)) (hi6_32 : i6_32 = ((i6_28 <<< ((6 : Int32) &&& 31)) ||| (c2 &&& (63 : Int32)))) (hc140_33 : ¬ ((3 : Int32) = (4 : Int32))) (hc167_34 : ¬ ((3 : Int32) = (2 : Int32))) (hc179_35 : (3 : Int32) = (3 : Int32)) (hc196_36 : ¬ (i6_32 < (2048 : Int32))) (hc205_37 : ¬ ((1114111 : Int32) < i6_32)) (hc214_38 : ¬ (i6_32 < (55296 : Int32))) (hc221_39 : (57343 : Int32) < i6_32) : own_isLen c0.toInt c1.toInt c2.toInt c3.toInt av0.toInt (3 : Int32).toInt := by
  have : (128 : Int32).toInt = 128 := rfl
  have : (224 : Int32).toInt = 224 := rfl
  have : (c0 &&& (224 : Int32)).toInt = c0.toInt % 256 - c0.toInt % 32 := k_field c0 (224 : Int32) (31 : Int32) (255 : Int32) 5 8 32 256 (by decide) (by decide) (by decide) (by decide) (by decide) (by decide) (by decide) (by decide) (by decide) (by decide) (by decide) (by decide)
  have : 0 ≤ (c0 &&& (224 : Int32)).toInt ∧ (c0 &&& (224 : Int32)).toInt ≤ 224 := by omega
  have : (192 : Int32).toInt = 192 := rfl
  have : (240 : Int32).toInt = 240 := rfl
  have : (c0 &&& (240 : Int32)).toInt = c0.toInt % 256 - c0.toInt % 16 := k_field c0 (240 : Int32) (15 : Int32) (255 : Int32) 4 8 16 256 (by decide) (by decide) (by decide) (by decide) (by decide) (by decide) (by decide) (by decide) (by decide) (by decide) (by decide) (by decide)
  have : 0 ≤ (c0 &&& (240 : Int32)).toInt ∧ (c0 &&& (240 : Int32)).toInt ≤ 240 := by omega
  have : (15 : Int32).toInt = 15 := rfl
  have : (c0 &&& (15 : Int32)).toInt = c0.toInt % 16 := k_mask c0 (15 : Int32) 4 16 (by decide) (by decide) (by decide)
  have : 0 ≤ (c0 &&& (15 : Int32)).toInt ∧ (c0 &&& (15 : Int32)).toInt ≤ 15 := by omega
  have : i6_24.toInt = (c0 &&& (15 : Int32)).toInt := congrArg Int32.toInt hi6_24
  have : 0 ≤ i6_24.toInt ∧ i6_24.toInt ≤ 15 := by omega
  have : (3 : Int32).toInt = 3 := rfl
  have : (1 : Int32).toInt = 1 := rfl
  have : (0 : Int32).toInt = 0 := rfl
  have := b32 r26
  have : (i6_24 <<< ((6 : Int32) &&& 31)).toInt = i6_24.toInt * 64 := by
    have := k_shl i6_24 (6 : Int32) 6 64 (by decide) (by decide)
    have := b32 (i6_24 <<< ((6 : Int32) &&& 31))
    omega
  have : 0 ≤ (i6_24 <<< ((6 : Int32) &&& 31)).toInt ∧ (i6_24 <<< ((6 : Int32) &&& 31)).toInt ≤ 960 := by omega
  have : (63 : Int32).toInt = 63 := rfl
  have : (c1 &&& (63 : Int32)).toInt = c1.toInt % 64 := k_mask c1 (63 : Int32) 6 64 (by decide) (by decide) (by decide)
  have : 0 ≤ (c1 &&& (63 : Int32)).toInt ∧ (c1 &&& (63 : Int32)).toInt ≤ 63 := by omega
  have : ((i6_24 <<< ((6 : Int32) &&& 31)) ||| (c1 &&& (63 : Int32))).toInt = (i6_24 <<< ((6 : Int32) &&& 31)).toInt + (c1 &&& (63 : Int32)).toInt := by
    have := c_or (i6_24 <<< ((6 : Int32) &&& 31)) (c1 &&& (63 : Int32)) 6 (by decide) 64 (by decide) (by omega) (by omega) (by omega)
    have := b32 ((i6_24 <<< ((6 : Int32) &&& 31)) ||| (c1 &&& (63 : Int32)))
    omega
  have : 0 ≤ ((i6_24 <<< ((6 : Int32) &&& 31)) ||| (c1 &&& (63 : Int32))).toInt ∧ ((i6_24 <<< ((6 : Int32) &&& 31)) ||| (c1 &&& (63 : Int32))).toInt ≤ 1023 := by omega
  have : i6_28.toInt = ((i6_24 <<< ((6 : Int32) &&& 31)) ||| (c1 &&& (63 : Int32))).toInt := congrArg Int32.toInt hi6_28
  have : 0 ≤ i6_28.toInt ∧ i6_28.toInt ≤ 1023 := by omega
  have := b32 r30
  have : (i6_28 <<< ((6 : Int32) &&& 31)).toInt = i6_28.toInt * 64 := by
    have := k_shl i6_28 (6 : Int32) 6 64 (by decide) (by decide)
    have := b32 (i6_28 <<< ((6 : Int32) &&& 31))
    omega
  have : 0 ≤ (i6_28 <<< ((6 : Int32) &&& 31)).toInt ∧ (i6_28 <<< ((6 : Int32) &&& 31)).toInt ≤ 65472 := by omega
  have : (c2 &&& (63 : Int32)).toInt = c2.toInt % 64 := k_mask c2 (63 : Int32) 6 64 (by decide) (by decide) (by decide)
  have : 0 ≤ (c2 &&& (63 : Int32)).toInt ∧ (c2 &&& (63 : Int32)).toInt ≤ 63 := by omega
  have : ((i6_28 <<< ((6 : Int32) &&& 31)) ||| (c2 &&& (63 : Int32))).toInt = (i6_28 <<< ((6 : Int32) &&& 31)).toInt + (c2 &&& (63 : Int32)).toInt := by
    have := c_or (i6_28 <<< ((6 : Int32) &&& 31)) (c2 &&& (63 : Int32)) 6 (by decide) 64 (by decide) (by omega) (by omega) (by omega)
    have := b32 ((i6_28 <<< ((6 : Int32) &&& 31)) ||| (c2 &&& (63 : Int32)))
    omega
  have : 0 ≤ ((i6_28 <<< ((6 : Int32) &&& 31)) ||| (c2 &&& (63 : Int32))).toInt ∧ ((i6_28 <<< ((6 : Int32) &&& 31)) ||| (c2 &&& (63 : Int32))).toInt ≤ 65535 := by omega
  have : i6_32.toInt = ((i6_28 <<< ((6 : Int32) &&& 31)) ||| (c2 &&& (63 : Int32))).toInt := congrArg Int32.toInt hi6_32
  have : 0 ≤ i6_32.toInt ∧ i6_32.toInt ≤ 65535 := by omega
  have : (4 : Int32).toInt = 4 := rfl
  have : (2 : Int32).toInt = 2 := rfl
  have : (2048 : Int32).toInt = 2048 := rfl
  have : (1114111 : Int32).toInt = 1114111 := rfl
  have : (55296 : Int32).toInt = 55296 := rfl
  have : (57343 : Int32).toInt = 57343 := rfl
  have := mt Int32.lt_iff_toInt_lt.mpr hc4_1
  have := mt Int32.toInt_inj.mp hc17_2
  have := congrArg Int32.toInt hc40_3
  have := mt Int32.lt_iff_toInt_lt.mpr hc84_25
  simp only [Int32.lt_iff_toInt_lt, ← Int32.toInt_inj] at hr26
  have := mt Int32.toInt_inj.mp hc93_27
  have := mt Int32.lt_iff_toInt_lt.mpr hc113_29
  simp only [Int32.lt_iff_toInt_lt, ← Int32.toInt_inj] at hr30
  have := mt Int32.toInt_inj.mp hc120_31
  have := mt Int32.toInt_inj.mp hc140_33
  have := mt Int32.toInt_inj.mp hc167_34
  have := congrArg Int32.toInt hc179_35
  have := mt Int32.lt_iff_toInt_lt.mpr hc196_36
  have := mt Int32.lt_iff_toInt_lt.mpr hc205_37
  have := mt Int32.lt_iff_toInt_lt.mpr hc214_38
  have := Int32.lt_iff_toInt_lt.mp hc221_39
  unfold own_isLen
  exact Or.inr (Or.inr (Or.inl ⟨by omega, by omega, by omega, by omega, by omega, by omega, by omega, by omega, by omega, by omega⟩))
set_option maxRecDepth 65536 in
set_option maxHeartbeats 40000000 in
theorem lf2_13 (c0 : Int32) (c1 : Int32) (c2 : Int32) (c3 : Int32) (av0 : Int32) (i6_24 : Int32) (r26 : Int32) (i6_28 : Int32) (r30 : Int32) (i6_32 : Int32) (hb0 : 0 ≤ c0.toInt ∧ c0.toInt ≤ 255) (hb1 : 0 ≤ c1.toInt ∧ c1.toInt ≤ 255) (hb2 : 0 ≤ c2.toInt ∧ c2.toInt ≤ 255) (hb3 : 0 ≤ c3.toInt ∧ c3.toInt ≤ 255) (hbn : 1 ≤ av0.toInt ∧ av0.toInt ≤ 4) (hc4_1 : ¬ (c0 < (128 : Int32))) (hc17_2 : ¬ ((c0 &&& (224 : Int32)) = (192 : Int32))) (hc40_3 : (c0 &&& (240 : Int32)) = (224 : Int32)) (hi6_24 : i6_24 = (c0 &&& (15 : Int32))) (hc84_25 : ¬ (av0 < (3 : Int32))) (hr26 : (r26 = (1 : Int32) ∧ 128 ≤ c1.toInt ∧ c1.toInt ≤ 191) ∨ (r26 = (0 : Int32) ∧ ¬ (128 ≤ c1.toInt ∧ c1.toInt ≤ 191))) (hc93_27 : ¬ (r26 = 0)) (hi6_28 : i6_28 = ((i6_24 <<< ((6 : Int32) &&& 31)) ||| (c1 &&& (63 : Int32)))) (hc113_29 : ¬ ((3 : Int32) < (3 : Int32))) (hr30 : (r30 = (1 : Int32) ∧ 128 ≤ c2.toInt ∧ c2.toInt ≤ 191) ∨ (r30 = (0 : Int32) ∧ ¬ (128 ≤ c2.toInt ∧ c2.toInt ≤ 191))) (hc120_31 : ¬ (r30 = 0)) (hi6_32 : i6_32 = ((i6_28 <<< ((6 : Int32) &&& 31)) ||| (c2 &&& (63 : Int32)))) (hc140_33 : ¬ ((3 : Int32) = (4 : Int32))) (hc167_34 : ¬ ((3 : Int32) = (2 : Int32))) (hc179_35 : (3 : Int32) = (3 : Int32)) (hc196_36 : ¬ (i6_32 < (2048 : Int32))) (hc205_37 : ¬ ((1114111 : Int32) < i6_32)) (hc214_38 : ¬ (i6_32 < (55296 : Int32))) (hc221_39 : ¬ ((57343 : Int32) < i6_32)) : own_isLen c0.toInt c1.toInt c2.toInt c3.toInt av0.toInt (0 : Int32).toInt := by
  have : (128 : Int32).toInt = 128 := rfl
  have : (224 : Int32).toInt = 224 := rfl
  have : (c0 &&& (224 : Int32)).toInt = c0.toInt % 256 - c0.toInt % 32 := k_field c0 (224 : Int32) (31 : Int32) (255 : Int32) 5 8 32 256 (by decide) (by decide) (by decide) (by decide) (by decide) (by decide) (by decide) (by decide) (by decide) (by decide) (by decide) (by decide)
  have : 0 ≤ (c0 &&& (224 : Int32)).toInt ∧ (c0 &&& (224 : Int32)).toInt ≤ 224 := by omega
  have : (192 : Int32).toInt = 192 := rfl
  have : (240 : Int32).toInt = 240 := rfl
  have : (c0 &&& (240 : Int32)).toInt = c0.toInt % 256 - c0.toInt % 16 := k_field c0 (240 : Int32) (15 : Int32) (255 : Int32) 4 8 16 256 (by decide) (by decide) (by decide) (by decide) (by decide) (by decide) (by decide) (by decide) (by decide) (by decide) (by decide) (by decide)
  have : 0 ≤ (c0 &&& (240 : Int32)).toInt ∧ (c0 &&& (240 : Int32)).toInt ≤ 240 := by omega
  have : (15 : Int32).toInt = 15 := rfl
  have : (c0 &&& (15 : Int32)).toInt = c0.toInt % 16 := k_mask c0 (15 : Int32) 4 16 (by decide) (by decide) (by decide)
  have : 0 ≤ (c0 &&& (15 : Int32)).toInt ∧ (c0 &&& (15 : Int32)).toInt ≤ 15 := by omega
  have : i6_24.toInt = (c0 &&& (15 : Int32)).toInt := congrArg Int32.toInt hi6_24
  have : 0 ≤ i6_24.toInt ∧ i6_24.toInt ≤ 15 := by omega
  have : (3 : Int32).toInt = 3 := rfl
  have : (1 : Int32).toInt = 1 := rfl
  have : (0 : Int32).toInt = 0 := rfl
  have := b32 r26
  have : (i6_24 <<< ((6 : Int32) &&& 31)).toInt = i6_24.toInt * 64 := by
    have := k_shl i6_24 (6 : Int32) 6 64 (by decide) (by decide)
    have := b32 (i6_24 <<< ((6 : Int32) &&& 31))
    omega
  have : 0 ≤ (i6_24 <<< ((6 : Int32) &&& 31)).toInt ∧ (i6_24 <<< ((6 : Int32) &&& 31)).toInt ≤ 960 := by omega
  have : (63 : Int32).toInt = 63 := rfl
  have : (c1 &&& (63 : Int32)).toInt = c1.toInt % 64 := k_mask c1 (63 : Int32) 6 64 (by decide) (by decide) (by decide)
  have : 0 ≤ (c1 &&& (63 : Int32)).toInt ∧ (c1 &&& (63 : Int32)).toInt ≤ 63 := by omega
  have : ((i6_24 <<< ((6 : Int32) &&& 31)) ||| (c1 &&& (63 : Int32))).toInt = (i6_24 <<< ((6 : Int32) &&& 31)).toInt + (c1 &&& (63 : Int32)).toInt := by
    have := c_or (i6_24 <<< ((6 : Int32) &&& 31)) (c1 &&& (63 : Int32)) 6 (by decide) 64 (by decide) (by omega) (by omega) (by omega)
    have := b32 ((i6_24 <<< ((6 : Int32) &&& 31)) ||| (c1 &&& (63 : Int32)))
    omega
  have : 0 ≤ ((i6_24 <<< ((6 : Int32) &&& 31)) ||| (c1 &&& (63 : Int32))).toInt ∧ ((i6_24 <<< ((6 : Int32) &&& 31)) ||| (c1 &&& (63 : Int32))).toInt ≤ 1023 := by omega
  have : i6_28.toInt = ((i6_24 <<< ((6 : Int32) &&& 31)) ||| (c1 &&& (63 : Int32))).toInt := congrArg Int32.toInt hi6_28
  have : 0 ≤ i6_28.toInt ∧ i6_28.toInt ≤ 1023 := by omega
  have := b32 r30
  have : (i6_28 <<< ((6 : Int32) &&& 31)).toInt = i6_28.toInt * 64 := by
    have := k_shl i6_28 (6 : Int32) 6 64 (by decide) (by decide)
    have := b32 (i6_28 <<< ((6 : Int32) &&& 31))
    omega
  have : 0 ≤ (i6_28 <<< ((6 : Int32) &&& 31)).toInt ∧ (i6_28 <<< ((6 : Int32) &&& 31)).toInt ≤ 65472 := by omega
  have : (c2 &&& (63 : Int32)).toInt = c2.toInt % 64 := k_mask c2 (63 : Int32) 6 64 (by decide) (by decide) (by decide)
  have : 0 ≤ (c2 &&& (63 : Int32)).toInt ∧ (c2 &&& (63 : Int32)).toInt ≤ 63 := by omega
  have : ((i6_28 <<< ((6 : Int32) &&& 31)) ||| (c2 &&& (63 : Int32))).toInt = (i6_28 <<< ((6 : Int32) &&& 31)).toInt + (c2 &&& (63 : Int32)).toInt := by
    have := c_or (i6_28 <<< ((6 : Int32) &&& 31)) (c2 &&& (63 : Int32)) 6 (by decide) 64 (by decide) (by omega) (by omega) (by omega)
    have := b32 ((i6_28 <<< ((6 : Int32) &&& 31)) ||| (c2 &&& (63 : Int32)))
    omega
  have : 0 ≤ ((i6_28 <<< ((6 : Int32) &&& 31)) ||| (c2 &&& (63 : Int32))).toInt ∧ ((i6_28 <<< ((6 : Int32) &&& 31)) ||| (c2 &&& (63 : Int32))).toInt ≤ 65535 := by omega
  have : i6_32.toInt = ((i6_28 <<< ((6 : Int32) &&& 31)) ||| (c2 &&& (63 : Int32))).toInt := congrArg Int32.toInt hi6_32
  have : 0 ≤ i6_32.toInt ∧ i6_32.toInt ≤ 65535 := by omega
  have : (4 : Int32).toInt = 4 := rfl
  have : (2 : Int32).toInt = 2 := rfl
  have : (2048 : Int32).toInt = 2048 := rfl
  have : (1114111 : Int32).toInt = 1114111 := rfl
  have : (55296 : Int32).toInt = 55296 := rfl
  have : (57343 : Int32).toInt = 57343 := rfl
  have := mt Int32.lt_iff_toInt_lt.mpr hc4_1
  have := mt Int32.toInt_inj.mp hc17_2
  have := congrArg Int32.toInt hc40_3
  have := mt Int32.lt_iff_toInt_lt.mpr hc84_25
  simp only [Int32.lt_iff_toInt_lt, ← Int32.toInt_inj] at hr26
  have := mt Int32.toInt_inj.mp hc93_27
  have := mt Int32.lt_iff_toInt_lt.mpr hc113_29
  simp only [Int32.lt_iff_toInt_lt, ← Int32.toInt_inj] at hr30
  have := mt Int32.toInt_inj.mp hc120_31
  have := mt Int32.toInt_inj.mp hc140_33
  have := mt Int32.toInt_inj.mp hc167_34
  have := congrArg Int32.toInt hc179_35
  have := mt Int32.lt_iff_toInt_lt.mpr hc196_36
  have := mt Int32.lt_iff_toInt_lt.mpr hc205_37
  have := mt Int32.lt_iff_toInt_lt.mpr hc214_38
  have := mt Int32.lt_iff_toInt_lt.mpr hc221_39
  unfold own_isLen
  exact Or.inr (Or.inr (Or.inr (Or.inr ⟨by omega, by omega, by omega, by omega, by omega⟩)))
set_option maxRecDepth 65536 in
set_option maxHeartbeats 40000000 in
theorem lf2_14 (c0 : Int32) (c1 : Int32) (c2 : Int32) (c3 : Int32) (av0 : Int32) (i6_24 : Int32) (r26 : Int32) (i6_28 : Int32) (r30 : Int32) (i6_32 : Int32) (hb0 : 0 ≤ c0.toInt ∧ c0.toInt ≤ 255) (hb1 : 0 ≤ c1.toInt ∧ c1.toInt ≤ 255) (hb2 : 0 ≤ c2.toInt ∧ c2.toInt ≤ 255) (hb3 : 0 ≤ c3.toInt ∧ c3.toInt ≤ 255) (hbn : 1 ≤ av0.toInt ∧ av0.toInt ≤ 4) (hc4_1 : ¬ (c0 < (128 : Int32))) (hc17_2 : ¬ ((c0 &&& (224 : Int32)) = (192 : Int32))) (hc40_3 : (c0 &&& (240 : Int32)) = (224 : Int32)) (hi6_24 : i6_24 = (c0 &&& (15 : Int32))) (hc84_25 : ¬ (av0 < (3 : Int32))) (hr26 : (r26 = (1 : Int32) ∧ 128 ≤ c1.toInt ∧ c1.toInt ≤ 191) ∨ (r26 = (0 : Int32) ∧ ¬ (128 ≤ c1.toInt ∧ c1.toInt ≤ 191))) (hc93_27 : ¬ (r26 = 0)) (hi6_28 : i6_28 = ((i6_24 <<< ((6 : Int32) &&& 31)) ||| (c1 &&& (63 : Int32)))) (hc113_29 : ¬ ((3 : Int32) < (3 : Int32))) (hr30 : (r30 = (1 : Int32) ∧ 128 ≤ c2.toInt ∧ c2.toInt ≤ 191) ∨ (r30 = (0 : Int32) ∧ ¬ (128 ≤ c2.toInt ∧ c2.toInt ≤ 191))) (hc120_31 : ¬ (r30 = 0)) (hi6_32 : i6_32 = ((i6_28 <<< ((6 : Int32) &&& 31)) ||| (c2 &&& (63 : Int32)))) (hc140_33 : ¬ ((3 : Int32) = (4 : Int32))) (hc167_34 : ¬ ((3 : Int32) = (2 : Int32))) (hc179_35 : (3 : Int32) = (3 : Int32)) (hc196_36 : ¬ (i6_32 < (2048 : Int32))) (hc205_37 : (1114111 : Int32) < i6_32) : own_isLen c0.toInt c1.toInt c2.toInt c3.toInt av0.toInt (0 : Int32).toInt := by
  have : (128 : Int32).toInt = 128 := rfl
  have : (224 : Int32).toInt = 224 := rfl
  have : (c0 &&& (224 : Int32)).toInt = c0.toInt % 256 - c0.toInt % 32 := k_field c0 (224 : Int32) (31 : Int32) (255 : Int32) 5 8 32 256 (by decide) (by decide) (by decide) (by decide) (by decide) (by decide) (by decide) (by decide) (by decide) (by decide) (by decide) (by decide)
  have : 0 ≤ (c0 &&& (224 : Int32)).toInt ∧ (c0 &&& (224 : Int32)).toInt ≤ 224 := by omega
  have : (192 : Int32).toInt = 192 := rfl
  have : (240 : Int32).toInt = 240 := rfl
  have : (c0 &&& (240 : Int32)).toInt = c0.toInt % 256 - c0.toInt % 16 := k_field c0 (240 : Int32) (15 : Int32) (255 : Int32) 4 8 16 256 (by decide) (by decide) (by decide) (by decide) (by decide) (by decide) (by decide) (by decide) (by decide) (by decide) (by decide) (by decide)
  have : 0 ≤ (c0 &&& (240 : Int32)).toInt ∧ (c0 &&& (240 : Int32)).toInt ≤ 240 := by omega
  have : (15 : Int32).toInt = 15 := rfl
  have : (c0 &&& (15 : Int32)).toInt = c0.toInt % 16 := k_mask c0 (15 : Int32) 4 16 (by decide) (by decide) (by decide)
  have : 0 ≤ (c0 &&& (15 : Int32)).toInt ∧ (c0 &&& (15 : Int32)).toInt ≤ 15 := by omega
  have : i6_24.toInt = (c0 &&& (15 : Int32)).toInt := congrArg Int32.toInt hi6_24
  have : 0 ≤ i6_24.toInt ∧ i6_24.toInt ≤ 15 := by omega
  have : (3 : Int32).toInt = 3 := rfl
  have : (1 : Int32).toInt = 1 := rfl
  have : (0 : Int32).toInt = 0 := rfl
  have := b32 r26
  have : (i6_24 <<< ((6 : Int32) &&& 31)).toInt = i6_24.toInt * 64 := by
    have := k_shl i6_24 (6 : Int32) 6 64 (by decide) (by decide)
    have := b32 (i6_24 <<< ((6 : Int32) &&& 31))
    omega
  have : 0 ≤ (i6_24 <<< ((6 : Int32) &&& 31)).toInt ∧ (i6_24 <<< ((6 : Int32) &&& 31)).toInt ≤ 960 := by omega
  have : (63 : Int32).toInt = 63 := rfl
  have : (c1 &&& (63 : Int32)).toInt = c1.toInt % 64 := k_mask c1 (63 : Int32) 6 64 (by decide) (by decide) (by decide)
  have : 0 ≤ (c1 &&& (63 : Int32)).toInt ∧ (c1 &&& (63 : Int32)).toInt ≤ 63 := by omega
  have : ((i6_24 <<< ((6 : Int32) &&& 31)) ||| (c1 &&& (63 : Int32))).toInt = (i6_24 <<< ((6 : Int32) &&& 31)).toInt + (c1 &&& (63 : Int32)).toInt := by
    have := c_or (i6_24 <<< ((6 : Int32) &&& 31)) (c1 &&& (63 : Int32)) 6 (by decide) 64 (by decide) (by omega) (by omega) (by omega)
    have := b32 ((i6_24 <<< ((6 : Int32) &&& 31)) ||| (c1 &&& (63 : Int32)))
    omega
  have : 0 ≤ ((i6_24 <<< ((6 : Int32) &&& 31)) ||| (c1 &&& (63 : Int32))).toInt ∧ ((i6_24 <<< ((6 : Int32) &&& 31)) ||| (c1 &&& (63 : Int32))).toInt ≤ 1023 := by omega
  have : i6_28.toInt = ((i6_24 <<< ((6 : Int32) &&& 31)) ||| (c1 &&& (63 : Int32))).toInt := congrArg Int32.toInt hi6_28
  have : 0 ≤ i6_28.toInt ∧ i6_28.toInt ≤ 1023 := by omega
  have := b32 r30
  have : (i6_28 <<< ((6 : Int32) &&& 31)).toInt = i6_28.toInt * 64 := by
    have := k_shl i6_28 (6 : Int32) 6 64 (by decide) (by decide)
    have := b32 (i6_28 <<< ((6 : Int32) &&& 31))
    omega
  have : 0 ≤ (i6_28 <<< ((6 : Int32) &&& 31)).toInt ∧ (i6_28 <<< ((6 : Int32) &&& 31)).toInt ≤ 65472 := by omega
  have : (c2 &&& (63 : Int32)).toInt = c2.toInt % 64 := k_mask c2 (63 : Int32) 6 64 (by decide) (by decide) (by decide)
  have : 0 ≤ (c2 &&& (63 : Int32)).toInt ∧ (c2 &&& (63 : Int32)).toInt ≤ 63 := by omega
  have : ((i6_28 <<< ((6 : Int32) &&& 31)) ||| (c2 &&& (63 : Int32))).toInt = (i6_28 <<< ((6 : Int32) &&& 31)).toInt + (c2 &&& (63 : Int32)).toInt := by
    have := c_or (i6_28 <<< ((6 : Int32) &&& 31)) (c2 &&& (63 : Int32)) 6 (by decide) 64 (by decide) (by omega) (by omega) (by omega)
    have := b32 ((i6_28 <<< ((6 : Int32) &&& 31)) ||| (c2 &&& (63 : Int32)))
    omega
  have : 0 ≤ ((i6_28 <<< ((6 : Int32) &&& 31)) ||| (c2 &&& (63 : Int32))).toInt ∧ ((i6_28 <<< ((6 : Int32) &&& 31)) ||| (c2 &&& (63 : Int32))).toInt ≤ 65535 := by omega
  have : i6_32.toInt = ((i6_28 <<< ((6 : Int32) &&& 31)) ||| (c2 &&& (63 : Int32))).toInt := congrArg Int32.toInt hi6_32
  have : 0 ≤ i6_32.toInt ∧ i6_32.toInt ≤ 65535 := by omega
  have : (4 : Int32).toInt = 4 := rfl
  have : (2 : Int32).toInt = 2 := rfl
  have : (2048 : Int32).toInt = 2048 := rfl
  have : (1114111 : Int32).toInt = 1114111 := rfl
  have := mt Int32.lt_iff_toInt_lt.mpr hc4_1
  have := mt Int32.toInt_inj.mp hc17_2
  have := congrArg Int32.toInt hc40_3
  have := mt Int32.lt_iff_toInt_lt.mpr hc84_25
  simp only [Int32.lt_iff_toInt_lt, ← Int32.toInt_inj] at hr26
  have := mt Int32.toInt_inj.mp hc93_27
  have := mt Int32.lt_iff_toInt_lt.mpr hc113_29
  simp only [Int32.lt_iff_toInt_lt, ← Int32.toInt_inj] at hr30
  have := mt Int32.toInt_inj.mp hc120_31
  have := mt Int32.toInt_inj.mp hc140_33
  have := mt Int32.toInt_inj.mp hc167_34
  have := congrArg Int32.toInt hc179_35
  have := mt Int32.lt_iff_toInt_lt.mpr hc196_36
  have := Int32.lt_iff_toInt_lt.mp hc205_37
  unfold own_isLen
  exact Or.inr (Or.inr (Or.inr (Or.inr ⟨by omega, by omega, by omega, by omega, by omega⟩)))
set_option maxRecDepth 65536 in
set_option maxHeartbeats 40000000 in
theorem lf2_15 (c0 : Int32) (c1 : Int32) (c2 : Int32) (c3 : Int32) (av0 : Int32) (i6_24 : Int32) (r26 : Int32) (i6_28 : Int32) (r30 : Int32) (i6_32 : Int32) (hb0 : 0 ≤ c0.toInt ∧ c0.toInt ≤ 255) (hb1 : 0 ≤ c1.toInt ∧ c1.toInt ≤ 255) (hb2 : 0 ≤ c2.toInt ∧ c2.toInt ≤ 255) (hb3 : 0 ≤ c3.toInt ∧ c3.toInt ≤ 255) (hbn : 1 ≤ av0.toInt ∧ av0.toInt ≤ 4) (hc4_1 : ¬ (c0 < (128 : Int32))) (hc17_2 : ¬ ((c0 &&& (224 : Int32)) = (192 : Int32))) (hc40_3 : (c0 &&& (240 : Int32)) = (224 : Int32)) (hi6_24 : i6_24 = (c0 &&& (15 : Int32))) (hc84_25 : ¬ (av0 < (3 : Int32))) (hr26 : (r26 = (1 : Int32) ∧ 128 ≤ c1.toInt ∧ c1.toInt ≤ 191) ∨ (r26 = (0 : Int32) ∧ ¬ (128 ≤ c1.toInt ∧ c1.toInt ≤ 191))) (hc93_27 : ¬ (r26 = 0)) (hi6_28 : i6_28 = ((i6_24 <<< ((6 : Int32) &&& 31)) ||| (c1 &&& (63 : Int32)))) (hc113_29 : ¬ ((3 : Int32) < (3 : Int32))) (hr30 : (r30 = (1 : Int32) ∧ 128 ≤ c2.toInt ∧ c2.toInt ≤ 191) ∨ (r30 = (0 : Int32) ∧ ¬ (128 ≤ c2.toInt ∧ c2.toInt ≤ 191))) (hc120_31 : ¬ (r30 = 0)) (hi6_32 : i6_32 = ((i6_28 <<< ((6 : Int32) &&& 31)) ||| (c2 &&& (63 : Int32)))) (hc140_33 : ¬ ((3 : Int32) = (4 : Int32))) (hc167_34 : ¬ ((3 : Int32) = (2 : Int32))) (hc179_35 : (3 : Int32) = (3 : Int32)) (hc196_36 : i6_32 < (2048 : Int32)) : own_isLen c0.toInt c1.toInt c2.toInt c3.toInt av0.toInt (0 : Int32).toInt := by
  have : (128 : Int32).toInt = 128 := rfl
  have : (224 : Int32).toInt = 224 := rfl
  have : (c0 &&& (224 : Int32)).toInt = c0.toInt % 256 - c0.toInt % 32 := k_field c0 (224 : Int32) (31 : Int32) (255 : Int32) 5 8 32 256 (by decide) (by decide) (by decide) (by decide) (by decide) (by decide) (by decide) (by decide) (by decide) (by decide) (by decide) (by decide)
  have : 0 ≤ (c0 &&& (224 : Int32)).toInt ∧ (c0 &&& (224 : Int32)).toInt ≤ 224 := by omega
  have : (192 : Int32).toInt = 192 := rfl
  have : (240 : Int32).toInt = 240 := rfl
  have : (c0 &&& (240 : Int32)).toInt = c0.toInt % 256 - c0.toInt % 16 := k_field c0 (240 : Int32) (15 : Int32) (255 : Int32) 4 8 16 256 (by decide) (by decide) (by decide) (by decide) (by decide) (by decide) (by decide) (by decide) (by decide) (by decide) (by decide) (by decide)
  have : 0 ≤ (c0 &&& (240 : Int32)).toInt ∧ (c0 &&& (240 : Int32)).toInt ≤ 240 := by omega
  have : (15 : Int32).toInt = 15 := rfl
  have : (c0 &&& (15 : Int32)).toInt = c0.toInt % 16 := k_mask c0 (15 : Int32) 4 16 (by decide) (by decide) (by decide)
  have : 0 ≤ (c0 &&& (15 : Int32)).toInt ∧ (c0 &&& (15 : Int32)).toInt ≤ 15 := by omega
  have : i6_24.toInt = (c0 &&& (15 : Int32)).toInt := congrArg Int32.toInt hi6_24
  have : 0 ≤ i6_24.toInt ∧ i6_24.toInt ≤ 15 := by omega
  have : (3 : Int32).toInt = 3 := rfl
  have : (1 : Int32).toInt = 1 := rfl
  have : (0 : Int32).toInt = 0 := rfl
  have := b32 r26
  have : (i6_24 <<< ((6 : Int32) &&& 31)).toInt = i6_24.toInt * 64 := by
    have := k_shl i6_24 (6 : Int32) 6 64 (by decide) (by decide)
    have := b32 (i6_24 <<< ((6 : Int32) &&& 31))
    omega
  have : 0 ≤ (i6_24 <<< ((6 : Int32) &&& 31)).toInt ∧ (i6_24 <<< ((6 : Int32) &&& 31)).toInt ≤ 960 := by omega
  have : (63 : Int32).toInt = 63 := rfl
  have : (c1 &&& (63 : Int32)).toInt = c1.toInt % 64 := k_mask c1 (63 : Int32) 6 64 (by decide) (by decide) (by decide)
  have : 0 ≤ (c1 &&& (63 : Int32)).toInt ∧ (c1 &&& (63 : Int32)).toInt ≤ 63 := by omega
  have : ((i6_24 <<< ((6 : Int32) &&& 31)) ||| (c1 &&& (63 : Int32))).toInt = (i6_24 <<< ((6 : Int32) &&& 31)).toInt + (c1 &&& (63 : Int32)).toInt := by
    have := c_or (i6_24 <<< ((6 : Int32) &&& 31)) (c1 &&& (63 : Int32)) 6 (by decide) 64 (by decide) (by omega) (by omega) (by omega)
    have := b32 ((i6_24 <<< ((6 : Int32) &&& 31)) ||| (c1 &&& (63 : Int32)))
    omega
  have : 0 ≤ ((i6_24 <<< ((6 : Int32) &&& 31)) ||| (c1 &&& (63 : Int32))).toInt ∧ ((i6_24 <<< ((6 : Int32) &&& 31)) ||| (c1 &&& (63 : Int32))).toInt ≤ 1023 := by omega
  have : i6_28.toInt = ((i6_24 <<< ((6 : Int32) &&& 31)) ||| (c1 &&& (63 : Int32))).toInt := congrArg Int32.toInt hi6_28
  have : 0 ≤ i6_28.toInt ∧ i6_28.toInt ≤ 1023 := by omega
  have := b32 r30
  have : (i6_28 <<< ((6 : Int32) &&& 31)).toInt = i6_28.toInt * 64 := by
    have := k_shl i6_28 (6 : Int32) 6 64 (by decide) (by decide)
    have := b32 (i6_28 <<< ((6 : Int32) &&& 31))
    omega
  have : 0 ≤ (i6_28 <<< ((6 : Int32) &&& 31)).toInt ∧ (i6_28 <<< ((6 : Int32) &&& 31)).toInt ≤ 65472 := by omega
  have : (c2 &&& (63 : Int32)).toInt = c2.toInt % 64 := k_mask c2 (63 : Int32) 6 64 (by decide) (by decide) (by decide)
  have : 0 ≤ (c2 &&& (63 : Int32)).toInt ∧ (c2 &&& (63 : Int32)).toInt ≤ 63 := by omega
  have : ((i6_28 <<< ((6 : Int32) &&& 31)) ||| (c2 &&& (63 : Int32))).toInt = (i6_28 <<< ((6 : Int32) &&& 31)).toInt + (c2 &&& (63 : Int32)).toInt := by
    have := c_or (i6_28 <<< ((6 : Int32) &&& 31)) (c2 &&& (63 : Int32)) 6 (by decide) 64 (by decide) (by omega) (by omega) (by omega)
    have := b32 ((i6_28 <<< ((6 : Int32) &&& 31)) ||| (c2 &&& (63 : Int32)))
    omega
  have : 0 ≤ ((i6_28 <<< ((6 : Int32) &&& 31)) ||| (c2 &&& (63 : Int32))).toInt ∧ ((i6_28 <<< ((6 : Int32) &&& 31)) ||| (c2 &&& (63 : Int32))).toInt ≤ 65535 := by omega
  have : i6_32.toInt = ((i6_28 <<< ((6 : Int32) &&& 31)) ||| (c2 &&& (63 : Int32))).toInt := congrArg Int32.toInt hi6_32
  have : 0 ≤ i6_32.toInt ∧ i6_32.toInt ≤ 65535 := by omega
  have : (4 : Int32).toInt = 4 := rfl
  have : (2 : Int32).toInt = 2 := rfl
  have : (2048 : Int32).toInt = 2048 := rfl
  have := mt Int32.lt_iff_toInt_lt.mpr hc4_1
  have := mt Int32.toInt_inj.mp hc17_2
  have := congrArg Int32.toInt hc40_3
  have := mt Int32.lt_iff_toInt_lt.mpr hc84_25
  simp only [Int32.lt_iff_toInt_lt, ← Int32.toInt_inj] at hr26
  have := mt Int32.toInt_inj.mp hc93_27
  have := mt Int32.lt_iff_toInt_lt.mpr hc113_29
  simp only [Int32.lt_iff_toInt_lt, ← Int32.toInt_inj] at hr30
  have := mt Int32.toInt_inj.mp hc120_31
  have := mt Int32.toInt_inj.mp hc140_33
  have := mt Int32.toInt_inj.mp hc167_34
  have := congrArg Int32.toInt hc179_35
  have := Int32.lt_iff_toInt_lt.mp hc196_36
  unfold own_isLen
  exact Or.inr (Or.inr (Or.inr (Or.inr ⟨by omega, by omega, by omega, by omega, by omega⟩)))
set_option maxRecDepth 65536 in
set_option maxHeartbeats 40000000 in
theorem lf2_16 (c0 : Int32) (c1 : Int32) (c2 : Int32) (c3 : Int32) (av0 : Int32) (i6_24 : Int32) (r26 : Int32) (i6_28 : Int32) (r30 : Int32) (hb0 : 0 ≤ c0.toInt ∧ c0.toInt ≤ 255) (hb1 : 0 ≤ c1.toInt ∧ c1.toInt ≤ 255) (hb2 : 0 ≤ c2.toInt ∧ c2.toInt ≤ 255) (hb3 : 0 ≤ c3.toInt ∧ c3.toInt ≤ 255) (hbn : 1 ≤ av0.toInt ∧ av0.toInt ≤ 4) (hc4_1 : ¬ (c0 < (128 : Int32))) (hc17_2 : ¬ ((c0 &&& (224 : Int32)) = (192 : Int32))) (hc40_3 : (c0 &&& (240 : Int32)) = (224 : Int32)) (hi6_24 : i6_24 = (c0 &&& (15 : Int32))) (hc84_25 : ¬ (av0 < (3 : Int32))) (hr26 : (r26 = (1 : Int32) ∧ 128 ≤ c1.toInt ∧ c1.toInt ≤ 191) ∨ (r26 = (0 : Int32) ∧ ¬ (128 ≤ c1.toInt ∧ c1.toInt ≤ 191))) (hc93_27 : ¬ (r26 = 0)) (hi6_28 : i6_28 = ((i6_24 <<< ((6 : Int32) &&& 31)) ||| (c1 &&& (63 : Int32)))) (hc113_29 : ¬ ((3 : Int32) < (3 : Int32))) (hr30 : (r30 = (1 : Int32) ∧ 128 ≤ c2.toInt ∧ c2.toInt ≤ 191) ∨ (r30 = (0 : Int32) ∧ ¬ (128 ≤ c2.toInt ∧ c2.toInt ≤ 191))) (hc120_31 : r30 = 0) : own_isLen c0.toInt c1.toInt c2.toInt c3.toInt av0.toInt (0 : Int32).toInt := by
  have : (128 : Int32).toInt = 128 := rfl
  have : (224 : Int32).toInt = 224 := rfl
  have : (c0 &&& (224 : Int32)).toInt = c0.toInt % 256 - c0.toInt % 32 := k_field c0 (224 : Int32) (31 : Int32) (255 : Int32) 5 8 32 256 (by decide) (by decide) (by decide) (by decide) (by decide) (by decide) (by decide) (by decide) (by decide) (by decide) (by decide) (by decide)
  have : 0 ≤ (c0 &&& (224 : Int32)).toInt ∧ (c0 &&& (224 : Int32)).toInt ≤ 224 := by omega
  have : (192 : Int32).toInt = 192 := rfl
  have : (240 : Int32).toInt = 240 := rfl
  have : (c0 &&& (240 : Int32)).toInt = c0.toInt % 256 - c0.toInt % 16 := k_field c0 (240 : Int32) (15 : Int32) (255 : Int32) 4 8 16 256 (by decide) (by decide) (by decide) (by decide) (by decide) (by decide) (by decide) (by decide) (by decide) (by decide) (by decide) (by decide)
  have : 0 ≤ (c0 &&& (240 : Int32)).toInt ∧ (c0 &&& (240 : Int32)).toInt ≤ 240 := by omega
  have : (15 : Int32).toInt = 15 := rfl
  have : (c0 &&& (15 : Int32)).toInt = c0.toInt % 16 := k_mask c0 (15 : Int32) 4 16 (by decide) (by decide) (by decide)
  have : 0 ≤ (c0 &&& (15 : Int32)).toInt ∧ (c0 &&& (15 : Int32)).toInt ≤ 15 := by omega
  have : i6_24.toInt = (c0 &&& (15 : Int32)).toInt := congrArg Int32.toInt hi6_24
  have : 0 ≤ i6_24.toInt ∧ i6_24.toInt ≤ 15 := by omega
  have : (3 : Int32).toInt = 3 := rfl
  have : (1 : Int32).toInt = 1 := rfl
  have : (0 : Int32).toInt = 0 := rfl
  have := b32 r26
  have : (i6_24 <<< ((6 : Int32) &&& 31)).toInt = i6_24.toInt * 64 := by
    have := k_shl i6_24 (6 : Int32) 6 64 (by decide) (by decide)
    have := b32 (i6_24 <<< ((6 : Int32) &&& 31))
    omega
  have : 0 ≤ (i6_24 <<< ((6 : Int32) &&& 31)).toInt ∧ (i6_24 <<< ((6 : Int32) &&& 31)).toInt ≤ 960 := by omega
  have : (63 : Int32).toInt = 63 := rfl
  have : (c1 &&& (63 : Int32)).toInt = c1.toInt % 64 := k_mask c1 (63 : Int32) 6 64 (by decide) (by decide) (by decide)
  have : 0 ≤ (c1 &&& (63 : Int32)).toInt ∧ (c1 &&& (63 : Int32)).toInt ≤ 63 := by omega
  have : ((i6_24 <<< ((6 : Int32) &&& 31)) ||| (c1 &&& (63 : Int32))).toInt = (i6_24 <<< ((6 : Int32) &&& 31)).toInt + (c1 &&& (63 : Int32)).toInt := by
    have := c_or (i6_24 <<< ((6 : Int32) &&& 31)) (c1 &&& (63 : Int32)) 6 (by decide) 64 (by decide) (by omega) (by omega) (by omega)
    have := b32 ((i6_24 <<< ((6 : Int32) &&& 31)) ||| (c1 &&& (63 : Int32)))
    omega
  have : 0 ≤ ((i6_24 <<< ((6 : Int32) &&& 31)) ||| (c1 &&& (63 : Int32))).toInt ∧ ((i6_24 <<< ((6 : Int32) &&& 31)) ||| (c1 &&& (63 : Int32))).toInt ≤ 1023 := by omega
  have : i6_28.toInt = ((i6_24 <<< ((6 : Int32) &&& 31)) ||| (c1 &&& (63 : Int32))).toInt := congrArg Int32.toInt hi6_28
  have : 0 ≤ i6_28.toInt ∧ i6_28.toInt ≤ 1023 := by omega
  have := b32 r30
  have := mt Int32.lt_iff_toInt_lt.mpr hc4_1
  have := mt Int32.toInt_inj.mp hc17_2
  have := congrArg Int32.toInt hc40_3
  have := mt Int32.lt_iff_toInt_lt.mpr hc84_25
  simp only [Int32.lt_iff_toInt_lt, ← Int32.toInt_inj] at hr26
  have := mt Int32.toInt_inj.mp hc93_27
  have := mt Int32.lt_iff_toInt_lt.mpr hc113_29
  simp only [Int32.lt_iff_toInt_lt, ← Int32.toInt_inj] at hr30
  have := congrArg Int32.toInt hc120_31
  unfold own_isLen
  exact Or.inr (Or.inr (Or.inr (Or.inr ⟨by omega, by omega, by omega, by omega, by omega⟩)))
set_option maxRecDepth 65536 in
set_option maxHeartbeats 40000000 in
theorem lf2_17 (c0 : Int32) (c1 : Int32) (c2 : Int32) (c3 : Int32) (av0 : Int32) (i6_24 : Int32) (r26 : Int32) (hb0 : 0 ≤ c0.toInt ∧ c0.toInt ≤ 255) (hb1 : 0 ≤ c1.toInt ∧ c1.toInt ≤ 255) (hb2 : 0 ≤ c2.toInt ∧ c2.toInt ≤ 255) (hb3 : 0 ≤ c3.toInt ∧ c3.toInt ≤ 255) (hbn : 1 ≤ av0.toInt ∧ av0.toInt ≤ 4) (hc4_1 : ¬ (c0 < (128 : Int32))) (hc17_2 : ¬ ((c0 &&& (224 : Int32)) = (192 : Int32))) (hc40_3 : (c0 &&& (240 : Int32)) = (224 : Int32)) (hi6_24 : i6_24 = (c0 &&& (15 : Int32))) (hc84_25 : ¬ (av0 < (3 : Int32))) (hr26 : (r26 = (1 : Int32) ∧ 128 ≤ c1.toInt ∧ c1.toInt ≤ 191) ∨ (r26 = (0 : Int32) ∧ ¬ (128 ≤ c1.toInt ∧ c1.toInt ≤ 191))) (hc93_27 : r26 = 0) : own_isLen c0.toInt c1.toInt c2.toInt c3.toInt av0.toInt (0 : Int32).toInt := by
  have : (128 : Int32).toInt = 128 := rfl
  have : (224 : Int32).toInt = 224 := rfl
  have : (c0 &&& (224 : Int32)).toInt = c0.toInt % 256 - c0.toInt % 32 := k_field c0 (224 : Int32) (31 : Int32) (255 : Int32) 5 8 32 256 (by decide) (by decide) (by decide) (by decide) (by decide) (by decide) (by decide) (by decide) (by decide) (by decide) (by decide) (by decide)
  have : 0 ≤ (c0 &&& (224 : Int32)).toInt ∧ (c0 &&& (224 : Int32)).toInt ≤ 224 := by omega
  have : (192 : Int32).toInt = 192 := rfl
  have : (240 : Int32).toInt = 240 := rfl
  have : (c0 &&& (240 : Int32)).toInt = c0.toInt % 256 - c0.toInt % 16 := k_field c0 (240 : Int32) (15 : Int32) (255 : Int32) 4 8 16 256 (by decide) (by decide) (by decide) (by decide) (by decide) (by decide) (by decide) (by decide) (by decide) (by decide) (by decide) (by decide)
  have : 0 ≤ (c0 &&& (240 : Int32)).toInt ∧ (c0 &&& (240 : Int32)).toInt ≤ 240 := by omega
  have : (15 : Int32).toInt = 15 := rfl
  have : (c0 &&& (15 : Int32)).toInt = c0.toInt % 16 := k_mask c0 (15 : Int32) 4 16 (by decide) (by decide) (by decide)
  have : 0 ≤ (c0 &&& (15 : Int32)).toInt ∧ (c0 &&& (15 : Int32)).toInt ≤ 15 := by omega
  have : i6_24.toInt = (c0 &&& (15 : Int32)).toInt := congrArg Int32.toInt hi6_24
  have : 0 ≤ i6_24.toInt ∧ i6_24.toInt ≤ 15 := by omega
  have : (3 : Int32).toInt = 3 := rfl
  have : (1 : Int32).toInt = 1 := rfl
  have : (0 : Int32).toInt = 0 := rfl
  have := b32 r26
  have := mt Int32.lt_iff_toInt_lt.mpr hc4_1
  have := mt Int32.toInt_inj.mp hc17_2
  have := congrArg Int32.toInt hc40_3
  have := mt Int32.lt_iff_toInt_lt.mpr hc84_25
  simp only [Int32.lt_iff_toInt_lt, ← Int32.toInt_inj] at hr26
  have := congrArg Int32.toInt hc93_27
  unfold own_isLen
  exact Or.inr (Or.inr (Or.inr (Or.inr ⟨by omega, by omega, by omega, by omega, by omega⟩)))
set_option maxRecDepth 65536 in
set_option maxHeartbeats 40000000 in
theorem lf2_18 (c0 : Int32) (c1 : Int32) (c2 : Int32) (c3 : Int32) (av0 : Int32) (i6_24 : Int32) (hb0 : 0 ≤ c0.toInt ∧ c0.toInt ≤ 255) (hb1 : 0 ≤ c1.toInt ∧ c1.toInt ≤ 255) (hb2 : 0 ≤ c2.toInt ∧ c2.toInt ≤ 255) (hb3 : 0 ≤ c3.toInt ∧ c3.toInt ≤ 255) (hbn : 1 ≤ av0.toInt ∧ av0.toInt ≤ 4) (hc4_1 : ¬ (c0 < (128 : Int32))) (hc17_2 : ¬ ((c0 &&& (224 : Int32)) = (192 : Int32))) (hc40_3 : (c0 &&& (240 : Int32)) = (224 : Int32)) (hi6_24 : i6_24 = (c0 &&& (15 : Int32))) (hc84_25 : av0 < (3 : Int32)) : own_isLen c0.toInt c1.toInt c2.toInt c3.toInt av0.toInt (0 : Int32).toInt := by
  have : (128 : Int32).toInt = 128 := rfl
  have : (224 : Int32).toInt = 224 := rfl
  have : (c0 &&& (224 : Int32)).toInt = c0.toInt % 256 - c0.toInt % 32 := k_field c0 (224 : Int32) (31 : Int32) (255 : Int32) 5 8 32 256 (by decide) (by decide) (by decide) (by decide) (by decide) (by decide) (by decide) (by decide) (by decide) (by decide) (by decide) (by decide)
  have : 0 ≤ (c0 &&& (224 : Int32)).toInt ∧ (c0 &&& (224 : Int32)).toInt ≤ 224 := by omega
  have : (192 : Int32).toInt = 192 := rfl
  have : (240 : Int32).toInt = 240 := rfl
  have : (c0 &&& (240 : Int32)).toInt = c0.toInt % 256 - c0.toInt % 16 := k_field c0 (240 : Int32) (15 : Int32) (255 : Int32) 4 8 16 256 (by decide) (by decide) (by decide) (by decide) (by decide) (by decide) (by decide) (by decide) (by decide) (by decide) (by decide) (by decide)
  have : 0 ≤ (c0 &&& (240 : Int32)).toInt ∧ (c0 &&& (240 : Int32)).toInt ≤ 240 := by omega
  have : (15 : Int32).toInt = 15 := rfl
  have : (c0 &&& (15 : Int32)).toInt = c0.toInt % 16 := k_mask c0 (15 : Int32) 4 16 (by decide) (by decide) (by decide)
  have : 0 ≤ (c0 &&& (15 : Int32)).toInt ∧ (c0 &&& (15 : Int32)).toInt ≤ 15 := by omega
  have : i6_24.toInt = (c0 &&& (15 : Int32)).toInt := congrArg Int32.toInt hi6_24
  have : 0 ≤ i6_24.toInt ∧ i6_24.toInt ≤ 15 := by omega
  have : (3 : Int32).toInt = 3 := rfl
  have : (0 : Int32).toInt = 0 := rfl
  have := mt Int32.lt_iff_toInt_lt.mpr hc4_1
  have := mt Int32.toInt_inj.mp hc17_2
  have := congrArg Int32.toInt hc40_3
  have := Int32.lt_iff_toInt_lt.mp hc84_25
  unfold own_isLen
  exact Or.inr (Or.inr (Or.inr (Or.inr ⟨by omega, by omega, by omega, by omega, by omega⟩)))
set_option maxRecDepth 65536 in
set_option maxHeartbeats 40000000 in
theorem lf2_19 (c0 : Int32) (c1 : Int32) (c2 : Int32) (c3 : Int32) (av0 : Int32) (i6_40 : Int32) (r42 : Int32) (i6_44 : Int32) (hb0 : 0 ≤ c0.toInt ∧ c0.toInt ≤ 255) (hb1 : 0 ≤ c1.toInt ∧ c1.toInt ≤ 255) (hb2 : 0 ≤ c2.toInt ∧ c2.toInt ≤ 255) (hb3 : 0 ≤ c3.toInt ∧ c3.toInt ≤ 255) (hbn : 1 ≤ av0.toInt ∧ av0.toInt ≤ 4) (hc4_1 : ¬ (c0 < (128 : Int32))) (hc17_2 : (c0 &&& (224 : Int32)) = (192 : Int32)) (hi6_40 : i6_40 = (c0 &&& (31 : Int32))) (hc84_41 : ¬ (av0 < (2 : Int32))) (hr42 : (r42 = (1 : Int32) ∧ 128 ≤ c1.toInt ∧ c1.toInt ≤ 191) ∨ (r42 = (0 : Int32) ∧ ¬ (128 ≤ c1.toInt ∧ c1.toInt ≤ 191))) (hc93_43 : ¬ (r42 = 0)) (hi6_44 : i6_44 = ((i6_40 <<< ((6 : Int32) &&& 31)) ||| (c1 &&& (63 : Int32)))) (hc113_45 : (2 : Int32) < (3 : Int32)) (hc140_46 : ¬ ((2 : Int32) = (4 : Int32))) (hc167_47 : (2 : Int32) = (2 : Int32)) (hc196_48 : ¬ (i6_44 < (128 : Int32))) (hc205_49 : ¬ ((1114111 : Int32) < i6_44)) (hc214_50 : i6_44 < (55296 : Int32)) : own_isLen c0.toInt c1.toInt c2.toInt c3.toInt av0.toInt (2 : Int32).toInt := by
  have : (128 : Int32).toInt = 128 := rfl
  have : (224 : Int32).toInt = 224 := rfl
  have : (c0 &&& (224 : Int32)).toInt = c0.toInt % 256 - c0.toInt % 32 := k_field c0 (224 : Int32) (31 : Int32) (255 : Int32) 5 8 32 256 (by decide) (by decide) (by decide) (by decide) (by decide) (by decide) (by decide) (by decide) (by decide) (by decide) (by decide) (by decide)
  have : 0 ≤ (c0 &&& (224 : Int32)).toInt ∧ (c0 &&& (224 : Int32)).toInt ≤ 224 := by omega
  have : (192 : Int32).toInt = 192 := rfl
  have : (31 : Int32).toInt = 31 := rfl
  have : (c0 &&& (31 : Int32)).toInt = c0.toInt % 32 := k_mask c0 (31 : Int32) 5 32 (by decide) (by decide) (by decide)
  have : 0 ≤ (c0 &&& (31 : Int32)).toInt ∧ (c0 &&& (31 : Int32)).toInt ≤ 31 := by omega
  have : i6_40.toInt = (c0 &&& (31 : Int32)).toInt := congrArg Int32.toInt hi6_40
  have : 0 ≤ i6_40.toInt ∧ i6_40.toInt ≤ 31 := by omega
  have : (2 : Int32).toInt = 2 := rfl
  have : (1 : Int32).toInt = 1 := rfl
  have : (0 : Int32).toInt = 0 := rfl
  have := b32 r42
  have : (i6_40 <<< ((6 : Int32) &&& 31)).toInt = i6_40.toInt * 64 := by
    have := k_shl i6_40 (6 : Int32) 6 64 (by decide) (by decide)
    have := b32 (i6_40 <<< ((6 : Int32) &&& 31))
    omega
  have : 0 ≤ (i6_40 <<< ((6 : Int32) &&& 31)).toInt ∧ (i6_40 <<< ((6 : Int32) &&& 31)).toInt ≤ 1984 := by omega
  have : (63 : Int32).toInt = 63 := rfl
  have : (c1 &&& (63 : Int32)).toInt = c1.toInt % 64 := k_mask c1 (63 : Int32) 6 64 (by decide) (by decide) (by decide)
  have : 0 ≤ (c1 &&& (63 : Int32)).toInt ∧ (c1 &&& (63 : Int32)).toInt ≤ 63 := by omega
  have : ((i6_40 <<< ((6 : Int32) &&& 31)) ||| (c1 &&& (63 : Int32))).toInt = (i6_40 <<< ((6 : Int32) &&& 31)).toInt + (c1 &&& (63 : Int32)).toInt := by
    have := c_or (i6_40 <<< ((6 : Int32) &&& 31)) (c1 &&& (63 : Int32)) 6 (by decide) 64 (by decide) (by omega) (by omega) (by omega)
    have := b32 ((i6_40 <<< ((6 : Int32) &&& 31)) ||| (c1 &&& (63 : Int32)))
    omega
  have : 0 ≤ ((i6_40 <<< ((6 : Int32) &&& 31)) ||| (c1 &&& (63 : Int32))).toInt ∧ ((i6_40 <<< ((6 : Int32) &&& 31)) ||| (c1 &&& (63 : Int32))).toInt ≤ 2047 := by omega
  have : i6_44.toInt = ((i6_40 <<< ((6 : Int32) &&& 31)) ||| (c1 &&& (63 : Int32))).toInt := congrArg Int32.toInt hi6_44
  have : 0 ≤ i6_44.toInt ∧ i6_44.toInt ≤ 2047 := by omega
  have : (3 : Int32).toInt = 3 := rfl
  have : (4 : Int32).toInt = 4 := rfl
  have : (1114111 : Int32).toInt = 1114111 := rfl
  have : (55296 : Int32).toInt = 55296 := rfl
  have := mt Int32.lt_iff_toInt_lt.mpr hc4_1
  have := congrArg Int32.toInt hc17_2
  have := mt Int32.lt_iff_toInt_lt.mpr hc84_41
  simp only [Int32.lt_iff_toInt_lt, ← Int32.toInt_inj] at hr42
  have := mt Int32.toInt_inj.mp hc93_43
  have := Int32.lt_iff_toInt_lt.mp hc113_45
  have := mt Int32.toInt_inj.mp hc140_46
  have := congrArg Int32.toInt hc167_47
  have := mt Int32.lt_iff_toInt_lt.mpr hc196_48
  have := mt Int32.lt_iff_toInt_lt.mpr hc205_49
  have := Int32.lt_iff_toInt_lt.mp hc214_50
  unfold own_isLen
  exact Or.inr (Or.inl ⟨by omega, by omega, by omega, by omega, by omega, by omega⟩)
set_option maxRecDepth 65536 in
set_option maxHeartbeats 40000000 in
theorem lf2_20 (c0 : Int32) (c1 : Int32) (c2 : Int32) (c3 : Int32) (av0 : Int32) (i6_40 : Int32) (r42 : Int32) (i6_44 : Int32) (hb0 : 0 ≤ c0.toInt ∧ c0.toInt ≤ 255) (hb1 : 0 ≤ c1.toInt ∧ c1.toInt ≤ 255) (hb2 : 0 ≤ c2.toInt ∧ c2.toInt ≤ 255) (hb3 : 0 ≤ c3.toInt ∧ c3.toInt ≤ 255) (hbn : 1 ≤ av0.toInt ∧ av0.toInt ≤ 4) (hc4_1 : ¬ (c0 < (128 : Int32))) (hc17_2 : (c0 &&& (224 : Int32)) = (192 : Int32)) (hi6_40 : i6_40 = (c0 &&& (31 : Int32))) (hc84_41 : ¬ (av0 < (2 : Int32))) (hr42 : (r42 = (1 : Int32) ∧ 128 ≤ c1.toInt ∧ c1.toInt ≤ 191) ∨ (r42 = (0 : Int32) ∧ ¬ (128 ≤ c1.toInt ∧ c1.toInt ≤ 191))) (hc93_43 : ¬ (r42 = 0)) (hi6_44 : i6_44 = ((i6_40 <<< ((6 : Int32) &&& 31)) ||| (c1 &&& (63 : Int32)))) (hc113_45 : (2 : Int32) < (3 : Int32)) (hc140_46 : ¬ ((2 : Int32) = (4 : Int32))) (hc167_47 : (2 : Int32) = (2 : Int32)) (hc196_48 : ¬ (i6_44 < (128 : Int32))) (hc205_49 : ¬ ((1114111 : Int32) < i6_44)) (hc214_50 : ¬ (i6_44 < (55296 : Int32))) (hc221_51 : (57343 : Int32) < i6_44) : own_isLen c0.toInt c1.toInt c2.toInt c3.toInt av0.toInt (2 : Int32).toInt := by
  have : (128 : Int32).toInt = 128 := rfl
  have : (224 : Int32).toInt = 224 := rfl
  have : (c0 &&& (224 : Int32)).toInt = c0.toInt % 256 - c0.toInt % 32 := k_field c0 (224 : Int32) (31 : Int32) (255 : Int32) 5 8 32 256 (by decide) (by decide) (by decide) (by decide) (by decide) (by decide) (by decide) (by decide) (by decide) (by decide) (by decide) (by decide)
  have : 0 ≤ (c0 &&& (224 : Int32)).toInt ∧ (c0 &&& (224 : Int32)).toInt ≤ 224 := by omega
  have : (192 : Int32).toInt = 192 := rfl
  have : (31 : Int32).toInt = 31 := rfl
  have : (c0 &&& (31 : Int32)).toInt = c0.toInt % 32 := k_mask c0 (31 : Int32) 5 32 (by decide) (by decide) (by decide)
  have : 0 ≤ (c0 &&& (31 : Int32)).toInt ∧ (c0 &&& (31 : Int32)).toInt ≤ 31 := by omega
  have : i6_40.toInt = (c0 &&& (31 : Int32)).toInt := congrArg Int32.toInt hi6_40
  have : 0 ≤ i6_40.toInt ∧ i6_40.toInt ≤ 31 := by omega
  have : (2 : Int32).toInt = 2 := rfl
  have : (1 : Int32).toInt = 1 := rfl
  have : (0 : Int32).toInt = 0 := rfl
  have := b32 r42
  have : (i6_40 <<< ((6 : Int32) &&& 31)).toInt = i6_40.toInt * 64 := by
    have := k_shl i6_40 (6 : Int32) 6 64 (by decide) (by decide)
    have := b32 (i6_40 <<< ((6 : Int32) &&& 31))
    omega
  have : 0 ≤ (i6_40 <<< ((6 : Int32) &&& 31)).toInt ∧ (i6_40 <<< ((6 : Int32) &&& 31)).toInt ≤ 1984 := by omega
  have : (63 : Int32).toInt = 63 := rfl
  have : (c1 &&& (63 : Int32)).toInt = c1.toInt % 64 := k_mask c1 (63 : Int32) 6 64 (by decide) (by decide) (by decide)
  have : 0 ≤ (c1 &&& (63 : Int32)).toInt ∧ (c1 &&& (63 : Int32)).toInt ≤ 63 := by omega
  have : ((i6_40 <<< ((6 : Int32) &&& 31)) ||| (c1 &&& (63 : Int32))).toInt = (i6_40 <<< ((6 : Int32) &&& 31)).toInt + (c1 &&& (63 : Int32)).toInt := by
    have := c_or (i6_40 <<< ((6 : Int32) &&& 31)) (c1 &&& (63 : Int32)) 6 (by decide) 64 (by decide) (by omega) (by omega) (by omega)
    have := b32 ((i6_40 <<< ((6 : Int32) &&& 31)) ||| (c1 &&& (63 : Int32)))
    omega
  have : 0 ≤ ((i6_40 <<< ((6 : Int32) &&& 31)) ||| (c1 &&& (63 : Int32))).toInt ∧ ((i6_40 <<< ((6 : Int32) &&& 31)) ||| (c1 &&& (63 : Int32))).toInt ≤ 2047 := by omega
  have : i6_44.toInt = ((i6_40 <<< ((6 : Int32) &&& 31)) ||| (c1 &&& (63 : Int32))).toInt := congrArg Int32.toInt hi6_44
  have : 0 ≤ i6_44.toInt ∧ i6_44.toInt ≤ 2047 := by omega
  have : (3 : Int32).toInt = 3 := rfl
  have : (4 : Int32).toInt = 4 := rfl
  have : (1114111 : Int32).toInt = 1114111 := rfl
  have : (55296 : Int32).toInt = 55296 := rfl
  have : (57343 : Int32).toInt = 57343 := rfl
  have := mt Int32.lt_iff_toInt_lt.mpr hc4_1
  have := congrArg Int32.toInt hc17_2
  have := mt Int32.lt_iff_toInt_lt.mpr hc84_41
  simp only [Int32.lt_iff_toInt_lt, ← Int32.toInt_inj] at hr42
  have := mt Int32.toInt_inj.mp hc93_43
  have := Int32.lt_iff_toInt_lt.mp hc113_45
  have := mt Int32.toInt_inj.mp hc140_46
  have := congrArg Int32.toInt hc167_47
  have := mt Int32.lt_iff_toInt_lt.mpr hc196_48
  have := mt Int32.lt_iff_toInt_lt.mpr hc205_49
  have := mt Int32.lt_iff_toInt_lt.mpr hc214_50
  have := Int32.lt_iff_toInt_lt.mp hc221_51
  unfold own_isLen
  exact Or.inr (Or.inl ⟨by omega, by omega, by omega, by omega, by omega, by omega⟩)
set_option maxRecDepth 65536 in
set_option maxHeartbeats 40000000 in
theorem lf2_21 (c0 : Int32) (c1 : Int32) (c2 : Int32) (c3 : Int32) (av0 : Int32) (i6_40 : Int32) (r42 : Int32) (i6_44 : Int32) (hb0 : 0 ≤ c0.toInt ∧ c0.toInt ≤ 255) (hb1 : 0 ≤ c1.toInt ∧ c1.toInt ≤ 255) (hb2 : 0 ≤ c2.toInt ∧ c2.toInt ≤ 255) (hb3 : 0 ≤ c3.toInt ∧ c3.toInt ≤ 255) (hbn : 1 ≤ av0.toInt ∧ av0.toInt ≤ 4) (hc4_1 : ¬ (c0 < (128 : Int32))) (hc17_2 : (c0 &&& (224 : Int32)) = (192 : Int32)) (hi6_40 : i6_40 = (c0 &&& (31 : Int32))) (hc84_41 : ¬ (av0 < (2 : Int32))) (hr42 : (r42 = (1 : Int32) ∧ 128 ≤ c1.toInt ∧ c1.toInt ≤ 191) ∨ (r42 = (0 : Int32) ∧ ¬ (128 ≤ c1.toInt ∧ c1.toInt ≤ 191))) (hc93_43 : ¬ (r42 = 0)) (hi6_44 : i6_44 = ((i6_40 <<< ((6 : Int32) &&& 31)) ||| (c1 &&& (63 : Int32)))) (hc113_45 : (2 : Int32) < (3 : Int32)) (hc140_46 : ¬ ((2 : Int32) = (4 : Int32))) (hc167_47 : (2 : Int32) = (2 : Int32)) (hc196_48 : ¬ (i6_44 < (128 : Int32))) (hc205_49 : ¬ ((1114111 : Int32) < i6_44)) (hc214_50 : ¬ (i6_44 < (55296 : Int32))) (hc221_51 : ¬ ((57343 : Int32) < i6_44)) : own_isLen c0.toInt c1.toInt c2.toInt c3.toInt av0.toInt (0 : Int32).toInt := by
  have : (128 : Int32).toInt = 128 := rfl
  have : (224 : Int32).toInt = 224 := rfl
  have : (c0 &&& (224 : Int32)).toInt = c0.toInt % 256 - c0.toInt % 32 := k_field c0 (224 : Int32) (31 : Int32) (255 : Int32) 5 8 32 256 (by decide) (by decide) (by decide) (by decide) (by decide) (by decide) (by decide) (by decide) (by decide) (by decide) (by decide) (by decide)
  have : 0 ≤ (c0 &&& (224 : Int32)).toInt ∧ (c0 &&& (224 : Int32)).toInt ≤ 224 := by omega
  have : (192 : Int32).toInt = 192 := rfl
  have : (31 : Int32).toInt = 31 := rfl
  have : (c0 &&& (31 : Int32)).toInt = c0.toInt % 32 := k_mask c0 (31 : Int32) 5 32 (by decide) (by decide) (by decide)
  have : 0 ≤ (c0 &&& (31 : Int32)).toInt ∧ (c0 &&& (31 : Int32)).toInt ≤ 31 := by omega
  have : i6_40.toInt = (c0 &&& (31 : Int32)).toInt := congrArg Int32.toInt hi6_40
  have : 0 ≤ i6_40.toInt ∧ i6_40.toInt ≤ 31 := by omega
  have : (2 : Int32).toInt = 2 := rfl
  have : (1 : Int32).toInt = 1 := rfl
  have : (0 : Int32).toInt = 0 := rfl
  have := b32 r42
  have : (i6_40 <<< ((6 : Int32) &&& 31)).toInt = i6_40.toInt * 64 := by
    have := k_shl i6_40 (6 : Int32) 6 64 (by decide) (by decide)
    have := b32 (i6_40 <<< ((6 : Int32) &&& 31))
    omega
  have : 0 ≤ (i6_40 <<< ((6 : Int32) &&& 31)).toInt ∧ (i6_40 <<< ((6 : Int32) &&& 31)).toInt ≤ 1984 := by omega
  have : (63 : Int32).toInt = 63 := rfl
  have : (c1 &&& (63 : Int32)).toInt = c1.toInt % 64 := k_mask c1 (63 : Int32) 6 64 (by decide) (by decide) (by decide)
  have : 0 ≤ (c1 &&& (63 : Int32)).toInt ∧ (c1 &&& (63 : Int32)).toInt ≤ 63 := by omega
  have : ((i6_40 <<< ((6 : Int32) &&& 31)) ||| (c1 &&& (63 : Int32))).toInt = (i6_40 <<< ((6 : Int32) &&& 31)).toInt + (c1 &&& (63 : Int32)).toInt := by
    have := c_or (i6_40 <<< ((6 : Int32) &&& 31)) (c1 &&& (63 : Int32)) 6 (by decide) 64 (by decide) (by omega) (by omega) (by omega)
    have := b32 ((i6_40 <<< ((6 : Int32) &&& 31)) ||| (c1 &&& (63 : Int32)))
    omega
  have : 0 ≤ ((i6_40 <<< ((6 : Int32) &&& 31)) ||| (c1 &&& (63 : Int32))).toInt ∧ ((i6_40 <<< ((6 : Int32) &&& 31)) ||| (c1 &&& (63 : Int32))).toInt ≤ 2047 := by omega
  have : i6_44.toInt = ((i6_40 <<< ((6 : Int32) &&& 31)) ||| (c1 &&& (63 : Int32))).toInt := congrArg Int32.toInt hi6_44
  have : 0 ≤ i6_44.toInt ∧ i6_44.toInt ≤ 2047 := by omega
  have : (3 : Int32).toInt = 3 := rfl
  have : (4 : Int32).toInt = 4 := rfl
  have : (1114111 : Int32).toInt = 1114111 := rfl
  have : (55296 : Int32).toInt = 55296 := rfl
  have : (57343 : Int32).toInt = 57343 := rfl
  have := mt Int32.lt_iff_toInt_lt.mpr hc4_1
  have := congrArg Int32.toInt hc17_2
  have := mt Int32.lt_iff_toInt_lt.mpr hc84_41
  simp only [Int32.lt_iff_toInt_lt, ← Int32.toInt_inj] at hr42
  have := mt Int32.toInt_inj.mp hc93_43
  have := Int32.lt_iff_toInt_lt.mp hc113_45
  have := mt Int32.toInt_inj.mp hc140_46
  have := congrArg Int32.toInt hc167_47
  have := mt Int32.lt_iff_toInt_lt.mpr hc196_48
  have := mt Int32.lt_iff_toInt_lt.mpr hc205_49
  have := mt Int32.lt_iff_toInt_lt.mpr hc214_50
  have := mt Int32.lt_iff_toInt_lt.mpr hc221_51
  unfold own_isLen
  exact Or.inr (Or.inr (Or.inr (Or.inr ⟨by omega, by omega, by omega, by omega, by omega⟩)))
set_option maxRecDepth 65536 in
set_option maxHeartbeats 40000000 in
theorem lf2_22 (c0 : Int32) (c1 : Int32) (c2 : Int32) (c3 : Int32) (av0 : Int32) (i6_40 : Int32) (r42 : Int32) (i6_44 : Int32) (hb0 : 0 ≤ c0.toInt ∧ c0.toInt ≤ 255) (hb1 : 0 ≤ c1.toInt ∧ c1.toInt ≤ 255) (hb2 : 0 ≤ c2.toInt ∧ c2.toInt ≤ 255) (hb3 : 0 ≤ c3.toInt ∧ c3.toInt ≤ 255) (hbn : 1 ≤ av0.toInt ∧ av0.toInt ≤ 4) (hc4_1 : ¬ (c0 < (128 : Int32))) (hc17_2 : (c0 &&& (224 : Int32)) = (192 : Int32)) (hi6_40 : i6_40 = (c0 &&& (31 : Int32))) (hc84_41 : ¬ (av0 < (2 : Int32))) (hr42 : (r42 = (1 : Int32) ∧ 128 ≤ c1.toInt ∧ c1.toInt ≤ 191) ∨ (r42 = (0 : Int32) ∧ ¬ (128 ≤ c1.toInt ∧ c1.toInt ≤ 191))) (hc93_43 : ¬ (r42 = 0)) (hi6_44 : i6_44 = ((i6_40 <<< ((6 : Int32) &&& 31)) ||| (c1 &&& (63 : Int32)))) (hc113_45 : (2 : Int32) < (3 : Int32)) (hc140_46 : ¬ ((2 : Int32) = (4 : Int32))) (hc167_47 : (2 : Int32) = (2 : Int32)) (hc196_48 : ¬ (i6_44 < (128 : Int32))) (hc205_49 : (1114111 : Int32) < i6_44) : own_isLen c0.toInt c1.toInt c2.toInt c3.toInt av0.toInt (0 : Int32).toInt := by
  have : (128 : Int32).toInt = 128 := rfl
  have : (224 : Int32).toInt = 224 := rfl
  have : (c0 &&& (224 : Int32)).toInt = c0.toInt % 256 - c0.toInt % 32 := k_field c0 (224 : Int32) (31 : Int32) (255 : Int32) 5 8 32 256 (by decide) (by decide) (by decide) (by decide) (by decide) (by decide) (by decide) (by decide) (by decide) (by decide) (by decide) (by decide)
  have : 0 ≤ (c0 &&& (224 : Int32)).toInt ∧ (c0 &&& (224 : Int32)).toInt ≤ 224 := by omega
  have : (192 : Int32).toInt = 192 := rfl
  have : (31 : Int32).toInt = 31 := rfl
  have : (c0 &&& (31 : Int32)).toInt = c0.toInt % 32 := k_mask c0 (31 : Int32) 5 32 (by decide) (by decide) (by decide)
  have : 0 ≤ (c0 &&& (31 : Int32)).toInt ∧ (c0 &&& (31 : Int32)).toInt ≤ 31 := by omega
  have : i6_40.toInt = (c0 &&& (31 : Int32)).toInt := congrArg Int32.toInt hi6_40
  have : 0 ≤ i6_40.toInt ∧ i6_40.toInt ≤ 31 := by omega
  have : (2 : Int32).toInt = 2 := rfl
  have : (1 : Int32).toInt = 1 := rfl
  have : (0 : Int32).toInt = 0 := rfl
  have := b32 r42
  have : (i6_40 <<< ((6 : Int32) &&& 31)).toInt = i6_40.toInt * 64 := by
    have := k_shl i6_40 (6 : Int32) 6 64 (by decide) (by decide)
    have := b32 (i6_40 <<< ((6 : Int32) &&& 31))
    omega
  have : 0 ≤ (i6_40 <<< ((6 : Int32) &&& 31)).toInt ∧ (i6_40 <<< ((6 : Int32) &&& 31)).toInt ≤ 1984 := by omega
  have : (63 : Int32).toInt = 63 := rfl
  have : (c1 &&& (63 : Int32)).toInt = c1.toInt % 64 := k_mask c1 (63 : Int32) 6 64 (by decide) (by decide) (by decide)
  have : 0 ≤ (c1 &&& (63 : Int32)).toInt ∧ (c1 &&& (63 : Int32)).toInt ≤ 63 := by omega
  have : ((i6_40 <<< ((6 : Int32) &&& 31)) ||| (c1 &&& (63 : Int32))).toInt = (i6_40 <<< ((6 : Int32) &&& 31)).toInt + (c1 &&& (63 : Int32)).toInt := by
    have := c_or (i6_40 <<< ((6 : Int32) &&& 31)) (c1 &&& (63 : Int32)) 6 (by decide) 64 (by decide) (by omega) (by omega) (by omega)
    have := b32 ((i6_40 <<< ((6 : Int32) &&& 31)) ||| (c1 &&& (63 : Int32)))
    omega
  have : 0 ≤ ((i6_40 <<< ((6 : Int32) &&& 31)) ||| (c1 &&& (63 : Int32))).toInt ∧ ((i6_40 <<< ((6 : Int32) &&& 31)) ||| (c1 &&& (63 : Int32))).toInt ≤ 2047 := by omega
  have : i6_44.toInt = ((i6_40 <<< ((6 : Int32) &&& 31)) ||| (c1 &&& (63 : Int32))).toInt := congrArg Int32.toInt hi6_44
  have : 0 ≤ i6_44.toInt ∧ i6_44.toInt ≤ 2047 := by omega
  have : (3 : Int32).toInt = 3 := rfl
  have : (4 : Int32).toInt = 4 := rfl
  have : (1114111 : Int32).toInt = 1114111 := rfl
  have := mt Int32.lt_iff_toInt_lt.mpr hc4_1
  have := congrArg Int32.toInt hc17_2
  have := mt Int32.lt_iff_toInt_lt.mpr hc84_41
  simp only [Int32.lt_iff_toInt_lt, ← Int32.toInt_inj] at hr42
  have := mt Int32.toInt_inj.mp hc93_43
  have := Int32.lt_iff_toInt_lt.mp hc113_45
  have := mt Int32.toInt_inj.mp hc140_46
  have := congrArg Int32.toInt hc167_47
  have := mt Int32.lt_iff_toInt_lt.mpr hc196_48
  have := Int32.lt_iff_toInt_lt.mp hc205_49
  unfold own_isLen
  exact Or.inr (Or.inr (Or.inr (Or.inr ⟨by omega, by omega, by omega, by omega, by omega⟩)))
set_option maxRecDepth 65536 in
set_option maxHeartbeats 40000000 in
theorem lf2_23 (c0 : Int32) (c1 : Int32) (c2 : Int32) (c3 : Int32) (av0 : Int32) (i6_40 : Int32) (r42 : Int32) (i6_44 : Int32) (hb0 : 0 ≤ c0.toInt ∧ c0.toInt ≤ 255) (hb1 : 0 ≤ c1.toInt ∧ c1.toInt ≤ 255) (hb2 : 0 ≤ c2.toInt ∧ c2.toInt ≤ 255) (hb3 : 0 ≤ c3.toInt ∧ c3.toInt ≤ 255) (hbn : 1 ≤ av0.toInt ∧ av0.toInt ≤ 4) (hc4_1 : ¬ (c0 < (128 : Int32))) (hc17_2 : (c0 &&& (224 : Int32)) = (192 : Int32)) (hi6_40 : i6_40 = (c0 &&& (31 : Int32))) (hc84_41 : ¬ (av0 < (2 : Int32))) (hr42 : (r42 = (1 : Int32) ∧ 128 ≤ c1.toInt ∧ c1.toInt ≤ 191) ∨ (r42 = (0 : Int32) ∧ ¬ (128 ≤ c1.toInt ∧ c1.toInt ≤ 191))) (hc93_43 : ¬ (r42 = 0)) (hi6_44 : i6_44 = ((i6_40 <<< ((6 : Int32) &&& 31)) ||| (c1 &&& (63 : Int32)))) (hc113_45 : (2 : Int32) < (3 : Int32)) (hc140_46 : ¬ ((2 : Int32) = (4 : Int32))) (hc167_47 : (2 : Int32) = (2 : Int32)) (hc196_48 : i6_44 < (128 : Int32)) : own_isLen c0.toInt c1.toInt c2.toInt c3.toInt av0.toInt (0 : Int32).toInt := by
  have : (128 : Int32).toInt = 128 := rfl
  have : (224 : Int32).toInt = 224 := rfl
  have : (c0 &&& (224 : Int32)).toInt = c0.toInt % 256 - c0.toInt % 32 := k_field c0 (224 : Int32) (31 : Int32) (255 : Int32) 5 8 32 256 (by decide) (by decide) (by decide) (by decide) (by decide) (by decide) (by decide) (by decide) (by decide) (by decide) (by decide) (by decide)
  have : 0 ≤ (c0 &&& (224 : Int32)).toInt ∧ (c0 &&& (224 : Int32)).toInt ≤ 224 := by omega
  have : (192 : Int32).toInt = 192 := rfl
  have : (31 : Int32).toInt = 31 := rfl
  have : (c0 &&& (31 : Int32)).toInt = c0.toInt % 32 := k_mask c0 (31 : Int32) 5 32 (by decide) (by decide) (by decide)
  have : 0 ≤ (c0 &&& (31 : Int32)).toInt ∧ (c0 &&& (31 : Int32)).toInt ≤ 31 := by omega
  have : i6_40.toInt = (c0 &&& (31 : Int32)).toInt := congrArg Int32.toInt hi6_40
  have : 0 ≤ i6_40.toInt ∧ i6_40.toInt ≤ 31 := by omega
  have : (2 : Int32).toInt = 2 := rfl
  have : (1 : Int32).toInt = 1 := rfl
  have : (0 : Int32).toInt = 0 := rfl
  have := b32 r42
  have : (i6_40 <<< ((6 : Int32) &&& 31)).toInt = i6_40.toInt * 64 := by
    have := k_shl i6_40 (6 : Int32) 6 64 (by decide) (by decide)
    have := b32 (i6_40 <<< ((6 : Int32) &&& 31))
    omega
  have : 0 ≤ (i6_40 <<< ((6 : Int32) &&& 31)).toInt ∧ (i6_40 <<< ((6 : Int32) &&& 31)).toInt ≤ 1984 := by omega
  have : (63 : Int32).toInt = 63 := rfl
  have : (c1 &&& (63 : Int32)).toInt = c1.toInt % 64 := k_mask c1 (63 : Int32) 6 64 (by decide) (by decide) (by decide)
  have : 0 ≤ (c1 &&& (63 : Int32)).toInt ∧ (c1 &&& (63 : Int32)).toInt ≤ 63 := by omega
  have : ((i6_40 <<< ((6 : Int32) &&& 31)) ||| (c1 &&& (63 : Int32))).toInt = (i6_40 <<< ((6 : Int32) &&& 31)).toInt + (c1 &&& (63 : Int32)).toInt := by
    have := c_or (i6_40 <<< ((6 : Int32) &&& 31)) (c1 &&& (63 : Int32)) 6 (by decide) 64 (by decide) (by omega) (by omega) (by omega)
    have := b32 ((i6_40 <<< ((6 : Int32) &&& 31)) ||| (c1 &&& (63 : Int32)))
    omega
  have : 0 ≤ ((i6_40 <<< ((6 : Int32) &&& 31)) ||| (c1 &&& (63 : Int32))).toInt ∧ ((i6_40 <<< ((6 : Int32) &&& 31)) ||| (c1 &&& (63 : Int32))).toInt ≤ 2047 := by omega
  have : i6_44.toInt = ((i6_40 <<< ((6 : Int32) &&& 31)) ||| (c1 &&& (63 : Int32))).toInt := congrArg Int32.toInt hi6_44
  have : 0 ≤ i6_44.toInt ∧ i6_44.toInt ≤ 2047 := by omega
  have : (3 : Int32).toInt = 3 := rfl
  have : (4 : Int32).toInt = 4 := rfl
  have := mt Int32.lt_iff_toInt_lt.mpr hc4_1
  have := congrArg Int32.toInt hc17_2
  have := mt Int32.lt_iff_toInt_lt.mpr hc84_41
  simp only [Int32.lt_iff_toInt_lt, ← Int32.toInt_inj] at hr42
  have := mt Int32.toInt_inj.mp hc93_43
  have := Int32.lt_iff_toInt_lt.mp hc113_45
  have := mt Int32.toInt_inj.mp hc140_46
  have := congrArg Int32.toInt hc167_47
  have := Int32.lt_iff_toInt_lt.mp hc196_48
  unfold own_isLen
  exact Or.inr (Or.inr (Or.inr (Or.inr ⟨by omega, by omega, by omega, by omega, by omega⟩)))
set_option maxRecDepth 65536 in
set_option maxHeartbeats 40000000 in
theorem lf2_24 (c0 : Int32) (c1 : Int32) (c2 : Int32) (c3 : Int32) (av0 : Int32) (i6_40 : Int32) (r42 : Int32) (hb0 : 0 ≤ c0.toInt ∧ c0.toInt ≤ 255) (hb1 : 0 ≤ c1.toInt ∧ c1.toInt ≤ 255) (hb2 : 0 ≤ c2.toInt ∧ c2.toInt ≤ 255) (hb3 : 0 ≤ c3.toInt ∧ c3.toInt ≤ 255) (hbn : 1 ≤ av0.toInt ∧ av0.toInt ≤ 4) (hc4_1 : ¬ (c0 < (128 : Int32))) (hc17_2 : (c0 &&& (224 : Int32)) = (192 : Int32)) (hi6_40 : i6_40 = (c0 &&& (31 : Int32))) (hc84_41 : ¬ (av0 < (2 : Int32))) (hr42 : (r42 = (1 : Int32) ∧ 128 ≤ c1.toInt ∧ c1.toInt ≤ 191) ∨ (r42 = (0 : Int32) ∧ ¬ (128 ≤ c1.toInt ∧ c1.toInt ≤ 191))) (hc93_43 : r42 = 0) : own_isLen c0.toInt c1.toInt c2.toInt c3.toInt av0.toInt (0 : Int32).toInt := by
  have : (128 : Int32).toInt = 128 := rfl
  have : (224 : Int32).toInt = 224 := rfl
  have : (c0 &&& (224 : Int32)).toInt = c0.toInt % 256 - c0.toInt % 32 := k_field c0 (224 : Int32) (31 : Int32) (255 : Int32) 5 8 32 256 (by decide) (by decide) (by decide) (by decide) (by decide) (by decide) (by decide) (by decide) (by decide) (by decide) (by decide) (by decide)
  have : 0 ≤ (c0 &&& (224 : Int32)).toInt ∧ (c0 &&& (224 : Int32)).toInt ≤ 224 := by omega
  have : (192 : Int32).toInt = 192 := rfl
  have : (31 : Int32).toInt = 31 := rfl
  have : (c0 &&& (31 : Int32)).toInt = c0.toInt % 32 := k_mask c0 (31 : Int32) 5 32 (by decide) (by decide) (by decide)
  have : 0 ≤ (c0 &&& (31 : Int32)).toInt ∧ (c0 &&& (31 : Int32)).toInt ≤ 31 := by omega
  have : i6_40.toInt = (c0 &&& (31 : Int32)).toInt := congrArg Int32.toInt hi6_40
  have : 0 ≤ i6_40.toInt ∧ i6_40.toInt ≤ 31 := by omega
  have : (2 : Int32).toInt = 2 := rfl
  have : (1 : Int32).toInt = 1 := rfl
  have : (0 : Int32).toInt = 0 := rfl
  have := b32 r42
  have := mt Int32.lt_iff_toInt_lt.mpr hc4_1
  have := congrArg Int32.toInt hc17_2
  have := mt Int32.lt_iff_toInt_lt.mpr hc84_41
  simp only [Int32.lt_iff_toInt_lt, ← Int32.toInt_inj] at hr42
  have := congrArg Int32.toInt hc93_43
  unfold own_isLen
  exact Or.inr (Or.inr (Or.inr (Or.inr ⟨by omega, by omega, by omega, by omega, by omega⟩)))
set_option maxRecDepth 65536 in
set_option maxHeartbeats 40000000 in
theorem lf2_25 (c0 : Int32) (c1 : Int32) (c2 : Int32) (c3 : Int32) (av0 : Int32) (i6_40 : Int32) (hb0 : 0 ≤ c0.toInt ∧ c0.toInt ≤ 255) (hb1 : 0 ≤ c1.toInt ∧ c1.toInt ≤ 255) (hb2 : 0 ≤ c2.toInt ∧ c2.toInt ≤ 255) (hb3 : 0 ≤ c3.toInt ∧ c3.toInt ≤ 255) (hbn : 1 ≤ av0.toInt ∧ av0.toInt ≤ 4) (hc4_1 : ¬ (c0 < (128 : Int32))) (hc17_2 : (c0 &&& (224 : Int32)) = (192 : Int32)) (hi6_40 : i6_40 = (c0 &&& (31 : Int32))) (hc84_41 : av0 < (2 : Int32)) : own_isLen c0.toInt c1.toInt c2.toInt c3.toInt av0.toInt (0 : Int32).toInt := by
  have : (128 : Int32).toInt = 128 := rfl
  have : (224 : Int32).toInt = 224 := rfl
  have : (c0 &&& (224 : Int32)).toInt = c0.toInt % 256 - c0.toInt % 32 := k_field c0 (224 : Int32) (31 : Int32) (255 : Int32) 5 8 32 256 (by decide) (by decide) (by decide) (by decide) (by decide) (by decide) (by decide) (by decide) (by decide) (by decide) (by decide) (by decide)
  have : 0 ≤ (c0 &&& (224 : Int32)).toInt ∧ (c0 &&& (224 : Int32)).toInt ≤ 224 := by omega
  have : (192 : Int32).toInt = 192 := rfl
  have : (31 : Int32).toInt = 31 := rfl
  have : (c0 &&& (31 : Int32)).toInt = c0.toInt % 32 := k_mask c0 (31 : Int32) 5 32 (by decide) (by decide) (by decide)
  have : 0 ≤ (c0 &&& (31 : Int32)).toInt ∧ (c0 &&& (31 : Int32)).toInt ≤ 31 := by omega
  have : i6_40.toInt = (c0 &&& (31 : Int32)).toInt := congrArg Int32.toInt hi6_40
  have : 0 ≤ i6_40.toInt ∧ i6_40.toInt ≤ 31 := by omega
  have : (2 : Int32).toInt = 2 := rfl
  have : (0 : Int32).toInt = 0 := rfl
  have := mt Int32.lt_iff_toInt_lt.mpr hc4_1
  have := congrArg Int32.toInt hc17_2
  have := Int32.lt_iff_toInt_lt.mp hc84_41
  unfold own_isLen
  exact Or.inr (Or.inr (Or.inr (Or.inr ⟨by omega, by omega, by omega, by omega, by omega⟩)))
set_option maxRecDepth 65536 in
set_option maxHeartbeats 40000000 in
theorem lf2_26 (c0 : Int32) (c1 : Int32) (c2 : Int32) (c3 : Int32) (av0 : Int32) (hb0 : 0 ≤ c0.toInt ∧ c0.toInt ≤ 255) (hb1 : 0 ≤ c1.toInt ∧ c1.toInt ≤ 255) (hb2 : 0 ≤ c2.toInt ∧ c2.toInt ≤ 255) (hb3 : 0 ≤ c3.toInt ∧ c3.toInt ≤ 255) (hbn : 1 ≤ av0.toInt ∧ av0.toInt ≤ 4) (hc4_1 : c0 < (128 : Int32)) : own_isLen c0.toInt c1.toInt c2.toInt c3.toInt av0.toInt (1 : Int32).toInt := by
  have : (128 : Int32).toInt = 128 := rfl
  have : (1 : Int32).toInt = 1 := rfl
  have : (0 : Int32).toInt = 0 := rfl
  have := Int32.lt_iff_toInt_lt.mp hc4_1
  unfold own_isLen
  exact Or.inl ⟨by omega, by omega⟩
theorem d2_0 : decode method_4_code 0 = .ok (.iload_n 0, 1) := by decide +kernel
theorem d2_1 : decode method_4_code 1 = .ok (.sipush 128, 3) := by decide +kernel
theorem d2_4 : decode method_4_code 4 = .ok (.if_icmp .ge 5, 3) := by decide +kernel
theorem d2_7 : decode method_4_code 7 = .ok (.iconst 1, 1) := by decide +kernel
theorem d2_8 : decode method_4_code 8 = .ok (.ireturn, 1) := by decide +kernel
theorem d2_9 : decode method_4_code 9 = .ok (.iload_n 0, 1) := by decide +kernel
theorem d2_10 : decode method_4_code 10 = .ok (.sipush 224, 3) := by decide +kernel
theorem d2_13 : decode method_4_code 13 = .ok (.iand, 1) := by decide +kernel
theorem d2_14 : decode method_4_code 14 = .ok (.sipush 192, 3) := by decide +kernel
theorem d2_17 : decode method_4_code 17 = .ok (.if_icmp .ne 15, 3) := by decide +kernel
theorem d2_20 : decode method_4_code 20 = .ok (.iconst 2, 1) := by decide +kernel
theorem d2_21 : decode method_4_code 21 = .ok (.istore 5, 2) := by decide +kernel
theorem d2_23 : decode method_4_code 23 = .ok (.iload_n 0, 1) := by decide +kernel
theorem d2_24 : decode method_4_code 24 = .ok (.bipush 31, 2) := by decide +kernel
theorem d2_26 : decode method_4_code 26 = .ok (.iand, 1) := by decide +kernel
theorem d2_27 : decode method_4_code 27 = .ok (.istore 6, 2) := by decide +kernel
theorem d2_29 : decode method_4_code 29 = .ok (.goto 51, 3) := by decide +kernel
theorem d2_32 : decode method_4_code 32 = .ok (.iload_n 0, 1) := by decide +kernel
theorem d2_33 : decode method_4_code 33 = .ok (.sipush 240, 3) := by decide +kernel
theorem d2_36 : decode method_4_code 36 = .ok (.iand, 1) := by decide +kernel
theorem d2_37 : decode method_4_code 37 = .ok (.sipush 224, 3) := by decide +kernel
theorem d2_40 : decode method_4_code 40 = .ok (.if_icmp .ne 15, 3) := by decide +kernel
theorem d2_43 : decode method_4_code 43 = .ok (.iconst 3, 1) := by decide +kernel
theorem d2_44 : decode method_4_code 44 = .ok (.istore 5, 2) := by decide +kernel
theorem d2_46 : decode method_4_code 46 = .ok (.iload_n 0, 1) := by decide +kernel
theorem d2_47 : decode method_4_code 47 = .ok (.bipush 15, 2) := by decide +kernel
theorem d2_49 : decode method_4_code 49 = .ok (.iand, 1) := by decide +kernel
theorem d2_50 : decode method_4_code 50 = .ok (.istore 6, 2) := by decide +kernel
theorem d2_52 : decode method_4_code 52 = .ok (.goto 28, 3) := by decide +kernel
theorem d2_55 : decode method_4_code 55 = .ok (.iload_n 0, 1) := by decide +kernel
theorem d2_56 : decode method_4_code 56 = .ok (.sipush 248, 3) := by decide +kernel
theorem d2_59 : decode method_4_code 59 = .ok (.iand, 1) := by decide +kernel
theorem d2_60 : decode method_4_code 60 = .ok (.sipush 240, 3) := by decide +kernel
theorem d2_63 : decode method_4_code 63 = .ok (.if_icmp .ne 15, 3) := by decide +kernel
theorem d2_66 : decode method_4_code 66 = .ok (.iconst 4, 1) := by decide +kernel
theorem d2_67 : decode method_4_code 67 = .ok (.istore 5, 2) := by decide +kernel
theorem d2_69 : decode method_4_code 69 = .ok (.iload_n 0, 1) := by decide +kernel
theorem d2_70 : decode method_4_code 70 = .ok (.bipush 7, 2) := by decide +kernel
theorem d2_72 : decode method_4_code 72 = .ok (.iand, 1) := by decide +kernel
theorem d2_73 : decode method_4_code 73 = .ok (.istore 6, 2) := by decide +kernel
theorem d2_75 : decode method_4_code 75 = .ok (.goto 5, 3) := by decide +kernel
theorem d2_78 : decode method_4_code 78 = .ok (.iconst 0, 1) := by decide +kernel
theorem d2_79 : decode method_4_code 79 = .ok (.ireturn, 1) := by decide +kernel
theorem d2_80 : decode method_4_code 80 = .ok (.iload 4, 2) := by decide +kernel
theorem d2_82 : decode method_4_code 82 = .ok (.iload 5, 2) := by decide +kernel
theorem d2_84 : decode method_4_code 84 = .ok (.if_icmp .ge 5, 3) := by decide +kernel
theorem d2_87 : decode method_4_code 87 = .ok (.iconst 0, 1) := by decide +kernel
theorem d2_88 : decode method_4_code 88 = .ok (.ireturn, 1) := by decide +kernel
theorem d2_89 : decode method_4_code 89 = .ok (.iload_n 1, 1) := by decide +kernel
theorem d2_90 : decode method_4_code 90 = .ok (.invokestatic 19, 3) := by decide +kernel
theorem d2_93 : decode method_4_code 93 = .ok (.ifCond .ne 5, 3) := by decide +kernel
theorem d2_96 : decode method_4_code 96 = .ok (.iconst 0, 1) := by decide +kernel
theorem d2_97 : decode method_4_code 97 = .ok (.ireturn, 1) := by decide +kernel
theorem d2_98 : decode method_4_code 98 = .ok (.iload 6, 2) := by decide +kernel
theorem d2_100 : decode method_4_code 100 = .ok (.bipush 6, 2) := by decide +kernel
theorem d2_102 : decode method_4_code 102 = .ok (.ishl, 1) := by decide +kernel
theorem d2_103 : decode method_4_code 103 = .ok (.iload_n 1, 1) := by decide +kernel
theorem d2_104 : decode method_4_code 104 = .ok (.bipush 63, 2) := by decide +kernel
theorem d2_106 : decode method_4_code 106 = .ok (.iand, 1) := by decide +kernel
theorem d2_107 : decode method_4_code 107 = .ok (.ior, 1) := by decide +kernel
theorem d2_108 : decode method_4_code 108 = .ok (.istore 6, 2) := by decide +kernel
theorem d2_110 : decode method_4_code 110 = .ok (.iload 5, 2) := by decide +kernel
theorem d2_112 : decode method_4_code 112 = .ok (.iconst 3, 1) := by decide +kernel
theorem d2_113 : decode method_4_code 113 = .ok (.if_icmp .lt 24, 3) := by decide +kernel
theorem d2_116 : decode method_4_code 116 = .ok (.iload_n 2, 1) := by decide +kernel
theorem d2_117 : decode method_4_code 117 = .ok (.invokestatic 19, 3) := by decide +kernel
theorem d2_120 : decode method_4_code 120 = .ok (.ifCond .ne 5, 3) := by decide +kernel
theorem d2_123 : decode method_4_code 123 = .ok (.iconst 0, 1) := by decide +kernel
theorem d2_124 : decode method_4_code 124 = .ok (.ireturn, 1) := by decide +kernel
theorem d2_125 : decode method_4_code 125 = .ok (.iload 6, 2) := by decide +kernel
theorem d2_127 : decode method_4_code 127 = .ok (.bipush 6, 2) := by decide +kernel
theorem d2_129 : decode method_4_code 129 = .ok (.ishl, 1) := by decide +kernel
theorem d2_130 : decode method_4_code 130 = .ok (.iload_n 2, 1) := by decide +kernel
theorem d2_131 : decode method_4_code 131 = .ok (.bipush 63, 2) := by decide +kernel
theorem d2_133 : decode method_4_code 133 = .ok (.iand, 1) := by decide +kernel
theorem d2_134 : decode method_4_code 134 = .ok (.ior, 1) := by decide +kernel
theorem d2_135 : decode method_4_code 135 = .ok (.istore 6, 2) := by decide +kernel
theorem d2_137 : decode method_4_code 137 = .ok (.iload 5, 2) := by decide +kernel
theorem d2_139 : decode method_4_code 139 = .ok (.iconst 4, 1) := by decide +kernel
theorem d2_140 : decode method_4_code 140 = .ok (.if_icmp .ne 24, 3) := by decide +kernel
theorem d2_143 : decode method_4_code 143 = .ok (.iload_n 3, 1) := by decide +kernel
theorem d2_144 : decode method_4_code 144 = .ok (.invokestatic 19, 3) := by decide +kernel
theorem d2_147 : decode method_4_code 147 = .ok (.ifCond .ne 5, 3) := by decide +kernel
theorem d2_150 : decode method_4_code 150 = .ok (.iconst 0, 1) := by decide +kernel
theorem d2_151 : decode method_4_code 151 = .ok (.ireturn, 1) := by decide +kernel
theorem d2_152 : decode method_4_code 152 = .ok (.iload 6, 2) := by decide +kernel
theorem d2_154 : decode method_4_code 154 = .ok (.bipush 6, 2) := by decide +kernel
theorem d2_156 : decode method_4_code 156 = .ok (.ishl, 1) := by decide +kernel
theorem d2_157 : decode method_4_code 157 = .ok (.iload_n 3, 1) := by decide +kernel
theorem d2_158 : decode method_4_code 158 = .ok (.bipush 63, 2) := by decide +kernel
theorem d2_160 : decode method_4_code 160 = .ok (.iand, 1) := by decide +kernel
theorem d2_161 : decode method_4_code 161 = .ok (.ior, 1) := by decide +kernel
theorem d2_162 : decode method_4_code 162 = .ok (.istore 6, 2) := by decide +kernel
theorem d2_164 : decode method_4_code 164 = .ok (.iload 5, 2) := by decide +kernel
theorem d2_166 : decode method_4_code 166 = .ok (.iconst 2, 1) := by decide +kernel
theorem d2_167 : decode method_4_code 167 = .ok (.if_icmp .ne 9, 3) := by decide +kernel
theorem d2_170 : decode method_4_code 170 = .ok (.sipush 128, 3) := by decide +kernel
theorem d2_173 : decode method_4_code 173 = .ok (.goto 17, 3) := by decide +kernel
theorem d2_176 : decode method_4_code 176 = .ok (.iload 5, 2) := by decide +kernel
theorem d2_178 : decode method_4_code 178 = .ok (.iconst 3, 1) := by decide +kernel
theorem d2_179 : decode method_4_code 179 = .ok (.if_icmp .ne 9, 3) := by decide +kernel
theorem d2_182 : decode method_4_code 182 = .ok (.sipush 2048, 3) := by decide +kernel
theorem d2_185 : decode method_4_code 185 = .ok (.goto 5, 3) := by decide +kernel
theorem d2_188 : decode method_4_code 188 = .ok (.ldc 23, 2) := by decide +kernel
theorem d2_190 : decode method_4_code 190 = .ok (.istore 7, 2) := by decide +kernel
theorem d2_192 : decode method_4_code 192 = .ok (.iload 6, 2) := by decide +kernel
theorem d2_194 : decode method_4_code 194 = .ok (.iload 7, 2) := by decide +kernel
theorem d2_196 : decode method_4_code 196 = .ok (.if_icmp .ge 5, 3) := by decide +kernel
theorem d2_199 : decode method_4_code 199 = .ok (.iconst 0, 1) := by decide +kernel
theorem d2_200 : decode method_4_code 200 = .ok (.ireturn, 1) := by decide +kernel
theorem d2_201 : decode method_4_code 201 = .ok (.iload 6, 2) := by decide +kernel
theorem d2_203 : decode method_4_code 203 = .ok (.ldc 24, 2) := by decide +kernel
theorem d2_205 : decode method_4_code 205 = .ok (.if_icmp .le 5, 3) := by decide +kernel
theorem d2_208 : decode method_4_code 208 = .ok (.iconst 0, 1) := by decide +kernel
theorem d2_209 : decode method_4_code 209 = .ok (.ireturn, 1) := by decide +kernel
theorem d2_210 : decode method_4_code 210 = .ok (.iload 6, 2) := by decide +kernel
theorem d2_212 : decode method_4_code 212 = .ok (.ldc 25, 2) := by decide +kernel
theorem d2_214 : decode method_4_code 214 = .ok (.if_icmp .lt 12, 3) := by decide +kernel
theorem d2_217 : decode method_4_code 217 = .ok (.iload 6, 2) := by decide +kernel
theorem d2_219 : decode method_4_code 219 = .ok (.ldc 26, 2) := by decide +kernel
theorem d2_221 : decode method_4_code 221 = .ok (.if_icmp .gt 5, 3) := by decide +kernel
theorem d2_224 : decode method_4_code 224 = .ok (.iconst 0, 1) := by decide +kernel
theorem d2_225 : decode method_4_code 225 = .ok (.ireturn, 1) := by decide +kernel
theorem d2_226 : decode method_4_code 226 = .ok (.iload 5, 2) := by decide +kernel
theorem d2_228 : decode method_4_code 228 = .ok (.ireturn, 1) := by decide +kernel
set_option maxRecDepth 65536 in
set_option maxHeartbeats 40000000 in
theorem rm_exp {l : Launch} {Z : State} {a0 : Array Value} (hw : ∀ d ∈ tables_1, d.before a0 Z = true) (c0 c1 c2 c3 av0 : Int32) (h : Heap) (n0 : Nat) (zn : n0 ≤ h.size) (hb0 : 0 ≤ c0.toInt ∧ c0.toInt ≤ 255) (hb1 : 0 ≤ c1.toInt ∧ c1.toInt ≤ 255) (hb2 : 0 ≤ c2.toInt ∧ c2.toInt ≤ 255) (hb3 : 0 ≤ c3.toInt ∧ c3.toInt ≤ 255) (hbn : 1 ≤ av0.toInt ∧ av0.toInt ≤ 4) :
    Met l Z (⟨"com/example/homeward/homeward/server/Utf8SequenceLengthPinLaw", "expected", "(IIIII)I"⟩ : MethodName) method_4_code 8 (some .int) [] ({ frames := 1, cells := 0, slots := 0, locals := 12 } : Room) #[(.int c0), (.int c1), (.int c2), (.int c3), (.int av0)] h n0 (RI fun r h' => h' = h ∧ own_isLen c0.toInt c1.toInt c2.toInt c3.toInt av0.toInt r.toInt) := by
  refine start (ls := #[.val (.int c0), .val (.int c1), .val (.int c2), .val (.int c3), .val (.int av0), .unset, .unset, .unset]) (plainFor_of_name pn3) (fun m => by first | (simp [entryFrame, mkF, argsToLocals, Value.category]; done) | rfl) ?_
  intro p e s m below meth c T G w X
  refine iloadN w X d2_0 1 rfl rfl ?_
  refine sipush w X (128 : Int32) d2_1 4 rfl rfl ?_
  refine icmp_ge w X d2_4 9 7 (by decide) (by decide) rfl (fun hc4_1 => ?_) (fun hc4_1 => ?_)
  ·
    refine iloadN w X d2_9 10 rfl rfl ?_
    refine sipush w X (224 : Int32) d2_10 13 rfl rfl ?_
    refine iand w X (c0 &&& (224 : Int32)) d2_13 14 rfl rfl ?_
    refine sipush w X (192 : Int32) d2_14 17 rfl rfl ?_
    refine icmp_ne w X d2_17 32 20 (by decide) (by decide) rfl (fun hc17_2 => ?_) (fun hc17_2 => ?_)
    ·
      refine iloadN w X d2_32 33 rfl rfl ?_
      refine sipush w X (240 : Int32) d2_33 36 rfl rfl ?_
      refine iand w X (c0 &&& (240 : Int32)) d2_36 37 rfl rfl ?_
      refine sipush w X (224 : Int32) d2_37 40 rfl rfl ?_
      refine icmp_ne w X d2_40 55 43 (by decide) (by decide) rfl (fun hc40_3 => ?_) (fun hc40_3 => ?_)
      ·
        refine iloadN w X d2_55 56 rfl rfl ?_
        refine sipush w X (248 : Int32) d2_56 59 rfl rfl ?_
        refine iand w X (c0 &&& (248 : Int32)) d2_59 60 rfl rfl ?_
        refine sipush w X (240 : Int32) d2_60 63 rfl rfl ?_
        refine icmp_ne w X d2_63 78 66 (by decide) (by decide) rfl (fun hc63_4 => ?_) (fun hc63_4 => ?_)
        ·
          refine iconst w X (0 : Int32) d2_78 79 rfl rfl ?_
          refine retI w X rfl d2_79 (by decide) (by decide) ?_
          exact ⟨_, rfl, rfl, lf2_1 c0 c1 c2 c3 av0 hb0 hb1 hb2 hb3 hbn hc4_1 hc17_2 hc40_3 hc63_4⟩
        ·
          refine iconst w X (4 : Int32) d2_66 67 rfl rfl ?_
          refine istore w X (4 : Int32) d2_67 69 rfl rfl #[.val (.int c0), .val (.int c1), .val (.int c2), .val (.int c3), .val (.int av0), .val (.int (4 : Int32)), .unset, .unset] rfl ?_
          refine iloadN w X d2_69 70 rfl rfl ?_
          refine bipush w X (7 : Int32) d2_70 72 rfl rfl ?_
          refine iand w X (c0 &&& (7 : Int32)) d2_72 73 rfl rfl ?_
          obtain ⟨i6_5, hi6_5⟩ : ∃ z : Int32, z = (c0 &&& (7 : Int32)) := ⟨_, rfl⟩
          refine istore w X i6_5 d2_73 75 rfl hi6_5 #[.val (.int c0), .val (.int c1), .val (.int c2), .val (.int c3), .val (.int av0), .val (.int (4 : Int32)), .val (.int i6_5), .unset] rfl ?_
          refine goto w X d2_75 80 (by decide) (by decide) ?_
          refine iload w X d2_80 82 rfl rfl ?_
          refine iload w X d2_82 84 rfl rfl ?_
          refine icmp_ge w X d2_84 89 87 (by decide) (by decide) rfl (fun hc84_6 => ?_) (fun hc84_6 => ?_)
          ·
            refine iloadN w X d2_89 90 rfl rfl ?_
            refine callSPI w X [(.int c1)] (wd9 hw) (wd10 hw) (wd7 hw) (wd11 hw) (by decide) (rm_cont hw c1 h n0 zn) d2_90 93 rfl 0 (by decide) (by decide) (lenOf pd0 rfl) rfl (Nat.le_of_eq rfl) rfl (by decide) (by decide) (fun r7 T X hq => ?_)
            have hr7 := hq
            refine if_ne w X d2_93 98 96 (by decide) (by decide) rfl (fun hc93_8 => ?_) (fun hc93_8 => ?_)
            ·
              refine iload w X d2_98 100 rfl rfl ?_
              refine bipush w X (6 : Int32) d2_100 102 rfl rfl ?_
              refine ishl w X (i6_5 <<< ((6 : Int32) &&& 31)) d2_102 103 rfl rfl ?_
              refine iloadN w X d2_103 104 rfl rfl ?_
              refine bipush w X (63 : Int32) d2_104 106 rfl rfl ?_
              refine iand w X (c1 &&& (63 : Int32)) d2_106 107 rfl rfl ?_
              refine ior w X ((i6_5 <<< ((6 : Int32) &&& 31)) ||| (c1 &&& (63 : Int32))) d2_107 108 rfl rfl ?_
              obtain ⟨i6_9, hi6_9⟩ : ∃ z : Int32, z = ((i6_5 <<< ((6 : Int32) &&& 31)) ||| (c1 &&& (63 : Int32))) := ⟨_, rfl⟩
              refine istore w X i6_9 d2_108 110 rfl hi6_9 #[.val (.int c0), .val (.int c1), .val (.int c2), .val (.int c3), .val (.int av0), .val (.int (4 : Int32)), .val (.int i6_9), .unset] rfl ?_
              refine iload w X d2_110 112 rfl rfl ?_
              refine iconst w X (3 : Int32) d2_112 113 rfl rfl ?_
              refine icmp_lt w X d2_113 137 116 (by decide) (by decide) rfl (fun q => absurd q (by decide)) (fun hc113_10 => ?_)
              refine iloadN w X d2_116 117 rfl rfl ?_
              refine callSPI w X [(.int c2)] (wd9 hw) (wd10 hw) (wd7 hw) (wd11 hw) (by decide) (rm_cont hw c2 h n0 zn) d2_117 120 rfl 0 (by decide) (by decide) (lenOf pd0 rfl) rfl (Nat.le_of_eq rfl) rfl (by decide) (by decide) (fun r11 T X hq => ?_)
              have hr11 := hq
              refine if_ne w X d2_120 125 123 (by decide) (by decide) rfl (fun hc120_12 => ?_) (fun hc120_12 => ?_)
              ·
                refine iload w X d2_125 127 rfl rfl ?_
                refine bipush w X (6 : Int32) d2_127 129 rfl rfl ?_
                refine ishl w X (i6_9 <<< ((6 : Int32) &&& 31)) d2_129 130 rfl rfl ?_
                refine iloadN w X d2_130 131 rfl rfl ?_
                refine bipush w X (63 : Int32) d2_131 133 rfl rfl ?_
                refine iand w X (c2 &&& (63 : Int32)) d2_133 134 rfl rfl ?_
                refine ior w X ((i6_9 <<< ((6 : Int32) &&& 31)) ||| (c2 &&& (63 : Int32))) d2_134 135 rfl rfl ?_
                obtain ⟨i6_13, hi6_13⟩ : ∃ z : Int32, z = ((i6_9 <<< ((6 : Int32) &&& 31)) ||| (c2 &&& (63 : Int32))) := ⟨_, rfl⟩
                refine istore w X i6_13 d2_135 137 rfl hi6_13 #[.val (.int c0), .val (.int c1), .val (.int c2), .val (.int c3), .val (.int av0), .val (.int (4 : Int32)), .val (.int i6_13), .unset] rfl ?_
                refine iload w X d2_137 139 rfl rfl ?_
                refine iconst w X (4 : Int32) d2_139 140 rfl rfl ?_
                refine icmp_ne w X d2_140 164 143 (by decide) (by decide) rfl (fun q => absurd q (by decide)) (fun hc140_14 => ?_)
                refine iloadN w X d2_143 144 rfl rfl ?_
                refine callSPI w X [(.int c3)] (wd9 hw) (wd10 hw) (wd7 hw) (wd11 hw) (by decide) (rm_cont hw c3 h n0 zn) d2_144 147 rfl 0 (by decide) (by decide) (lenOf pd0 rfl) rfl (Nat.le_of_eq rfl) rfl (by decide) (by decide) (fun r15 T X hq => ?_)
                have hr15 := hq
                refine if_ne w X d2_147 152 150 (by decide) (by decide) rfl (fun hc147_16 => ?_) (fun hc147_16 => ?_)
                ·
                  refine iload w X d2_152 154 rfl rfl ?_
                  refine bipush w X (6 : Int32) d2_154 156 rfl rfl ?_
                  refine ishl w X (i6_13 <<< ((6 : Int32) &&& 31)) d2_156 157 rfl rfl ?_
                  refine iloadN w X d2_157 158 rfl rfl ?_
                  refine bipush w X (63 : Int32) d2_158 160 rfl rfl ?_
                  refine iand w X (c3 &&& (63 : Int32)) d2_160 161 rfl rfl ?_
                  refine ior w X ((i6_13 <<< ((6 : Int32) &&& 31)) ||| (c3 &&& (63 : Int32))) d2_161 162 rfl rfl ?_
                  obtain ⟨i6_17, hi6_17⟩ : ∃ z : Int32, z = ((i6_13 <<< ((6 : Int32) &&& 31)) ||| (c3 &&& (63 : Int32))) := ⟨_, rfl⟩
                  refine istore w X i6_17 d2_162 164 rfl hi6_17 #[.val (.int c0), .val (.int c1), .val (.int c2), .val (.int c3), .val (.int av0), .val (.int (4 : Int32)), .val (.int i6_17), .unset] rfl ?_
                  refine iload w X d2_164 166 rfl rfl ?_
                  refine iconst w X (2 : Int32) d2_166 167 rfl rfl ?_
                  refine icmp_ne w X d2_167 176 170 (by decide) (by decide) rfl (fun hc167_18 => ?_) (fun q => absurd q (by decide))
                  refine iload w X d2_176 178 rfl rfl ?_
                  refine iconst w X (3 : Int32) d2_178 179 rfl rfl ?_
                  refine icmp_ne w X d2_179 188 182 (by decide) (by decide) rfl (fun hc179_19 => ?_) (fun q => absurd q (by decide))
                  refine ldcI w X (wd17 hw) d2_188 190 rfl ?_
                  refine istore w X (65536 : Int32) d2_190 192 rfl rfl #[.val (.int c0), .val (.int c1), .val (.int c2), .val (.int c3), .val (.int av0), .val (.int (4 : Int32)), .val (.int i6_17), .val (.int (65536 : Int32))] rfl ?_
                  refine iload w X d2_192 194 rfl rfl ?_
                  refine iload w X d2_194 196 rfl rfl ?_
                  refine icmp_ge w X d2_196 201 199 (by decide) (by decide) rfl (fun hc196_20 => ?_) (fun hc196_20 => ?_)
                  ·
                    refine iload w X d2_201 203 rfl rfl ?_
                    refine ldcI w X (wd12 hw) d2_203 205 rfl ?_
                    refine icmp_le w X d2_205 210 208 (by decide) (by decide) rfl (fun hc205_21 => ?_) (fun hc205_21 => ?_)
                    ·
                      refine iload w X d2_210 212 rfl rfl ?_
                      refine ldcI w X (wd13 hw) d2_212 214 rfl ?_
                      refine icmp_lt w X d2_214 226 217 (by decide) (by decide) rfl (fun hc214_22 => ?_) (fun hc214_22 => ?_)
                      ·
                        refine iload w X d2_226 228 rfl rfl ?_
                        refine retI w X rfl d2_228 (by decide) (by decide) ?_
                        exact ⟨_, rfl, rfl, lf2_2 c0 c1 c2 c3 av0 i6_5 r7 i6_9 r11 i6_13 r15 i6_17 hb0 hb1 hb2 hb3 hbn hc4_1 hc17_2 hc40_3 hc63_4 hi6_5 hc84_6 hr7 hc93_8 hi6_9 hc113_10 hr11 hc120_12 hi6_13 hc140_14 hr15 hc147_16 hi6_17 hc167_18 hc179_19 hc196_20 hc205_21 hc214_22⟩
                      ·
                        refine iload w X d2_217 219 rfl rfl ?_
                        refine ldcI w X (wd18 hw) d2_219 221 rfl ?_
                        refine icmp_gt w X d2_221 226 224 (by decide) (by decide) rfl (fun hc221_23 => ?_) (fun hc221_23 => ?_)
                        ·
                          refine iload w X d2_226 228 rfl rfl ?_
                          refine retI w X rfl d2_228 (by decide) (by decide) ?_
                          exact ⟨_, rfl, rfl, lf2_3 c0 c1 c2 c3 av0 i6_5 r7 i6_9 r11 i6_13 r15 i6_17 hb0 hb1 hb2 hb3 hbn hc4_1 hc17_2 hc40_3 hc63_4 hi6_5 hc84_6 hr7 hc93_8 hi6_9 hc113_10 hr11 hc120_12 hi6_13 hc140_14 hr15 hc147_16 hi6_17 hc167_18 hc179_19 hc196_20 hc205_21 hc214_22 hc221_23⟩
                        ·
                          refine iconst w X (0 : Int32) d2_224 225 rfl rfl ?_
                          refine retI w X rfl d2_225 (by decide) (by decide) ?_
                          exact ⟨_, rfl, rfl, lf2_4 c0 c1 c2 c3 av0 i6_5 r7 i6_9 r11 i6_13 r15 i6_17 hb0 hb1 hb2 hb3 hbn hc4_1 hc17_2 hc40_3 hc63_4 hi6_5 hc84_6 hr7 hc93_8 hi6_9 hc113_10 hr11 hc120_12 hi6_13 hc140_14 hr15 hc147_16 hi6_17 hc167_18 hc179_19 hc196_20 hc205_21 hc214_22 hc221_23⟩
                    ·
                      refine iconst w X (0 : Int32) d2_208 209 rfl rfl ?_
                      refine retI w X rfl d2_209 (by decide) (by decide) ?_
                      exact ⟨_, rfl, rfl, lf2_5 c0 c1 c2 c3 av0 i6_5 r7 i6_9 r11 i6_13 r15 i6_17 hb0 hb1 hb2 hb3 hbn hc4_1 hc17_2 hc40_3 hc63_4 hi6_5 hc84_6 hr7 hc93_8 hi6_9 hc113_10 hr11 hc120_12 hi6_13 hc140_14 hr15 hc147_16 hi6_17 hc167_18 hc179_19 hc196_20 hc205_21⟩
                  ·
                    refine iconst w X (0 : Int32) d2_199 200 rfl rfl ?_
                    refine retI w X rfl d2_200 (by decide) (by decide) ?_
                    exact ⟨_, rfl, rfl, lf2_6 c0 c1 c2 c3 av0 i6_5 r7 i6_9 r11 i6_13 r15 i6_17 hb0 hb1 hb2 hb3 hbn hc4_1 hc17_2 hc40_3 hc63_4 hi6_5 hc84_6 hr7 hc93_8 hi6_9 hc113_10 hr11 hc120_12 hi6_13 hc140_14 hr15 hc147_16 hi6_17 hc167_18 hc179_19 hc196_20⟩
                ·
                  refine iconst w X (0 : Int32) d2_150 151 rfl rfl ?_
                  refine retI w X rfl d2_151 (by decide) (by decide) ?_
                  exact ⟨_, rfl, rfl, lf2_7 c0 c1 c2 c3 av0 i6_5 r7 i6_9 r11 i6_13 r15 hb0 hb1 hb2 hb3 hbn hc4_1 hc17_2 hc40_3 hc63_4 hi6_5 hc84_6 hr7 hc93_8 hi6_9 hc113_10 hr11 hc120_12 hi6_13 hc140_14 hr15 hc147_16⟩
              ·
                refine iconst w X (0 : Int32) d2_123 124 rfl rfl ?_
                refine retI w X rfl d2_124 (by decide) (by decide) ?_
                exact ⟨_, rfl, rfl, lf2_8 c0 c1 c2 c3 av0 i6_5 r7 i6_9 r11 hb0 hb1 hb2 hb3 hbn hc4_1 hc17_2 hc40_3 hc63_4 hi6_5 hc84_6 hr7 hc93_8 hi6_9 hc113_10 hr11 hc120_12⟩
            ·
              refine iconst w X (0 : Int32) d2_96 97 rfl rfl ?_
              refine retI w X rfl d2_97 (by decide) (by decide) ?_
              exact ⟨_, rfl, rfl, lf2_9 c0 c1 c2 c3 av0 i6_5 r7 hb0 hb1 hb2 hb3 hbn hc4_1 hc17_2 hc40_3 hc63_4 hi6_5 hc84_6 hr7 hc93_8⟩
          ·
            refine iconst w X (0 : Int32) d2_87 88 rfl rfl ?_
            refine retI w X rfl d2_88 (by decide) (by decide) ?_
            exact ⟨_, rfl, rfl, lf2_10 c0 c1 c2 c3 av0 i6_5 hb0 hb1 hb2 hb3 hbn hc4_1 hc17_2 hc40_3 hc63_4 hi6_5 hc84_6⟩
      ·
        refine iconst w X (3 : Int32) d2_43 44 rfl rfl ?_
        refine istore w X (3 : Int32) d2_44 46 rfl rfl #[.val (.int c0), .val (.int c1), .val (.int c2), .val (.int c3), .val (.int av0), .val (.int (3 : Int32)), .unset, .unset] rfl ?_
        refine iloadN w X d2_46 47 rfl rfl ?_
        refine bipush w X (15 : Int32) d2_47 49 rfl rfl ?_
        refine iand w X (c0 &&& (15 : Int32)) d2_49 50 rfl rfl ?_
        obtain ⟨i6_24, hi6_24⟩ : ∃ z : Int32, z = (c0 &&& (15 : Int32)) := ⟨_, rfl⟩
        refine istore w X i6_24 d2_50 52 rfl hi6_24 #[.val (.int c0), .val (.int c1), .val (.int c2), .val (.int c3), .val (.int av0), .val (.int (3 : Int32)), .val (.int i6_24), .unset] rfl ?_
        refine goto w X d2_52 80 (by decide) (by decide) ?_
        refine iload w X d2_80 82 rfl rfl ?_
        refine iload w X d2_82 84 rfl rfl ?_
        refine icmp_ge w X d2_84 89 87 (by decide) (by decide) rfl (fun hc84_25 => ?_) (fun hc84_25 => ?_)
        ·
          refine iloadN w X d2_89 90 rfl rfl ?_
          refine callSPI w X [(.int c1)] (wd9 hw) (wd10 hw) (wd7 hw) (wd11 hw) (by decide) (rm_cont hw c1 h n0 zn) d2_90 93 rfl 0 (by decide) (by decide) (lenOf pd0 rfl) rfl (Nat.le_of_eq rfl) rfl (by decide) (by decide) (fun r26 T X hq => ?_)
          have hr26 := hq
          refine if_ne w X d2_93 98 96 (by decide) (by decide) rfl (fun hc93_27 => ?_) (fun hc93_27 => ?_)
          ·
            refine iload w X d2_98 100 rfl rfl ?_
            refine bipush w X (6 : Int32) d2_100 102 rfl rfl ?_
            refine ishl w X (i6_24 <<< ((6 : Int32) &&& 31)) d2_102 103 rfl rfl ?_
            refine iloadN w X d2_103 104 rfl rfl ?_
            refine bipush w X (63 : Int32) d2_104 106 rfl rfl ?_
            refine iand w X (c1 &&& (63 : Int32)) d2_106 107 rfl rfl ?_
            refine ior w X ((i6_24 <<< ((6 : Int32) &&& 31)) ||| (c1 &&& (63 : Int32))) d2_107 108 rfl rfl ?_
            obtain ⟨i6_28, hi6_28⟩ : ∃ z : Int32, z = ((i6_24 <<< ((6 : Int32) &&& 31)) ||| (c1 &&& (63 : Int32))) := ⟨_, rfl⟩
            refine istore w X i6_28 d2_108 110 rfl hi6_28 #[.val (.int c0), .val (.int c1), .val (.int c2), .val (.int c3), .val (.int av0), .val (.int (3 : Int32)), .val (.int i6_28), .unset] rfl ?_
            refine iload w X d2_110 112 rfl rfl ?_
            refine iconst w X (3 : Int32) d2_112 113 rfl rfl ?_
            refine icmp_lt w X d2_113 137 116 (by decide) (by decide) rfl (fun q => absurd q (by decide)) (fun hc113_29 => ?_)
            refine iloadN w X d2_116 117 rfl rfl ?_
            refine callSPI w X [(.int c2)] (wd9 hw) (wd10 hw) (wd7 hw) (wd11 hw) (by decide) (rm_cont hw c2 h n0 zn) d2_117 120 rfl 0 (by decide) (by decide) (lenOf pd0 rfl) rfl (Nat.le_of_eq rfl) rfl (by decide) (by decide) (fun r30 T X hq => ?_)
            have hr30 := hq
            refine if_ne w X d2_120 125 123 (by decide) (by decide) rfl (fun hc120_31 => ?_) (fun hc120_31 => ?_)
            ·
              refine iload w X d2_125 127 rfl rfl ?_
              refine bipush w X (6 : Int32) d2_127 129 rfl rfl ?_
              refine ishl w X (i6_28 <<< ((6 : Int32) &&& 31)) d2_129 130 rfl rfl ?_
              refine iloadN w X d2_130 131 rfl rfl ?_
              refine bipush w X (63 : Int32) d2_131 133 rfl rfl ?_
              refine iand w X (c2 &&& (63 : Int32)) d2_133 134 rfl rfl ?_
              refine ior w X ((i6_28 <<< ((6 : Int32) &&& 31)) ||| (c2 &&& (63 : Int32))) d2_134 135 rfl rfl ?_
              obtain ⟨i6_32, hi6_32⟩ : ∃ z : Int32, z = ((i6_28 <<< ((6 : Int32) &&& 31)) ||| (c2 &&& (63 : Int32))) := ⟨_, rfl⟩
              refine istore w X i6_32 d2_135 137 rfl hi6_32 #[.val (.int c0), .val (.int c1), .val (.int c2), .val (.int c3), .val (.int av0), .val (.int (3 : Int32)), .val (.int i6_32), .unset] rfl ?_
              refine iload w X d2_137 139 rfl rfl ?_
              refine iconst w X (4 : Int32) d2_139 140 rfl rfl ?_
              refine icmp_ne w X d2_140 164 143 (by decide) (by decide) rfl (fun hc140_33 => ?_) (fun q => absurd q (by decide))
              refine iload w X d2_164 166 rfl rfl ?_
              refine iconst w X (2 : Int32) d2_166 167 rfl rfl ?_
              refine icmp_ne w X d2_167 176 170 (by decide) (by decide) rfl (fun hc167_34 => ?_) (fun q => absurd q (by decide))
              refine iload w X d2_176 178 rfl rfl ?_
              refine iconst w X (3 : Int32) d2_178 179 rfl rfl ?_
              refine icmp_ne w X d2_179 188 182 (by decide) (by decide) rfl (fun q => absurd q (by decide)) (fun hc179_35 => ?_)
              refine sipush w X (2048 : Int32) d2_182 185 rfl rfl ?_
              refine goto w X d2_185 190 (by decide) (by decide) ?_
              refine istore w X (2048 : Int32) d2_190 192 rfl rfl #[.val (.int c0), .val (.int c1), .val (.int c2), .val (.int c3), .val (.int av0), .val (.int (3 : Int32)), .val (.int i6_32), .val (.int (2048 : Int32))] rfl ?_
              refine iload w X d2_192 194 rfl rfl ?_
              refine iload w X d2_194 196 rfl rfl ?_
              refine icmp_ge w X d2_196 201 199 (by decide) (by decide) rfl (fun hc196_36 => ?_) (fun hc196_36 => ?_)
              ·
                refine iload w X d2_201 203 rfl rfl ?_
                refine ldcI w X (wd12 hw) d2_203 205 rfl ?_
                refine icmp_le w X d2_205 210 208 (by decide) (by decide) rfl (fun hc205_37 => ?_) (fun hc205_37 => ?_)
                ·
                  refine iload w X d2_210 212 rfl rfl ?_
                  refine ldcI w X (wd13 hw) d2_212 214 rfl ?_
                  refine icmp_lt w X d2_214 226 217 (by decide) (by decide) rfl (fun hc214_38 => ?_) (fun hc214_38 => ?_)
                  ·
                    refine iload w X d2_226 228 rfl rfl ?_
                    refine retI w X rfl d2_228 (by decide) (by decide) ?_
                    exact ⟨_, rfl, rfl, lf2_11 c0 c1 c2 c3 av0 i6_24 r26 i6_28 r30 i6_32 hb0 hb1 hb2 hb3 hbn hc4_1 hc17_2 hc40_3 hi6_24 hc84_25 hr26 hc93_27 hi6_28 hc113_29 hr30 hc120_31 hi6_32 hc140_33 hc167_34 hc179_35 hc196_36 hc205_37 hc214_38⟩
                  ·
                    refine iload w X d2_217 219 rfl rfl ?_
                    refine ldcI w X (wd18 hw) d2_219 221 rfl ?_
                    refine icmp_gt w X d2_221 226 224 (by decide) (by decide) rfl (fun hc221_39 => ?_) (fun hc221_39 => ?_)
                    ·
                      refine iload w X d2_226 228 rfl rfl ?_
                      refine retI w X rfl d2_228 (by decide) (by decide) ?_
                      exact ⟨_, rfl, rfl, lf2_12 c0 c1 c2 c3 av0 i6_24 r26 i6_28 r30 i6_32 hb0 hb1 hb2 hb3 hbn hc4_1 hc17_2 hc40_3 hi6_24 hc84_25 hr26 hc93_27 hi6_28 hc113_29 hr30 hc120_31 hi6_32 hc140_33 hc167_34 hc179_35 hc196_36 hc205_37 hc214_38 hc221_39⟩
                    ·
                      refine iconst w X (0 : Int32) d2_224 225 rfl rfl ?_
                      refine retI w X rfl d2_225 (by decide) (by decide) ?_
                      exact ⟨_, rfl, rfl, lf2_13 c0 c1 c2 c3 av0 i6_24 r26 i6_28 r30 i6_32 hb0 hb1 hb2 hb3 hbn hc4_1 hc17_2 hc40_3 hi6_24 hc84_25 hr26 hc93_27 hi6_28 hc113_29 hr30 hc120_31 hi6_32 hc140_33 hc167_34 hc179_35 hc196_36 hc205_37 hc214_38 hc221_39⟩
                ·
                  refine iconst w X (0 : Int32) d2_208 209 rfl rfl ?_
                  refine retI w X rfl d2_209 (by decide) (by decide) ?_
                  exact ⟨_, rfl, rfl, lf2_14 c0 c1 c2 c3 av0 i6_24 r26 i6_28 r30 i6_32 hb0 hb1 hb2 hb3 hbn hc4_1 hc17_2 hc40_3 hi6_24 hc84_25 hr26 hc93_27 hi6_28 hc113_29 hr30 hc120_31 hi6_32 hc140_33 hc167_34 hc179_35 hc196_36 hc205_37⟩
              ·
                refine iconst w X (0 : Int32) d2_199 200 rfl rfl ?_
                refine retI w X rfl d2_200 (by decide) (by decide) ?_
                exact ⟨_, rfl, rfl, lf2_15 c0 c1 c2 c3 av0 i6_24 r26 i6_28 r30 i6_32 hb0 hb1 hb2 hb3 hbn hc4_1 hc17_2 hc40_3 hi6_24 hc84_25 hr26 hc93_27 hi6_28 hc113_29 hr30 hc120_31 hi6_32 hc140_33 hc167_34 hc179_35 hc196_36⟩
            ·
              refine iconst w X (0 : Int32) d2_123 124 rfl rfl ?_
              refine retI w X rfl d2_124 (by decide) (by decide) ?_
              exact ⟨_, rfl, rfl, lf2_16 c0 c1 c2 c3 av0 i6_24 r26 i6_28 r30 hb0 hb1 hb2 hb3 hbn hc4_1 hc17_2 hc40_3 hi6_24 hc84_25 hr26 hc93_27 hi6_28 hc113_29 hr30 hc120_31⟩
          ·
            refine iconst w X (0 : Int32) d2_96 97 rfl rfl ?_
            refine retI w X rfl d2_97 (by decide) (by decide) ?_
            exact ⟨_, rfl, rfl, lf2_17 c0 c1 c2 c3 av0 i6_24 r26 hb0 hb1 hb2 hb3 hbn hc4_1 hc17_2 hc40_3 hi6_24 hc84_25 hr26 hc93_27⟩
        ·
          refine iconst w X (0 : Int32) d2_87 88 rfl rfl ?_
          refine retI w X rfl d2_88 (by decide) (by decide) ?_
          exact ⟨_, rfl, rfl, lf2_18 c0 c1 c2 c3 av0 i6_24 hb0 hb1 hb2 hb3 hbn hc4_1 hc17_2 hc40_3 hi6_24 hc84_25⟩
    ·
      refine iconst w X (2 : Int32) d2_20 21 rfl rfl ?_
      refine istore w X (2 : Int32) d2_21 23 rfl rfl #[.val (.int c0), .val (.int c1), .val (.int c2), .val (.int c3), .val (.int av0), .val (.int (2 : Int32)), .unset, .unset] rfl ?_
      refine iloadN w X d2_23 24 rfl rfl ?_
      refine bipush w X (31 : Int32) d2_24 26 rfl rfl ?_
      refine iand w X (c0 &&& (31 : Int32)) d2_26 27 rfl rfl ?_
      obtain ⟨i6_40, hi6_40⟩ : ∃ z : Int32, z = (c0 &&& (31 : Int32)) := ⟨_, rfl⟩
      refine istore w X i6_40 d2_27 29 rfl hi6_40 #[.val (.int c0), .val (.int c1), .val (.int c2), .val (.int c3), .val (.int av0), .val (.int (2 : Int32)), .val (.int i6_40), .unset] rfl ?_
      refine goto w X d2_29 80 (by decide) (by decide) ?_
      refine iload w X d2_80 82 rfl rfl ?_
      refine iload w X d2_82 84 rfl rfl ?_
      refine icmp_ge w X d2_84 89 87 (by decide) (by decide) rfl (fun hc84_41 => ?_) (fun hc84_41 => ?_)
      ·
        refine iloadN w X d2_89 90 rfl rfl ?_
        refine callSPI w X [(.int c1)] (wd9 hw) (wd10 hw) (wd7 hw) (wd11 hw) (by decide) (rm_cont hw c1 h n0 zn) d2_90 93 rfl 0 (by decide) (by decide) (lenOf pd0 rfl) rfl (Nat.le_of_eq rfl) rfl (by decide) (by decide) (fun r42 T X hq => ?_)
        have hr42 := hq
        refine if_ne w X d2_93 98 96 (by decide) (by decide) rfl (fun hc93_43 => ?_) (fun hc93_43 => ?_)
        ·
          refine iload w X d2_98 100 rfl rfl ?_
          refine bipush w X (6 : Int32) d2_100 102 rfl rfl ?_
          refine ishl w X (i6_40 <<< ((6 : Int32) &&& 31)) d2_102 103 rfl rfl ?_
          refine iloadN w X d2_103 104 rfl rfl ?_
          refine bipush w X (63 : Int32) d2_104 106 rfl rfl ?_
          refine iand w X (c1 &&& (63 : Int32)) d2_106 107 rfl rfl ?_
          refine ior w X ((i6_40 <<< ((6 : Int32) &&& 31)) ||| (c1 &&& (63 : Int32))) d2_107 108 rfl rfl ?_
          obtain ⟨i6_44, hi6_44⟩ : ∃ z : Int32, z = ((i6_40 <<< ((6 : Int32) &&& 31)) ||| (c1 &&& (63 : Int32))) := ⟨_, rfl⟩
          refine istore w X i6_44 d2_108 110 rfl hi6_44 #[.val (.int c0), .val (.int c1), .val (.int c2), .val (.int c3), .val (.int av0), .val (.int (2 : Int32)), .val (.int i6_44), .unset] rfl ?_
          refine iload w X d2_110 112 rfl rfl ?_
          refine iconst w X (3 : Int32) d2_112 113 rfl rfl ?_
          refine icmp_lt w X d2_113 137 116 (by decide) (by decide) rfl (fun hc113_45 => ?_) (fun q => absurd q (by decide))
          refine iload w X d2_137 139 rfl rfl ?_
          refine iconst w X (4 : Int32) d2_139 140 rfl rfl ?_
          refine icmp_ne w X d2_140 164 143 (by decide) (by decide) rfl (fun hc140_46 => ?_) (fun q => absurd q (by decide))
          refine iload w X d2_164 166 rfl rfl ?_
          refine iconst w X (2 : Int32) d2_166 167 rfl rfl ?_
          refine icmp_ne w X d2_167 176 170 (by decide) (by decide) rfl (fun q => absurd q (by decide)) (fun hc167_47 => ?_)
          refine sipush w X (128 : Int32) d2_170 173 rfl rfl ?_
          refine goto w X d2_173 190 (by decide) (by decide) ?_
          refine istore w X (128 : Int32) d2_190 192 rfl rfl #[.val (.int c0), .val (.int c1), .val (.int c2), .val (.int c3), .val (.int av0), .val (.int (2 : Int32)), .val (.int i6_44), .val (.int (128 : Int32))] rfl ?_
          refine iload w X d2_192 194 rfl rfl ?_
          refine iload w X d2_194 196 rfl rfl ?_
          refine icmp_ge w X d2_196 201 199 (by decide) (by decide) rfl (fun hc196_48 => ?_) (fun hc196_48 => ?_)
          ·
            refine iload w X d2_201 203 rfl rfl ?_
            refine ldcI w X (wd12 hw) d2_203 205 rfl ?_
            refine icmp_le w X d2_205 210 208 (by decide) (by decide) rfl (fun hc205_49 => ?_) (fun hc205_49 => ?_)
            ·
              refine iload w X d2_210 212 rfl rfl ?_
              refine ldcI w X (wd13 hw) d2_212 214 rfl ?_
              refine icmp_lt w X d2_214 226 217 (by decide) (by decide) rfl (fun hc214_50 => ?_) (fun hc214_50 => ?_)
              ·
                refine iload w X d2_226 228 rfl rfl ?_
                refine retI w X rfl d2_228 (by decide) (by decide) ?_
                exact ⟨_, rfl, rfl, lf2_19 c0 c1 c2 c3 av0 i6_40 r42 i6_44 hb0 hb1 hb2 hb3 hbn hc4_1 hc17_2 hi6_40 hc84_41 hr42 hc93_43 hi6_44 hc113_45 hc140_46 hc167_47 hc196_48 hc205_49 hc214_50⟩
              ·
                refine iload w X d2_217 219 rfl rfl ?_
                refine ldcI w X (wd18 hw) d2_219 221 rfl ?_
                refine icmp_gt w X d2_221 226 224 (by decide) (by decide) rfl (fun hc221_51 => ?_) (fun hc221_51 => ?_)
                ·
                  refine iload w X d2_226 228 rfl rfl ?_
                  refine retI w X rfl d2_228 (by decide) (by decide) ?_
                  exact ⟨_, rfl, rfl, lf2_20 c0 c1 c2 c3 av0 i6_40 r42 i6_44 hb0 hb1 hb2 hb3 hbn hc4_1 hc17_2 hi6_40 hc84_41 hr42 hc93_43 hi6_44 hc113_45 hc140_46 hc167_47 hc196_48 hc205_49 hc214_50 hc221_51⟩
                ·
                  refine iconst w X (0 : Int32) d2_224 225 rfl rfl ?_
                  refine retI w X rfl d2_225 (by decide) (by decide) ?_
                  exact ⟨_, rfl, rfl, lf2_21 c0 c1 c2 c3 av0 i6_40 r42 i6_44 hb0 hb1 hb2 hb3 hbn hc4_1 hc17_2 hi6_40 hc84_41 hr42 hc93_43 hi6_44 hc113_45 hc140_46 hc167_47 hc196_48 hc205_49 hc214_50 hc221_51⟩
            ·
              refine iconst w X (0 : Int32) d2_208 209 rfl rfl ?_
              refine retI w X rfl d2_209 (by decide) (by decide) ?_
              exact ⟨_, rfl, rfl, lf2_22 c0 c1 c2 c3 av0 i6_40 r42 i6_44 hb0 hb1 hb2 hb3 hbn hc4_1 hc17_2 hi6_40 hc84_41 hr42 hc93_43 hi6_44 hc113_45 hc140_46 hc167_47 hc196_48 hc205_49⟩
          ·
            refine iconst w X (0 : Int32) d2_199 200 rfl rfl ?_
            refine retI w X rfl d2_200 (by decide) (by decide) ?_
            exact ⟨_, rfl, rfl, lf2_23 c0 c1 c2 c3 av0 i6_40 r42 i6_44 hb0 hb1 hb2 hb3 hbn hc4_1 hc17_2 hi6_40 hc84_41 hr42 hc93_43 hi6_44 hc113_45 hc140_46 hc167_47 hc196_48⟩
        ·
          refine iconst w X (0 : Int32) d2_96 97 rfl rfl ?_
          refine retI w X rfl d2_97 (by decide) (by decide) ?_
          exact ⟨_, rfl, rfl, lf2_24 c0 c1 c2 c3 av0 i6_40 r42 hb0 hb1 hb2 hb3 hbn hc4_1 hc17_2 hi6_40 hc84_41 hr42 hc93_43⟩
      ·
        refine iconst w X (0 : Int32) d2_87 88 rfl rfl ?_
        refine retI w X rfl d2_88 (by decide) (by decide) ?_
        exact ⟨_, rfl, rfl, lf2_25 c0 c1 c2 c3 av0 i6_40 hb0 hb1 hb2 hb3 hbn hc4_1 hc17_2 hi6_40 hc84_41⟩
  ·
    refine iconst w X (1 : Int32) d2_7 8 rfl rfl ?_
    refine retI w X rfl d2_8 (by decide) (by decide) ?_
    exact ⟨_, rfl, rfl, lf2_26 c0 c1 c2 c3 av0 hb0 hb1 hb2 hb3 hbn hc4_1⟩
set_option maxRecDepth 65536 in
set_option maxHeartbeats 40000000 in
theorem lf1_1 (ofs : Int32) (bs : List Int32) (hof : 0 ≤ ofs.toInt ∧ ofs.toInt ≤ 1) (hln : bs.length = 5) : ¬ ofs < 0 ∧ ofs.toNatClampNeg < bs.length := by
  have := b32 ofs
  unfold Int32.toNatClampNeg
  try simp only [Int32.lt_iff_toInt_lt, ← Int32.toInt_inj, Int32.reduceToInt, Int64.lt_iff_toInt_lt, ← Int64.toInt_inj, Int64.reduceToInt, true_and, and_true, true_or, or_true, false_or, or_false, false_and, and_false, not_true_eq_false, not_false_eq_true] at *
  omega
set_option maxRecDepth 65536 in
set_option maxHeartbeats 40000000 in
theorem lf1_2 (ofs : Int32) (en : Int32) (b0 : Int32) (b1 : Int32) (b2 : Int32) (b3 : Int32) (i3_1 : Int32) (hof : 0 ≤ ofs.toInt ∧ ofs.toInt ≤ 1) (hen : 1 ≤ en.toInt - ofs.toInt ∧ en.toInt - ofs.toInt ≤ 4) (hi3_1 : i3_1 = (b0 &&& (255 : Int32))) (hc12_2 : ¬ (i3_1 < (128 : Int32))) (hc31_3 : i3_1 < (194 : Int32)) (hc51_4 : i3_1 < (224 : Int32)) (hc105_5 : i3_1 < (240 : Int32)) : own_isLen (b0 &&& (255 : Int32)).toInt (b1 &&& (255 : Int32)).toInt (b2 &&& (255 : Int32)).toInt (b3 &&& (255 : Int32)).toInt (en.toInt - ofs.toInt) (0 : Int32).toInt := by
  have := b32 en
  have := b32 b0
  have : (255 : Int32).toInt = 255 := rfl
  have : (b0 &&& (255 : Int32)).toInt = b0.toInt % 256 := k_mask b0 (255 : Int32) 8 256 (by decide) (by decide) (by decide)
  have : 0 ≤ (b0 &&& (255 : Int32)).toInt ∧ (b0 &&& (255 : Int32)).toInt ≤ 255 := by omega
  have : i3_1.toInt = (b0 &&& (255 : Int32)).toInt := congrArg Int32.toInt hi3_1
  have : 0 ≤ i3_1.toInt ∧ i3_1.toInt ≤ 255 := by omega
  have : (128 : Int32).toInt = 128 := rfl
  have : (194 : Int32).toInt = 194 := rfl
  have : (224 : Int32).toInt = 224 := rfl
  have : (240 : Int32).toInt = 240 := rfl
  have := b32 b1
  have : (b1 &&& (255 : Int32)).toInt = b1.toInt % 256 := k_mask b1 (255 : Int32) 8 256 (by decide) (by decide) (by decide)
  have : 0 ≤ (b1 &&& (255 : Int32)).toInt ∧ (b1 &&& (255 : Int32)).toInt ≤ 255 := by omega
  have := b32 b2
  have : (b2 &&& (255 : Int32)).toInt = b2.toInt % 256 := k_mask b2 (255 : Int32) 8 256 (by decide) (by decide) (by decide)
  have : 0 ≤ (b2 &&& (255 : Int32)).toInt ∧ (b2 &&& (255 : Int32)).toInt ≤ 255 := by omega
  have := b32 b3
  have : (b3 &&& (255 : Int32)).toInt = b3.toInt % 256 := k_mask b3 (255 : Int32) 8 256 (by decide) (by decide) (by decide)
  have : 0 ≤ (b3 &&& (255 : Int32)).toInt ∧ (b3 &&& (255 : Int32)).toInt ≤ 255 := by omega
  have : (0 : Int32).toInt = 0 := rfl
  have := mt Int32.lt_iff_toInt_lt.mpr hc12_2
  have := Int32.lt_iff_toInt_lt.mp hc31_3
  have := Int32.lt_iff_toInt_lt.mp hc51_4
  have := Int32.lt_iff_toInt_lt.mp hc105_5
  unfold own_isLen
  exact Or.inr (Or.inr (Or.inr (Or.inr ⟨by omega, by omega, by omega, by omega, by omega⟩)))
set_option maxRecDepth 65536 in
set_option maxHeartbeats 40000000 in
theorem lf1_3 (ofs : Int32) (en : Int32) (b0 : Int32) (b1 : Int32) (b2 : Int32) (b3 : Int32) (i3_1 : Int32) (hof : 0 ≤ ofs.toInt ∧ ofs.toInt ≤ 1) (hen : 1 ≤ en.toInt - ofs.toInt ∧ en.toInt - ofs.toInt ≤ 4) (hi3_1 : i3_1 = (b0 &&& (255 : Int32))) (hc12_2 : ¬ (i3_1 < (128 : Int32))) (hc31_3 : i3_1 < (194 : Int32)) (hc51_4 : i3_1 < (224 : Int32)) (hc105_5 : ¬ (i3_1 < (240 : Int32))) (hc112_6 : (244 : Int32) < i3_1) : own_isLen (b0 &&& (255 : Int32)).toInt (b1 &&& (255 : Int32)).toInt (b2 &&& (255 : Int32)).toInt (b3 &&& (255 : Int32)).toInt (en.toInt - ofs.toInt) (0 : Int32).toInt := by
  have := b32 en
  have := b32 b0
  have : (255 : Int32).toInt = 255 := rfl
  have : (b0 &&& (255 : Int32)).toInt = b0.toInt % 256 := k_mask b0 (255 : Int32) 8 256 (by decide) (by decide) (by decide)
  have : 0 ≤ (b0 &&& (255 : Int32)).toInt ∧ (b0 &&& (255 : Int32)).toInt ≤ 255 := by omega
  have : i3_1.toInt = (b0 &&& (255 : Int32)).toInt := congrArg Int32.toInt hi3_1
  have : 0 ≤ i3_1.toInt ∧ i3_1.toInt ≤ 255 := by omega
  have : (128 : Int32).toInt = 128 := rfl
  have : (194 : Int32).toInt = 194 := rfl
  have : (224 : Int32).toInt = 224 := rfl
  have : (240 : Int32).toInt = 240 := rfl
  have : (244 : Int32).toInt = 244 := rfl
  have := b32 b1
  have : (b1 &&& (255 : Int32)).toInt = b1.toInt % 256 := k_mask b1 (255 : Int32) 8 256 (by decide) (by decide) (by decide)
  have : 0 ≤ (b1 &&& (255 : Int32)).toInt ∧ (b1 &&& (255 : Int32)).toInt ≤ 255 := by omega
  have := b32 b2
  have : (b2 &&& (255 : Int32)).toInt = b2.toInt % 256 := k_mask b2 (255 : Int32) 8 256 (by decide) (by decide) (by decide)
  have : 0 ≤ (b2 &&& (255 : Int32)).toInt ∧ (b2 &&& (255 : Int32)).toInt ≤ 255 := by omega
  have := b32 b3
  have : (b3 &&& (255 : Int32)).toInt = b3.toInt % 256 := k_mask b3 (255 : Int32) 8 256 (by decide) (by decide) (by decide)
  have : 0 ≤ (b3 &&& (255 : Int32)).toInt ∧ (b3 &&& (255 : Int32)).toInt ≤ 255 := by omega
  have : (0 : Int32).toInt = 0 := rfl
  have := mt Int32.lt_iff_toInt_lt.mpr hc12_2
  have := Int32.lt_iff_toInt_lt.mp hc31_3
  have := Int32.lt_iff_toInt_lt.mp hc51_4
  have := mt Int32.lt_iff_toInt_lt.mpr hc105_5
  have := Int32.lt_iff_toInt_lt.mp hc112_6
  unfold own_isLen
  exact Or.inr (Or.inr (Or.inr (Or.inr ⟨by omega, by omega, by omega, by omega, by omega⟩)))
set_option maxRecDepth 65536 in
set_option maxHeartbeats 40000000 in
theorem lf1_4 (ofs : Int32) (bs : List Int32) (hof : 0 ≤ ofs.toInt ∧ ofs.toInt ≤ 1) (hln : bs.length = 5) : ¬ (ofs + (1 : Int32)) < 0 ∧ (ofs + (1 : Int32)).toNatClampNeg < bs.length := by
  have := b32 ofs
  have := c_iadd ofs (1 : Int32)
  have := b32 (ofs + (1 : Int32))
  unfold Int32.toNatClampNeg
  try simp only [Int32.lt_iff_toInt_lt, ← Int32.toInt_inj, Int32.reduceToInt, Int64.lt_iff_toInt_lt, ← Int64.toInt_inj, Int64.reduceToInt, true_and, and_true, true_or, or_true, false_or, or_false, false_and, and_false, not_true_eq_false, not_false_eq_true] at *
  omega
set_option maxRecDepth 65536 in
set_option maxHeartbeats 40000000 in
theorem lf1_5 (ofs : Int32) (en : Int32) (b0 : Int32) (b1 : Int32) (b2 : Int32) (b3 : Int32) (i3_1 : Int32) (x9 : Int32) (x12 : Int32) (i7_14 : Int32) (hof : 0 ≤ ofs.toInt ∧ ofs.toInt ≤ 1) (hen : 1 ≤ en.toInt - ofs.toInt ∧ en.toInt - ofs.toInt ≤ 4) (hi3_1 : i3_1 = (b0 &&& (255 : Int32))) (hc12_2 : ¬ (i3_1 < (128 : Int32))) (hc31_3 : i3_1 < (194 : Int32)) (hc51_4 : i3_1 < (224 : Int32)) (hc105_5 : ¬ (i3_1 < (240 : Int32))) (hc112_6 : ¬ ((244 : Int32) < i3_1)) (hjJ8 : ((¬ (i3_1 = (240 : Int32))) ∧ (x9 = (128 : Int32))) ∨ ((i3_1 = (240 : Int32)) ∧ (x9 = (144 : Int32)))) (hjJ11 : ((¬ (i3_1 = (244 : Int32))) ∧ (x12 = (191 : Int32))) ∨ ((i3_1 = (244 : Int32)) ∧ (x12 = (143 : Int32)))) (hc162_13 : ¬ ((en - ofs) < (4 : Int32))) (hi7_14 : i7_14 = (b1 &&& (255 : Int32))) (hc182_15 : i7_14 < x9) : own_isLen (b0 &&& (255 : Int32)).toInt (b1 &&& (255 : Int32)).toInt (b2 &&& (255 : Int32)).toInt (b3 &&& (255 : Int32)).toInt (en.toInt - ofs.toInt) (0 : Int32).toInt := by
  have := b32 en
  have := b32 b0
  have : (255 : Int32).toInt = 255 := rfl
  have : (b0 &&& (255 : Int32)).toInt = b0.toInt % 256 := k_mask b0 (255 : Int32) 8 256 (by decide) (by decide) (by decide)
  have : 0 ≤ (b0 &&& (255 : Int32)).toInt ∧ (b0 &&& (255 : Int32)).toInt ≤ 255 := by omega
  have : i3_1.toInt = (b0 &&& (255 : Int32)).toInt := congrArg Int32.toInt hi3_1
  have : 0 ≤ i3_1.toInt ∧ i3_1.toInt ≤ 255 := by omega
  have : (128 : Int32).toInt = 128 := rfl
  have : (194 : Int32).toInt = 194 := rfl
  have : (224 : Int32).toInt = 224 := rfl
  have : (240 : Int32).toInt = 240 := rfl
  have : (244 : Int32).toInt = 244 := rfl
  have : (144 : Int32).toInt = 144 := rfl
  have := b32 x9
  have : (191 : Int32).toInt = 191 := rfl
  have : (143 : Int32).toInt = 143 := rfl
  have := b32 x12
  have := c_isub en ofs
  have := b32 (en - ofs)
  have : (4 : Int32).toInt = 4 := rfl
  have := b32 b1
  have : (b1 &&& (255 : Int32)).toInt = b1.toInt % 256 := k_mask b1 (255 : Int32) 8 256 (by decide) (by decide) (by decide)
  have : 0 ≤ (b1 &&& (255 : Int32)).toInt ∧ (b1 &&& (255 : Int32)).toInt ≤ 255 := by omega
  have : i7_14.toInt = (b1 &&& (255 : Int32)).toInt := congrArg Int32.toInt hi7_14
  have : 0 ≤ i7_14.toInt ∧ i7_14.toInt ≤ 255 := by omega
  have := b32 b2
  have : (b2 &&& (255 : Int32)).toInt = b2.toInt % 256 := k_mask b2 (255 : Int32) 8 256 (by decide) (by decide) (by decide)
  have : 0 ≤ (b2 &&& (255 : Int32)).toInt ∧ (b2 &&& (255 : Int32)).toInt ≤ 255 := by omega
  have := b32 b3
  have : (b3 &&& (255 : Int32)).toInt = b3.toInt % 256 := k_mask b3 (255 : Int32) 8 256 (by decide) (by decide) (by decide)
  have : 0 ≤ (b3 &&& (255 : Int32)).toInt ∧ (b3 &&& (255 : Int32)).toInt ≤ 255 := by omega
  have : (0 : Int32).toInt = 0 := rfl
  have := mt Int32.lt_iff_toInt_lt.mpr hc12_2
  have := Int32.lt_iff_toInt_lt.mp hc31_3
  have := Int32.lt_iff_toInt_lt.mp hc51_4
  have := mt Int32.lt_iff_toInt_lt.mpr hc105_5
  have := mt Int32.lt_iff_toInt_lt.mpr hc112_6
  simp only [Int32.lt_iff_toInt_lt, ← Int32.toInt_inj] at hjJ8
  simp only [Int32.lt_iff_toInt_lt, ← Int32.toInt_inj] at hjJ11
  have := mt Int32.lt_iff_toInt_lt.mpr hc162_13
  have := Int32.lt_iff_toInt_lt.mp hc182_15
  unfold own_isLen
  exact Or.inr (Or.inr (Or.inr (Or.inr ⟨by omega, by omega, by omega, by omega, by omega⟩)))
set_option maxRecDepth 65536 in
set_option maxHeartbeats 40000000 in
theorem lf1_6 (ofs : Int32) (bs : List Int32) (hof : 0 ≤ ofs.toInt ∧ ofs.toInt ≤ 1) (hln : bs.length = 5) : ¬ (ofs + (2 : Int32)) < 0 ∧ (ofs + (2 : Int32)).toNatClampNeg < bs.length := by
  have := b32 ofs
  have := c_iadd ofs (2 : Int32)
  have := b32 (ofs + (2 : Int32))
  unfold Int32.toNatClampNeg
  try simp only [Int32.lt_iff_toInt_lt, ← Int32.toInt_inj, Int32.reduceToInt, Int64.lt_iff_toInt_lt, ← Int64.toInt_inj, Int64.reduceToInt, true_and, and_true, true_or, or_true, false_or, or_false, false_and, and_false, not_true_eq_false, not_false_eq_true] at *
  omega
set_option maxRecDepth 65536 in
set_option maxHeartbeats 40000000 in
theorem lf1_7 (ofs : Int32) (bs : List Int32) (hof : 0 ≤ ofs.toInt ∧ ofs.toInt ≤ 1) (hln : bs.length = 5) : ¬ (ofs + (3 : Int32)) < 0 ∧ (ofs + (3 : Int32)).toNatClampNeg < bs.length := by
  have := b32 ofs
  have := c_iadd ofs (3 : Int32)
  have := b32 (ofs + (3 : Int32))
  unfold Int32.toNatClampNeg
  try simp only [Int32.lt_iff_toInt_lt, ← Int32.toInt_inj, Int32.reduceToInt, Int64.lt_iff_toInt_lt, ← Int64.toInt_inj, Int64.reduceToInt, true_and, and_true, true_or, or_true, false_or, or_false, false_and, and_false, not_true_eq_false, not_false_eq_true] at *
  omega
set_option maxRecDepth 65536 in
set_option maxHeartbeats 40000000 in
theorem lf1_8 (ofs : Int32) (en : Int32) (b0 : Int32) (b1 : Int32) (b2 : Int32) (b3 : Int32) (i3_1 : Int32) (x9 : Int32) (x12 : Int32) (i7_14 : Int32) (r18 : Int32) (r21 : Int32) (hof : 0 ≤ ofs.toInt ∧ ofs.toInt ≤ 1) (hen : 1 ≤ en.toInt - ofs.toInt ∧ en.toInt - ofs.toInt ≤ 4) (hi3_1 : i3_1 = (b0 &&& (255 : Int32))) (hc12_2 : ¬ (i3_1 < (128 : Int32))) (hc31_3 : i3_1 < (194 : Int32)) (hc51_4 : i3_1 < (224 : Int32)) (hc105_5 : ¬ (i3_1 < (240 : Int32))) (hc112_6 : ¬ ((244 : Int32) < i3_1)) (hjJ8 : ((¬ (i3_1 = (240 : Int32))) ∧ (x9 = (128 : Int32))) ∨ ((i3_1 = (240 : Int32)) ∧ (x9 = (144 : Int32)))) (hjJ11 : ((¬ (i3_1 = (244 : Int32))) ∧ (x12 = (191 : Int32))) ∨ ((i3_1 = (244 : Int32)) ∧ (x12 = (143 : Int32)))) (hc162_13 : ¬ ((en - ofs) < (4 : Int32))) (hi7_14 : i7_14 = (b1 &&& (255 : Int32))) (hc182_15 : ¬ (i7_14 < x9)) (hc189_16 : ¬ (x12 < i7_14)) (hc201_17 : (2 : Int32) < (4 : Int32)) (hr18 : (r18 = (1 : Int32) ∧ (b2 &&& (192 : Int32)) = (128 : Int32)) ∨ (r18 = (0 : Int32) ∧ ¬ ((b2 &&& (192 : Int32)) = (128 : Int32)))) (hc213_19 : ¬ (r18 = 0)) (hc201_20 : (3 : Int32) < (4 : Int32)) (hr21 : (r21 = (1 : Int32) ∧ (b3 &&& (192 : Int32)) = (128 : Int32)) ∨ (r21 = (0 : Int32) ∧ ¬ ((b3 &&& (192 : Int32)) = (128 : Int32)))) (hc213_22 : ¬ (r21 = 0)) (hc201_23 : ¬ ((4 : Int32) < (4 : Int32))) : own_isLen (b0 &&& (255 : Int32)).toInt (b1 &&& (255 : Int32)).toInt (b2 &&& (255 : Int32)).toInt (b3 &&& (255 : Int32)).toInt (en.toInt - ofs.toInt) (4 : Int32).toInt := by
  have := b32 en
  have := b32 b0
  have : (255 : Int32).toInt = 255 := rfl
  have : (b0 &&& (255 : Int32)).toInt = b0.toInt % 256 := k_mask b0 (255 : Int32) 8 256 (by decide) (by decide) (by decide)
  have : 0 ≤ (b0 &&& (255 : Int32)).toInt ∧ (b0 &&& (255 : Int32)).toInt ≤ 255 := by omega
  have : i3_1.toInt = (b0 &&& (255 : Int32)).toInt := congrArg Int32.toInt hi3_1
  have : 0 ≤ i3_1.toInt ∧ i3_1.toInt ≤ 255 := by omega
  have : (128 : Int32).toInt = 128 := rfl
  have : (194 : Int32).toInt = 194 := rfl
  have : (224 : Int32).toInt = 224 := rfl
  have : (240 : Int32).toInt = 240 := rfl
  have : (244 : Int32).toInt = 244 := rfl
  have : (144 : Int32).toInt = 144 := rfl
  have := b32 x9
  have : (191 : Int32).toInt = 191 := rfl
  have : (143 : Int32).toInt = 143 := rfl
  have := b32 x12
  have := c_isub en ofs
  have := b32 (en - ofs)
  have : (4 : Int32).toInt = 4 := rfl
  have := b32 b1
  have : (b1 &&& (255 : Int32)).toInt = b1.toInt % 256 := k_mask b1 (255 : Int32) 8 256 (by decide) (by decide) (by decide)
  have : 0 ≤ (b1 &&& (255 : Int32)).toInt ∧ (b1 &&& (255 : Int32)).toInt ≤ 255 := by omega
  have : i7_14.toInt = (b1 &&& (255 : Int32)).toInt := congrArg Int32.toInt hi7_14
  have : 0 ≤ i7_14.toInt ∧ i7_14.toInt ≤ 255 := by omega
  have : (2 : Int32).toInt = 2 := rfl
  have : (1 : Int32).toInt = 1 := rfl
  have : (192 : Int32).toInt = 192 := rfl
  have := b32 b2
  have : (b2 &&& (192 : Int32)).toInt = b2.toInt % 256 - b2.toInt % 64 := k_field b2 (192 : Int32) (63 : Int32) (255 : Int32) 6 8 64 256 (by decide) (by decide) (by decide) (by decide) (by decide) (by decide) (by decide) (by decide) (by decide) (by decide) (by decide) (by decide)
  have : 0 ≤ (b2 &&& (192 : Int32)).toInt ∧ (b2 &&& (192 : Int32)).toInt ≤ 192 := by omega
  have : (0 : Int32).toInt = 0 := rfl
  have := b32 r18
  have : (3 : Int32).toInt = 3 := rfl
  have := b32 b3
  have : (b3 &&& (192 : Int32)).toInt = b3.toInt % 256 - b3.toInt % 64 := k_field b3 (192 : Int32) (63 : Int32) (255 : Int32) 6 8 64 256 (by decide) (by decide) (by decide) (by decide) (by decide) (by decide) (by decide) (by decide) (by decide) (by decide) (by decide) (by decide)
  have : 0 ≤ (b3 &&& (192 : Int32)).toInt ∧ (b3 &&& (192 : Int32)).toInt ≤ 192 := by omega
  have := b32 r21
  have : (b2 &&& (255 : Int32)).toInt = b2.toInt % 256 := k_mask b2 (255 : Int32) 8 256 (by decide) (by decide) (by decide)
  have : 0 ≤ (b2 &&& (255 : Int32)).toInt ∧ (b2 &&& (255 : Int32)).toInt ≤ 255 := by omega
  have : (b3 &&& (255 : Int32)).toInt = b3.toInt % 256 := k_mask b3 (255 : Int32) 8 256 (by decide) (by decide) (by decide)
  have : 0 ≤ (b3 &&& (255 : Int32)).toInt ∧ (b3 &&& (255 : Int32)).toInt ≤ 255 := by omega
  have := mt Int32.lt_iff_toInt_lt.mpr hc12_2
  have := Int32.lt_iff_toInt_lt.mp hc31_3
  have := Int32.lt_iff_toInt_lt.mp hc51_4
  have := mt Int32.lt_iff_toInt_lt.mpr hc105_5
  have := mt Int32.lt_iff_toInt_lt.mpr hc112_6
  simp only [Int32.lt_iff_toInt_lt, ← Int32.toInt_inj] at hjJ8
  simp only [Int32.lt_iff_toInt_lt, ← Int32.toInt_inj] at hjJ11
  have := mt Int32.lt_iff_toInt_lt.mpr hc162_13
  have := mt Int32.lt_iff_toInt_lt.mpr hc182_15
  have := mt Int32.lt_iff_toInt_lt.mpr hc189_16
  have := Int32.lt_iff_toInt_lt.mp hc201_17
  simp only [Int32.lt_iff_toInt_lt, ← Int32.toInt_inj] at hr18
  have := mt Int32.toInt_inj.mp hc213_19
  have := Int32.lt_iff_toInt_lt.mp hc201_20
  simp only [Int32.lt_iff_toInt_lt, ← Int32.toInt_inj] at hr21
  have := mt Int32.toInt_inj.mp hc213_22
  have := mt Int32.lt_iff_toInt_lt.mpr hc201_23
  unfold own_isLen
  exact Or.inr (Or.inr (Or.inr (Or.inl ⟨by omega, by omega, by omega, by omega, by omega, by omega, by omega, by omega, by omega, by omega, by omega, by omega⟩)))
set_option maxRecDepth 65536 in
set_option maxHeartbeats 40000000 in
theorem lf1_9 (ofs : Int32) (en : Int32) (b0 : Int32) (b1 : Int32) (b2 : Int32) (b3 : Int32) (i3_1 : Int32) (x9 : Int32) (x12 : Int32) (i7_14 : Int32) (r18 : Int32) (r21 : Int32) (hof : 0 ≤ ofs.toInt ∧ ofs.toInt ≤ 1) (hen : 1 ≤ en.toInt - ofs.toInt ∧ en.toInt - ofs.toInt ≤ 4) (hi3_1 : i3_1 = (b0 &&& (255 : Int32))) (hc12_2 : ¬ (i3_1 < (128 : Int32))) (hc31_3 : i3_1 < (194 : Int32)) (hc51_4 : i3_1 < (224 : Int32)) (hc105_5 : ¬ (i3_1 < (240 : Int32))) (hc112_6 : ¬ ((244 : Int32) < i3_1)) (hjJ8 : ((¬ (i3_1 = (240 : Int32))) ∧ (x9 = (128 : Int32))) ∨ ((i3_1 = (240 : Int32)) ∧ (x9 = (144 : Int32)))) (hjJ11 : ((¬ (i3_1 = (244 : Int32))) ∧ (x12 = (191 : Int32))) ∨ ((i3_1 = (244 : Int32)) ∧ (x12 = (143 : Int32)))) (hc162_13 : ¬ ((en - ofs) < (4 : Int32))) (hi7_14 : i7_14 = (b1 &&& (255 : Int32))) (hc182_15 : ¬ (i7_14 < x9)) (hc189_16 : ¬ (x12 < i7_14)) (hc201_17 : (2 : Int32) < (4 : Int32)) (hr18 : (r18 = (1 : Int32) ∧ (b2 &&& (192 : Int32)) = (128 : Int32)) ∨ (r18 = (0 : Int32) ∧ ¬ ((b2 &&& (192 : Int32)) = (128 : Int32)))) (hc213_19 : ¬ (r18 = 0)) (hc201_20 : (3 : Int32) < (4 : Int32)) (hr21 : (r21 = (1 : Int32) ∧ (b3 &&& (192 : Int32)) = (128 : Int32)) ∨ (r21 = (0 : Int32) ∧ ¬ ((b3 &&& (192 : Int32)) = (128 : Int32)))) (hc213_22 : r21 = 0) : own_isLen (b0 &&& (255 : Int32)).toInt (b1 &&& (255 : Int32)).toInt (b2 &&& (255 : Int32)).toInt (b3 &&& (255 : Int32)).toInt (en.toInt - ofs.toInt) (0 : Int32).toInt := by
  have := b32 en
  have := b32 b0
  have : (255 : Int32).toInt = 255 := rfl
  have : (b0 &&& (255 : Int32)).toInt = b0.toInt % 256 := k_mask b0 (255 : Int32) 8 256 (by decide) (by decide) (by decide)
  have : 0 ≤ (b0 &&& (255 : Int32)).toInt ∧ (b0 &&& (255 : Int32)).toInt ≤ 255 := by omega
  have : i3_1.toInt = (b0 &&& (255 : Int32)).toInt := congrArg Int32.toInt hi3_1
  have : 0 ≤ i3_1.toInt ∧ i3_1.toInt ≤ 255 := by omega
  have : (128 : Int32).toInt = 128 := rfl
  have : (194 : Int32).toInt = 194 := rfl
  have : (224 : Int32).toInt = 224 := rfl
  have : (240 : Int32).toInt = 240 := rfl
  have : (244 : Int32).toInt = 244 := rfl
  have : (144 : Int32).toInt = 144 := rfl
  have := b32 x9
  have : (191 : Int32).toInt = 191 := rfl
  have : (143 : Int32).toInt = 143 := rfl
  have := b32 x12
  have := c_isub en ofs
  have := b32 (en - ofs)
  have : (4 : Int32).toInt = 4 := rfl
  have := b32 b1
  have : (b1 &&& (255 : Int32)).toInt = b1.toInt % 256 := k_mask b1 (255 : Int32) 8 256 (by decide) (by decide) (by decide)
  have : 0 ≤ (b1 &&& (255 : Int32)).toInt ∧ (b1 &&& (255 : Int32)).toInt ≤ 255 := by omega
  have : i7_14.toInt = (b1 &&& (255 : Int32)).toInt := congrArg Int32.toInt hi7_14
  have : 0 ≤ i7_14.toInt ∧ i7_14.toInt ≤ 255 := by omega
  have : (2 : Int32).toInt = 2 := rfl
  have : (1 : Int32).toInt = 1 := rfl
  have : (192 : Int32).toInt = 192 := rfl
  have := b32 b2
  have : (b2 &&& (192 : Int32)).toInt = b2.toInt % 256 - b2.toInt % 64 := k_field b2 (192 : Int32) (63 : Int32) (255 : Int32) 6 8 64 256 (by decide) (by decide) (by decide) (by decide) (by decide) (by decide) (by decide) (by decide) (by decide) (by decide) (by decide) (by decide)
  have : 0 ≤ (b2 &&& (192 : Int32)).toInt ∧ (b2 &&& (192 : Int32)).toInt ≤ 192 := by omega
  have : (0 : Int32).toInt = 0 := rfl
  have := b32 r18
  have : (3 : Int32).toInt = 3 := rfl
  have := b32 b3
  have : (b3 &&& (192 : Int32)).toInt = b3.toInt % 256 - b3.toInt % 64 := k_field b3 (192 : Int32) (63 : Int32) (255 : Int32) 6 8 64 256 (by decide) (by decide) (by decide) (by decide) (by decide) (by decide) (by decide) (by decide) (by decide) (by decide) (by decide) (by decide)
  have : 0 ≤ (b3 &&& (192 : Int32)).toInt ∧ (b3 &&& (192 : Int32)).toInt ≤ 192 := by omega
  have := b32 r21
  have : (b2 &&& (255 : Int32)).toInt = b2.toInt % 256 := k_mask b2 (255 : Int32) 8 256 (by decide) (by decide) (by decide)
  have : 0 ≤ (b2 &&& (255 : Int32)).toInt ∧ (b2 &&& (255 : Int32)).toInt ≤ 255 := by omega
  have : (b3 &&& (255 : Int32)).toInt = b3.toInt % 256 := k_mask b3 (255 : Int32) 8 256 (by decide) (by decide) (by decide)
  have : 0 ≤ (b3 &&& (255 : Int32)).toInt ∧ (b3 &&& (255 : Int32)).toInt ≤ 255 := by omega
  have := mt Int32.lt_iff_toInt_lt.mpr hc12_2
  have := Int32.lt_iff_toInt_lt.mp hc31_3
  have := Int32.lt_iff_toInt_lt.mp hc51_4
  have := mt Int32.lt_iff_toInt_lt.mpr hc105_5
  have := mt Int32.lt_iff_toInt_lt.mpr hc112_6
  simp only [Int32.lt_iff_toInt_lt, ← Int32.toInt_inj] at hjJ8
  simp only [Int32.lt_iff_toInt_lt, ← Int32.toInt_inj] at hjJ11
  have := mt Int32.lt_iff_toInt_lt.mpr hc162_13
  have := mt Int32.lt_iff_toInt_lt.mpr hc182_15
  have := mt Int32.lt_iff_toInt_lt.mpr hc189_16
  have := Int32.lt_iff_toInt_lt.mp hc201_17
  simp only [Int32.lt_iff_toInt_lt, ← Int32.toInt_inj] at hr18
  have := mt Int32.toInt_inj.mp hc213_19
  have := Int32.lt_iff_toInt_lt.mp hc201_20
  simp only [Int32.lt_iff_toInt_lt, ← Int32.toInt_inj] at hr21
  have := congrArg Int32.toInt hc213_22
  unfold own_isLen
  exact Or.inr (Or.inr (Or.inr (Or.inr ⟨by omega, by omega, by omega, by omega, by omega⟩)))
set_option maxRecDepth 65536 in
set_option maxHeartbeats 40000000 in
theorem lf1_10 (ofs : Int32) (en : Int32) (b0 : Int32) (b1 : Int32) (b2 : Int32) (b3 : Int32) (i3_1 : Int32) (x9 : Int32) (x12 : Int32) (i7_14 : Int32) (r18 : Int32) (hof : 0 ≤ ofs.toInt ∧ ofs.toInt ≤ 1) (hen : 1 ≤ en.toInt - ofs.toInt ∧ en.toInt - ofs.toInt ≤ 4) (hi3_1 : i3_1 = (b0 &&& (255 : Int32))) (hc12_2 : ¬ (i3_1 < (128 : Int32))) (hc31_3 : i3_1 < (194 : Int32)) (hc51_4 : i3_1 < (224 : Int32)) (hc105_5 : ¬ (i3_1 < (240 : Int32))) (hc112_6 : ¬ ((244 : Int32) < i3_1)) (hjJ8 : ((¬ (i3_1 = (240 : Int32))) ∧ (x9 = (128 : Int32))) ∨ ((i3_1 = (240 : Int32)) ∧ (x9 = (144 : Int32)))) (hjJ11 : ((¬ (i3_1 = (244 : Int32))) ∧ (x12 = (191 : Int32))) ∨ ((i3_1 = (244 : Int32)) ∧ (x12 = (143 : Int32)))) (hc162_13 : ¬ ((en - ofs) < (4 : Int32))) (hi7_14 : i7_14 = (b1 &&& (255 : Int32))) (hc182_15 : ¬ (i7_14 < x9)) (hc189_16 : ¬ (x12 < i7_14)) (hc201_17 : (2 : Int32) < (4 : Int32)) (hr18 : (r18 = (1 : Int32) ∧ (b2 &&& (192 : Int32)) = (128 : Int32)) ∨ (r18 = (0 : Int32) ∧ ¬ ((b2 &&& (192 : Int32)) = (128 : Int32)))) (hc213_19 : r18 = 0) : own_isLen (b0 &&& (255 : Int32)).toInt (b1 &&& (255 : Int32)).toInt (b2 &&& (255 : Int32)).toInt (b3 &&& (255 : Int32)).toInt (en.toInt - ofs.toInt) (0 : Int32).toInt := by
  have := b32 en
  have := b32 b0
  have : (255 : Int32).toInt = 255 := rfl
  have : (b0 &&& (255 : Int32)).toInt = b0.toInt % 256 := k_mask b0 (255 : Int32) 8 256 (by decide) (by decide) (by decide)
  have : 0 ≤ (b0 &&& (255 : Int32)).toInt ∧ (b0 &&& (255 : Int32)).toInt ≤ 255 := by omega
  have : i3_1.toInt = (b0 &&& (255 : Int32)).toInt := congrArg Int32.toInt hi3_1
  have : 0 ≤ i3_1.toInt ∧ i3_1.toInt ≤ 255 := by omega
  have : (128 : Int32).toInt = 128 := rfl
  have : (194 : Int32).toInt = 194 := rfl
  have : (224 : Int32).toInt = 224 := rfl
  have : (240 : Int32).toInt = 240 := rfl
  have : (244 : Int32).toInt = 244 := rfl
  have : (144 : Int32).toInt = 144 := rfl
  have := b32 x9
  have : (191 : Int32).toInt = 191 := rfl
  have : (143 : Int32).toInt = 143 := rfl
  have := b32 x12
  have := c_isub en ofs
  have := b32 (en - ofs)
  have : (4 : Int32).toInt = 4 := rfl
  have := b32 b1
  have : (b1 &&& (255 : Int32)).toInt = b1.toInt % 256 := k_mask b1 (255 : Int32) 8 256 (by decide) (by decide) (by decide)
  have : 0 ≤ (b1 &&& (255 : Int32)).toInt ∧ (b1 &&& (255 : Int32)).toInt ≤ 255 := by omega
  have : i7_14.toInt = (b1 &&& (255 : Int32)).toInt := congrArg Int32.toInt hi7_14
  have : 0 ≤ i7_14.toInt ∧ i7_14.toInt ≤ 255 := by omega
  have : (2 : Int32).toInt = 2 := rfl
  have : (1 : Int32).toInt = 1 := rfl
  have : (192 : Int32).toInt = 192 := rfl
  have := b32 b2
  have : (b2 &&& (192 : Int32)).toInt = b2.toInt % 256 - b2.toInt % 64 := k_field b2 (192 : Int32) (63 : Int32) (255 : Int32) 6 8 64 256 (by decide) (by decide) (by decide) (by decide) (by decide) (by decide) (by decide) (by decide) (by decide) (by decide) (by decide) (by decide)
  have : 0 ≤ (b2 &&& (192 : Int32)).toInt ∧ (b2 &&& (192 : Int32)).toInt ≤ 192 := by omega
  have : (0 : Int32).toInt = 0 := rfl
  have := b32 r18
  have : (b2 &&& (255 : Int32)).toInt = b2.toInt % 256 := k_mask b2 (255 : Int32) 8 256 (by decide) (by decide) (by decide)
  have : 0 ≤ (b2 &&& (255 : Int32)).toInt ∧ (b2 &&& (255 : Int32)).toInt ≤ 255 := by omega
  have := b32 b3
  have : (b3 &&& (255 : Int32)).toInt = b3.toInt % 256 := k_mask b3 (255 : Int32) 8 256 (by decide) (by decide) (by decide)
  have : 0 ≤ (b3 &&& (255 : Int32)).toInt ∧ (b3 &&& (255 : Int32)).toInt ≤ 255 := by omega
  have := mt Int32.lt_iff_toInt_lt.mpr hc12_2
  have := Int32.lt_iff_toInt_lt.mp hc31_3
  have := Int32.lt_iff_toInt_lt.mp hc51_4
  have := mt Int32.lt_iff_toInt_lt.mpr hc105_5
  have := mt Int32.lt_iff_toInt_lt.mpr hc112_6
  simp only [Int32.lt_iff_toInt_lt, ← Int32.toInt_inj] at hjJ8
  simp only [Int32.lt_iff_toInt_lt, ← Int32.toInt_inj] at hjJ11
  have := mt Int32.lt_iff_toInt_lt.mpr hc162_13
  have := mt Int32.lt_iff_toInt_lt.mpr hc182_15
  have := mt Int32.lt_iff_toInt_lt.mpr hc189_16
  have := Int32.lt_iff_toInt_lt.mp hc201_17
  simp only [Int32.lt_iff_toInt_lt, ← Int32.toInt_inj] at hr18
  have := congrArg Int32.toInt hc213_19
  unfold own_isLen
  exact Or.inr (Or.inr (Or.inr (Or.inr ⟨by omega, by omega, by omega, by omega, by omega⟩)))
set_option maxRecDepth 65536 in
set_option maxHeartbeats 40000000 in
theorem lf1_11 (ofs : Int32) (en : Int32) (b0 : Int32) (b1 : Int32) (b2 : Int32) (b3 : Int32) (i3_1 : Int32) (x9 : Int32) (x12 : Int32) (i7_14 : Int32) (hof : 0 ≤ ofs.toInt ∧ ofs.toInt ≤ 1) (hen : 1 ≤ en.toInt - ofs.toInt ∧ en.toInt - ofs.toInt ≤ 4) (hi3_1 : i3_1 = (b0 &&& (255 : Int32))) (hc12_2 : ¬ (i3_1 < (128 : Int32))) (hc31_3 : i3_1 < (194 : Int32)) (hc51_4 : i3_1 < (224 : Int32)) (hc105_5 : ¬ (i3_1 < (240 : Int32))) (hc112_6 : ¬ ((244 : Int32) < i3_1)) (hjJ8 : ((¬ (i3_1 = (240 : Int32))) ∧ (x9 = (128 : Int32))) ∨ ((i3_1 = (240 : Int32)) ∧ (x9 = (144 : Int32)))) (hjJ11 : ((¬ (i3_1 = (244 : Int32))) ∧ (x12 = (191 : Int32))) ∨ ((i3_1 = (244 : Int32)) ∧ (x12 = (143 : Int32)))) (hc162_13 : ¬ ((en - ofs) < (4 : Int32))) (hi7_14 : i7_14 = (b1 &&& (255 : Int32))) (hc182_15 : ¬ (i7_14 < x9)) (hc189_16 : x12 < i7_14) : own_isLen (b0 &&& (255 : Int32)).toInt (b1 &&& (255 : Int32)).toInt (b2 &&& (255 : Int32)).toInt (b3 &&& (255 : Int32)).toInt (en.toInt - ofs.toInt) (0 : Int32).toInt := by
  have := b32 en
  have := b32 b0
  have : (255 : Int32).toInt = 255 := rfl
  have : (b0 &&& (255 : Int32)).toInt = b0.toInt % 256 := k_mask b0 (255 : Int32) 8 256 (by decide) (by decide) (by decide)
  have : 0 ≤ (b0 &&& (255 : Int32)).toInt ∧ (b0 &&& (255 : Int32)).toInt ≤ 255 := by omega
  have : i3_1.toInt = (b0 &&& (255 : Int32)).toInt := congrArg Int32.toInt hi3_1
  have : 0 ≤ i3_1.toInt ∧ i3_1.toInt ≤ 255 := by omega
  have : (128 : Int32).toInt = 128 := rfl
  have : (194 : Int32).toInt = 194 := rfl
  have : (224 : Int32).toInt = 224 := rfl
  have : (240 : Int32).toInt = 240 := rfl
  have : (244 : Int32).toInt = 244 := rfl
  have : (144 : Int32).toInt = 144 := rfl
  have := b32 x9
  have : (191 : Int32).toInt = 191 := rfl
  have : (143 : Int32).toInt = 143 := rfl
  have := b32 x12
  have := c_isub en ofs
  have := b32 (en - ofs)
  have : (4 : Int32).toInt = 4 := rfl
  have := b32 b1
  have : (b1 &&& (255 : Int32)).toInt = b1.toInt % 256 := k_mask b1 (255 : Int32) 8 256 (by decide) (by decide) (by decide)
  have : 0 ≤ (b1 &&& (255 : Int32)).toInt ∧ (b1 &&& (255 : Int32)).toInt ≤ 255 := by omega
  have : i7_14.toInt = (b1 &&& (255 : Int32)).toInt := congrArg Int32.toInt hi7_14
  have : 0 ≤ i7_14.toInt ∧ i7_14.toInt ≤ 255 := by omega
  have := b32 b2
  have : (b2 &&& (255 : Int32)).toInt = b2.toInt % 256 := k_mask b2 (255 : Int32) 8 256 (by decide) (by decide) (by decide)
  have : 0 ≤ (b2 &&& (255 : Int32)).toInt ∧ (b2 &&& (255 : Int32)).toInt ≤ 255 := by omega
  have := b32 b3
  have : (b3 &&& (255 : Int32)).toInt = b3.toInt % 256 := k_mask b3 (255 : Int32) 8 256 (by decide) (by decide) (by decide)
  have : 0 ≤ (b3 &&& (255 : Int32)).toInt ∧ (b3 &&& (255 : Int32)).toInt ≤ 255 := by omega
  have : (0 : Int32).toInt = 0 := rfl
  have := mt Int32.lt_iff_toInt_lt.mpr hc12_2
  have := Int32.lt_iff_toInt_lt.mp hc31_3
  have := Int32.lt_iff_toInt_lt.mp hc51_4
  have := mt Int32.lt_iff_toInt_lt.mpr hc105_5
  have := mt Int32.lt_iff_toInt_lt.mpr hc112_6
  simp only [Int32.lt_iff_toInt_lt, ← Int32.toInt_inj] at hjJ8
  simp only [Int32.lt_iff_toInt_lt, ← Int32.toInt_inj] at hjJ11
  have := mt Int32.lt_iff_toInt_lt.mpr hc162_13
  have := mt Int32.lt_iff_toInt_lt.mpr hc182_15
  have := Int32.lt_iff_toInt_lt.mp hc189_16
  unfold own_isLen
  exact Or.inr (Or.inr (Or.inr (Or.inr ⟨by omega, by omega, by omega, by omega, by omega⟩)))
set_option maxRecDepth 65536 in
set_option maxHeartbeats 40000000 in
theorem lf1_12 (ofs : Int32) (en : Int32) (b0 : Int32) (b1 : Int32) (b2 : Int32) (b3 : Int32) (i3_1 : Int32) (x9 : Int32) (x12 : Int32) (hof : 0 ≤ ofs.toInt ∧ ofs.toInt ≤ 1) (hen : 1 ≤ en.toInt - ofs.toInt ∧ en.toInt - ofs.toInt ≤ 4) (hi3_1 : i3_1 = (b0 &&& (255 : Int32))) (hc12_2 : ¬ (i3_1 < (128 : Int32))) (hc31_3 : i3_1 < (194 : Int32)) (hc51_4 : i3_1 < (224 : Int32)) (hc105_5 : ¬ (i3_1 < (240 : Int32))) (hc112_6 : ¬ ((244 : Int32) < i3_1)) (hjJ8 : ((¬ (i3_1 = (240 : Int32))) ∧ (x9 = (128 : Int32))) ∨ ((i3_1 = (240 : Int32)) ∧ (x9 = (144 : Int32)))) (hjJ11 : ((¬ (i3_1 = (244 : Int32))) ∧ (x12 = (191 : Int32))) ∨ ((i3_1 = (244 : Int32)) ∧ (x12 = (143 : Int32)))) (hc162_13 : (en - ofs) < (4 : Int32)) : own_isLen (b0 &&& (255 : Int32)).toInt (b1 &&& (255 : Int32)).toInt (b2 &&& (255 : Int32)).toInt (b3 &&& (255 : Int32)).toInt (en.toInt - ofs.toInt) (0 : Int32).toInt := by
  have := b32 en
  have := b32 b0
  have : (255 : Int32).toInt = 255 := rfl
  have : (b0 &&& (255 : Int32)).toInt = b0.toInt % 256 := k_mask b0 (255 : Int32) 8 256 (by decide) (by decide) (by decide)
  have : 0 ≤ (b0 &&& (255 : Int32)).toInt ∧ (b0 &&& (255 : Int32)).toInt ≤ 255 := by omega
  have : i3_1.toInt = (b0 &&& (255 : Int32)).toInt := congrArg Int32.toInt hi3_1
  have : 0 ≤ i3_1.toInt ∧ i3_1.toInt ≤ 255 := by omega
  have : (128 : Int32).toInt = 128 := rfl
  have : (194 : Int32).toInt = 194 := rfl
  have : (224 : Int32).toInt = 224 := rfl
  have : (240 : Int32).toInt = 240 := rfl
  have : (244 : Int32).toInt = 244 := rfl
  have : (144 : Int32).toInt = 144 := rfl
  have := b32 x9
  have : (191 : Int32).toInt = 191 := rfl
  have : (143 : Int32).toInt = 143 := rfl
  have := b32 x12
  have := c_isub en ofs
  have := b32 (en - ofs)
  have : (4 : Int32).toInt = 4 := rfl
  have := b32 b1
  have : (b1 &&& (255 : Int32)).toInt = b1.toInt % 256 := k_mask b1 (255 : Int32) 8 256 (by decide) (by decide) (by decide)
  have : 0 ≤ (b1 &&& (255 : Int32)).toInt ∧ (b1 &&& (255 : Int32)).toInt ≤ 255 := by omega
  have := b32 b2
  have : (b2 &&& (255 : Int32)).toInt = b2.toInt % 256 := k_mask b2 (255 : Int32) 8 256 (by decide) (by decide) (by decide)
  have : 0 ≤ (b2 &&& (255 : Int32)).toInt ∧ (b2 &&& (255 : Int32)).toInt ≤ 255 := by omega
  have := b32 b3
  have : (b3 &&& (255 : Int32)).toInt = b3.toInt % 256 := k_mask b3 (255 : Int32) 8 256 (by decide) (by decide) (by decide)
  have : 0 ≤ (b3 &&& (255 : Int32)).toInt ∧ (b3 &&& (255 : Int32)).toInt ≤ 255 := by omega
  have : (0 : Int32).toInt = 0 := rfl
  have := mt Int32.lt_iff_toInt_lt.mpr hc12_2
  have := Int32.lt_iff_toInt_lt.mp hc31_3
  have := Int32.lt_iff_toInt_lt.mp hc51_4
  have := mt Int32.lt_iff_toInt_lt.mpr hc105_5
  have := mt Int32.lt_iff_toInt_lt.mpr hc112_6
  simp only [Int32.lt_iff_toInt_lt, ← Int32.toInt_inj] at hjJ8
  simp only [Int32.lt_iff_toInt_lt, ← Int32.toInt_inj] at hjJ11
  have := Int32.lt_iff_toInt_lt.mp hc162_13
  unfold own_isLen
  exact Or.inr (Or.inr (Or.inr (Or.inr ⟨by omega, by omega, by omega, by omega, by omega⟩)))
set_option maxRecDepth 65536 in
set_option maxHeartbeats 40000000 in
theorem lf1_13 (ofs : Int32) (en : Int32) (b0 : Int32) (b1 : Int32) (b2 : Int32) (b3 : Int32) (i3_1 : Int32) (hof : 0 ≤ ofs.toInt ∧ ofs.toInt ≤ 1) (hen : 1 ≤ en.toInt - ofs.toInt ∧ en.toInt - ofs.toInt ≤ 4) (hi3_1 : i3_1 = (b0 &&& (255 : Int32))) (hc12_2 : ¬ (i3_1 < (128 : Int32))) (hc31_3 : i3_1 < (194 : Int32)) (hc51_4 : ¬ (i3_1 < (224 : Int32))) (hc58_24 : (239 : Int32) < i3_1) (hc105_25 : i3_1 < (240 : Int32)) : own_isLen (b0 &&& (255 : Int32)).toInt (b1 &&& (255 : Int32)).toInt (b2 &&& (255 : Int32)).toInt (b3 &&& (255 : Int32)).toInt (en.toInt - ofs.toInt) (0 : Int32).toInt := by
  have := b32 en
  have := b32 b0
  have : (255 : Int32).toInt = 255 := rfl
  have : (b0 &&& (255 : Int32)).toInt = b0.toInt % 256 := k_mask b0 (255 : Int32) 8 256 (by decide) (by decide) (by decide)
  have : 0 ≤ (b0 &&& (255 : Int32)).toInt ∧ (b0 &&& (255 : Int32)).toInt ≤ 255 := by omega
  have : i3_1.toInt = (b0 &&& (255 : Int32)).toInt := congrArg Int32.toInt hi3_1
  have : 0 ≤ i3_1.toInt ∧ i3_1.toInt ≤ 255 := by omega
  have : (128 : Int32).toInt = 128 := rfl
  have : (194 : Int32).toInt = 194 := rfl
  have : (224 : Int32).toInt = 224 := rfl
  have : (239 : Int32).toInt = 239 := rfl
  have : (240 : Int32).toInt = 240 := rfl
  have := b32 b1
  have : (b1 &&& (255 : Int32)).toInt = b1.toInt % 256 := k_mask b1 (255 : Int32) 8 256 (by decide) (by decide) (by decide)
  have : 0 ≤ (b1 &&& (255 : Int32)).toInt ∧ (b1 &&& (255 : Int32)).toInt ≤ 255 := by omega
  have := b32 b2
  have : (b2 &&& (255 : Int32)).toInt = b2.toInt % 256 := k_mask b2 (255 : Int32) 8 256 (by decide) (by decide) (by decide)
  have : 0 ≤ (b2 &&& (255 : Int32)).toInt ∧ (b2 &&& (255 : Int32)).toInt ≤ 255 := by omega
  have := b32 b3
  have : (b3 &&& (255 : Int32)).toInt = b3.toInt % 256 := k_mask b3 (255 : Int32) 8 256 (by decide) (by decide) (by decide)
  have : 0 ≤ (b3 &&& (255 : Int32)).toInt ∧ (b3 &&& (255 : Int32)).toInt ≤ 255 := by omega
  have : (0 : Int32).toInt = 0 := rfl
  have := mt Int32.lt_iff_toInt_lt.mpr hc12_2
  have := Int32.lt_iff_toInt_lt.mp hc31_3
  have := mt Int32.lt_iff_toInt_lt.mpr hc51_4
  have := Int32.lt_iff_toInt_lt.mp hc58_24
  have := Int32.lt_iff_toInt_lt.mp hc105_25
  unfold own_isLen
  exact Or.inr (Or.inr (Or.inr (Or.inr ⟨by omega, by omega, by omega, by omega, by omega⟩)))
set_option maxRecDepth 65536 in
set_option maxHeartbeats 40000000 in
theorem lf1_14 (ofs : Int32) (en : Int32) (b0 : Int32) (b1 : Int32) (b2 : Int32) (b3 : Int32) (i3_1 : Int32) (hof : 0 ≤ ofs.toInt ∧ ofs.toInt ≤ 1) (hen : 1 ≤ en.toInt - ofs.toInt ∧ en.toInt - ofs.toInt ≤ 4) (hi3_1 : i3_1 = (b0 &&& (255 : Int32))) (hc12_2 : ¬ (i3_1 < (128 : Int32))) (hc31_3 : i3_1 < (194 : Int32)) (hc51_4 : ¬ (i3_1 < (224 : Int32))) (hc58_24 : (239 : Int32) < i3_1) (hc105_25 : ¬ (i3_1 < (240 : Int32))) (hc112_26 : (244 : Int32) < i3_1) : own_isLen (b0 &&& (255 : Int32)).toInt (b1 &&& (255 : Int32)).toInt (b2 &&& (255 : Int32)).toInt (b3 &&& (255 : Int32)).toInt (en.toInt - ofs.toInt) (0 : Int32).toInt := by
  have := b32 en
  have := b32 b0
  have : (255 : Int32).toInt = 255 := rfl
  have : (b0 &&& (255 : Int32)).toInt = b0.toInt % 256 := k_mask b0 (255 : Int32) 8 256 (by decide) (by decide) (by decide)
  have : 0 ≤ (b0 &&& (255 : Int32)).toInt ∧ (b0 &&& (255 : Int32)).toInt ≤ 255 := by omega
  have : i3_1.toInt = (b0 &&& (255 : Int32)).toInt := congrArg Int32.toInt hi3_1
  have : 0 ≤ i3_1.toInt ∧ i3_1.toInt ≤ 255 := by omega
  have : (128 : Int32).toInt = 128 := rfl
  have : (194 : Int32).toInt = 194 := rfl
  have : (224 : Int32).toInt = 224 := rfl
  have : (239 : Int32).toInt = 239 := rfl
  have : (240 : Int32).toInt = 240 := rfl
  have : (244 : Int32).toInt = 244 := rfl
  have := b32 b1
  have : (b1 &&& (255 : Int32)).toInt = b1.toInt % 256 := k_mask b1 (255 : Int32) 8 256 (by decide) (by decide) (by decide)
  have : 0 ≤ (b1 &&& (255 : Int32)).toInt ∧ (b1 &&& (255 : Int32)).toInt ≤ 255 := by omega
  have := b32 b2
  have : (b2 &&& (255 : Int32)).toInt = b2.toInt % 256 := k_mask b2 (255 : Int32) 8 256 (by decide) (by decide) (by decide)
  have : 0 ≤ (b2 &&& (255 : Int32)).toInt ∧ (b2 &&& (255 : Int32)).toInt ≤ 255 := by omega
  have := b32 b3
  have : (b3 &&& (255 : Int32)).toInt = b3.toInt % 256 := k_mask b3 (255 : Int32) 8 256 (by decide) (by decide) (by decide)
  have : 0 ≤ (b3 &&& (255 : Int32)).toInt ∧ (b3 &&& (255 : Int32)).toInt ≤ 255 := by omega
  have : (0 : Int32).toInt = 0 := rfl
  have := mt Int32.lt_iff_toInt_lt.mpr hc12_2
  have := Int32.lt_iff_toInt_lt.mp hc31_3
  have := mt Int32.lt_iff_toInt_lt.mpr hc51_4
  have := Int32.lt_iff_toInt_lt.mp hc58_24
  have := mt Int32.lt_iff_toInt_lt.mpr hc105_25
  have := Int32.lt_iff_toInt_lt.mp hc112_26
  unfold own_isLen
  exact Or.inr (Or.inr (Or.inr (Or.inr ⟨by omega, by omega, by omega, by omega, by omega⟩)))
set_option maxRecDepth 65536 in
set_option maxHeartbeats 40000000 in
theorem lf1_15 (ofs : Int32) (bs : List Int32) (hof : 0 ≤ ofs.toInt ∧ ofs.toInt ≤ 1) (hln : bs.length = 5) : ¬ (ofs + (1 : Int32)) < 0 ∧ (ofs + (1 : Int32)).toNatClampNeg < bs.length := by
  have := b32 ofs
  have := c_iadd ofs (1 : Int32)
  have := b32 (ofs + (1 : Int32))
  unfold Int32.toNatClampNeg
  try simp only [Int32.lt_iff_toInt_lt, ← Int32.toInt_inj, Int32.reduceToInt, Int64.lt_iff_toInt_lt, ← Int64.toInt_inj, Int64.reduceToInt, true_and, and_true, true_or, or_true, false_or, or_false, false_and, and_false, not_true_eq_false, not_false_eq_true] at *
  omega
set_option maxRecDepth 65536 in
set_option maxHeartbeats 40000000 in
theorem lf1_16 (ofs : Int32) (en : Int32) (b0 : Int32) (b1 : Int32) (b2 : Int32) (b3 : Int32) (i3_1 : Int32) (x29 : Int32) (x32 : Int32) (i7_34 : Int32) (hof : 0 ≤ ofs.toInt ∧ ofs.toInt ≤ 1) (hen : 1 ≤ en.toInt - ofs.toInt ∧ en.toInt - ofs.toInt ≤ 4) (hi3_1 : i3_1 = (b0 &&& (255 : Int32))) (hc12_2 : ¬ (i3_1 < (128 : Int32))) (hc31_3 : i3_1 < (194 : Int32)) (hc51_4 : ¬ (i3_1 < (224 : Int32))) (hc58_24 : (239 : Int32) < i3_1) (hc105_25 : ¬ (i3_1 < (240 : Int32))) (hc112_26 : ¬ ((244 : Int32) < i3_1)) (hjJ28 : ((¬ (i3_1 = (240 : Int32))) ∧ (x29 = (128 : Int32))) ∨ ((i3_1 = (240 : Int32)) ∧ (x29 = (144 : Int32)))) (hjJ31 : ((¬ (i3_1 = (244 : Int32))) ∧ (x32 = (191 : Int32))) ∨ ((i3_1 = (244 : Int32)) ∧ (x32 = (143 : Int32)))) (hc162_33 : ¬ ((en - ofs) < (4 : Int32))) (hi7_34 : i7_34 = (b1 &&& (255 : Int32))) (hc182_35 : i7_34 < x29) : own_isLen (b0 &&& (255 : Int32)).toInt (b1 &&& (255 : Int32)).toInt (b2 &&& (255 : Int32)).toInt (b3 &&& (255 : Int32)).toInt (en.toInt - ofs.toInt) (0 : Int32).toInt := by
  have := b32 en
  have := b32 b0
  have : (255 : Int32).toInt = 255 := rfl
  have : (b0 &&& (255 : Int32)).toInt = b0.toInt % 256 := k_mask b0 (255 : Int32) 8 256 (by decide) (by decide) (by decide)
  have : 0 ≤ (b0 &&& (255 : Int32)).toInt ∧ (b0 &&& (255 : Int32)).toInt ≤ 255 := by omega
  have : i3_1.toInt = (b0 &&& (255 : Int32)).toInt := congrArg Int32.toInt hi3_1
  have : 0 ≤ i3_1.toInt ∧ i3_1.toInt ≤ 255 := by omega
  have : (128 : Int32).toInt = 128 := rfl
  have : (194 : Int32).toInt = 194 := rfl
  have : (224 : Int32).toInt = 224 := rfl
  have : (239 : Int32).toInt = 239 := rfl
  have : (240 : Int32).toInt = 240 := rfl
  have : (244 : Int32).toInt = 244 := rfl
  have : (144 : Int32).toInt = 144 := rfl
  have := b32 x29
  have : (191 : Int32).toInt = 191 := rfl
  have : (143 : Int32).toInt = 143 := rfl
  have := b32 x32
  have := c_isub en ofs
  have := b32 (en - ofs)
  have : (4 : Int32).toInt = 4 := rfl
  have := b32 b1
  have : (b1 &&& (255 : Int32)).toInt = b1.toInt % 256 := k_mask b1 (255 : Int32) 8 256 (by decide) (by decide) (by decide)
  have : 0 ≤ (b1 &&& (255 : Int32)).toInt ∧ (b1 &&& (255 : Int32)).toInt ≤ 255 := by omega
  have : i7_34.toInt = (b1 &&& (255 : Int32)).toInt := congrArg Int32.toInt hi7_34
  have : 0 ≤ i7_34.toInt ∧ i7_34.toInt ≤ 255 := by omega
  have := b32 b2
  have : (b2 &&& (255 : Int32)).toInt = b2.toInt % 256 := k_mask b2 (255 : Int32) 8 256 (by decide) (by decide) (by decide)
  have : 0 ≤ (b2 &&& (255 : Int32)).toInt ∧ (b2 &&& (255 : Int32)).toInt ≤ 255 := by omega
  have := b32 b3
  have : (b3 &&& (255 : Int32)).toInt = b3.toInt % 256 := k_mask b3 (255 : Int32) 8 256 (by decide) (by decide) (by decide)
  have : 0 ≤ (b3 &&& (255 : Int32)).toInt ∧ (b3 &&& (255 : Int32)).toInt ≤ 255 := by omega
  have : (0 : Int32).toInt = 0 := rfl
  have := mt Int32.lt_iff_toInt_lt.mpr hc12_2
  have := Int32.lt_iff_toInt_lt.mp hc31_3
  have := mt Int32.lt_iff_toInt_lt.mpr hc51_4
  have := Int32.lt_iff_toInt_lt.mp hc58_24
  have := mt Int32.lt_iff_toInt_lt.mpr hc105_25
  have := mt Int32.lt_iff_toInt_lt.mpr hc112_26
  simp only [Int32.lt_iff_toInt_lt, ← Int32.toInt_inj] at hjJ28
  simp only [Int32.lt_iff_toInt_lt, ← Int32.toInt_inj] at hjJ31
  have := mt Int32.lt_iff_toInt_lt.mpr hc162_33
  have := Int32.lt_iff_toInt_lt.mp hc182_35
  unfold own_isLen
  exact Or.inr (Or.inr (Or.inr (Or.inr ⟨by omega, by omega, by omega, by omega, by omega⟩)))
set_option maxRecDepth 65536 in
set_option maxHeartbeats 40000000 in
theorem lf1_17 (ofs : Int32) (bs : List Int32) (hof : 0 ≤ ofs.toInt ∧ ofs.toInt ≤ 1) (hln : bs.length = 5) : ¬ (ofs + (2 : Int32)) < 0 ∧ (ofs + (2 : Int32)).toNatClampNeg < bs.length := by
  have := b32 ofs
  have := c_iadd ofs (2 : Int32)
  have := b32 (ofs + (2 : Int32))
  unfold Int32.toNatClampNeg
  try simp only [Int32.lt_iff_toInt_lt, ← Int32.toInt_inj, Int32.reduceToInt, Int64.lt_iff_toInt_lt, ← Int64.toInt_inj, Int64.reduceToInt, true_and, and_true, true_or, or_true, false_or, or_false, false_and, and_false, not_true_eq_false, not_false_eq_true] at *
  omega
set_option maxRecDepth 65536 in
set_option maxHeartbeats 40000000 in
theorem lf1_18 (ofs : Int32) (bs : List Int32) (hof : 0 ≤ ofs.toInt ∧ ofs.toInt ≤ 1) (hln : bs.length = 5) : ¬ (ofs + (3 : Int32)) < 0 ∧ (ofs + (3 : Int32)).toNatClampNeg < bs.length := by
  have := b32 ofs
  have := c_iadd ofs (3 : Int32)
  have := b32 (ofs + (3 : Int32))
  unfold Int32.toNatClampNeg
  try simp only [Int32.lt_iff_toInt_lt, ← Int32.toInt_inj, Int32.reduceToInt, Int64.lt_iff_toInt_lt, ← Int64.toInt_inj, Int64.reduceToInt, true_and, and_true, true_or, or_true, false_or, or_false, false_and, and_false, not_true_eq_false, not_false_eq_true] at *
  omega
set_option maxRecDepth 65536 in
set_option maxHeartbeats 40000000 in
theorem lf1_19 (ofs : Int32) (en : Int32) (b0 : Int32) (b1 : Int32) (b2 : Int32) (b3 : Int32) (i3_1 : Int32) (x29 : Int32) (x32 : Int32) (i7_34 : Int32) (r38 : Int32) (r41 : Int32) (hof : 0 ≤ ofs.toInt ∧ ofs.toInt ≤ 1) (hen : 1 ≤ en.toInt - ofs.toInt ∧ en.toInt - ofs.toInt ≤ 4) (hi3_1 : i3_1 = (b0 &&& (255 : Int32))) (hc12_2 : ¬ (i3_1 < (128 : Int32))) (hc31_3 : i3_1 < (194 : Int32)) (hc51_4 : ¬ (i3_1 < (224 : Int32))) (hc58_24 : (239 : Int32) < i3_1) (hc105_25 : ¬ (i3_1 < (240 : Int32))) (hc112_26 : ¬ ((244 : Int32) < i3_1)) (hjJ28 : ((¬ (i3_1 = (240 : Int32))) ∧ (x29 = (128 : Int32))) ∨ ((i3_1 = (240 : Int32)) ∧ (x29 = (144 : Int32)))) (hjJ31 : ((¬ (i3_1 = (244 : Int32))) ∧ (x32 = (191 : Int32))) ∨ ((i3_1 = (244 : Int32)) ∧ (x32 = (143 : Int32)))) (hc162_33 : ¬ ((en - ofs) < (4 : Int32))) (hi7_34 : i7_34 = (b1 &&& (255 : Int32))) (hc182_35 : ¬ (i7_34 < x29)) (hc189_36 : ¬ (x32 < i7_34)) (hc201_37 : (2 : Int32) < (4 : Int32)) (hr38 : (r38 = (1 : Int32) ∧ (b2 &&& (192 : Int32)) = (128 : Int32)) ∨ (r38 = (0 : Int32) ∧ ¬ ((b2 &&& (192 : Int32)) = (128 : Int32)))) (hc213_39 : ¬ (r38 = 0)) (hc201_40 : (3 : Int32) < (4 : Int32)) (hr41 : (r41 = (1 : Int32) ∧ (b3 &&& (192 : Int32)) = (128 : Int32)) ∨ (r41 = (0 : Int32) ∧ ¬ ((b3 &&& (192 : Int32)) = (128 : Int32)))) (hc213_42 : ¬ (r41 = 0)) (hc201_43 : ¬ ((4 : Int32) < (4 : Int32))) : own_isLen (b0 &&& (255 : Int32)).toInt (b1 &&& (255 : Int32)).toInt (b2 &&& (255 : Int32)).toInt (b3 &&& (255 : Int32)).toInt (en.toInt - ofs.toInt) (4 : Int32).toInt := by
  have := b32 en
  have := b32 b0
  have : (255 : Int32).toInt = 255 := rfl
  have : (b0 &&& (255 : Int32)).toInt = b0.toInt % 256 := k_mask b0 (255 : Int32) 8 256 (by decide) (by decide) (by decide)
  have : 0 ≤ (b0 &&& (255 : Int32)).toInt ∧ (b0 &&& (255 : Int32)).toInt ≤ 255 := by omega
  have : i3_1.toInt = (b0 &&& (255 : Int32)).toInt := congrArg Int32.toInt hi3_1
  have : 0 ≤ i3_1.toInt ∧ i3_1.toInt ≤ 255 := by omega
  have : (128 : Int32).toInt = 128 := rfl
  have : (194 : Int32).toInt = 194 := rfl
  have : (224 : Int32).toInt = 224 := rfl
  have : (239 : Int32).toInt = 239 := rfl
  have : (240 : Int32).toInt = 240 := rfl
  have : (244 : Int32).toInt = 244 := rfl
  have : (144 : Int32).toInt = 144 := rfl
  have := b32 x29
  have : (191 : Int32).toInt = 191 := rfl
  have : (143 : Int32).toInt = 143 := rfl
  have := b32 x32
  have := c_isub en ofs
  have := b32 (en - ofs)
  have : (4 : Int32).toInt = 4 := rfl
  have := b32 b1
  have : (b1 &&& (255 : Int32)).toInt = b1.toInt % 256 := k_mask b1 (255 : Int32) 8 256 (by decide) (by decide) (by decide)
  have : 0 ≤ (b1 &&& (255 : Int32)).toInt ∧ (b1 &&& (255 : Int32)).toInt ≤ 255 := by omega
  have : i7_34.toInt = (b1 &&& (255 : Int32)).toInt := congrArg Int32.toInt hi7_34
  have : 0 ≤ i7_34.toInt ∧ i7_34.toInt ≤ 255 := by omega
  have : (2 : Int32).toInt = 2 := rfl
  have : (1 : Int32).toInt = 1 := rfl
  have : (192 : Int32).toInt = 192 := rfl
  have := b32 b2
  have : (b2 &&& (192 : Int32)).toInt = b2.toInt % 256 - b2.toInt % 64 := k_field b2 (192 : Int32) (63 : Int32) (255 : Int32) 6 8 64 256 (by decide) (by decide) (by decide) (by decide) (by decide) (by decide) (by decide) (by decide) (by decide) (by decide) (by decide) (by decide)
  have : 0 ≤ (b2 &&& (192 : Int32)).toInt ∧ (b2 &&& (192 : Int32)).toInt ≤ 192 := by omega
  have : (0 : Int32).toInt = 0 := rfl
  have := b32 r38
  have : (3 : Int32).toInt = 3 := rfl
  have := b32 b3
  have : (b3 &&& (192 : Int32)).toInt = b3.toInt % 256 - b3.toInt % 64 := k_field b3 (192 : Int32) (63 : Int32) (255 : Int32) 6 8 64 256 (by decide) (by decide) (by decide) (by decide) (by decide) (by decide) (by decide) (by decide) (by decide) (by decide) (by decide) (by decide)
  have : 0 ≤ (b3 &&& (192 : Int32)).toInt ∧ (b3 &&& (192 : Int32)).toInt ≤ 192 := by omega
  have := b32 r41
  have : (b2 &&& (255 : Int32)).toInt = b2.toInt % 256 := k_mask b2 (255 : Int32) 8 256 (by decide) (by decide) (by decide)
  have : 0 ≤ (b2 &&& (255 : Int32)).toInt ∧ (b2 &&& (255 : Int32)).toInt ≤ 255 := by omega
  have : (b3 &&& (255 : Int32)).toInt = b3.toInt % 256 := k_mask b3 (255 : Int32) 8 256 (by decide) (by decide) (by decide)
  have : 0 ≤ (b3 &&& (255 : Int32)).toInt ∧ (b3 &&& (255 : Int32)).toInt ≤ 255 := by omega
  have := mt Int32.lt_iff_toInt_lt.mpr hc12_2
  have := Int32.lt_iff_toInt_lt.mp hc31_3
  have := mt Int32.lt_iff_toInt_lt.mpr hc51_4
  have := Int32.lt_iff_toInt_lt.mp hc58_24
  have := mt Int32.lt_iff_toInt_lt.mpr hc105_25
  have := mt Int32.lt_iff_toInt_lt.mpr hc112_26
  simp only [Int32.lt_iff_toInt_lt, ← Int32.toInt_inj] at hjJ28
  simp only [Int32.lt_iff_toInt_lt, ← Int32.toInt_inj] at hjJ31
  have := mt Int32.lt_iff_toInt_lt.mpr hc162_33
  have := mt Int32.lt_iff_toInt_lt.mpr hc182_35
  have := mt Int32.lt_iff_toInt_lt.mpr hc189_36
  have := Int32.lt_iff_toInt_lt.mp hc201_37
  simp only [Int32.lt_iff_toInt_lt, ← Int32.toInt_inj] at hr38
  have := mt Int32.toInt_inj.mp hc213_39
  have := Int32.lt_iff_toInt_lt.mp hc201_40
  simp only [Int32.lt_iff_toInt_lt, ← Int32.toInt_inj] at hr41
  have := mt Int32.toInt_inj.mp hc213_42
  have := mt Int32.lt_iff_toInt_lt.mpr hc201_43
  unfold own_isLen
  exact Or.inr (Or.inr (Or.inr (Or.inl ⟨by omega, by omega, by omega, by omega, by omega, by omega, by omega, by omega, by omega, by omega, by omega, by omega⟩)))
set_option maxRecDepth 65536 in
set_option maxHeartbeats 40000000 in
theorem lf1_20 (ofs : Int32) (en : Int32) (b0 : Int32) (b1 : Int32) (b2 : Int32) (b3 : Int32) (i3_1 : Int32) (x29 : Int32) (x32 : Int32) (i7_34 : Int32) (r38 : Int32) (r41 : Int32) (hof : 0 ≤ ofs.toInt ∧ ofs.toInt ≤ 1) (hen : 1 ≤ en.toInt - ofs.toInt ∧ en.toInt - ofs.toInt ≤ 4) (hi3_1 : i3_1 = (b0 &&& (255 : Int32))) (hc12_2 : ¬ (i3_1 < (128 : Int32))) (hc31_3 : i3_1 < (194 : Int32)) (hc51_4 : ¬ (i3_1 < (224 : Int32))) (hc58_24 : (239 : Int32) < i3_1) (hc105_25 : ¬ (i3_1 < (240 : Int32))) (hc112_26 : ¬ ((244 : Int32) < i3_1)) (hjJ28 : ((¬ (i3_1 = (240 : Int32))) ∧ (x29 = (128 : Int32))) ∨ ((i3_1 = (240 : Int32)) ∧ (x29 = (144 : Int32)))) (hjJ31 : ((¬ (i3_1 = (244 : Int32))) ∧ (x32 = (191 : Int32))) ∨ ((i3_1 = (244 : Int32)) ∧ (x32 = (143 : Int32)))) (hc162_33 : ¬ ((en - ofs) < (4 : Int32))) (hi7_34 : i7_34 = (b1 &&& (255 : Int32))) (hc182_35 : ¬ (i7_34 < x29)) (hc189_36 : ¬ (x32 < i7_34)) (hc201_37 : (2 : Int32) < (4 : Int32)) (hr38 : (r38 = (1 : Int32) ∧ (b2 &&& (192 : Int32)) = (128 : Int32)) ∨ (r38 = (0 : Int32) ∧ ¬ ((b2 &&& (192 : Int32)) = (128 : Int32)))) (hc213_39 : ¬ (r38 = 0)) (hc201_40 : (3 : Int32) < (4 : Int32)) (hr41 : (r41 = (1 : Int32) ∧ (b3 &&& (192 : Int32)) = (128 : Int32)) ∨ (r41 = (0 : Int32) ∧ ¬ ((b3 &&& (192 : Int32)) = (128 : Int32)))) (hc213_42 : r41 = 0) : own_isLen (b0 &&& (255 : Int32)).toInt (b1 &&& (255 : Int32)).toInt (b2 &&& (255 : Int32)).toInt (b3 &&& (255 : Int32)).toInt (en.toInt - ofs.toInt) (0 : Int32).toInt := by
  have := b32 en
  have := b32 b0
  have : (255 : Int32).toInt = 255 := rfl
  have : (b0 &&& (255 : Int32)).toInt = b0.toInt % 256 := k_mask b0 (255 : Int32) 8 256 (by decide) (by decide) (by decide)
  have : 0 ≤ (b0 &&& (255 : Int32)).toInt ∧ (b0 &&& (255 : Int32)).toInt ≤ 255 := by omega
  have : i3_1.toInt = (b0 &&& (255 : Int32)).toInt := congrArg Int32.toInt hi3_1
  have : 0 ≤ i3_1.toInt ∧ i3_1.toInt ≤ 255 := by omega
  have : (128 : Int32).toInt = 128 := rfl
  have : (194 : Int32).toInt = 194 := rfl
  have : (224 : Int32).toInt = 224 := rfl
  have : (239 : Int32).toInt = 239 := rfl
  have : (240 : Int32).toInt = 240 := rfl
  have : (244 : Int32).toInt = 244 := rfl
  have : (144 : Int32).toInt = 144 := rfl
  have := b32 x29
  have : (191 : Int32).toInt = 191 := rfl
  have : (143 : Int32).toInt = 143 := rfl
  have := b32 x32
  have := c_isub en ofs
  have := b32 (en - ofs)
  have : (4 : Int32).toInt = 4 := rfl
  have := b32 b1
  have : (b1 &&& (255 : Int32)).toInt = b1.toInt % 256 := k_mask b1 (255 : Int32) 8 256 (by decide) (by decide) (by decide)
  have : 0 ≤ (b1 &&& (255 : Int32)).toInt ∧ (b1 &&& (255 : Int32)).toInt ≤ 255 := by omega
  have : i7_34.toInt = (b1 &&& (255 : Int32)).toInt := congrArg Int32.toInt hi7_34
  have : 0 ≤ i7_34.toInt ∧ i7_34.toInt ≤ 255 := by omega
  have : (2 : Int32).toInt = 2 := rfl
  have : (1 : Int32).toInt = 1 := rfl
  have : (192 : Int32).toInt = 192 := rfl
  have := b32 b2
  have : (b2 &&& (192 : Int32)).toInt = b2.toInt % 256 - b2.toInt % 64 := k_field b2 (192 : Int32) (63 : Int32) (255 : Int32) 6 8 64 256 (by decide) (by decide) (by decide) (by decide) (by decide) (by decide) (by decide) (by decide) (by decide) (by decide) (by decide) (by decide)
  have : 0 ≤ (b2 &&& (192 : Int32)).toInt ∧ (b2 &&& (192 : Int32)).toInt ≤ 192 := by omega
  have : (0 : Int32).toInt = 0 := rfl
  have := b32 r38
  have : (3 : Int32).toInt = 3 := rfl
  have := b32 b3
  have : (b3 &&& (192 : Int32)).toInt = b3.toInt % 256 - b3.toInt % 64 := k_field b3 (192 : Int32) (63 : Int32) (255 : Int32) 6 8 64 256 (by decide) (by decide) (by decide) (by decide) (by decide) (by decide) (by decide) (by decide) (by decide) (by decide) (by decide) (by decide)
  have : 0 ≤ (b3 &&& (192 : Int32)).toInt ∧ (b3 &&& (192 : Int32)).toInt ≤ 192 := by omega
  have := b32 r41
  have : (b2 &&& (255 : Int32)).toInt = b2.toInt % 256 := k_mask b2 (255 : Int32) 8 256 (by decide) (by decide) (by decide)
  have : 0 ≤ (b2 &&& (255 : Int32)).toInt ∧ (b2 &&& (255 : Int32)).toInt ≤ 255 := by omega
  have : (b3 &&& (255 : Int32)).toInt = b3.toInt % 256 := k_mask b3 (255 : Int32) 8 256 (by decide) (by decide) (by decide)
  have : 0 ≤ (b3 &&& (255 : Int32)).toInt ∧ (b3 &&& (255 : Int32)).toInt ≤ 255 := by omega
  have := mt Int32.lt_iff_toInt_lt.mpr hc12_2
  have := Int32.lt_iff_toInt_lt.mp hc31_3
  have := mt Int32.lt_iff_toInt_lt.mpr hc51_4
  have := Int32.lt_iff_toInt_lt.mp hc58_24
  have := mt Int32.lt_iff_toInt_lt.mpr hc105_25
  have := mt Int32.lt_iff_toInt_lt.mpr hc112_26
  simp only [Int32.lt_iff_toInt_lt, ← Int32.toInt_inj] at hjJ28
  simp only [Int32.lt_iff_toInt_lt, ← Int32.toInt_inj] at hjJ31
  have := mt Int32.lt_iff_toInt_lt.mpr hc162_33
  have := mt Int32.lt_iff_toInt_lt.mpr hc182_35
  have := mt Int32.lt_iff_toInt_lt.mpr hc189_36
  have := Int32.lt_iff_toInt_lt.mp hc201_37
  simp only [Int32.lt_iff_toInt_lt, ← Int32.toInt_inj] at hr38
  have := mt Int32.toInt_inj.mp hc213_39
  have := Int32.lt_iff_toInt_lt.mp hc201_40
  simp only [Int32.lt_iff_toInt_lt, ← Int32.toInt_inj] at hr41
  have := congrArg Int32.toInt hc213_42
  unfold own_isLen
  exact Or.inr (Or.inr (Or.inr (Or.inr ⟨by omega, by omega, by omega, by omega, by omega⟩)))
set_option maxRecDepth 65536 in
set_option maxHeartbeats 40000000 in
theorem lf1_21 (ofs : Int32) (en : Int32) (b0 : Int32) (b1 : Int32) (b2 : Int32) (b3 : Int32) (i3_1 : Int32) (x29 : Int32) (x32 : Int32) (i7_34 : Int32) (r38 : Int32) (hof : 0 ≤ ofs.toInt ∧ ofs.toInt ≤ 1) (hen : 1 ≤ en.toInt - ofs.toInt ∧ en.toInt - ofs.toInt ≤ 4) (hi3_1 : i3_1 = (b0 &&& (255 : Int32))) (hc12_2 : ¬ (i3_1 < (128 : Int32))) (hc31_3 : i3_1 < (194 : Int32)) (hc51_4 : ¬ (i3_1 < (224 : Int32))) (hc58_24 : (239 : Int32) < i3_1) (hc105_25 : ¬ (i3_1 < (240 : Int32))) (hc112_26 : ¬ ((244 : Int32) < i3_1)) (hjJ28 : ((¬ (i3_1 = (240 : Int32))) ∧ (x29 = (128 : Int32))) ∨ ((i3_1 = (240 : Int32)) ∧ (x29 = (144 : Int32)))) (hjJ31 : ((¬ (i3_1 = (244 : Int32))) ∧ (x32 = (191 : Int32))) ∨ ((i3_1 = (244 : Int32)) ∧ (x32 = (143 : Int32)))) (hc162_33 : ¬ ((en - ofs) < (4 : Int32))) (hi7_34 : i7_34 = (b1 &&& (255 : Int32))) (hc182_35 : ¬ (i7_34 < x29)) (hc189_36 : ¬ (x32 < i7_34)) (hc201_37 : (2 : Int32) < (4 : Int32)) (hr38 : (r38 = (1 : Int32) ∧ (b2 &&& (192 : Int32)) = (128 : Int32)) ∨ (r38 = (0 : Int32) ∧ ¬ ((b2 &&& (192 : Int32)) = (128 : Int32)))) (hc213_39 : r38 = 0) : own_isLen (b0 &&& (255 : Int32)).toInt (b1 &&& (255 : Int32)).toInt (b2 &&& (255 : Int32)).toInt (b3 &&& (255 : Int32)).toInt (en.toInt - ofs.toInt) (0 : Int32).toInt := by
  have := b32 en
  have := b32 b0
  have : (255 : Int32).toInt = 255 := rfl
  have : (b0 &&& (255 : Int32)).toInt = b0.toInt % 256 := k_mask b0 (255 : Int32) 8 256 (by decide) (by decide) (by decide)
  have : 0 ≤ (b0 &&& (255 : Int32)).toInt ∧ (b0 &&& (255 : Int32)).toInt ≤ 255 := by omega
  have : i3_1.toInt = (b0 &&& (255 : Int32)).toInt := congrArg Int32.toInt hi3_1
  have : 0 ≤ i3_1.toInt ∧ i3_1.toInt ≤ 255 := by omega
  have : (128 : Int32).toInt = 128 := rfl
  have : (194 : Int32).toInt = 194 := rfl
  have : (224 : Int32).toInt = 224 := rfl
  have : (239 : Int32).toInt = 239 := rfl
  have : (240 : Int32).toInt = 240 := rfl
  have : (244 : Int32).toInt = 244 := rfl
  have : (144 : Int32).toInt = 144 := rfl
  have := b32 x29
  have : (191 : Int32).toInt = 191 := rfl
  have : (143 : Int32).toInt = 143 := rfl
  have := b32 x32
  have := c_isub en ofs
  have := b32 (en - ofs)
  have : (4 : Int32).toInt = 4 := rfl
  have := b32 b1
  have : (b1 &&& (255 : Int32)).toInt = b1.toInt % 256 := k_mask b1 (255 : Int32) 8 256 (by decide) (by decide) (by decide)
  have : 0 ≤ (b1 &&& (255 : Int32)).toInt ∧ (b1 &&& (255 : Int32)).toInt ≤ 255 := by omega
  have : i7_34.toInt = (b1 &&& (255 : Int32)).toInt := congrArg Int32.toInt hi7_34
  have : 0 ≤ i7_34.toInt ∧ i7_34.toInt ≤ 255 := by omega
  have : (2 : Int32).toInt = 2 := rfl
  have : (1 : Int32).toInt = 1 := rfl
  have : (192 : Int32).toInt = 192 := rfl
  have := b32 b2
  have : (b2 &&& (192 : Int32)).toInt = b2.toInt % 256 - b2.toInt % 64 := k_field b2 (192 : Int32) (63 : Int32) (255 : Int32) 6 8 64 256 (by decide) (by decide) (by decide) (by decide) (by decide) (by decide) (by decide) (by decide) (by decide) (by decide) (by decide) (by decide)
  have : 0 ≤ (b2 &&& (192 : Int32)).toInt ∧ (b2 &&& (192 : Int32)).toInt ≤ 192 := by omega
  have : (0 : Int32).toInt = 0 := rfl
  have := b32 r38
  have : (b2 &&& (255 : Int32)).toInt = b2.toInt % 256 := k_mask b2 (255 : Int32) 8 256 (by decide) (by decide) (by decide)
  have : 0 ≤ (b2 &&& (255 : Int32)).toInt ∧ (b2 &&& (255 : Int32)).toInt ≤ 255 := by omega
  have := b32 b3
  have : (b3 &&& (255 : Int32)).toInt = b3.toInt % 256 := k_mask b3 (255 : Int32) 8 256 (by decide) (by decide) (by decide)
  have : 0 ≤ (b3 &&& (255 : Int32)).toInt ∧ (b3 &&& (255 : Int32)).toInt ≤ 255 := by omega
  have := mt Int32.lt_iff_toInt_lt.mpr hc12_2
  have := Int32.lt_iff_toInt_lt.mp hc31_3
  have := mt Int32.lt_iff_toInt_lt.mpr hc51_4
  have := Int32.lt_iff_toInt_lt.mp hc58_24
  have := mt Int32.lt_iff_toInt_lt.mpr hc105_25
  have := mt Int32.lt_iff_toInt_lt.mpr hc112_26
  simp only [Int32.lt_iff_toInt_lt, ← Int32.toInt_inj] at hjJ28
  simp only [Int32.lt_iff_toInt_lt, ← Int32.toInt_inj] at hjJ31
  have := mt Int32.lt_iff_toInt_lt.mpr hc162_33
  have := mt Int32.lt_iff_toInt_lt.mpr hc182_35
  have := mt Int32.lt_iff_toInt_lt.mpr hc189_36
  have := Int32.lt_iff_toInt_lt.mp hc201_37
  simp only [Int32.lt_iff_toInt_lt, ← Int32.toInt_inj] at hr38
  have := congrArg Int32.toInt hc213_39
  unfold own_isLen
  exact Or.inr (Or.inr (Or.inr (Or.inr ⟨by omega, by omega, by omega, by omega, by omega⟩)))
set_option maxRecDepth 65536 in
set_option maxHeartbeats 40000000 in
theorem lf1_22 (ofs : Int32) (en : Int32) (b0 : Int32) (b1 : Int32) (b2 : Int32) (b3 : Int32) (i3_1 : Int32) (x29 : Int32) (x32 : Int32) (i7_34 : Int32) (hof : 0 ≤ ofs.toInt ∧ ofs.toInt ≤ 1) (hen : 1 ≤ en.toInt - ofs.toInt ∧ en.toInt - ofs.toInt ≤ 4) (hi3_1 : i3_1 = (b0 &&& (255 : Int32))) (hc12_2 : ¬ (i3_1 < (128 : Int32))) (hc31_3 : i3_1 < (194 : Int32)) (hc51_4 : ¬ (i3_1 < (224 : Int32))) (hc58_24 : (239 : Int32) < i3_1) (hc105_25 : ¬ (i3_1 < (240 : Int32))) (hc112_26 : ¬ ((244 : Int32) < i3_1)) (hjJ28 : ((¬ (i3_1 = (240 : Int32))) ∧ (x29 = (128 : Int32))) ∨ ((i3_1 = (240 : Int32)) ∧ (x29 = (144 : Int32)))) (hjJ31 : ((¬ (i3_1 = (244 : Int32))) ∧ (x32 = (191 : Int32))) ∨ ((i3_1 = (244 : Int32)) ∧ (x32 = (143 : Int32)))) (hc162_33 : ¬ ((en - ofs) < (4 : Int32))) (hi7_34 : i7_34 = (b1 &&& (255 : Int32))) (hc182_35 : ¬ (i7_34 < x29)) (hc189_36 : x32 < i7_34) : own_isLen (b0 &&& (255 : Int32)).toInt (b1 &&& (255 : Int32)).toInt (b2 &&& (255 : Int32)).toInt (b3 &&& (255 : Int32)).toInt (en.toInt - ofs.toInt) (0 : Int32).toInt := by
  have := b32 en
  have := b32 b0
  have : (255 : Int32).toInt = 255 := rfl
  have : (b0 &&& (255 : Int32)).toInt = b0.toInt % 256 := k_mask b0 (255 : Int32) 8 256 (by decide) (by decide) (by decide)
  have : 0 ≤ (b0 &&& (255 : Int32)).toInt ∧ (b0 &&& (255 : Int32)).toInt ≤ 255 := by omega
  have : i3_1.toInt = (b0 &&& (255 : Int32)).toInt := congrArg Int32.toInt hi3_1
  have : 0 ≤ i3_1.toInt ∧ i3_1.toInt ≤ 255 := by omega
  have : (128 : Int32).toInt = 128 := rfl
  have : (194 : Int32).toInt = 194 := rfl
  have : (224 : Int32).toInt = 224 := rfl
  have : (239 : Int32).toInt = 239 := rfl
  have : (240 : Int32).toInt = 240 := rfl
  have : (244 : Int32).toInt = 244 := rfl
  have : (144 : Int32).toInt = 144 := rfl
  have := b32 x29
  have : (191 : Int32).toInt = 191 := rfl
  have : (143 : Int32).toInt = 143 := rfl
  have := b32 x32
  have := c_isub en ofs
  have := b32 (en - ofs)
  have : (4 : Int32).toInt = 4 := rfl
  have := b32 b1
  have : (b1 &&& (255 : Int32)).toInt = b1.toInt % 256 := k_mask b1 (255 : Int32) 8 256 (by decide) (by decide) (by decide)
  have : 0 ≤ (b1 &&& (255 : Int32)).toInt ∧ (b1 &&& (255 : Int32)).toInt ≤ 255 := by omega
  have : i7_34.toInt = (b1 &&& (255 : Int32)).toInt := congrArg Int32.toInt hi7_34
  have : 0 ≤ i7_34.toInt ∧ i7_34.toInt ≤ 255 := by omega
  have := b32 b2
  have : (b2 &&& (255 : Int32)).toInt = b2.toInt % 256 := k_mask b2 (255 : Int32) 8 256 (by decide) (by decide) (by decide)
  have : 0 ≤ (b2 &&& (255 : Int32)).toInt ∧ (b2 &&& (255 : Int32)).toInt ≤ 255 := by omega
  have := b32 b3
  have : (b3 &&& (255 : Int32)).toInt = b3.toInt % 256 := k_mask b3 (255 : Int32) 8 256 (by decide) (by decide) (by decide)
  have : 0 ≤ (b3 &&& (255 : Int32)).toInt ∧ (b3 &&& (255 : Int32)).toInt ≤ 255 := by omega
  have : (0 : Int32).toInt = 0 := rfl
  have := mt Int32.lt_iff_toInt_lt.mpr hc12_2
  have := Int32.lt_iff_toInt_lt.mp hc31_3
  have := mt Int32.lt_iff_toInt_lt.mpr hc51_4
  have := Int32.lt_iff_toInt_lt.mp hc58_24
  have := mt Int32.lt_iff_toInt_lt.mpr hc105_25
  have := mt Int32.lt_iff_toInt_lt.mpr hc112_26
  simp only [Int32.lt_iff_toInt_lt, ← Int32.toInt_inj] at hjJ28
  simp only [Int32.lt_iff_toInt_lt, ← Int32.toInt_inj] at hjJ31
  have := mt Int32.lt_iff_toInt_lt.mpr hc162_33
  have := mt Int32.lt_iff_toInt_lt.mpr hc182_35
  have := Int32.lt_iff_toInt_lt.mp hc189_36
  unfold own_isLen
  exact Or.inr (Or.inr (Or.inr (Or.inr ⟨by omega, by omega, by omega, by omega, by omega⟩)))
set_option maxRecDepth 65536 in
set_option maxHeartbeats 40000000 in
theorem lf1_23 (ofs : Int32) (en : Int32) (b0 : Int32) (b1 : Int32) (b2 : Int32) (b3 : Int32) (i3_1 : Int32) (x29 : Int32) (x32 : Int32) (hof : 0 ≤ ofs.toInt ∧ ofs.toInt ≤ 1) (hen : 1 ≤ en.toInt - ofs.toInt ∧ en.toInt - ofs.toInt ≤ 4) (hi3_1 : i3_1 = (b0 &&& (255 : Int32))) (hc12_2 : ¬ (i3_1 < (128 : Int32))) (hc31_3 : i3_1 < (194 : Int32)) (hc51_4 : ¬ (i3_1 < (224 : Int32))) (hc58_24 : (239 : Int32) < i3_1) (hc105_25 : ¬ (i3_1 < (240 : Int32))) (hc112_26 : ¬ ((244 : Int32) < i3_1)) (hjJ28 : ((¬ (i3_1 = (240 : Int32))) ∧ (x29 = (128 : Int32))) ∨ ((i3_1 = (240 : Int32)) ∧ (x29 = (144 : Int32)))) (hjJ31 : ((¬ (i3_1 = (244 : Int32))) ∧ (x32 = (191 : Int32))) ∨ ((i3_1 = (244 : Int32)) ∧ (x32 = (143 : Int32)))) (hc162_33 : (en - ofs) < (4 : Int32)) : own_isLen (b0 &&& (255 : Int32)).toInt (b1 &&& (255 : Int32)).toInt (b2 &&& (255 : Int32)).toInt (b3 &&& (255 : Int32)).toInt (en.toInt - ofs.toInt) (0 : Int32).toInt := by
  have := b32 en
  have := b32 b0
  have : (255 : Int32).toInt = 255 := rfl
  have : (b0 &&& (255 : Int32)).toInt = b0.toInt % 256 := k_mask b0 (255 : Int32) 8 256 (by decide) (by decide) (by decide)
  have : 0 ≤ (b0 &&& (255 : Int32)).toInt ∧ (b0 &&& (255 : Int32)).toInt ≤ 255 := by omega
  have : i3_1.toInt = (b0 &&& (255 : Int32)).toInt := congrArg Int32.toInt hi3_1
  have : 0 ≤ i3_1.toInt ∧ i3_1.toInt ≤ 255 := by omega
  have : (128 : Int32).toInt = 128 := rfl
  have : (194 : Int32).toInt = 194 := rfl
  have : (224 : Int32).toInt = 224 := rfl
  have : (239 : Int32).toInt = 239 := rfl
  have : (240 : Int32).toInt = 240 := rfl
  have : (244 : Int32).toInt = 244 := rfl
  have : (144 : Int32).toInt = 144 := rfl
  have := b32 x29
  have : (191 : Int32).toInt = 191 := rfl
  have : (143 : Int32).toInt = 143 := rfl
  have := b32 x32
  have := c_isub en ofs
  have := b32 (en - ofs)
  have : (4 : Int32).toInt = 4 := rfl
  have := b32 b1
  have : (b1 &&& (255 : Int32)).toInt = b1.toInt % 256 := k_mask b1 (255 : Int32) 8 256 (by decide) (by decide) (by decide)
  have : 0 ≤ (b1 &&& (255 : Int32)).toInt ∧ (b1 &&& (255 : Int32)).toInt ≤ 255 := by omega
  have := b32 b2
  have : (b2 &&& (255 : Int32)).toInt = b2.toInt % 256 := k_mask b2 (255 : Int32) 8 256 (by decide) (by decide) (by decide)
  have : 0 ≤ (b2 &&& (255 : Int32)).toInt ∧ (b2 &&& (255 : Int32)).toInt ≤ 255 := by omega
  have := b32 b3
  have : (b3 &&& (255 : Int32)).toInt = b3.toInt % 256 := k_mask b3 (255 : Int32) 8 256 (by decide) (by decide) (by decide)
  have : 0 ≤ (b3 &&& (255 : Int32)).toInt ∧ (b3 &&& (255 : Int32)).toInt ≤ 255 := by omega
  have : (0 : Int32).toInt = 0 := rfl
  have := mt Int32.lt_iff_toInt_lt.mpr hc12_2
  have := Int32.lt_iff_toInt_lt.mp hc31_3
  have := mt Int32.lt_iff_toInt_lt.mpr hc51_4
  have := Int32.lt_iff_toInt_lt.mp hc58_24
  have := mt Int32.lt_iff_toInt_lt.mpr hc105_25
  have := mt Int32.lt_iff_toInt_lt.mpr hc112_26
  simp only [Int32.lt_iff_toInt_lt, ← Int32.toInt_inj] at hjJ28
  simp only [Int32.lt_iff_toInt_lt, ← Int32.toInt_inj] at hjJ31
  have := Int32.lt_iff_toInt_lt.mp hc162_33
  unfold own_isLen
  exact Or.inr (Or.inr (Or.inr (Or.inr ⟨by omega, by omega, by omega, by omega, by omega⟩)))
set_option maxRecDepth 65536 in
set_option maxHeartbeats 40000000 in
theorem lf1_24 (ofs : Int32) (bs : List Int32) (hof : 0 ≤ ofs.toInt ∧ ofs.toInt ≤ 1) (hln : bs.length = 5) : ¬ (ofs + (1 : Int32)) < 0 ∧ (ofs + (1 : Int32)).toNatClampNeg < bs.length := by
  have := b32 ofs
  have := c_iadd ofs (1 : Int32)
  have := b32 (ofs + (1 : Int32))
  unfold Int32.toNatClampNeg
  try simp only [Int32.lt_iff_toInt_lt, ← Int32.toInt_inj, Int32.reduceToInt, Int64.lt_iff_toInt_lt, ← Int64.toInt_inj, Int64.reduceToInt, true_and, and_true, true_or, or_true, false_or, or_false, false_and, and_false, not_true_eq_false, not_false_eq_true] at *
  omega
set_option maxRecDepth 65536 in
set_option maxHeartbeats 40000000 in
theorem lf1_25 (ofs : Int32) (en : Int32) (b0 : Int32) (b1 : Int32) (b2 : Int32) (b3 : Int32) (i3_1 : Int32) (x46 : Int32) (x49 : Int32) (i7_51 : Int32) (hof : 0 ≤ ofs.toInt ∧ ofs.toInt ≤ 1) (hen : 1 ≤ en.toInt - ofs.toInt ∧ en.toInt - ofs.toInt ≤ 4) (hi3_1 : i3_1 = (b0 &&& (255 : Int32))) (hc12_2 : ¬ (i3_1 < (128 : Int32))) (hc31_3 : i3_1 < (194 : Int32)) (hc51_4 : ¬ (i3_1 < (224 : Int32))) (hc58_24 : ¬ ((239 : Int32) < i3_1)) (hjJ45 : ((¬ (i3_1 = (224 : Int32))) ∧ (x46 = (128 : Int32))) ∨ ((i3_1 = (224 : Int32)) ∧ (x46 = (160 : Int32)))) (hjJ48 : ((¬ (i3_1 = (237 : Int32))) ∧ (x49 = (191 : Int32))) ∨ ((i3_1 = (237 : Int32)) ∧ (x49 = (159 : Int32)))) (hc162_50 : ¬ ((en - ofs) < (3 : Int32))) (hi7_51 : i7_51 = (b1 &&& (255 : Int32))) (hc182_52 : i7_51 < x46) : own_isLen (b0 &&& (255 : Int32)).toInt (b1 &&& (255 : Int32)).toInt (b2 &&& (255 : Int32)).toInt (b3 &&& (255 : Int32)).toInt (en.toInt - ofs.toInt) (0 : Int32).toInt := by
  have := b32 en
  have := b32 b0
  have : (255 : Int32).toInt = 255 := rfl
  have : (b0 &&& (255 : Int32)).toInt = b0.toInt % 256 := k_mask b0 (255 : Int32) 8 256 (by decide) (by decide) (by decide)
  have : 0 ≤ (b0 &&& (255 : Int32)).toInt ∧ (b0 &&& (255 : Int32)).toInt ≤ 255 := by omega
  have : i3_1.toInt = (b0 &&& (255 : Int32)).toInt := congrArg Int32.toInt hi3_1
  have : 0 ≤ i3_1.toInt ∧ i3_1.toInt ≤ 255 := by omega
  have : (128 : Int32).toInt = 128 := rfl
  have : (194 : Int32).toInt = 194 := rfl
  have : (224 : Int32).toInt = 224 := rfl
  have : (239 : Int32).toInt = 239 := rfl
  have : (160 : Int32).toInt = 160 := rfl
  have := b32 x46
  have : (237 : Int32).toInt = 237 := rfl
  have : (191 : Int32).toInt = 191 := rfl
  have : (159 : Int32).toInt = 159 := rfl
  have := b32 x49
  have := c_isub en ofs
  have := b32 (en - ofs)
  have : (3 : Int32).toInt = 3 := rfl
  have := b32 b1
  have : (b1 &&& (255 : Int32)).toInt = b1.toInt % 256 := k_mask b1 (255 : Int32) 8 256 (by decide) (by decide) (by decide)
  have : 0 ≤ (b1 &&& (255 : Int32)).toInt ∧ (b1 &&& (255 : Int32)).toInt ≤ 255 := by omega
  have : i7_51.toInt = (b1 &&& (255 : Int32)).toInt := congrArg Int32.toInt hi7_51
  have : 0 ≤ i7_51.toInt ∧ i7_51.toInt ≤ 255 := by omega
  have := b32 b2
  have : (b2 &&& (255 : Int32)).toInt = b2.toInt % 256 := k_mask b2 (255 : Int32) 8 256 (by decide) (by decide) (by decide)
  have : 0 ≤ (b2 &&& (255 : Int32)).toInt ∧ (b2 &&& (255 : Int32)).toInt ≤ 255 := by omega
  have := b32 b3
  have : (b3 &&& (255 : Int32)).toInt = b3.toInt % 256 := k_mask b3 (255 : Int32) 8 256 (by decide) (by decide) (by decide)
  have : 0 ≤ (b3 &&& (255 : Int32)).toInt ∧ (b3 &&& (255 : Int32)).toInt ≤ 255 := by omega
  have : (0 : Int32).toInt = 0 := rfl
  have := mt Int32.lt_iff_toInt_lt.mpr hc12_2
  have := Int32.lt_iff_toInt_lt.mp hc31_3
  have := mt Int32.lt_iff_toInt_lt.mpr hc51_4
  have := mt Int32.lt_iff_toInt_lt.mpr hc58_24
  simp only [Int32.lt_iff_toInt_lt, ← Int32.toInt_inj] at hjJ45
  simp only [Int32.lt_iff_toInt_lt, ← Int32.toInt_inj] at hjJ48
  have := mt Int32.lt_iff_toInt_lt.mpr hc162_50
  have := Int32.lt_iff_toInt_lt.mp hc182_52
  unfold own_isLen
  exact Or.inr (Or.inr (Or.inr (Or.inr ⟨by omega, by omega, by omega, by omega, by omega⟩)))
set_option maxRecDepth 65536 in
set_option maxHeartbeats 40000000 in
theorem lf1_26 (ofs : Int32) (bs : List Int32) (hof : 0 ≤ ofs.toInt ∧ ofs.toInt ≤ 1) (hln : bs.length = 5) : ¬ (ofs + (2 : Int32)) < 0 ∧ (ofs + (2 : Int32)).toNatClampNeg < bs.length := by
  have := b32 ofs
  have := c_iadd ofs (2 : Int32)
  have := b32 (ofs + (2 : Int32))
  unfold Int32.toNatClampNeg
  try simp only [Int32.lt_iff_toInt_lt, ← Int32.toInt_inj, Int32.reduceToInt, Int64.lt_iff_toInt_lt, ← Int64.toInt_inj, Int64.reduceToInt, true_and, and_true, true_or, or_true, false_or, or_false, false_and, and_false, not_true_eq_false, not_false_eq_true] at *
  omega
set_option maxRecDepth 65536 in
set_option maxHeartbeats 40000000 in
theorem lf1_27 (ofs : Int32) (en : Int32) (b0 : Int32) (b1 : Int32) (b2 : Int32) (b3 : Int32) (i3_1 : Int32) (x46 : Int32) (x49 : Int32) (i7_51 : Int32) (r55 : Int32) (hof : 0 ≤ ofs.toInt ∧ ofs.toInt ≤ 1) (hen : 1 ≤ en.toInt - ofs.toInt ∧ en.toInt - ofs.toInt ≤ 4) (hi3_1 : i3_1 = (b0 &&& (255 : Int32))) (hc12_2 : ¬ (i3_1 < (128 : Int32))) (hc31_3 : i3_1 < (194 : Int32)) (hc51_4 : ¬ (i3_1 < (224 : Int32))) (hc58_24 : ¬ ((239 : Int32) < i3_1)) (hjJ45 : ((¬ (i3_1 = (224 : Int32))) ∧ (x46 = (128 : Int32))) ∨ ((i3_1 = (224 : Int32)) ∧ (x46 = (160 : Int32)))) (hjJ48 : ((¬ (i3_1 = (237 : Int32))) ∧ (x49 = (191 : Int32))) ∨ ((i3_1 = (237 : Int32)) ∧ (x49 = (159 : Int32)))) (hc162_50 : ¬ ((en - ofs) < (3 : Int32))) (hi7_51 : i7_51 = (b1 &&& (255 : Int32))) (hc182_52 : ¬ (i7_51 < x46)) (hc189_53 : ¬ (x49 < i7_51)) (hc201_54 : (2 : Int32) < (3 : Int32)) (hr55 : (r55 = (1 : Int32) ∧ (b2 &&& (192 : Int32)) = (128 : Int32)) ∨ (r55 = (0 : Int32) ∧ ¬ ((b2 &&& (192 : Int32)) = (128 : Int32)))) (hc213_56 : ¬ (r55 = 0)) (hc201_57 : ¬ ((3 : Int32) < (3 : Int32))) : own_isLen (b0 &&& (255 : Int32)).toInt (b1 &&& (255 : Int32)).toInt (b2 &&& (255 : Int32)).toInt (b3 &&& (255 : Int32)).toInt (en.toInt - ofs.toInt) (3 : Int32).toInt := by
  have := b32 en
  have := b32 b0
  have : (255 : Int32).toInt = 255 := rfl
  have : (b0 &&& (255 : Int32)).toInt = b0.toInt % 256 := k_mask b0 (255 : Int32) 8 256 (by decide) (by decide) (by decide)
  have : 0 ≤ (b0 &&& (255 : Int32)).toInt ∧ (b0 &&& (255 : Int32)).toInt ≤ 255 := by omega
  have : i3_1.toInt = (b0 &&& (255 : Int32)).toInt := congrArg Int32.toInt hi3_1
  have : 0 ≤ i3_1.toInt ∧ i3_1.toInt ≤ 255 := by omega
  have : (128 : Int32).toInt = 128 := rfl
  have : (194 : Int32).toInt = 194 := rfl
  have : (224 : Int32).toInt = 224 := rfl
  have : (239 : Int32).toInt = 239 := rfl
  have : (160 : Int32).toInt = 160 := rfl
  have := b32 x46
  have : (237 : Int32).toInt = 237 := rfl
  have : (191 : Int32).toInt = 191 := rfl
  have : (159 : Int32).toInt = 159 := rfl
  have := b32 x49
  have := c_isub en ofs
  have := b32 (en - ofs)
  have : (3 : Int32).toInt = 3 := rfl
  have := b32 b1
  have : (b1 &&& (255 : Int32)).toInt = b1.toInt % 256 := k_mask b1 (255 : Int32) 8 256 (by decide) (by decide) (by decide)
  have : 0 ≤ (b1 &&& (255 : Int32)).toInt ∧ (b1 &&& (255 : Int32)).toInt ≤ 255 := by omega
  have : i7_51.toInt = (b1 &&& (255 : Int32)).toInt := congrArg Int32.toInt hi7_51
  have : 0 ≤ i7_51.toInt ∧ i7_51.toInt ≤ 255 := by omega
  have : (2 : Int32).toInt = 2 := rfl
  have : (1 : Int32).toInt = 1 := rfl
  have : (192 : Int32).toInt = 192 := rfl
  have := b32 b2
  have : (b2 &&& (192 : Int32)).toInt = b2.toInt % 256 - b2.toInt % 64 := k_field b2 (192 : Int32) (63 : Int32) (255 : Int32) 6 8 64 256 (by decide) (by decide) (by decide) (by decide) (by decide) (by decide) (by decide) (by decide) (by decide) (by decide) (by decide) (by decide)
  have : 0 ≤ (b2 &&& (192 : Int32)).toInt ∧ (b2 &&& (192 : Int32)).toInt ≤ 192 := by omega
  have : (0 : Int32).toInt = 0 := rfl
  have := b32 r55
  have : (b2 &&& (255 : Int32)).toInt = b2.toInt % 256 := k_mask b2 (255 : Int32) 8 256 (by decide) (by decide) (by decide)
  have : 0 ≤ (b2 &&& (255 : Int32)).toInt ∧ (b2 &&& (255 : Int32)).toInt ≤ 255 := by omega
  have := b32 b3
  have : (b3 &&& (255 : Int32)).toInt = b3.toInt % 256 := k_mask b3 (255 : Int32) 8 256 (by decide) (by decide) (by decide)
  have : 0 ≤ (b3 &&& (255 : Int32)).toInt ∧ (b3 &&& (255 : Int32)).toInt ≤ 255 := by omega
  have := mt Int32.lt_iff_toInt_lt.mpr hc12_2
  have := Int32.lt_iff_toInt_lt.mp hc31_3
  have := mt Int32.lt_iff_toInt_lt.mpr hc51_4
  have := mt Int32.lt_iff_toInt_lt.mpr hc58_24
  simp only [Int32.lt_iff_toInt_lt, ← Int32.toInt_inj] at hjJ45
  simp only [Int32.lt_iff_toInt_lt, ← Int32.toInt_inj] at hjJ48
  have := mt Int32.lt_iff_toInt_lt.mpr hc162_50
  have := mt Int32.lt_iff_toInt_lt.mpr hc182_52
  have := mt Int32.lt_iff_toInt_lt.mpr hc189_53
  have := Int32.lt_iff_toInt_lt.mp hc201_54
  simp only [Int32.lt_iff_toInt_lt, ← Int32.toInt_inj] at hr55
  have := mt Int32.toInt_inj.mp hc213_56
  have := mt Int32.lt_iff_toInt_lt.mpr hc201_57
  unfold own_isLen
  exact Or.inr (Or.inr (Or.inl ⟨by omega, by omega, by omega, by omega, by omega, by omega, by omega, by omega, by omega, by omega⟩))
set_option maxRecDepth 65536 in
set_option maxHeartbeats 40000000 in
theorem lf1_28 (ofs : Int32) (en : Int32) (b0 : Int32) (b1 : Int32) (b2 : Int32) (b3 : Int32) (i3_1 : Int32) (x46 : Int32) (x49 : Int32) (i7_51 : Int32) (r55 : Int32) (hof : 0 ≤ ofs.toInt ∧ ofs.toInt ≤ 1) (hen : 1 ≤ en.toInt - ofs.toInt ∧ en.toInt - ofs.toInt ≤ 4) (hi3_1 : i3_1 = (b0 &&& (255 : Int32))) (hc12_2 : ¬ (i3_1 < (128 : Int32))) (hc31_3 : i3_1 < (194 : Int32)) (hc51_4 : ¬ (i3_1 < (224 : Int32))) (hc58_24 : ¬ ((239 : Int32) < i3_1)) (hjJ45 : ((¬ (i3_1 = (224 : Int32))) ∧ (x46 = (128 : Int32))) ∨ ((i3_1 = (224 : Int32)) ∧ (x46 = (160 : Int32)))) (hjJ48 : ((¬ (i3_1 = (237 : Int32))) ∧ (x49 = (191 : Int32))) ∨ ((i3_1 = (237 : Int32)) ∧ (x49 = (159 : Int32)))) (hc162_50 : ¬ ((en - ofs) < (3 : Int32))) (hi7_51 : i7_51 = (b1 &&& (255 : Int32))) (hc182_52 : ¬ (i7_51 < x46)) (hc189_53 : ¬ (x49 < i7_51)) (hc201_54 : (2 : Int32) < (3 : Int32)) (hr55 : (r55 = (1 : Int32) ∧ (b2 &&& (192 : Int32)) = (128 : Int32)) ∨ (r55 = (0 : Int32) ∧ ¬ ((b2 &&& (192 : Int32)) = (128 : Int32)))) (hc213_56 : r55 = 0) : own_isLen (b0 &&& (255 : Int32)).toInt (b1 &&& (255 : Int32)).toInt (b2 &&& (255 : Int32)).toInt (b3 &&& (255 : Int32)).toInt (en.toInt - ofs.toInt) (0 : Int32).toInt := by
  have := b32 en
  have := b32 b0
  have : (255 : Int32).toInt = 255 := rfl
  have : (b0 &&& (255 : Int32)).toInt = b0.toInt % 256 := k_mask b0 (255 : Int32) 8 256 (by decide) (by decide) (by decide)
  have : 0 ≤ (b0 &&& (255 : Int32)).toInt ∧ (b0 &&& (255 : Int32)).toInt ≤ 255 := by omega
  have : i3_1.toInt = (b0 &&& (255 : Int32)).toInt := congrArg Int32.toInt hi3_1
  have : 0 ≤ i3_1.toInt ∧ i3_1.toInt ≤ 255 := by omega
  have : (128 : Int32).toInt = 128 := rfl
  have : (194 : Int32).toInt = 194 := rfl
  have : (224 : Int32).toInt = 224 := rfl
  have : (239 : Int32).toInt = 239 := rfl
  have : (160 : Int32).toInt = 160 := rfl
  have := b32 x46
  have : (237 : Int32).toInt = 237 := rfl
  have : (191 : Int32).toInt = 191 := rfl
  have : (159 : Int32).toInt = 159 := rfl
  have := b32 x49
  have := c_isub en ofs
  have := b32 (en - ofs)
  have : (3 : Int32).toInt = 3 := rfl
  have := b32 b1
  have : (b1 &&& (255 : Int32)).toInt = b1.toInt % 256 := k_mask b1 (255 : Int32) 8 256 (by decide) (by decide) (by decide)
  have : 0 ≤ (b1 &&& (255 : Int32)).toInt ∧ (b1 &&& (255 : Int32)).toInt ≤ 255 := by omega
  have : i7_51.toInt = (b1 &&& (255 : Int32)).toInt := congrArg Int32.toInt hi7_51
  have : 0 ≤ i7_51.toInt ∧ i7_51.toInt ≤ 255 := by omega
  have : (2 : Int32).toInt = 2 := rfl
  have : (1 : Int32).toInt = 1 := rfl
  have : (192 : Int32).toInt = 192 := rfl
  have := b32 b2
  have : (b2 &&& (192 : Int32)).toInt = b2.toInt % 256 - b2.toInt % 64 := k_field b2 (192 : Int32) (63 : Int32) (255 : Int32) 6 8 64 256 (by decide) (by decide) (by decide) (by decide) (by decide) (by decide) (by decide) (by decide) (by decide) (by decide) (by decide) (by decide)
  have : 0 ≤ (b2 &&& (192 : Int32)).toInt ∧ (b2 &&& (192 : Int32)).toInt ≤ 192 := by omega
  have : (0 : Int32).toInt = 0 := rfl
  have := b32 r55
  have : (b2 &&& (255 : Int32)).toInt = b2.toInt % 256 := k_mask b2 (255 : Int32) 8 256 (by decide) (by decide) (by decide)
  have : 0 ≤ (b2 &&& (255 : Int32)).toInt ∧ (b2 &&& (255 : Int32)).toInt ≤ 255 := by omega
  have := b32 b3
  have : (b3 &&& (255 : Int32)).toInt = b3.toInt % 256 := k_mask b3 (255 : Int32) 8 256 (by decide) (by decide) (by decide)
  have : 0 ≤ (b3 &&& (255 : Int32)).toInt ∧ (b3 &&& (255 : Int32)).toInt ≤ 255 := by omega
  have := mt Int32.lt_iff_toInt_lt.mpr hc12_2
  have := Int32.lt_iff_toInt_lt.mp hc31_3
  have := mt Int32.lt_iff_toInt_lt.mpr hc51_4
  have := mt Int32.lt_iff_toInt_lt.mpr hc58_24
  simp only [Int32.lt_iff_toInt_lt, ← Int32.toInt_inj] at hjJ45
  simp only [Int32.lt_iff_toInt_lt, ← Int32.toInt_inj] at hjJ48
  have := mt Int32.lt_iff_toInt_lt.mpr hc162_50
  have := mt Int32.lt_iff_toInt_lt.mpr hc182_52
  have := mt Int32.lt_iff_toInt_lt.mpr hc189_53
  have := Int32.lt_iff_toInt_lt.mp hc201_54
  simp only [Int32.lt_iff_toInt_lt, ← Int32.toInt_inj] at hr55
  have := congrArg Int32.toInt hc213_56
  unfold own_isLen
  exact Or.inr (Or.inr (Or.inr (Or.inr ⟨by omega, by omega, by omega, by omega, by omega⟩)))
set_option maxRecDepth 65536 in
set_option maxHeartbeats 40000000 in
theorem lf1_29 (ofs : Int32) (en : Int32) (b0 : Int32) (b1 : Int32) (b2 : Int32) (b3 : Int32) (i3_1 : Int32) (x46 : Int32) (x49 : Int32) (i7_51 : Int32) (hof : 0 ≤ ofs.toInt ∧ ofs.toInt ≤ 1) (hen : 1 ≤ en.toInt - ofs.toInt ∧ en.toInt - ofs.toInt ≤ 4) (hi3_1 : i3_1 = (b0 &&& (255 : Int32))) (hc12_2 : ¬ (i3_1 < (128 : Int32))) (hc31_3 : i3_1 < (194 : Int32)) (hc51_4 : ¬ (i3_1 < (224 : Int32))) (hc58_24 : ¬ ((239 : Int32) < i3_1)) (hjJ45 : ((¬ (i3_1 = (224 : Int32))) ∧ (x46 = (128 : Int32))) ∨ ((i3_1 = (224 : Int32)) ∧ (x46 = (160 : Int32)))) (hjJ48 : ((¬ (i3_1 = (237 : Int32))) ∧ (x49 = (191 : Int32))) ∨ ((i3_1 = (237 : Int32)) ∧ (x49 = (159 : Int32)))) (hc162_50 : ¬ ((en - ofs) < (3 : Int32))) (hi7_51 : i7_51 = (b1 &&& (255 : Int32))) (hc182_52 : ¬ (i7_51 < x46)) (hc189_53 : x49 < i7_51) : own_isLen (b0 &&& (255 : Int32)).toInt (b1 &&& (255 : Int32)).toInt (b2 &&& (255 : Int32)).toInt (b3 &&& (255 : Int32)).toInt (en.toInt - ofs.toInt) (0 : Int32).toInt := by
  have := b32 en
  have := b32 b0
  have : (255 : Int32).toInt = 255 := rfl
  have : (b0 &&& (255 : Int32)).toInt = b0.toInt % 256 := k_mask b0 (255 : Int32) 8 256 (by decide) (by decide) (by decide)
  have : 0 ≤ (b0 &&& (255 : Int32)).toInt ∧ (b0 &&& (255 : Int32)).toInt ≤ 255 := by omega
  have : i3_1.toInt = (b0 &&& (255 : Int32)).toInt := congrArg Int32.toInt hi3_1
  have : 0 ≤ i3_1.toInt ∧ i3_1.toInt ≤ 255 := by omega
  have : (128 : Int32).toInt = 128 := rfl
  have : (194 : Int32).toInt = 194 := rfl
  have : (224 : Int32).toInt = 224 := rfl
  have : (239 : Int32).toInt = 239 := rfl
  have : (160 : Int32).toInt = 160 := rfl
  have := b32 x46
  have : (237 : Int32).toInt = 237 := rfl
  have : (191 : Int32).toInt = 191 := rfl
  have : (159 : Int32).toInt = 159 := rfl
  have := b32 x49
  have := c_isub en ofs
  have := b32 (en - ofs)
  have : (3 : Int32).toInt = 3 := rfl
  have := b32 b1
  have : (b1 &&& (255 : Int32)).toInt = b1.toInt % 256 := k_mask b1 (255 : Int32) 8 256 (by decide) (by decide) (by decide)
  have : 0 ≤ (b1 &&& (255 : Int32)).toInt ∧ (b1 &&& (255 : Int32)).toInt ≤ 255 := by omega
  have : i7_51.toInt = (b1 &&& (255 : Int32)).toInt := congrArg Int32.toInt hi7_51
  have : 0 ≤ i7_51.toInt ∧ i7_51.toInt ≤ 255 := by omega
  have := b32 b2
  have : (b2 &&& (255 : Int32)).toInt = b2.toInt % 256 := k_mask b2 (255 : Int32) 8 256 (by decide) (by decide) (by decide)
  have : 0 ≤ (b2 &&& (255 : Int32)).toInt ∧ (b2 &&& (255 : Int32)).toInt ≤ 255 := by omega
  have := b32 b3
  have : (b3 &&& (255 : Int32)).toInt = b3.toInt % 256 := k_mask b3 (255 : Int32) 8 256 (by decide) (by decide) (by decide)
  have : 0 ≤ (b3 &&& (255 : Int32)).toInt ∧ (b3 &&& (255 : Int32)).toInt ≤ 255 := by omega
  have : (0 : Int32).toInt = 0 := rfl
  have := mt Int32.lt_iff_toInt_lt.mpr hc12_2
  have := Int32.lt_iff_toInt_lt.mp hc31_3
  have := mt Int32.lt_iff_toInt_lt.mpr hc51_4
  have := mt Int32.lt_iff_toInt_lt.mpr hc58_24
  simp only [Int32.lt_iff_toInt_lt, ← Int32.toInt_inj] at hjJ45
  simp only [Int32.lt_iff_toInt_lt, ← Int32.toInt_inj] at hjJ48
  have := mt Int32.lt_iff_toInt_lt.mpr hc162_50
  have := mt Int32.lt_iff_toInt_lt.mpr hc182_52
  have := Int32.lt_iff_toInt_lt.mp hc189_53
  unfold own_isLen
  exact Or.inr (Or.inr (Or.inr (Or.inr ⟨by omega, by omega, by omega, by omega, by omega⟩)))
set_option maxRecDepth 65536 in
set_option maxHeartbeats 40000000 in
theorem lf1_30 (ofs : Int32) (en : Int32) (b0 : Int32) (b1 : Int32) (b2 : Int32) (b3 : Int32) (i3_1 : Int32) (x46 : Int32) (x49 : Int32) (hof : 0 ≤ ofs.toInt ∧ ofs.toInt ≤ 1) (hen : 1 ≤ en.toInt - ofs.toInt ∧ en.toInt - ofs.toInt ≤ 4) (hi3_1 : i3_1 = (b0 &&& (255 : Int32))) (hc12_2 : ¬ (i3_1 < (128 : Int32))) (hc31_3 : i3_1 < (194 : Int32)) (hc51_4 : ¬ (i3_1 < (224 : Int32))) (hc58_24 : ¬ ((239 : Int32) < i3_1)) (hjJ45 : ((¬ (i3_1 = (224 : Int32))) ∧ (x46 = (128 : Int32))) ∨ ((i3_1 = (224 : Int32)) ∧ (x46 = (160 : Int32)))) (hjJ48 : ((¬ (i3_1 = (237 : Int32))) ∧ (x49 = (191 : Int32))) ∨ ((i3_1 = (237 : Int32)) ∧ (x49 = (159 : Int32)))) (hc162_50 : (en - ofs) < (3 : Int32)) : own_isLen (b0 &&& (255 : Int32)).toInt (b1 &&& (255 : Int32)).toInt (b2 &&& (255 : Int32)).toInt (b3 &&& (255 : Int32)).toInt (en.toInt - ofs.toInt) (0 : Int32).toInt := by
  have := b32 en
  have := b32 b0
  have : (255 : Int32).toInt = 255 := rfl
  have : (b0 &&& (255 : Int32)).toInt = b0.toInt % 256 := k_mask b0 (255 : Int32) 8 256 (by decide) (by decide) (by decide)
  have : 0 ≤ (b0 &&& (255 : Int32)).toInt ∧ (b0 &&& (255 : Int32)).toInt ≤ 255 := by omega
  have : i3_1.toInt = (b0 &&& (255 : Int32)).toInt := congrArg Int32.toInt hi3_1
  have : 0 ≤ i3_1.toInt ∧ i3_1.toInt ≤ 255 := by omega
  have : (128 : Int32).toInt = 128 := rfl
  have : (194 : Int32).toInt = 194 := rfl
  have : (224 : Int32).toInt = 224 := rfl
  have : (239 : Int32).toInt = 239 := rfl
  have : (160 : Int32).toInt = 160 := rfl
  have := b32 x46
  have : (237 : Int32).toInt = 237 := rfl
  have : (191 : Int32).toInt = 191 := rfl
  have : (159 : Int32).toInt = 159 := rfl
  have := b32 x49
  have := c_isub en ofs
  have := b32 (en - ofs)
  have : (3 : Int32).toInt = 3 := rfl
  have := b32 b1
  have : (b1 &&& (255 : Int32)).toInt = b1.toInt % 256 := k_mask b1 (255 : Int32) 8 256 (by decide) (by decide) (by decide)
  have : 0 ≤ (b1 &&& (255 : Int32)).toInt ∧ (b1 &&& (255 : Int32)).toInt ≤ 255 := by omega
  have := b32 b2
  have : (b2 &&& (255 : Int32)).toInt = b2.toInt % 256 := k_mask b2 (255 : Int32) 8 256 (by decide) (by decide) (by decide)
  have : 0 ≤ (b2 &&& (255 : Int32)).toInt ∧ (b2 &&& (255 : Int32)).toInt ≤ 255 := by omega
  have := b32 b3
  have : (b3 &&& (255 : Int32)).toInt = b3.toInt % 256 := k_mask b3 (255 : Int32) 8 256 (by decide) (by decide) (by decide)
  have : 0 ≤ (b3 &&& (255 : Int32)).toInt ∧ (b3 &&& (255 : Int32)).toInt ≤ 255 := by omega
  have : (0 : Int32).toInt = 0 := rfl
  have := mt Int32.lt_iff_toInt_lt.mpr hc12_2
  have := Int32.lt_iff_toInt_lt.mp hc31_3
  have := mt Int32.lt_iff_toInt_lt.mpr hc51_4
  have := mt Int32.lt_iff_toInt_lt.mpr hc58_24
  simp only [Int32.lt_iff_toInt_lt, ← Int32.toInt_inj] at hjJ45
  simp only [Int32.lt_iff_toInt_lt, ← Int32.toInt_inj] at hjJ48
  have := Int32.lt_iff_toInt_lt.mp hc162_50
  unfold own_isLen
  exact Or.inr (Or.inr (Or.inr (Or.inr ⟨by omega, by omega, by omega, by omega, by omega⟩)))
set_option maxRecDepth 65536 in
set_option maxHeartbeats 40000000 in
theorem lf1_31 (ofs : Int32) (en : Int32) (b0 : Int32) (b1 : Int32) (b2 : Int32) (b3 : Int32) (i3_1 : Int32) (hof : 0 ≤ ofs.toInt ∧ ofs.toInt ≤ 1) (hen : 1 ≤ en.toInt - ofs.toInt ∧ en.toInt - ofs.toInt ≤ 4) (hi3_1 : i3_1 = (b0 &&& (255 : Int32))) (hc12_2 : ¬ (i3_1 < (128 : Int32))) (hc31_3 : ¬ (i3_1 < (194 : Int32))) (hc38_58 : (223 : Int32) < i3_1) (hc51_59 : i3_1 < (224 : Int32)) (hc105_60 : i3_1 < (240 : Int32)) : own_isLen (b0 &&& (255 : Int32)).toInt (b1 &&& (255 : Int32)).toInt (b2 &&& (255 : Int32)).toInt (b3 &&& (255 : Int32)).toInt (en.toInt - ofs.toInt) (0 : Int32).toInt := by
  have := b32 en
  have := b32 b0
  have : (255 : Int32).toInt = 255 := rfl
  have : (b0 &&& (255 : Int32)).toInt = b0.toInt % 256 := k_mask b0 (255 : Int32) 8 256 (by decide) (by decide) (by decide)
  have : 0 ≤ (b0 &&& (255 : Int32)).toInt ∧ (b0 &&& (255 : Int32)).toInt ≤ 255 := by omega
  have : i3_1.toInt = (b0 &&& (255 : Int32)).toInt := congrArg Int32.toInt hi3_1
  have : 0 ≤ i3_1.toInt ∧ i3_1.toInt ≤ 255 := by omega
  have : (128 : Int32).toInt = 128 := rfl
  have : (194 : Int32).toInt = 194 := rfl
  have : (223 : Int32).toInt = 223 := rfl
  have : (224 : Int32).toInt = 224 := rfl
  have : (240 : Int32).toInt = 240 := rfl
  have := b32 b1
  have : (b1 &&& (255 : Int32)).toInt = b1.toInt % 256 := k_mask b1 (255 : Int32) 8 256 (by decide) (by decide) (by decide)
  have : 0 ≤ (b1 &&& (255 : Int32)).toInt ∧ (b1 &&& (255 : Int32)).toInt ≤ 255 := by omega
  have := b32 b2
  have : (b2 &&& (255 : Int32)).toInt = b2.toInt % 256 := k_mask b2 (255 : Int32) 8 256 (by decide) (by decide) (by decide)
  have : 0 ≤ (b2 &&& (255 : Int32)).toInt ∧ (b2 &&& (255 : Int32)).toInt ≤ 255 := by omega
  have := b32 b3
  have : (b3 &&& (255 : Int32)).toInt = b3.toInt % 256 := k_mask b3 (255 : Int32) 8 256 (by decide) (by decide) (by decide)
  have : 0 ≤ (b3 &&& (255 : Int32)).toInt ∧ (b3 &&& (255 : Int32)).toInt ≤ 255 := by omega
  have : (0 : Int32).toInt = 0 := rfl
  have := mt Int32.lt_iff_toInt_lt.mpr hc12_2
  have := mt Int32.lt_iff_toInt_lt.mpr hc31_3
  have := Int32.lt_iff_toInt_lt.mp hc38_58
  have := Int32.lt_iff_toInt_lt.mp hc51_59
  have := Int32.lt_iff_toInt_lt.mp hc105_60
  unfold own_isLen
  exact Or.inr (Or.inr (Or.inr (Or.inr ⟨by omega, by omega, by omega, by omega, by omega⟩)))
set_option maxRecDepth 65536 in
set_option maxHeartbeats 40000000 in
theorem lf1_32 (ofs : Int32) (en : Int32) (b0 : Int32) (b1 : Int32) (b2 : Int32) (b3 : Int32) (i3_1 : Int32) (hof : 0 ≤ ofs.toInt ∧ ofs.toInt ≤ 1) (hen : 1 ≤ en.toInt - ofs.toInt ∧ en.toInt - ofs.toInt ≤ 4) (hi3_1 : i3_1 = (b0 &&& (255 : Int32))) (hc12_2 : ¬ (i3_1 < (128 : Int32))) (hc31_3 : ¬ (i3_1 < (194 : Int32))) (hc38_58 : (223 : Int32) < i3_1) (hc51_59 : i3_1 < (224 : Int32)) (hc105_60 : ¬ (i3_1 < (240 : Int32))) (hc112_61 : (244 : Int32) < i3_1) : own_isLen (b0 &&& (255 : Int32)).toInt (b1 &&& (255 : Int32)).toInt (b2 &&& (255 : Int32)).toInt (b3 &&& (255 : Int32)).toInt (en.toInt - ofs.toInt) (0 : Int32).toInt := by
  have := b32 en
  have := b32 b0
  have : (255 : Int32).toInt = 255 := rfl
  have : (b0 &&& (255 : Int32)).toInt = b0.toInt % 256 := k_mask b0 (255 : Int32) 8 256 (by decide) (by decide) (by decide)
  have : 0 ≤ (b0 &&& (255 : Int32)).toInt ∧ (b0 &&& (255 : Int32)).toInt ≤ 255 := by omega
  have : i3_1.toInt = (b0 &&& (255 : Int32)).toInt := congrArg Int32.toInt hi3_1
  have : 0 ≤ i3_1.toInt ∧ i3_1.toInt ≤ 255 := by omega
  have : (128 : Int32).toInt = 128 := rfl
  have : (194 : Int32).toInt = 194 := rfl
  have : (223 : Int32).toInt = 223 := rfl
  have : (224 : Int32).toInt = 224 := rfl
  have : (240 : Int32).toInt = 240 := rfl
  have : (244 : Int32).toInt = 244 := rfl
  have := b32 b1
  have : (b1 &&& (255 : Int32)).toInt = b1.toInt % 256 := k_mask b1 (255 : Int32) 8 256 (by decide) (by decide) (by decide)
  have : 0 ≤ (b1 &&& (255 : Int32)).toInt ∧ (b1 &&& (255 : Int32)).toInt ≤ 255 := by omega
  have := b32 b2
  have : (b2 &&& (255 : Int32)).toInt = b2.toInt % 256 := k_mask b2 (255 : Int32) 8 256 (by decide) (by decide) (by decide)
  have : 0 ≤ (b2 &&& (255 : Int32)).toInt ∧ (b2 &&& (255 : Int32)).toInt ≤ 255 := by omega
  have := b32 b3
  have : (b3 &&& (255 : Int32)).toInt = b3.toInt % 256 := k_mask b3 (255 : Int32) 8 256 (by decide) (by decide) (by decide)
  have : 0 ≤ (b3 &&& (255 : Int32)).toInt ∧ (b3 &&& (255 : Int32)).toInt ≤ 255 := by omega
  have : (0 : Int32).toInt = 0 := rfl
  have := mt Int32.lt_iff_toInt_lt.mpr hc12_2
  have := mt Int32.lt_iff_toInt_lt.mpr hc31_3
  have := Int32.lt_iff_toInt_lt.mp hc38_58
  have := Int32.lt_iff_toInt_lt.mp hc51_59
  have := mt Int32.lt_iff_toInt_lt.mpr hc105_60
  have := Int32.lt_iff_toInt_lt.mp hc112_61
  unfold own_isLen
  exact Or.inr (Or.inr (Or.inr (Or.inr ⟨by omega, by omega, by omega, by omega, by omega⟩)))
set_option maxRecDepth 65536 in
set_option maxHeartbeats 40000000 in
theorem lf1_33 (ofs : Int32) (bs : List Int32) (hof : 0 ≤ ofs.toInt ∧ ofs.toInt ≤ 1) (hln : bs.length = 5) : ¬ (ofs + (1 : Int32)) < 0 ∧ (ofs + (1 : Int32)).toNatClampNeg < bs.length := by
  have := b32 ofs
  have := c_iadd ofs (1 : Int32)
  have := b32 (ofs + (1 : Int32))
  unfold Int32.toNatClampNeg
  try simp only [Int32.lt_iff_toInt_lt, ← Int32.toInt_inj, Int32.reduceToInt, Int64.lt_iff_toInt_lt, ← Int64.toInt_inj, Int64.reduceToInt, true_and, and_true, true_or, or_true, false_or, or_false, false_and, and_false, not_true_eq_false, not_false_eq_true] at *
  omega
set_option maxRecDepth 65536 in
set_option maxHeartbeats 40000000 in
theorem lf1_34 (ofs : Int32) (en : Int32) (b0 : Int32) (b1 : Int32) (b2 : Int32) (b3 : Int32) (i3_1 : Int32) (x64 : Int32) (x67 : Int32) (i7_69 : Int32) (hof : 0 ≤ ofs.toInt ∧ ofs.toInt ≤ 1) (hen : 1 ≤ en.toInt - ofs.toInt ∧ en.toInt - ofs.toInt ≤ 4) (hi3_1 : i3_1 = (b0 &&& (255 : Int32))) (hc12_2 : ¬ (i3_1 < (128 : Int32))) (hc31_3 : ¬ (i3_1 < (194 : Int32))) (hc38_58 : (223 : Int32) < i3_1) (hc51_59 : i3_1 < (224 : Int32)) (hc105_60 : ¬ (i3_1 < (240 : Int32))) (hc112_61 : ¬ ((244 : Int32) < i3_1)) (hjJ63 : ((¬ (i3_1 = (240 : Int32))) ∧ (x64 = (128 : Int32))) ∨ ((i3_1 = (240 : Int32)) ∧ (x64 = (144 : Int32)))) (hjJ66 : ((¬ (i3_1 = (244 : Int32))) ∧ (x67 = (191 : Int32))) ∨ ((i3_1 = (244 : Int32)) ∧ (x67 = (143 : Int32)))) (hc162_68 : ¬ ((en - ofs) < (4 : Int32))) (hi7_69 : i7_69 = (b1 &&& (255 : Int32))) (hc182_70 : i7_69 < x64) : own_isLen (b0 &&& (255 : Int32)).toInt (b1 &&& (255 : Int32)).toInt (b2 &&& (255 : Int32)).toInt (b3 &&& (255 : Int32)).toInt (en.toInt - ofs.toInt) (0 : Int32).toInt := by
  have := b32 en
  have := b32 b0
  have : (255 : Int32).toInt = 255 := rfl
  have : (b0 &&& (255 : Int32)).toInt = b0.toInt % 256 := k_mask b0 (255 : Int32) 8 256 (by decide) (by decide) (by decide)
  have : 0 ≤ (b0 &&& (255 : Int32)).toInt ∧ (b0 &&& (255 : Int32)).toInt ≤ 255 := by omega
  have : i3_1.toInt = (b0 &&& (255 : Int32)).toInt := congrArg Int32.toInt hi3_1
  have : 0 ≤ i3_1.toInt ∧ i3_1.toInt ≤ 255 := by omega
  have : (128 : Int32).toInt = 128 := rfl
  have : (194 : Int32).toInt = 194 := rfl
  have : (223 : Int32).toInt = 223 := rfl
  have : (224 : Int32).toInt = 224 := rfl
  have : (240 : Int32).toInt = 240 := rfl
  have : (244 : Int32).toInt = 244 := rfl
  have : (144 : Int32).toInt = 144 := rfl
  have := b32 x64
  have : (191 : Int32).toInt = 191 := rfl
  have : (143 : Int32).toInt = 143 := rfl
  have := b32 x67
  have := c_isub en ofs
  have := b32 (en - ofs)
  have : (4 : Int32).toInt = 4 := rfl
  have := b32 b1
  have : (b1 &&& (255 : Int32)).toInt = b1.toInt % 256 := k_mask b1 (255 : Int32) 8 256 (by decide) (by decide) (by decide)
  have : 0 ≤ (b1 &&& (255 : Int32)).toInt ∧ (b1 &&& (255 : Int32)).toInt ≤ 255 := by omega
  have : i7_69.toInt = (b1 &&& (255 : Int32)).toInt := congrArg Int32.toInt hi7_69
  have : 0 ≤ i7_69.toInt ∧ i7_69.toInt ≤ 255 := by omega
  have := b32 b2
  have : (b2 &&& (255 : Int32)).toInt = b2.toInt % 256 := k_mask b2 (255 : Int32) 8 256 (by decide) (by decide) (by decide)
  have : 0 ≤ (b2 &&& (255 : Int32)).toInt ∧ (b2 &&& (255 : Int32)).toInt ≤ 255 := by omega
  have := b32 b3
  have : (b3 &&& (255 : Int32)).toInt = b3.toInt % 256 := k_mask b3 (255 : Int32) 8 256 (by decide) (by decide) (by decide)
  have : 0 ≤ (b3 &&& (255 : Int32)).toInt ∧ (b3 &&& (255 : Int32)).toInt ≤ 255 := by omega
  have : (0 : Int32).toInt = 0 := rfl
  have := mt Int32.lt_iff_toInt_lt.mpr hc12_2
  have := mt Int32.lt_iff_toInt_lt.mpr hc31_3
  have := Int32.lt_iff_toInt_lt.mp hc38_58
  have := Int32.lt_iff_toInt_lt.mp hc51_59
  have := mt Int32.lt_iff_toInt_lt.mpr hc105_60
  have := mt Int32.lt_iff_toInt_lt.mpr hc112_61
  simp only [Int32.lt_iff_toInt_lt, ← Int32.toInt_inj] at hjJ63
  simp only [Int32.lt_iff_toInt_lt, ← Int32.toInt_inj] at hjJ66
  have := mt Int32.lt_iff_toInt_lt.mpr hc162_68
  have := Int32.lt_iff_toInt_lt.mp hc182_70
  unfold own_isLen
  exact Or.inr (Or.inr (Or.inr (Or.inr ⟨by omega, by omega, by omega, by omega, by omega⟩)))
set_option maxRecDepth 65536 in
set_option maxHeartbeats 40000000 in
theorem lf1_35 (ofs : Int32) (bs : List Int32) (hof : 0 ≤ ofs.toInt ∧ ofs.toInt ≤ 1) (hln : bs.length = 5) : ¬ (ofs + (2 : Int32)) < 0 ∧ (ofs + (2 : Int32)).toNatClampNeg < bs.length := by
  have := b32 ofs
  have := c_iadd ofs (2 : Int32)
  have := b32 (ofs + (2 : Int32))
  unfold Int32.toNatClampNeg
  try simp only [Int32.lt_iff_toInt_lt, ← Int32.toInt_inj, Int32.reduceToInt, Int64.lt_iff_toInt_lt, ← Int64.toInt_inj, Int64.reduceToInt, true_and, and_true, true_or, or_true, false_or, or_false, false_and, and_false, not_true_eq_false, not_false_eq_true] at *
  omega
set_option maxRecDepth 65536 in
set_option maxHeartbeats 40000000 in
theorem lf1_36 (ofs : Int32) (bs : List Int32) (hof : 0 ≤ ofs.toInt ∧ ofs.toInt ≤ 1) (hln : bs.length = 5) : ¬ (ofs + (3 : Int32)) < 0 ∧ (ofs + (3 : Int32)).toNatClampNeg < bs.length := by
  have := b32 ofs
  have := c_iadd ofs (3 : Int32)
  have := b32 (ofs + (3 : Int32))
  unfold Int32.toNatClampNeg
  try simp only [Int32.lt_iff_toInt_lt, ← Int32.toInt_inj, Int32.reduceToInt, Int64.lt_iff_toInt_lt, ← Int64.toInt_inj, Int64.reduceToInt, true_and, and_true, true_or, or_true, false_or, or_false, false_and, and_false, not_true_eq_false, not_false_eq_true] at *
  omega
set_option maxRecDepth 65536 in
set_option maxHeartbeats 40000000 in
theorem lf1_37 (ofs : Int32) (en : Int32) (b0 : Int32) (b1 : Int32) (b2 : Int32) (b3 : Int32) (i3_1 : Int32) (x64 : Int32) (x67 : Int32) (i7_69 : Int32) (r73 : Int32) (r76 : Int32) (hof : 0 ≤ ofs.toInt ∧ ofs.toInt ≤ 1) (hen : 1 ≤ en.toInt - ofs.toInt ∧ en.toInt - ofs.toInt ≤ 4) (hi3_1 : i3_1 = (b0 &&& (255 : Int32))) (hc12_2 : ¬ (i3_1 < (128 : Int32))) (hc31_3 : ¬ (i3_1 < (194 : Int32))) (hc38_58 : (223 : Int32) < i3_1) (hc51_59 : i3_1 < (224 : Int32)) (hc105_60 : ¬ (i3_1 < (240 : Int32))) (hc112_61 : ¬ ((244 : Int32) < i3_1)) (hjJ63 : ((¬ (i3_1 = (240 : Int32))) ∧ (x64 = (128 : Int32))) ∨ ((i3_1 = (240 : Int32)) ∧ (x64 = (144 : Int32)))) (hjJ66 : ((¬ (i3_1 = (244 : Int32))) ∧ (x67 = (191 : Int32))) ∨ ((i3_1 = (244 : Int32)) ∧ (x67 = (143 : Int32)))) (hc162_68 : ¬ ((en - ofs) < (4 : Int32))) (hi7_69 : i7_69 = (b1 &&& (255 : Int32))) (hc182_70 : ¬ (i7_69 < x64)) (hc189_71 : ¬ (x67 < i7_69)) (hc201_72 : (2 : Int32) < (4 : Int32)) (hr73 : (r73 = (1 : Int32) ∧ (b2 &&& (192 : Int32)) = (128 : Int32)) ∨ (r73 = (0 : Int32) ∧ ¬ ((b2 &&& (192 : Int32)) = (128 : Int32)))) (hc213_74 : ¬ (r73 = 0)) (hc201_75 : (3 : Int32) < (4 : Int32)) (hr76 : (r76 = (1 : Int32) ∧ (b3 &&& (192 : Int32)) = (128 : Int32)) ∨ (r76 = (0 : Int32) ∧ ¬ ((b3 &&& (192 : Int32)) = (128 : Int32)))) (hc213_77 : ¬ (r76 = 0)) (hc201_78 : ¬ ((4 : Int32) < (4 : Int32))) : own_isLen (b0 &&& (255 : Int32)).toInt (b1 &&& (255 : Int32)).toInt (b2 &&& (255 : Int32)).toInt (b3 &&& (255 : Int32)).toInt (en.toInt - ofs.toInt) (4 : Int32).toInt := by
  have := b32 en
  have := b32 b0
  have : (255 : Int32).toInt = 255 := rfl
  have : (b0 &&& (255 : Int32)).toInt = b0.toInt % 256 := k_mask b0 (255 : Int32) 8 256 (by decide) (by decide) (by decide)
  have : 0 ≤ (b0 &&& (255 : Int32)).toInt ∧ (b0 &&& (255 : Int32)).toInt ≤ 255 := by omega
  have : i3_1.toInt = (b0 &&& (255 : Int32)).toInt := congrArg Int32.toInt hi3_1
  have : 0 ≤ i3_1.toInt ∧ i3_1.toInt ≤ 255 := by omega
  have : (128 : Int32).toInt = 128 := rfl
  have : (194 : Int32).toInt = 194 := rfl
  have : (223 : Int32).toInt = 223 := rfl
  have : (224 : Int32).toInt = 224 := rfl
  have : (240 : Int32).toInt = 240 := rfl
  have : (244 : Int32).toInt = 244 := rfl
  have : (144 : Int32).toInt = 144 := rfl
  have := b32 x64
  have : (191 : Int32).toInt = 191 := rfl
  have : (143 : Int32).toInt = 143 := rfl
  have := b32 x67
  have := c_isub en ofs
  have := b32 (en - ofs)
  have : (4 : Int32).toInt = 4 := rfl
  have := b32 b1
  have : (b1 &&& (255 : Int32)).toInt = b1.toInt % 256 := k_mask b1 (255 : Int32) 8 256 (by decide) (by decide) (by decide)
  have : 0 ≤ (b1 &&& (255 : Int32)).toInt ∧ (b1 &&& (255 : Int32)).toInt ≤ 255 := by omega
  have : i7_69.toInt = (b1 &&& (255 : Int32)).toInt := congrArg Int32.toInt hi7_69
  have : 0 ≤ i7_69.toInt ∧ i7_69.toInt ≤ 255 := by omega
  have : (2 : Int32).toInt = 2 := rfl
  have : (1 : Int32).toInt = 1 := rfl
  have : (192 : Int32).toInt = 192 := rfl
  have := b32 b2
  have : (b2 &&& (192 : Int32)).toInt = b2.toInt % 256 - b2.toInt % 64 := k_field b2 (192 : Int32) (63 : Int32) (255 : Int32) 6 8 64 256 (by decide) (by decide) (by decide) (by decide) (by decide) (by decide) (by decide) (by decide) (by decide) (by decide) (by decide) (by decide)
  have : 0 ≤ (b2 &&& (192 : Int32)).toInt ∧ (b2 &&& (192 : Int32)).toInt ≤ 192 := by omega
  have : (0 : Int32).toInt = 0 := rfl
  have := b32 r73
  have : (3 : Int32).toInt = 3 := rfl
  have := b32 b3
  have : (b3 &&& (192 : Int32)).toInt = b3.toInt % 256 - b3.toInt % 64 := k_field b3 (192 : Int32) (63 : Int32) (255 : Int32) 6 8 64 256 (by decide) (by decide) (by decide) (by decide) (by decide) (by decide) (by decide) (by decide) (by decide) (by decide) (by decide) (by decide)
  have : 0 ≤ (b3 &&& (192 : Int32)).toInt ∧ (b3 &&& (192 : Int32)).toInt ≤ 192 := by omega
  have := b32 r76
  have : (b2 &&& (255 : Int32)).toInt = b2.toInt % 256 := k_mask b2 (255 : Int32) 8 256 (by decide) (by decide) (by decide)
  have : 0 ≤ (b2 &&& (255 : Int32)).toInt ∧ (b2 &&& (255 : Int32)).toInt ≤ 255 := by omega
  have : (b3 &&& (255 : Int32)).toInt = b3.toInt % 256 := k_mask b3 (255 : Int32) 8 256 (by decide) (by decide) (by decide)
  have : 0 ≤ (b3 &&& (255 : Int32)).toInt ∧ (b3 &&& (255 : Int32)).toInt ≤ 255 := by omega
  have := mt Int32.lt_iff_toInt_lt.mpr hc12_2
  have := mt Int32.lt_iff_toInt_lt.mpr hc31_3
  have := Int32.lt_iff_toInt_lt.mp hc38_58
  have := Int32.lt_iff_toInt_lt.mp hc51_59
  have := mt Int32.lt_iff_toInt_lt.mpr hc105_60
  have := mt Int32.lt_iff_toInt_lt.mpr hc112_61
  simp only [Int32.lt_iff_toInt_lt, ← Int32.toInt_inj] at hjJ63
  simp only [Int32.lt_iff_toInt_lt, ← Int32.toInt_inj] at hjJ66
  have := mt Int32.lt_iff_toInt_lt.mpr hc162_68
  have := mt Int32.lt_iff_toInt_lt.mpr hc182_70
  have := mt Int32.lt_iff_toInt_lt.mpr hc189_71
  have := Int32.lt_iff_toInt_lt.mp hc201_72
  simp only [Int32.lt_iff_toInt_lt, ← Int32.toInt_inj] at hr73
  have := mt Int32.toInt_inj.mp hc213_74
  have := Int32.lt_iff_toInt_lt.mp hc201_75
  simp only [Int32.lt_iff_toInt_lt, ← Int32.toInt_inj] at hr76
  have := mt Int32.toInt_inj.mp hc213_77
  have := mt Int32.lt_iff_toInt_lt.mpr hc201_78
  unfold own_isLen
  exact Or.inr (Or.inr (Or.inr (Or.inl ⟨by omega, by omega, by omega, by omega, by omega, by omega, by omega, by omega, by omega, by omega, by omega, by omega⟩)))
set_option maxRecDepth 65536 in
set_option maxHeartbeats 40000000 in
theorem lf1_38 (ofs : Int32) (en : Int32) (b0 : Int32) (b1 : Int32) (b2 : Int32) (b3 : Int32) (i3_1 : Int32) (x64 : Int32) (x67 : Int32) (i7_69 : Int32) (r73 : Int32) (r76 : Int32) (hof : 0 ≤ ofs.toInt ∧ ofs.toInt ≤ 1) (hen : 1 ≤ en.toInt - ofs.toInt ∧ en.toInt - ofs.toInt ≤ 4) (hi3_1 : i3_1 = (b0 &&& (255 : Int32))) (hc12_2 : ¬ (i3_1 < (128 : Int32))) (hc31_3 : ¬ (i3_1 < (194 : Int32))) (hc38_58 : (223 : Int32) < i3_1) (hc51_59 : i3_1 < (224 : Int32)) (hc105_60 : ¬ (i3_1 < (240 : Int32))) (hc112_61 : ¬ ((244 : Int32) < i3_1)) (hjJ63 : ((¬ (i3_1 = (240 : Int32))) ∧ (x64 = (128 : Int32))) ∨ ((i3_1 = (240 : Int32)) ∧ (x64 = (144 : Int32)))) (hjJ66 : ((¬ (i3_1 = (244 : Int32))) ∧ (x67 = (191 : Int32))) ∨ ((i3_1 = (244 : Int32)) ∧ (x67 = (143 : Int32)))) (hc162_68 : ¬ ((en - ofs) < (4 : Int32))) (hi7_69 : i7_69 = (b1 &&& (255 : Int32))) (hc182_70 : ¬ (i7_69 < x64)) (hc189_71 : ¬ (x67 < i7_69)) (hc201_72 : (2 : Int32) < (4 : Int32)) (hr73 : (r73 = (1 : Int32) ∧ (b2 &&& (192 : Int32)) = (128 : Int32)) ∨ (r73 = (0 : Int32) ∧ ¬ ((b2 &&& (192 : Int32)) = (128 : Int32)))) (hc213_74 : ¬ (r73 = 0)) (hc201_75 : (3 : Int32) < (4 : Int32)) (hr76 : (r76 = (1 : Int32) ∧ (b3 &&& (192 : Int32)) = (128 : Int32)) ∨ (r76 = (0 : Int32) ∧ ¬ ((b3 &&& (192 : Int32)) = (128 : Int32)))) (hc213_77 : r76 = 0) : own_isLen (b0 &&& (255 : Int32)).toInt (b1 &&& (255 : Int32)).toInt (b2 &&& (255 : Int32)).toInt (b3 &&& (255 : Int32)).toInt (en.toInt - ofs.toInt) (0 : Int32).toInt := by
  have := b32 en
  have := b32 b0
  have : (255 : Int32).toInt = 255 := rfl
  have : (b0 &&& (255 : Int32)).toInt = b0.toInt % 256 := k_mask b0 (255 : Int32) 8 256 (by decide) (by decide) (by decide)
  have : 0 ≤ (b0 &&& (255 : Int32)).toInt ∧ (b0 &&& (255 : Int32)).toInt ≤ 255 := by omega
  have : i3_1.toInt = (b0 &&& (255 : Int32)).toInt := congrArg Int32.toInt hi3_1
  have : 0 ≤ i3_1.toInt ∧ i3_1.toInt ≤ 255 := by omega
  have : (128 : Int32).toInt = 128 := rfl
  have : (194 : Int32).toInt = 194 := rfl
  have : (223 : Int32).toInt = 223 := rfl
  have : (224 : Int32).toInt = 224 := rfl
  have : (240 : Int32).toInt = 240 := rfl
  have : (244 : Int32).toInt = 244 := rfl
  have : (144 : Int32).toInt = 144 := rfl
  have := b32 x64
  have : (191 : Int32).toInt = 191 := rfl
  have : (143 : Int32).toInt = 143 := rfl
  have := b32 x67
  have := c_isub en ofs
  have := b32 (en - ofs)
  have : (4 : Int32).toInt = 4 := rfl
  have := b32 b1
  have : (b1 &&& (255 : Int32)).toInt = b1.toInt % 256 := k_mask b1 (255 : Int32) 8 256 (by decide) (by decide) (by decide)
  have : 0 ≤ (b1 &&& (255 : Int32)).toInt ∧ (b1 &&& (255 : Int32)).toInt ≤ 255 := by omega
  have : i7_69.toInt = (b1 &&& (255 : Int32)).toInt := congrArg Int32.toInt hi7_69
  have : 0 ≤ i7_69.toInt ∧ i7_69.toInt ≤ 255 := by omega
  have : (2 : Int32).toInt = 2 := rfl
  have : (1 : Int32).toInt = 1 := rfl
  have : (192 : Int32).toInt = 192 := rfl
  have := b32 b2
  have : (b2 &&& (192 : Int32)).toInt = b2.toInt % 256 - b2.toInt % 64 := k_field b2 (192 : Int32) (63 : Int32) (255 : Int32) 6 8 64 256 (by decide) (by decide) (by decide) (by decide) (by decide) (by decide) (by decide) (by decide) (by decide) (by decide) (by decide) (by decide)
  have : 0 ≤ (b2 &&& (192 : Int32)).toInt ∧ (b2 &&& (192 : Int32)).toInt ≤ 192 := by omega
  have : (0 : Int32).toInt = 0 := rfl
  have := b32 r73
  have : (3 : Int32).toInt = 3 := rfl
  have := b32 b3
  have : (b3 &&& (192 : Int32)).toInt = b3.toInt % 256 - b3.toInt % 64 := k_field b3 (192 : Int32) (63 : Int32) (255 : Int32) 6 8 64 256 (by decide) (by decide) (by decide) (by decide) (by decide) (by decide) (by decide) (by decide) (by decide) (by decide) (by decide) (by decide)
  have : 0 ≤ (b3 &&& (192 : Int32)).toInt ∧ (b3 &&& (192 : Int32)).toInt ≤ 192 := by omega
  have := b32 r76
  have : (b2 &&& (255 : Int32)).toInt = b2.toInt % 256 := k_mask b2 (255 : Int32) 8 256 (by decide) (by decide) (by decide)
  have : 0 ≤ (b2 &&& (255 : Int32)).toInt ∧ (b2 &&& (255 : Int32)).toInt ≤ 255 := by omega
  have : (b3 &&& (255 : Int32)).toInt = b3.toInt % 256 := k_mask b3 (255 : Int32) 8 256 (by decide) (by decide) (by decide)
  have : 0 ≤ (b3 &&& (255 : Int32)).toInt ∧ (b3 &&& (255 : Int32)).toInt ≤ 255 := by omega
  have := mt Int32.lt_iff_toInt_lt.mpr hc12_2
  have := mt Int32.lt_iff_toInt_lt.mpr hc31_3
  have := Int32.lt_iff_toInt_lt.mp hc38_58
  have := Int32.lt_iff_toInt_lt.mp hc51_59
  have := mt Int32.lt_iff_toInt_lt.mpr hc105_60
  have := mt Int32.lt_iff_toInt_lt.mpr hc112_61
  simp only [Int32.lt_iff_toInt_lt, ← Int32.toInt_inj] at hjJ63
  simp only [Int32.lt_iff_toInt_lt, ← Int32.toInt_inj] at hjJ66
  have := mt Int32.lt_iff_toInt_lt.mpr hc162_68
  have := mt Int32.lt_iff_toInt_lt.mpr hc182_70
  have := mt Int32.lt_iff_toInt_lt.mpr hc189_71
  have := Int32.lt_iff_toInt_lt.mp hc201_72
  simp only [Int32.lt_iff_toInt_lt, ← Int32.toInt_inj] at hr73
  have := mt Int32.toInt_inj.mp hc213_74
  have := Int32.lt_iff_toInt_lt.mp hc201_75
  simp only [Int32.lt_iff_toInt_lt, ← Int32.toInt_inj] at hr76
  have := congrArg Int32.toInt hc213_77
  unfold own_isLen
  exact Or.inr (Or.inr (Or.inr (Or.inr ⟨by omega, by omega, by omega, by omega, by omega⟩)))
set_option maxRecDepth 65536 in
set_option maxHeartbeats 40000000 in
theorem lf1_39 (ofs : Int32) (en : Int32) (b0 : Int32) (b1 : Int32) (b2 : Int32) (b3 : Int32) (i3_1 : Int32) (x64 : Int32) (x67 : Int32) (i7_69 : Int32) (r73 : Int32) (hof : 0 ≤ ofs.toInt ∧ ofs.toInt ≤ 1) (hen : 1 ≤ en.toInt - ofs.toInt ∧ en.toInt - ofs.toInt ≤ 4) (hi3_1 : i3_1 = (b0 &&& (255 : Int32))) (hc12_2 : ¬ (i3_1 < (128 : Int32))) (hc31_3 : ¬ (i3_1 < (194 : Int32))) (hc38_58 : (223 : Int32) < i3_1) (hc51_59 : i3_1 < (224 : Int32)) (hc105_60 : ¬ (i3_1 < (240 : Int32))) (hc112_61 : ¬ ((244 : Int32) < i3_1)) (hjJ63 : ((¬ (i3_1 = (240 : Int32))) ∧ (x64 = (128 : Int32))) ∨ ((i3_1 = (240 : Int32)) ∧ (x64 = (144 : Int32)))) (hjJ66 : ((¬ (i3_1 = (244 : Int32))) ∧ (x67 = (191 : Int32))) ∨ ((i3_1 = (244 : Int32)) ∧ (x67 = (143 : Int32)))) (hc162_68 : ¬ ((en - ofs) < (4 : Int32))) (hi7_69 : i7_69 = (b1 &&& (255 : Int32))) (hc182_70 : ¬ (i7_69 < x64)) (hc189_71 : ¬ (x67 < i7_69)) (hc201_72 : (2 : Int32) < (4 : Int32)) (hr73 : (r73 = (1 : Int32) ∧ (b2 &&& (192 : Int32)) = (128 : Int32)) ∨ (r73 = (0 : Int32) ∧ ¬ ((b2 &&& (192 : Int32)) = (128 : Int32)))) (hc213_74 : r73 = 0) : own_isLen (b0 &&& (255 : Int32)).toInt (b1 &&& (255 : Int32)).toInt (b2 &&& (255 : Int32)).toInt (b3 &&& (255 : Int32)).toInt (en.toInt - ofs.toInt) (0 : Int32).toInt := by
  have := b32 en
  have := b32 b0
  have : (255 : Int32).toInt = 255 := rfl
  have : (b0 &&& (255 : Int32)).toInt = b0.toInt % 256 := k_mask b0 (255 : Int32) 8 256 (by decide) (by decide) (by decide)
  have : 0 ≤ (b0 &&& (255 : Int32)).toInt ∧ (b0 &&& (255 : Int32)).toInt ≤ 255 := by omega
  have : i3_1.toInt = (b0 &&& (255 : Int32)).toInt := congrArg Int32.toInt hi3_1
  have : 0 ≤ i3_1.toInt ∧ i3_1.toInt ≤ 255 := by omega
  have : (128 : Int32).toInt = 128 := rfl
  have : (194 : Int32).toInt = 194 := rfl
  have : (223 : Int32).toInt = 223 := rfl
  have : (224 : Int32).toInt = 224 := rfl
  have : (240 : Int32).toInt = 240 := rfl
  have : (244 : Int32).toInt = 244 := rfl
  have : (144 : Int32).toInt = 144 := rfl
  have := b32 x64
  have : (191 : Int32).toInt = 191 := rfl
  have : (143 : Int32).toInt = 143 := rfl
  have := b32 x67
  have := c_isub en ofs
  have := b32 (en - ofs)
  have : (4 : Int32).toInt = 4 := rfl
  have := b32 b1
  have : (b1 &&& (255 : Int32)).toInt = b1.toInt % 256 := k_mask b1 (255 : Int32) 8 256 (by decide) (by decide) (by decide)
  have : 0 ≤ (b1 &&& (255 : Int32)).toInt ∧ (b1 &&& (255 : Int32)).toInt ≤ 255 := by omega
  have : i7_69.toInt = (b1 &&& (255 : Int32)).toInt := congrArg Int32.toInt hi7_69
  have : 0 ≤ i7_69.toInt ∧ i7_69.toInt ≤ 255 := by omega
  have : (2 : Int32).toInt = 2 := rfl
  have : (1 : Int32).toInt = 1 := rfl
  have : (192 : Int32).toInt = 192 := rfl
  have := b32 b2
  have : (b2 &&& (192 : Int32)).toInt = b2.toInt % 256 - b2.toInt % 64 := k_field b2 (192 : Int32) (63 : Int32) (255 : Int32) 6 8 64 256 (by decide) (by decide) (by decide) (by decide) (by decide) (by decide) (by decide) (by decide) (by decide) (by decide) (by decide) (by decide)
  have : 0 ≤ (b2 &&& (192 : Int32)).toInt ∧ (b2 &&& (192 : Int32)).toInt ≤ 192 := by omega
  have : (0 : Int32).toInt = 0 := rfl
  have := b32 r73
  have : (b2 &&& (255 : Int32)).toInt = b2.toInt % 256 := k_mask b2 (255 : Int32) 8 256 (by decide) (by decide) (by decide)
  have : 0 ≤ (b2 &&& (255 : Int32)).toInt ∧ (b2 &&& (255 : Int32)).toInt ≤ 255 := by omega
  have := b32 b3
  have : (b3 &&& (255 : Int32)).toInt = b3.toInt % 256 := k_mask b3 (255 : Int32) 8 256 (by decide) (by decide) (by decide)
  have : 0 ≤ (b3 &&& (255 : Int32)).toInt ∧ (b3 &&& (255 : Int32)).toInt ≤ 255 := by omega
  have := mt Int32.lt_iff_toInt_lt.mpr hc12_2
  have := mt Int32.lt_iff_toInt_lt.mpr hc31_3
  have := Int32.lt_iff_toInt_lt.mp hc38_58
  have := Int32.lt_iff_toInt_lt.mp hc51_59
  have := mt Int32.lt_iff_toInt_lt.mpr hc105_60
  have := mt Int32.lt_iff_toInt_lt.mpr hc112_61
  simp only [Int32.lt_iff_toInt_lt, ← Int32.toInt_inj] at hjJ63
  simp only [Int32.lt_iff_toInt_lt, ← Int32.toInt_inj] at hjJ66
  have := mt Int32.lt_iff_toInt_lt.mpr hc162_68
  have := mt Int32.lt_iff_toInt_lt.mpr hc182_70
  have := mt Int32.lt_iff_toInt_lt.mpr hc189_71
  have := Int32.lt_iff_toInt_lt.mp hc201_72
  simp only [Int32.lt_iff_toInt_lt, ← Int32.toInt_inj] at hr73
  have := congrArg Int32.toInt hc213_74
  unfold own_isLen
  exact Or.inr (Or.inr (Or.inr (Or.inr ⟨by omega, by omega, by omega, by omega, by omega⟩)))
set_option maxRecDepth 65536 in
set_option maxHeartbeats 40000000 in
theorem lf1_40 (ofs : Int32) (en : Int32) (b0 : Int32) (b1 : Int32) (b2 : Int32) (b3 : Int32) (i3_1 : Int32) (x64 : Int32) (x67 : Int32) (i7_69 : Int32) (hof : 0 ≤ ofs.toInt ∧ ofs.toInt ≤ 1) (hen : 1 ≤ en.toInt - ofs.toInt ∧ en.toInt - ofs.toInt ≤ 4) (hi3_1 : i3_1 = (b0 &&& (255 : Int32))) (hc12_2 : ¬ (i3_1 < (128 : Int32))) (hc31_3 : ¬ (i3_1 < (194 : Int32))) (hc38_58 : (223 : Int32) < i3_1) (hc51_59 : i3_1 < (224 : Int32)) (hc105_60 : ¬ (i3_1 < (240 : Int32))) (hc112_61 : ¬ ((244 : Int32) < i3_1)) (hjJ63 : ((¬ (i3_1 = (240 : Int32))) ∧ (x64 = (128 : Int32))) ∨ ((i3_1 = (240 : Int32)) ∧ (x64 = (144 : Int32)))) (hjJ66 : ((¬ (i3_1 = (244 : Int32))) ∧ (x67 = (191 : Int32))) ∨ ((i3_1 = (244 : Int32)) ∧ (x67 = (143 : Int32)))) (hc162_68 : ¬ ((en - ofs) < (4 : Int32))) (hi7_69 : i7_69 = (b1 &&& (255 : Int32))) (hc182_70 : ¬ (i7_69 < x64)) (hc189_71 : x67 < i7_69) : own_isLen (b0 &&& (255 : Int32)).toInt (b1 &&& (255 : Int32)).toInt (b2 &&& (255 : Int32)).toInt (b3 &&& (255 : Int32)).toInt (en.toInt - ofs.toInt) (0 : Int32).toInt := by
  have := b32 en
  have := b32 b0
  have : (255 : Int32).toInt = 255 := rfl
  have : (b0 &&& (255 : Int32)).toInt = b0.toInt % 256 := k_mask b0 (255 : Int32) 8 256 (by decide) (by decide) (by decide)
  have : 0 ≤ (b0 &&& (255 : Int32)).toInt ∧ (b0 &&& (255 : Int32)).toInt ≤ 255 := by omega
  have : i3_1.toInt = (b0 &&& (255 : Int32)).toInt := congrArg Int32.toInt hi3_1
  have : 0 ≤ i3_1.toInt ∧ i3_1.toInt ≤ 255 := by omega
  have : (128 : Int32).toInt = 128 := rfl
  have : (194 : Int32).toInt = 194 := rfl
  have : (223 : Int32).toInt = 223 := rfl
  have : (224 : Int32).toInt = 224 := rfl
  have : (240 : Int32).toInt = 240 := rfl
  have : (244 : Int32).toInt = 244 := rfl
  have : (144 : Int32).toInt = 144 := rfl
  have := b32 x64
  have : (191 : Int32).toInt = 191 := rfl
  have : (143 : Int32).toInt = 143 := rfl
  have := b32 x67
  have := c_isub en ofs
  have := b32 (en - ofs)
  have : (4 : Int32).toInt = 4 := rfl
  have := b32 b1
  have : (b1 &&& (255 : Int32)).toInt = b1.toInt % 256 := k_mask b1 (255 : Int32) 8 256 (by decide) (by decide) (by decide)
  have : 0 ≤ (b1 &&& (255 : Int32)).toInt ∧ (b1 &&& (255 : Int32)).toInt ≤ 255 := by omega
  have : i7_69.toInt = (b1 &&& (255 : Int32)).toInt := congrArg Int32.toInt hi7_69
  have : 0 ≤ i7_69.toInt ∧ i7_69.toInt ≤ 255 := by omega
  have := b32 b2
  have : (b2 &&& (255 : Int32)).toInt = b2.toInt % 256 := k_mask b2 (255 : Int32) 8 256 (by decide) (by decide) (by decide)
  have : 0 ≤ (b2 &&& (255 : Int32)).toInt ∧ (b2 &&& (255 : Int32)).toInt ≤ 255 := by omega
  have := b32 b3
  have : (b3 &&& (255 : Int32)).toInt = b3.toInt % 256 := k_mask b3 (255 : Int32) 8 256 (by decide) (by decide) (by decide)
  have : 0 ≤ (b3 &&& (255 : Int32)).toInt ∧ (b3 &&& (255 : Int32)).toInt ≤ 255 := by omega
  have : (0 : Int32).toInt = 0 := rfl
  have := mt Int32.lt_iff_toInt_lt.mpr hc12_2
  have := mt Int32.lt_iff_toInt_lt.mpr hc31_3
  have := Int32.lt_iff_toInt_lt.mp hc38_58
  have := Int32.lt_iff_toInt_lt.mp hc51_59
  have := mt Int32.lt_iff_toInt_lt.mpr hc105_60
  have := mt Int32.lt_iff_toInt_lt.mpr hc112_61
  simp only [Int32.lt_iff_toInt_lt, ← Int32.toInt_inj] at hjJ63
  simp only [Int32.lt_iff_toInt_lt, ← Int32.toInt_inj] at hjJ66
  have := mt Int32.lt_iff_toInt_lt.mpr hc162_68
  have := mt Int32.lt_iff_toInt_lt.mpr hc182_70
  have := Int32.lt_iff_toInt_lt.mp hc189_71
  unfold own_isLen
  exact Or.inr (Or.inr (Or.inr (Or.inr ⟨by omega, by omega, by omega, by omega, by omega⟩)))
set_option maxRecDepth 65536 in
set_option maxHeartbeats 40000000 in
theorem lf1_41 (ofs : Int32) (en : Int32) (b0 : Int32) (b1 : Int32) (b2 : Int32) (b3 : Int32) (i3_1 : Int32) (x64 : Int32) (x67 : Int32) (hof : 0 ≤ ofs.toInt ∧ ofs.toInt ≤ 1) (hen : 1 ≤ en.toInt - ofs.toInt ∧ en.toInt - ofs.toInt ≤ 4) (hi3_1 : i3_1 = (b0 &&& (255 : Int32))) (hc12_2 : ¬ (i3_1 < (128 : Int32))) (hc31_3 : ¬ (i3_1 < (194 : Int32))) (hc38_58 : (223 : Int32) < i3_1) (hc51_59 : i3_1 < (224 : Int32)) (hc105_60 : ¬ (i3_1 < (240 : Int32))) (hc112_61 : ¬ ((244 : Int32) < i3_1)) (hjJ63 : ((¬ (i3_1 = (240 : Int32))) ∧ (x64 = (128 : Int32))) ∨ ((i3_1 = (240 : Int32)) ∧ (x64 = (144 : Int32)))) (hjJ66 : ((¬ (i3_1 = (244 : Int32))) ∧ (x67 = (191 : Int32))) ∨ ((i3_1 = (244 : Int32)) ∧ (x67 = (143 : Int32)))) (hc162_68 : (en - ofs) < (4 : Int32)) : own_isLen (b0 &&& (255 : Int32)).toInt (b1 &&& (255 : Int32)).toInt (b2 &&& (255 : Int32)).toInt (b3 &&& (255 : Int32)).toInt (en.toInt - ofs.toInt) (0 : Int32).toInt := by
  have := b32 en
  have := b32 b0
  have : (255 : Int32).toInt = 255 := rfl
  have : (b0 &&& (255 : Int32)).toInt = b0.toInt % 256 := k_mask b0 (255 : Int32) 8 256 (by decide) (by decide) (by decide)
  have : 0 ≤ (b0 &&& (255 : Int32)).toInt ∧ (b0 &&& (255 : Int32)).toInt ≤ 255 := by omega
  have : i3_1.toInt = (b0 &&& (255 : Int32)).toInt := congrArg Int32.toInt hi3_1
  have : 0 ≤ i3_1.toInt ∧ i3_1.toInt ≤ 255 := by omega
  have : (128 : Int32).toInt = 128 := rfl
  have : (194 : Int32).toInt = 194 := rfl
  have : (223 : Int32).toInt = 223 := rfl
  have : (224 : Int32).toInt = 224 := rfl
  have : (240 : Int32).toInt = 240 := rfl
  have : (244 : Int32).toInt = 244 := rfl
  have : (144 : Int32).toInt = 144 := rfl
  have := b32 x64
  have : (191 : Int32).toInt = 191 := rfl
  have : (143 : Int32).toInt = 143 := rfl
  have := b32 x67
  have := c_isub en ofs
  have := b32 (en - ofs)
  have : (4 : Int32).toInt = 4 := rfl
  have := b32 b1
  have : (b1 &&& (255 : Int32)).toInt = b1.toInt % 256 := k_mask b1 (255 : Int32) 8 256 (by decide) (by decide) (by decide)
  have : 0 ≤ (b1 &&& (255 : Int32)).toInt ∧ (b1 &&& (255 : Int32)).toInt ≤ 255 := by omega
  have := b32 b2
  have : (b2 &&& (255 : Int32)).toInt = b2.toInt % 256 := k_mask b2 (255 : Int32) 8 256 (by decide) (by decide) (by decide)
  have : 0 ≤ (b2 &&& (255 : Int32)).toInt ∧ (b2 &&& (255 : Int32)).toInt ≤ 255 := by omega
  have := b32 b3
  have : (b3 &&& (255 : Int32)).toInt = b3.toInt % 256 := k_mask b3 (255 : Int32) 8 256 (by decide) (by decide) (by decide)
  have : 0 ≤ (b3 &&& (255 : Int32)).toInt ∧ (b3 &&& (255 : Int32)).toInt ≤ 255 := by omega
  have : (0 : Int32).toInt = 0 := rfl
  have := mt Int32.lt_iff_toInt_lt.mpr hc12_2
  have := mt Int32.lt_iff_toInt_lt.mpr hc31_3
  have := Int32.lt_iff_toInt_lt.mp hc38_58
  have := Int32.lt_iff_toInt_lt.mp hc51_59
  have := mt Int32.lt_iff_toInt_lt.mpr hc105_60
  have := mt Int32.lt_iff_toInt_lt.mpr hc112_61
  simp only [Int32.lt_iff_toInt_lt, ← Int32.toInt_inj] at hjJ63
  simp only [Int32.lt_iff_toInt_lt, ← Int32.toInt_inj] at hjJ66
  have := Int32.lt_iff_toInt_lt.mp hc162_68
  unfold own_isLen
  exact Or.inr (Or.inr (Or.inr (Or.inr ⟨by omega, by omega, by omega, by omega, by omega⟩)))
set_option maxRecDepth 65536 in
set_option maxHeartbeats 40000000 in
theorem lf1_42 (ofs : Int32) (en : Int32) (b0 : Int32) (b1 : Int32) (b2 : Int32) (b3 : Int32) (i3_1 : Int32) (hof : 0 ≤ ofs.toInt ∧ ofs.toInt ≤ 1) (hen : 1 ≤ en.toInt - ofs.toInt ∧ en.toInt - ofs.toInt ≤ 4) (hi3_1 : i3_1 = (b0 &&& (255 : Int32))) (hc12_2 : ¬ (i3_1 < (128 : Int32))) (hc31_3 : ¬ (i3_1 < (194 : Int32))) (hc38_58 : (223 : Int32) < i3_1) (hc51_59 : ¬ (i3_1 < (224 : Int32))) (hc58_79 : (239 : Int32) < i3_1) (hc105_80 : i3_1 < (240 : Int32)) : own_isLen (b0 &&& (255 : Int32)).toInt (b1 &&& (255 : Int32)).toInt (b2 &&& (255 : Int32)).toInt (b3 &&& (255 : Int32)).toInt (en.toInt - ofs.toInt) (0 : Int32).toInt := by
  have := b32 en
  have := b32 b0
  have : (255 : Int32).toInt = 255 := rfl
  have : (b0 &&& (255 : Int32)).toInt = b0.toInt % 256 := k_mask b0 (255 : Int32) 8 256 (by decide) (by decide) (by decide)
  have : 0 ≤ (b0 &&& (255 : Int32)).toInt ∧ (b0 &&& (255 : Int32)).toInt ≤ 255 := by omega
  have : i3_1.toInt = (b0 &&& (255 : Int32)).toInt := congrArg Int32.toInt hi3_1
  have : 0 ≤ i3_1.toInt ∧ i3_1.toInt ≤ 255 := by omega
  have : (128 : Int32).toInt = 128 := rfl
  have : (194 : Int32).toInt = 194 := rfl
  have : (223 : Int32).toInt = 223 := rfl
  have : (224 : Int32).toInt = 224 := rfl
  have : (239 : Int32).toInt = 239 := rfl
  have : (240 : Int32).toInt = 240 := rfl
  have := b32 b1
  have : (b1 &&& (255 : Int32)).toInt = b1.toInt % 256 := k_mask b1 (255 : Int32) 8 256 (by decide) (by decide) (by decide)
  have : 0 ≤ (b1 &&& (255 : Int32)).toInt ∧ (b1 &&& (255 : Int32)).toInt ≤ 255 := by omega
  have := b32 b2
  have : (b2 &&& (255 : Int32)).toInt = b2.toInt % 256 := k_mask b2 (255 : Int32) 8 256 (by decide) (by decide) (by decide)
  have : 0 ≤ (b2 &&& (255 : Int32)).toInt ∧ (b2 &&& (255 : Int32)).toInt ≤ 255 := by omega
  have := b32 b3
  have : (b3 &&& (255 : Int32)).toInt = b3.toInt % 256 := k_mask b3 (255 : Int32) 8 256 (by decide) (by decide) (by decide)
  have : 0 ≤ (b3 &&& (255 : Int32)).toInt ∧ (b3 &&& (255 : Int32)).toInt ≤ 255 := by omega
  have : (0 : Int32).toInt = 0 := rfl
  have := mt Int32.lt_iff_toInt_lt.mpr hc12_2
  have := mt Int32.lt_iff_toInt_lt.mpr hc31_3
  have := Int32.lt_iff_toInt_lt.mp hc38_58
  have := mt Int32.lt_iff_toInt_lt.mpr hc51_59
  have := Int32.lt_iff_toInt_lt.mp hc58_79
  have := Int32.lt_iff_toInt_lt.mp hc105_80
  unfold own_isLen
  exact Or.inr (Or.inr (Or.inr (Or.inr ⟨by omega, by omega, by omega, by omega, by omega⟩)))
set_option maxRecDepth 65536 in
set_option maxHeartbeats 40000000 in
theorem lf1_43 (ofs : Int32) (en : Int32) (b0 : Int32) (b1 : Int32) (b2 : Int32) (b3 : Int32) (i3_1 : Int32) (hof : 0 ≤ ofs.toInt ∧ ofs.toInt ≤ 1) (hen : 1 ≤ en.toInt - ofs.toInt ∧ en.toInt - ofs.toInt ≤ 4) (hi3_1 : i3_1 = (b0 &&& (255 : Int32))) (hc12_2 : ¬ (i3_1 < (128 : Int32))) (hc31_3 : ¬ (i3_1 < (194 : Int32))) (hc38_58 : (223 : Int32) < i3_1) (hc51_59 : ¬ (i3_1 < (224 : Int32))) (hc58_79 : (239 : Int32) < i3_1) (hc105_80 : ¬ (i3_1 < (240 : Int32))) (hc112_81 : (244 : Int32) < i3_1) : own_isLen (b0 &&& (255 : Int32)).toInt (b1 &&& (255 : Int32)).toInt (b2 &&& (255 : Int32)).toInt (b3 &&& (255 : Int32)).toInt (en.toInt - ofs.toInt) (0 : Int32).toInt := by
  have := b32 en
  have := b32 b0
  have : (255 : Int32).toInt = 255 := rfl
  have : (b0 &&& (255 : Int32)).toInt = b0.toInt % 256 := k_mask b0 (255 : Int32) 8 256 (by decide) (by decide) (by decide)
  have : 0 ≤ (b0 &&& (255 : Int32)).toInt ∧ (b0 &&& (255 : Int32)).toInt ≤ 255 := by omega
  have : i3_1.toInt = (b0 &&& (255 : Int32)).toInt := congrArg Int32.toInt hi3_1
  have : 0 ≤ i3_1.toInt ∧ i3_1.toInt ≤ 255 := by omega
  have : (128 : Int32).toInt = 128 := rfl
  have : (194 : Int32).toInt = 194 := rfl
  have : (223 : Int32).toInt = 223 := rfl
  have : (224 : Int32).toInt = 224 := rfl
  have : (239 : Int32).toInt = 239 := rfl
  have : (240 : Int32).toInt = 240 := rfl
  have : (244 : Int32).toInt = 244 := rfl
  have := b32 b1
  have : (b1 &&& (255 : Int32)).toInt = b1.toInt % 256 := k_mask b1 (255 : Int32) 8 256 (by decide) (by decide) (by decide)
  have : 0 ≤ (b1 &&& (255 : Int32)).toInt ∧ (b1 &&& (255 : Int32)).toInt ≤ 255 := by omega
  have := b32 b2
  have : (b2 &&& (255 : Int32)).toInt = b2.toInt % 256 := k_mask b2 (255 : Int32) 8 256 (by decide) (by decide) (by decide)
  have : 0 ≤ (b2 &&& (255 : Int32)).toInt ∧ (b2 &&& (255 : Int32)).toInt ≤ 255 := by omega
  have := b32 b3
  have : (b3 &&& (255 : Int32)).toInt = b3.toInt % 256 := k_mask b3 (255 : Int32) 8 256 (by decide) (by decide) (by decide)
  have : 0 ≤ (b3 &&& (255 : Int32)).toInt ∧ (b3 &&& (255 : Int32)).toInt ≤ 255 := by omega
  have : (0 : Int32).toInt = 0 := rfl
  have := mt Int32.lt_iff_toInt_lt.mpr hc12_2
  have := mt Int32.lt_iff_toInt_lt.mpr hc31_3
  have := Int32.lt_iff_toInt_lt.mp hc38_58
  have := mt Int32.lt_iff_toInt_lt.mpr hc51_59
  have := Int32.lt_iff_toInt_lt.mp hc58_79
  have := mt Int32.lt_iff_toInt_lt.mpr hc105_80
  have := Int32.lt_iff_toInt_lt.mp hc112_81
  unfold own_isLen
  exact Or.inr (Or.inr (Or.inr (Or.inr ⟨by omega, by omega, by omega, by omega, by omega⟩)))
set_option maxRecDepth 65536 in
set_option maxHeartbeats 40000000 in
theorem lf1_44 (ofs : Int32) (bs : List Int32) (hof : 0 ≤ ofs.toInt ∧ ofs.toInt ≤ 1) (hln : bs.length = 5) : ¬ (ofs + (1 : Int32)) < 0 ∧ (ofs + (1 : Int32)).toNatClampNeg < bs.length := by
  have := b32 ofs
  have := c_iadd ofs (1 : Int32)
  have := b32 (ofs + (1 : Int32))
  unfold Int32.toNatClampNeg
  try simp only [Int32.lt_iff_toInt_lt, ← Int32.toInt_inj, Int32.reduceToInt, Int64.lt_iff_toInt_lt, ← Int64.toInt_inj, Int64.reduceToInt, true_and, and_true, true_or, or_true, false_or, or_false, false_and, and_false, not_true_eq_false, not_false_eq_true] at *
  omega
set_option maxRecDepth 65536 in
set_option maxHeartbeats 40000000 in
theorem lf1_45 (ofs : Int32) (en : Int32) (b0 : Int32) (b1 : Int32) (b2 : Int32) (b3 : Int32) (i3_1 : Int32) (x84 : Int32) (x87 : Int32) (i7_89 : Int32) (hof : 0 ≤ ofs.toInt ∧ ofs.toInt ≤ 1) (hen : 1 ≤ en.toInt - ofs.toInt ∧ en.toInt - ofs.toInt ≤ 4) (hi3_1 : i3_1 = (b0 &&& (255 : Int32))) (hc12_2 : ¬ (i3_1 < (128 : Int32))) (hc31_3 : ¬ (i3_1 < (194 : Int32))) (hc38_58 : (223 : Int32) < i3_1) (hc51_59 : ¬ (i3_1 < (224 : Int32))) (hc58_79 : (239 : Int32) < i3_1) (hc105_80 : ¬ (i3_1 < (240 : Int32))) (hc112_81 : ¬ ((244 : Int32) < i3_1)) (hjJ83 : ((¬ (i3_1 = (240 : Int32))) ∧ (x84 = (128 : Int32))) ∨ ((i3_1 = (240 : Int32)) ∧ (x84 = (144 : Int32)))) (hjJ86 : ((¬ (i3_1 = (244 : Int32))) ∧ (x87 = (191 : Int32))) ∨ ((i3_1 = (244 : Int32)) ∧ (x87 = (143 : Int32)))) (hc162_88 : ¬ ((en - ofs) < (4 : Int32))) (hi7_89 : i7_89 = (b1 &&& (255 : Int32))) (hc182_90 : i7_89 < x84) : own_isLen (b0 &&& (255 : Int32)).toInt (b1 &&& (255 : Int32)).toInt (b2 &&& (255 : Int32)).toInt (b3 &&& (255 : Int32)).toInt (en.toInt - ofs.toInt) (0 : Int32).toInt := by
  have := b32 en
  have := b32 b0
  have : (255 : Int32).toInt = 255 := rfl
  have : (b0 &&& (255 : Int32)).toInt = b0.toInt % 256 := k_mask b0 (255 : Int32) 8 256 (by decide) (by decide) (by decide)
  have : 0 ≤ (b0 &&& (255 : Int32)).toInt ∧ (b0 &&& (255 : Int32)).toInt ≤ 255 := by omega
  have : i3_1.toInt = (b0 &&& (255 : Int32)).toInt := congrArg Int32.toInt hi3_1
  have : 0 ≤ i3_1.toInt ∧ i3_1.toInt ≤ 255 := by omega
  have : (128 : Int32).toInt = 128 := rfl
  have : (194 : Int32).toInt = 194 := rfl
  have : (223 : Int32).toInt = 223 := rfl
  have : (224 : Int32).toInt = 224 := rfl
  have : (239 : Int32).toInt = 239 := rfl
  have : (240 : Int32).toInt = 240 := rfl
  have : (244 : Int32).toInt = 244 := rfl
  have : (144 : Int32).toInt = 144 := rfl
  have := b32 x84
  have : (191 : Int32).toInt = 191 := rfl
  have : (143 : Int32).toInt = 143 := rfl
  have := b32 x87
  have := c_isub en ofs
  have := b32 (en - ofs)
  have : (4 : Int32).toInt = 4 := rfl
  have := b32 b1
  have : (b1 &&& (255 : Int32)).toInt = b1.toInt % 256 := k_mask b1 (255 : Int32) 8 256 (by decide) (by decide) (by decide)
  have : 0 ≤ (b1 &&& (255 : Int32)).toInt ∧ (b1 &&& (255 : Int32)).toInt ≤ 255 := by omega
  have : i7_89.toInt = (b1 &&& (255 : Int32)).toInt := congrArg Int32.toInt hi7_89
  have : 0 ≤ i7_89.toInt ∧ i7_89.toInt ≤ 255 := by omega
  have := b32 b2
  have : (b2 &&& (255 : Int32)).toInt = b2.toInt % 256 := k_mask b2 (255 : Int32) 8 256 (by decide) (by decide) (by decide)
  have : 0 ≤ (b2 &&& (255 : Int32)).toInt ∧ (b2 &&& (255 : Int32)).toInt ≤ 255 := by omega
  have := b32 b3
  have : (b3 &&& (255 : Int32)).toInt = b3.toInt % 256 := k_mask b3 (255 : Int32) 8 256 (by decide) (by decide) (by decide)
  have : 0 ≤ (b3 &&& (255 : Int32)).toInt ∧ (b3 &&& (255 : Int32)).toInt ≤ 255 := by omega
  have : (0 : Int32).toInt = 0 := rfl
  have := mt Int32.lt_iff_toInt_lt.mpr hc12_2
  have := mt Int32.lt_iff_toInt_lt.mpr hc31_3
  have := Int32.lt_iff_toInt_lt.mp hc38_58
  have := mt Int32.lt_iff_toInt_lt.mpr hc51_59
  have := Int32.lt_iff_toInt_lt.mp hc58_79
  have := mt Int32.lt_iff_toInt_lt.mpr hc105_80
  have := mt Int32.lt_iff_toInt_lt.mpr hc112_81
  simp only [Int32.lt_iff_toInt_lt, ← Int32.toInt_inj] at hjJ83
  simp only [Int32.lt_iff_toInt_lt, ← Int32.toInt_inj] at hjJ86
  have := mt Int32.lt_iff_toInt_lt.mpr hc162_88
  have := Int32.lt_iff_toInt_lt.mp hc182_90
  unfold own_isLen
  exact Or.inr (Or.inr (Or.inr (Or.inr ⟨by omega, by omega, by omega, by omega, by omega⟩)))
set_option maxRecDepth 65536 in
set_option maxHeartbeats 40000000 in
theorem lf1_46 (ofs : Int32) (bs : List Int32) (hof : 0 ≤ ofs.toInt ∧ ofs.toInt ≤ 1) (hln : bs.length = 5) : ¬ (ofs + (2 : Int32)) < 0 ∧ (ofs + (2 : Int32)).toNatClampNeg < bs.length := by
  have := b32 ofs
  have := c_iadd ofs (2 : Int32)
  have := b32 (ofs + (2 : Int32))
  unfold Int32.toNatClampNeg
  try simp only [Int32.lt_iff_toInt_lt, ← Int32.toInt_inj, Int32.reduceToInt, Int64.lt_iff_toInt_lt, ← Int64.toInt_inj, Int64.reduceToInt, true_and, and_true, true_or, or_true, false_or, or_false, false_and, and_false, not_true_eq_false, not_false_eq_true] at *
  omega
set_option maxRecDepth 65536 in
set_option maxHeartbeats 40000000 in
theorem lf1_47 (ofs : Int32) (bs : List Int32) (hof : 0 ≤ ofs.toInt ∧ ofs.toInt ≤ 1) (hln : bs.length = 5) : ¬ (ofs + (3 : Int32)) < 0 ∧ (ofs + (3 : Int32)).toNatClampNeg < bs.length := by
  have := b32 ofs
  have := c_iadd ofs (3 : Int32)
  have := b32 (ofs + (3 : Int32))
  unfold Int32.toNatClampNeg
  try simp only [Int32.lt_iff_toInt_lt, ← Int32.toInt_inj, Int32.reduceToInt, Int64.lt_iff_toInt_lt, ← Int64.toInt_inj, Int64.reduceToInt, true_and, and_true, true_or, or_true, false_or, or_false, false_and, and_false, not_true_eq_false, not_false_eq_true] at *
  omega
set_option maxRecDepth 65536 in
set_option maxHeartbeats 40000000 in
theorem lf1_48 (ofs : Int32) (en : Int32) (b0 : Int32) (b1 : Int32) (b2 : Int32) (b3 : Int32) (i3_1 : Int32) (x84 : Int32) (x87 : Int32) (i7_89 : Int32) (r93 : Int32) (r96 : Int32) (hof : 0 ≤ ofs.toInt ∧ ofs.toInt ≤ 1) (hen : 1 ≤ en.toInt - ofs.toInt ∧ en.toInt - ofs.toInt ≤ 4) (hi3_1 : i3_1 = (b0 &&& (255 : Int32))) (hc12_2 : ¬ (i3_1 < (128 : Int32))) (hc31_3 : ¬ (i3_1 < (194 : Int32))) (hc38_58 : (223 : Int32) < i3_1) (hc51_59 : ¬ (i3_1 < (224 : Int32))) (hc58_79 : (239 : Int32) < i3_1) (hc105_80 : ¬ (i3_1 < (240 : Int32))) (hc112_81 : ¬ ((244 : Int32) < i3_1)) (hjJ83 : ((¬ (i3_1 = (240 : Int32))) ∧ (x84 = (128 : Int32))) ∨ ((i3_1 = (240 : Int32)) ∧ (x84 = (144 : Int32)))) (hjJ86 : ((¬ (i3_1 = (244 : Int32))) ∧ (x87 = (191 : Int32))) ∨ ((i3_1 = (244 : Int32)) ∧ (x87 = (143 : Int32)))) (hc162_88 : ¬ ((en - ofs) < (4 : Int32))) (hi7_89 : i7_89 = (b1 &&& (255 : Int32))) (hc182_90 : ¬ (i7_89 < x84)) (hc189_91 : ¬ (x87 < i7_89)) (hc201_92 : (2 : Int32) < (4 : Int32)) (hr93 : (r93 = (1 : Int32) ∧ (b2 &&& (192 : Int32)) = (128 : Int32)) ∨ (r93 = (0 : Int32) ∧ ¬ ((b2 &&& (192 : Int32)) = (128 : Int32)))) (hc213_94 : ¬ (r93 = 0)) (hc201_95 : (3 : Int32) < (4 : Int32)) (hr96 : (r96 = (1 : Int32) ∧ (b3 &&& (192 : Int32)) = (128 : Int32)) ∨ (r96 = (0 : Int32) ∧ ¬ ((b3 &&& (192 : Int32)) = (128 : Int32)))) (hc213_97 : ¬ (r96 = 0)) (hc201_98 : ¬ ((4 : Int32) < (4 : Int32))) : own_isLen (b0 &&& (255 : Int32)).toInt (b1 &&& (255 : Int32)).toInt (b2 &&& (255 : Int32)).toInt (b3 &&& (255 : Int32)).toInt (en.toInt - ofs.toInt) (4 : Int32).toInt := by
  have := b32 en
  have := b32 b0
  have : (255 : Int32).toInt = 255 := rfl
  have : (b0 &&& (255 : Int32)).toInt = b0.toInt % 256 := k_mask b0 (255 : Int32) 8 256 (by decide) (by decide) (by decide)
  have : 0 ≤ (b0 &&& (255 : Int32)).toInt ∧ (b0 &&& (255 : Int32)).toInt ≤ 255 := by omega
  have : i3_1.toInt = (b0 &&& (255 : Int32)).toInt := congrArg Int32.toInt hi3_1
  have : 0 ≤ i3_1.toInt ∧ i3_1.toInt ≤ 255 := by omega
  have : (128 : Int32).toInt = 128 := rfl
  have : (194 : Int32).toInt = 194 := rfl
  have : (223 : Int32).toInt = 223 := rfl
  have : (224 : Int32).toInt = 224 := rfl
  have : (239 : Int32).toInt = 239 := rfl
  have : (240 : Int32).toInt = 240 := rfl
  have : (244 : Int32).toInt = 244 := rfl
  have : (144 : Int32).toInt = 144 := rfl
  have := b32 x84
  have : (191 : Int32).toInt = 191 := rfl
  have : (143 : Int32).toInt = 143 := rfl
  have := b32 x87
  have := c_isub en ofs
  have := b32 (en - ofs)
  have : (4 : Int32).toInt = 4 := rfl
  have := b32 b1
  have : (b1 &&& (255 : Int32)).toInt = b1.toInt % 256 := k_mask b1 (255 : Int32) 8 256 (by decide) (by decide) (by decide)
  have : 0 ≤ (b1 &&& (255 : Int32)).toInt ∧ (b1 &&& (255 : Int32)).toInt ≤ 255 := by omega
  have : i7_89.toInt = (b1 &&& (255 : Int32)).toInt := congrArg Int32.toInt hi7_89
  have : 0 ≤ i7_89.toInt ∧ i7_89.toInt ≤ 255 := by omega
  have : (2 : Int32).toInt = 2 := rfl
  have : (1 : Int32).toInt = 1 := rfl
  have : (192 : Int32).toInt = 192 := rfl
  have := b32 b2
  have : (b2 &&& (192 : Int32)).toInt = b2.toInt % 256 - b2.toInt % 64 := k_field b2 (192 : Int32) (63 : Int32) (255 : Int32) 6 8 64 256 (by decide) (by decide) (by decide) (by decide) (by decide) (by decide) (by decide) (by decide) (by decide) (by decide) (by decide) (by decide)
  have : 0 ≤ (b2 &&& (192 : Int32)).toInt ∧ (b2 &&& (192 : Int32)).toInt ≤ 192 := by omega
  have : (0 : Int32).toInt = 0 := rfl
  have := b32 r93
  have : (3 : Int32).toInt = 3 := rfl
  have := b32 b3
  have : (b3 &&& (192 : Int32)).toInt = b3.toInt % 256 - b3.toInt % 64 := k_field b3 (192 : Int32) (63 : Int32) (255 : Int32) 6 8 64 256 (by decide) (by decide) (by decide) (by decide) (by decide) (by decide) (by decide) (by decide) (by decide) (by decide) (by decide) (by decide)
  have : 0 ≤ (b3 &&& (192 : Int32)).toInt ∧ (b3 &&& (192 : Int32)).toInt ≤ 192 := by omega
  have := b32 r96
  have : (b2 &&& (255 : Int32)).toInt = b2.toInt % 256 := k_mask b2 (255 : Int32) 8 256 (by decide) (by decide) (by decide)
  have : 0 ≤ (b2 &&& (255 : Int32)).toInt ∧ (b2 &&& (255 : Int32)).toInt ≤ 255 := by omega
  have : (b3 &&& (255 : Int32)).toInt = b3.toInt % 256 := k_mask b3 (255 : Int32) 8 256 (by decide) (by decide) (by decide)
  have : 0 ≤ (b3 &&& (255 : Int32)).toInt ∧ (b3 &&& (255 : Int32)).toInt ≤ 255 := by omega
  have := mt Int32.lt_iff_toInt_lt.mpr hc12_2
  have := mt Int32.lt_iff_toInt_lt.mpr hc31_3
  have := Int32.lt_iff_toInt_lt.mp hc38_58
  have := mt Int32.lt_iff_toInt_lt.mpr hc51_59
  have := Int32.lt_iff_toInt_lt.mp hc58_79
  have := mt Int32.lt_iff_toInt_lt.mpr hc105_80
  have := mt Int32.lt_iff_toInt_lt.mpr hc112_81
  simp only [Int32.lt_iff_toInt_lt, ← Int32.toInt_inj] at hjJ83
  simp only [Int32.lt_iff_toInt_lt, ← Int32.toInt_inj] at hjJ86
  have := mt Int32.lt_iff_toInt_lt.mpr hc162_88
  have := mt Int32.lt_iff_toInt_lt.mpr hc182_90
  have := mt Int32.lt_iff_toInt_lt.mpr hc189_91
  have := Int32.lt_iff_toInt_lt.mp hc201_92
  simp only [Int32.lt_iff_toInt_lt, ← Int32.toInt_inj] at hr93
  have := mt Int32.toInt_inj.mp hc213_94
  have := Int32.lt_iff_toInt_lt.mp hc201_95
  simp only [Int32.lt_iff_toInt_lt, ← Int32.toInt_inj] at hr96
  have := mt Int32.toInt_inj.mp hc213_97
  have := mt Int32.lt_iff_toInt_lt.mpr hc201_98
  unfold own_isLen
  exact Or.inr (Or.inr (Or.inr (Or.inl ⟨by omega, by omega, by omega, by omega, by omega, by omega, by omega, by omega, by omega, by omega, by omega, by omega⟩)))
set_option maxRecDepth 65536 in
set_option maxHeartbeats 40000000 in
theorem lf1_49 (ofs : Int32) (en : Int32) (b0 : Int32) (b1 : Int32) (b2 : Int32) (b3 : Int32) (i3_1 : Int32) (x84 : Int32) (x87 : Int32) (i7_89 : Int32) (r93 : Int32) (r96 : Int32) (hof : 0 ≤ ofs.toInt ∧ ofs.toInt ≤ 1) (hen : 1 ≤ en.toInt - ofs.toInt ∧ en.toInt - ofs.toInt ≤ 4) (hi3_1 : i3_1 = (b0 &&& (255 : Int32))) (hc12_2 : ¬ (i3_1 < (128 : Int32))) (hc31_3 : ¬ (i3_1 < (194 : Int32))) (hc38_58 : (223 : Int32) < i3_1) (hc51_59 : ¬ (i3_1 < (224 : Int32))) (hc58_79 : (239 : Int32) < i3_1) (hc105_80 : ¬ (i3_1 < (240 : Int32))) (hc112_81 : ¬ ((244 : Int32) < i3_1)) (hjJ83 : ((¬ (i3_1 = (240 : Int32))) ∧ (x84 = (128 : Int32))) ∨ ((i3_1 = (240 : Int32)) ∧ (x84 = (144 : Int32)))) (hjJ86 : ((¬ (i3_1 = (244 : Int32))) ∧ (x87 = (191 : Int32))) ∨ ((i3_1 = (244 : Int32)) ∧ (x87 = (143 : Int32)))) (hc162_88 : ¬ ((en - ofs) < (4 : Int32))) (hi7_89 : i7_89 = (b1 &&& (255 : Int32))) (hc182_90 : ¬ (i7_89 < x84)) (hc189_91 : ¬ (x87 < i7_89)) (hc201_92 : (2 : Int32) < (4 : Int32)) (hr93 : (r93 = (1 : Int32) ∧ (b2 &&& (192 : Int32)) = (128 : Int32)) ∨ (r93 = (0 : Int32) ∧ ¬ ((b2 &&& (192 : Int32)) = (128 : Int32)))) (hc213_94 : ¬ (r93 = 0)) (hc201_95 : (3 : Int32) < (4 : Int32)) (hr96 : (r96 = (1 : Int32) ∧ (b3 &&& (192 : Int32)) = (128 : Int32)) ∨ (r96 = (0 : Int32) ∧ ¬ ((b3 &&& (192 : Int32)) = (128 : Int32)))) (hc213_97 : r96 = 0) : own_isLen (b0 &&& (255 : Int32)).toInt (b1 &&& (255 : Int32)).toInt (b2 &&& (255 : Int32)).toInt (b3 &&& (255 : Int32)).toInt (en.toInt - ofs.toInt) (0 : Int32).toInt := by
  have := b32 en
  have := b32 b0
  have : (255 : Int32).toInt = 255 := rfl
  have : (b0 &&& (255 : Int32)).toInt = b0.toInt % 256 := k_mask b0 (255 : Int32) 8 256 (by decide) (by decide) (by decide)
  have : 0 ≤ (b0 &&& (255 : Int32)).toInt ∧ (b0 &&& (255 : Int32)).toInt ≤ 255 := by omega
  have : i3_1.toInt = (b0 &&& (255 : Int32)).toInt := congrArg Int32.toInt hi3_1
  have : 0 ≤ i3_1.toInt ∧ i3_1.toInt ≤ 255 := by omega
  have : (128 : Int32).toInt = 128 := rfl
  have : (194 : Int32).toInt = 194 := rfl
  have : (223 : Int32).toInt = 223 := rfl
  have : (224 : Int32).toInt = 224 := rfl
  have : (239 : Int32).toInt = 239 := rfl
  have : (240 : Int32).toInt = 240 := rfl
  have : (244 : Int32).toInt = 244 := rfl
  have : (144 : Int32).toInt = 144 := rfl
  have := b32 x84
  have : (191 : Int32).toInt = 191 := rfl
  have : (143 : Int32).toInt = 143 := rfl
  have := b32 x87
  have := c_isub en ofs
  have := b32 (en - ofs)
  have : (4 : Int32).toInt = 4 := rfl
  have := b32 b1
  have : (b1 &&& (255 : Int32)).toInt = b1.toInt % 256 := k_mask b1 (255 : Int32) 8 256 (by decide) (by decide) (by decide)
  have : 0 ≤ (b1 &&& (255 : Int32)).toInt ∧ (b1 &&& (255 : Int32)).toInt ≤ 255 := by omega
  have : i7_89.toInt = (b1 &&& (255 : Int32)).toInt := congrArg Int32.toInt hi7_89
  have : 0 ≤ i7_89.toInt ∧ i7_89.toInt ≤ 255 := by omega
  have : (2 : Int32).toInt = 2 := rfl
  have : (1 : Int32).toInt = 1 := rfl
  have : (192 : Int32).toInt = 192 := rfl
  have := b32 b2
  have : (b2 &&& (192 : Int32)).toInt = b2.toInt % 256 - b2.toInt % 64 := k_field b2 (192 : Int32) (63 : Int32) (255 : Int32) 6 8 64 256 (by decide) (by decide) (by decide) (by decide) (by decide) (by decide) (by decide) (by decide) (by decide) (by decide) (by decide) (by decide)
  have : 0 ≤ (b2 &&& (192 : Int32)).toInt ∧ (b2 &&& (192 : Int32)).toInt ≤ 192 := by omega
  have : (0 : Int32).toInt = 0 := rfl
  have := b32 r93
  have : (3 : Int32).toInt = 3 := rfl
  have := b32 b3
  have : (b3 &&& (192 : Int32)).toInt = b3.toInt % 256 - b3.toInt % 64 := k_field b3 (192 : Int32) (63 : Int32) (255 : Int32) 6 8 64 256 (by decide) (by decide) (by decide) (by decide) (by decide) (by decide) (by decide) (by decide) (by decide) (by decide) (by decide) (by decide)
  have : 0 ≤ (b3 &&& (192 : Int32)).toInt ∧ (b3 &&& (192 : Int32)).toInt ≤ 192 := by omega
  have := b32 r96
  have : (b2 &&& (255 : Int32)).toInt = b2.toInt % 256 := k_mask b2 (255 : Int32) 8 256 (by decide) (by decide) (by decide)
  have : 0 ≤ (b2 &&& (255 : Int32)).toInt ∧ (b2 &&& (255 : Int32)).toInt ≤ 255 := by omega
  have : (b3 &&& (255 : Int32)).toInt = b3.toInt % 256 := k_mask b3 (255 : Int32) 8 256 (by decide) (by decide) (by decide)
  have : 0 ≤ (b3 &&& (255 : Int32)).toInt ∧ (b3 &&& (255 : Int32)).toInt ≤ 255 := by omega
  have := mt Int32.lt_iff_toInt_lt.mpr hc12_2
  have := mt Int32.lt_iff_toInt_lt.mpr hc31_3
  have := Int32.lt_iff_toInt_lt.mp hc38_58
  have := mt Int32.lt_iff_toInt_lt.mpr hc51_59
  have := Int32.lt_iff_toInt_lt.mp hc58_79
  have := mt Int32.lt_iff_toInt_lt.mpr hc105_80
  have := mt Int32.lt_iff_toInt_lt.mpr hc112_81
  simp only [Int32.lt_iff_toInt_lt, ← Int32.toInt_inj] at hjJ83
  simp only [Int32.lt_iff_toInt_lt, ← Int32.toInt_inj] at hjJ86
  have := mt Int32.lt_iff_toInt_lt.mpr hc162_88
  have := mt Int32.lt_iff_toInt_lt.mpr hc182_90
  have := mt Int32.lt_iff_toInt_lt.mpr hc189_91
  have := Int32.lt_iff_toInt_lt.mp hc201_92
  simp only [Int32.lt_iff_toInt_lt, ← Int32.toInt_inj] at hr93
  have := mt Int32.toInt_inj.mp hc213_94
  have := Int32.lt_iff_toInt_lt.mp hc201_95
  simp only [Int32.lt_iff_toInt_lt, ← Int32.toInt_inj] at hr96
  have := congrArg Int32.toInt hc213_97
  unfold own_isLen
  exact Or.inr (Or.inr (Or.inr (Or.inr ⟨by omega, by omega, by omega, by omega, by omega⟩)))
set_option maxRecDepth 65536 in
set_option maxHeartbeats 40000000 in
theorem lf1_50 (ofs : Int32) (en : Int32) (b0 : Int32) (b1 : Int32) (b2 : Int32) (b3 : Int32) (i3_1 : Int32) (x84 : Int32) (x87 : Int32) (i7_89 : Int32) (r93 : Int32) (hof : 0 ≤ ofs.toInt ∧ ofs.toInt ≤ 1) (hen : 1 ≤ en.toInt - ofs.toInt ∧ en.toInt - ofs.toInt ≤ 4) (hi3_1 : i3_1 = (b0 &&& (255 : Int32))) (hc12_2 : ¬ (i3_1 < (128 : Int32))) (hc31_3 : ¬ (i3_1 < (194 : Int32))) (hc38_58 : (223 : Int32) < i3_1) (hc51_59 : ¬ (i3_1 < (224 : Int32))) (hc58_79 : (239 : Int32) < i3_1) (hc105_80 : ¬ (i3_1 < (240 : Int32))) (hc112_81 : ¬ ((244 : Int32) < i3_1)) (hjJ83 : ((¬ (i3_1 = (240 : Int32))) ∧ (x84 = (128 : Int32))) ∨ ((i3_1 = (240 : Int32)) ∧ (x84 = (144 : Int32)))) (hjJ86 : ((¬ (i3_1 = (244 : Int32))) ∧ (x87 = (191 : Int32))) ∨ ((i3_1 = (244 : Int32)) ∧ (x87 = (143 : Int32)))) (hc162_88 : ¬ ((en - ofs) < (4 : Int32))) (hi7_89 : i7_89 = (b1 &&& (255 : Int32))) (hc182_90 : ¬ (i7_89 < x84)) (hc189_91 : ¬ (x87 < i7_89)) (hc201_92 : (2 : Int32) < (4 : Int32)) (hr93 : (r93 = (1 : Int32) ∧ (b2 &&& (192 : Int32)) = (128 : Int32)) ∨ (r93 = (0 : Int32) ∧ ¬ ((b2 &&& (192 : Int32)) = (128 : Int32)))) (hc213_94 : r93 = 0) : own_isLen (b0 &&& (255 : Int32)).toInt (b1 &&& (255 : Int32)).toInt (b2 &&& (255 : Int32)).toInt (b3 &&& (255 : Int32)).toInt (en.toInt - ofs.toInt) (0 : Int32).toInt := by
  have := b32 en
  have := b32 b0
  have : (255 : Int32).toInt = 255 := rfl
  have : (b0 &&& (255 : Int32)).toInt = b0.toInt % 256 := k_mask b0 (255 : Int32) 8 256 (by decide) (by decide) (by decide)
  have : 0 ≤ (b0 &&& (255 : Int32)).toInt ∧ (b0 &&& (255 : Int32)).toInt ≤ 255 := by omega
  have : i3_1.toInt = (b0 &&& (255 : Int32)).toInt := congrArg Int32.toInt hi3_1
  have : 0 ≤ i3_1.toInt ∧ i3_1.toInt ≤ 255 := by omega
  have : (128 : Int32).toInt = 128 := rfl
  have : (194 : Int32).toInt = 194 := rfl
  have : (223 : Int32).toInt = 223 := rfl
  have : (224 : Int32).toInt = 224 := rfl
  have : (239 : Int32).toInt = 239 := rfl
  have : (240 : Int32).toInt = 240 := rfl
  have : (244 : Int32).toInt = 244 := rfl
  have : (144 : Int32).toInt = 144 := rfl
  have := b32 x84
  have : (191 : Int32).toInt = 191 := rfl
  have : (143 : Int32).toInt = 143 := rfl
  have := b32 x87
  have := c_isub en ofs
  have := b32 (en - ofs)
  have : (4 : Int32).toInt = 4 := rfl
  have := b32 b1
  have : (b1 &&& (255 : Int32)).toInt = b1.toInt % 256 := k_mask b1 (255 : Int32) 8 256 (by decide) (by decide) (by decide)
  have : 0 ≤ (b1 &&& (255 : Int32)).toInt ∧ (b1 &&& (255 : Int32)).toInt ≤ 255 := by omega
  have : i7_89.toInt = (b1 &&& (255 : Int32)).toInt := congrArg Int32.toInt hi7_89
  have : 0 ≤ i7_89.toInt ∧ i7_89.toInt ≤ 255 := by omega
  have : (2 : Int32).toInt = 2 := rfl
  have : (1 : Int32).toInt = 1 := rfl
  have : (192 : Int32).toInt = 192 := rfl
  have := b32 b2
  have : (b2 &&& (192 : Int32)).toInt = b2.toInt % 256 - b2.toInt % 64 := k_field b2 (192 : Int32) (63 : Int32) (255 : Int32) 6 8 64 256 (by decide) (by decide) (by decide) (by decide) (by decide) (by decide) (by decide) (by decide) (by decide) (by decide) (by decide) (by decide)
  have : 0 ≤ (b2 &&& (192 : Int32)).toInt ∧ (b2 &&& (192 : Int32)).toInt ≤ 192 := by omega
  have : (0 : Int32).toInt = 0 := rfl
  have := b32 r93
  have : (b2 &&& (255 : Int32)).toInt = b2.toInt % 256 := k_mask b2 (255 : Int32) 8 256 (by decide) (by decide) (by decide)
  have : 0 ≤ (b2 &&& (255 : Int32)).toInt ∧ (b2 &&& (255 : Int32)).toInt ≤ 255 := by omega
  have := b32 b3
  have : (b3 &&& (255 : Int32)).toInt = b3.toInt % 256 := k_mask b3 (255 : Int32) 8 256 (by decide) (by decide) (by decide)
  have : 0 ≤ (b3 &&& (255 : Int32)).toInt ∧ (b3 &&& (255 : Int32)).toInt ≤ 255 := by omega
  have := mt Int32.lt_iff_toInt_lt.mpr hc12_2
  have := mt Int32.lt_iff_toInt_lt.mpr hc31_3
  have := Int32.lt_iff_toInt_lt.mp hc38_58
  have := mt Int32.lt_iff_toInt_lt.mpr hc51_59
  have := Int32.lt_iff_toInt_lt.mp hc58_79
  have := mt Int32.lt_iff_toInt_lt.mpr hc105_80
  have := mt Int32.lt_iff_toInt_lt.mpr hc112_81
  simp only [Int32.lt_iff_toInt_lt, ← Int32.toInt_inj] at hjJ83
  simp only [Int32.lt_iff_toInt_lt, ← Int32.toInt_inj] at hjJ86
  have := mt Int32.lt_iff_toInt_lt.mpr hc162_88
  have := mt Int32.lt_iff_toInt_lt.mpr hc182_90
  have := mt Int32.lt_iff_toInt_lt.mpr hc189_91
  have := Int32.lt_iff_toInt_lt.mp hc201_92
  simp only [Int32.lt_iff_toInt_lt, ← Int32.toInt_inj] at hr93
  have := congrArg Int32.toInt hc213_94
  unfold own_isLen
  exact Or.inr (Or.inr (Or.inr (Or.inr ⟨by omega, by omega, by omega, by omega, by omega⟩)))
set_option maxRecDepth 65536 in
set_option maxHeartbeats 40000000 in
theorem lf1_51 (ofs : Int32) (en : Int32) (b0 : Int32) (b1 : Int32) (b2 : Int32) (b3 : Int32) (i3_1 : Int32) (x84 : Int32) (x87 : Int32) (i7_89 : Int32) (hof : 0 ≤ ofs.toInt ∧ ofs.toInt ≤ 1) (hen : 1 ≤ en.toInt - ofs.toInt ∧ en.toInt - ofs.toInt ≤ 4) (hi3_1 : i3_1 = (b0 &&& (255 : Int32))) (hc12_2 : ¬ (i3_1 < (128 : Int32))) (hc31_3 : ¬ (i3_1 < (194 : Int32))) (hc38_58 : (223 : Int32) < i3_1) (hc51_59 : ¬ (i3_1 < (224 : Int32))) (hc58_79 : (239 : Int32) < i3_1) (hc105_80 : ¬ (i3_1 < (240 : Int32))) (hc112_81 : ¬ ((244 : Int32) < i3_1)) (hjJ83 : ((¬ (i3_1 = (240 : Int32))) ∧ (x84 = (128 : Int32))) ∨ ((i3_1 = (240 : Int32)) ∧ (x84 = (144 : Int32)))) (hjJ86 : ((¬ (i3_1 = (244 : Int32))) ∧ (x87 = (191 : Int32))) ∨ ((i3_1 = (244 : Int32)) ∧ (x87 = (143 : Int32)))) (hc162_88 : ¬ ((en - ofs) < (4 : Int32))) (hi7_89 : i7_89 = (b1 &&& (255 : Int32))) (hc182_90 : ¬ (i7_89 < x84)) (hc189_91 : x87 < i7_89) : own_isLen (b0 &&& (255 : Int32)).toInt (b1 &&& (255 : Int32)).toInt (b2 &&& (255 : Int32)).toInt (b3 &&& (255 : Int32)).toInt (en.toInt - ofs.toInt) (0 : Int32).toInt := by
  have := b32 en
  have := b32 b0
  have : (255 : Int32).toInt = 255 := rfl
  have : (b0 &&& (255 : Int32)).toInt = b0.toInt % 256 := k_mask b0 (255 : Int32) 8 256 (by decide) (by decide) (by decide)
  have : 0 ≤ (b0 &&& (255 : Int32)).toInt ∧ (b0 &&& (255 : Int32)).toInt ≤ 255 := by omega
  have : i3_1.toInt = (b0 &&& (255 : Int32)).toInt := congrArg Int32.toInt hi3_1
  have : 0 ≤ i3_1.toInt ∧ i3_1.toInt ≤ 255 := by omega
  have : (128 : Int32).toInt = 128 := rfl
  have : (194 : Int32).toInt = 194 := rfl
  have : (223 : Int32).toInt = 223 := rfl
  have : (224 : Int32).toInt = 224 := rfl
  have : (239 : Int32).toInt = 239 := rfl
  have : (240 : Int32).toInt = 240 := rfl
  have : (244 : Int32).toInt = 244 := rfl
  have : (144 : Int32).toInt = 144 := rfl
  have := b32 x84
  have : (191 : Int32).toInt = 191 := rfl
  have : (143 : Int32).toInt = 143 := rfl
  have := b32 x87
  have := c_isub en ofs
  have := b32 (en - ofs)
  have : (4 : Int32).toInt = 4 := rfl
  have := b32 b1
  have : (b1 &&& (255 : Int32)).toInt = b1.toInt % 256 := k_mask b1 (255 : Int32) 8 256 (by decide) (by decide) (by decide)
  have : 0 ≤ (b1 &&& (255 : Int32)).toInt ∧ (b1 &&& (255 : Int32)).toInt ≤ 255 := by omega
  have : i7_89.toInt = (b1 &&& (255 : Int32)).toInt := congrArg Int32.toInt hi7_89
  have : 0 ≤ i7_89.toInt ∧ i7_89.toInt ≤ 255 := by omega
  have := b32 b2
  have : (b2 &&& (255 : Int32)).toInt = b2.toInt % 256 := k_mask b2 (255 : Int32) 8 256 (by decide) (by decide) (by decide)
  have : 0 ≤ (b2 &&& (255 : Int32)).toInt ∧ (b2 &&& (255 : Int32)).toInt ≤ 255 := by omega
  have := b32 b3
  have : (b3 &&& (255 : Int32)).toInt = b3.toInt % 256 := k_mask b3 (255 : Int32) 8 256 (by decide) (by decide) (by decide)
  have : 0 ≤ (b3 &&& (255 : Int32)).toInt ∧ (b3 &&& (255 : Int32)).toInt ≤ 255 := by omega
  have : (0 : Int32).toInt = 0 := rfl
  have := mt Int32.lt_iff_toInt_lt.mpr hc12_2
  have := mt Int32.lt_iff_toInt_lt.mpr hc31_3
  have := Int32.lt_iff_toInt_lt.mp hc38_58
  have := mt Int32.lt_iff_toInt_lt.mpr hc51_59
  have := Int32.lt_iff_toInt_lt.mp hc58_79
  have := mt Int32.lt_iff_toInt_lt.mpr hc105_80
  have := mt Int32.lt_iff_toInt_lt.mpr hc112_81
  simp only [Int32.lt_iff_toInt_lt, ← Int32.toInt_inj] at hjJ83
  simp only [Int32.lt_iff_toInt_lt, ← Int32.toInt_inj] at hjJ86
  have := mt Int32.lt_iff_toInt_lt.mpr hc162_88
  have := mt Int32.lt_iff_toInt_lt.mpr hc182_90
  have := Int32.lt_iff_toInt_lt.mp hc189_91
  unfold own_isLen
  exact Or.inr (Or.inr (Or.inr (Or.inr ⟨by omega, by omega, by omega, by omega, by omega⟩)))
set_option maxRecDepth 65536 in
set_option maxHeartbeats 40000000 in
theorem lf1_52 (ofs : Int32) (en : Int32) (b0 : Int32) (b1 : Int32) (b2 : Int32) (b3 : Int32) (i3_1 : Int32) (x84 : Int32) (x87 : Int32) (hof : 0 ≤ ofs.toInt ∧ ofs.toInt ≤ 1) (hen : 1 ≤ en.toInt - ofs.toInt ∧ en.toInt - ofs.toInt ≤ 4) (hi3_1 : i3_1 = (b0 &&& (255 : Int32))) (hc12_2 : ¬ (i3_1 < (128 : Int32))) (hc31_3 : ¬ (i3_1 < (194 : Int32))) (hc38_58 : (223 : Int32) < i3_1) (hc51_59 : ¬ (i3_1 < (224 : Int32))) (hc58_79 : (239 : Int32) < i3_1) (hc105_80 : ¬ (i3_1 < (240 : Int32))) (hc112_81 : ¬ ((244 : Int32) < i3_1)) (hjJ83 : ((¬ (i3_1 = (240 : Int32))) ∧ (x84 = (128 : Int32))) ∨ ((i3_1 = (240 : Int32)) ∧ (x84 = (144 : Int32)))) (hjJ86 : ((¬ (i3_1 = (244 : Int32))) ∧ (x87 = (191 : Int32))) ∨ ((i3_1 = (244 : Int32)) ∧ (x87 = (143 : Int32)))) (hc162_88 : (en - ofs) < (4 : Int32)) : own_isLen (b0 &&& (255 : Int32)).toInt (b1 &&& (255 : Int32)).toInt (b2 &&& (255 : Int32)).toInt (b3 &&& (255 : Int32)).toInt (en.toInt - ofs.toInt) (0 : Int32).toInt := by
  have := b32 en
  have := b32 b0
  have : (255 : Int32).toInt = 255 := rfl
  have : (b0 &&& (255 : Int32)).toInt = b0.toInt % 256 := k_mask b0 (255 : Int32) 8 256 (by decide) (by decide) (by decide)
  have : 0 ≤ (b0 &&& (255 : Int32)).toInt ∧ (b0 &&& (255 : Int32)).toInt ≤ 255 := by omega
  have : i3_1.toInt = (b0 &&& (255 : Int32)).toInt := congrArg Int32.toInt hi3_1
  have : 0 ≤ i3_1.toInt ∧ i3_1.toInt ≤ 255 := by omega
  have : (128 : Int32).toInt = 128 := rfl
  have : (194 : Int32).toInt = 194 := rfl
  have : (223 : Int32).toInt = 223 := rfl
  have : (224 : Int32).toInt = 224 := rfl
  have : (239 : Int32).toInt = 239 := rfl
  have : (240 : Int32).toInt = 240 := rfl
  have : (244 : Int32).toInt = 244 := rfl
  have : (144 : Int32).toInt = 144 := rfl
  have := b32 x84
  have : (191 : Int32).toInt = 191 := rfl
  have : (143 : Int32).toInt = 143 := rfl
  have := b32 x87
  have := c_isub en ofs
  have := b32 (en - ofs)
  have : (4 : Int32).toInt = 4 := rfl
  have := b32 b1
  have : (b1 &&& (255 : Int32)).toInt = b1.toInt % 256 := k_mask b1 (255 : Int32) 8 256 (by decide) (by decide) (by decide)
  have : 0 ≤ (b1 &&& (255 : Int32)).toInt ∧ (b1 &&& (255 : Int32)).toInt ≤ 255 := by omega
  have := b32 b2
  have : (b2 &&& (255 : Int32)).toInt = b2.toInt % 256 := k_mask b2 (255 : Int32) 8 256 (by decide) (by decide) (by decide)
  have : 0 ≤ (b2 &&& (255 : Int32)).toInt ∧ (b2 &&& (255 : Int32)).toInt ≤ 255 := by omega
  have := b32 b3
  have : (b3 &&& (255 : Int32)).toInt = b3.toInt % 256 := k_mask b3 (255 : Int32) 8 256 (by decide) (by decide) (by decide)
  have : 0 ≤ (b3 &&& (255 : Int32)).toInt ∧ (b3 &&& (255 : Int32)).toInt ≤ 255 := by omega
  have : (0 : Int32).toInt = 0 := rfl
  have := mt Int32.lt_iff_toInt_lt.mpr hc12_2
  have := mt Int32.lt_iff_toInt_lt.mpr hc31_3
  have := Int32.lt_iff_toInt_lt.mp hc38_58
  have := mt Int32.lt_iff_toInt_lt.mpr hc51_59
  have := Int32.lt_iff_toInt_lt.mp hc58_79
  have := mt Int32.lt_iff_toInt_lt.mpr hc105_80
  have := mt Int32.lt_iff_toInt_lt.mpr hc112_81
  simp only [Int32.lt_iff_toInt_lt, ← Int32.toInt_inj] at hjJ83
  simp only [Int32.lt_iff_toInt_lt, ← Int32.toInt_inj] at hjJ86
  have := Int32.lt_iff_toInt_lt.mp hc162_88
  unfold own_isLen
  exact Or.inr (Or.inr (Or.inr (Or.inr ⟨by omega, by omega, by omega, by omega, by omega⟩)))
set_option maxRecDepth 65536 in
set_option maxHeartbeats 40000000 in
theorem lf1_53 (ofs : Int32) (bs : List Int32) (hof : 0 ≤ ofs.toInt ∧ ofs.toInt ≤ 1) (hln : bs.length = 5) : ¬ (ofs + (1 : Int32)) < 0 ∧ (ofs + (1 : Int32)).toNatClampNeg < bs.length := by
  have := b32 ofs
  have := c_iadd ofs (1 : Int32)
  have := b32 (ofs + (1 : Int32))
  unfold Int32.toNatClampNeg
  try simp only [Int32.lt_iff_toInt_lt, ← Int32.toInt_inj, Int32.reduceToInt, Int64.lt_iff_toInt_lt, ← Int64.toInt_inj, Int64.reduceToInt, true_and, and_true, true_or, or_true, false_or, or_false, false_and, and_false, not_true_eq_false, not_false_eq_true] at *
  omega
set_option maxRecDepth 65536 in
set_option maxHeartbeats 40000000 in
theorem lf1_54 (ofs : Int32) (en : Int32) (b0 : Int32) (b1 : Int32) (b2 : Int32) (b3 : Int32) (i3_1 : Int32) (x101 : Int32) (x104 : Int32) (i7_106 : Int32) (hof : 0 ≤ ofs.toInt ∧ ofs.toInt ≤ 1) (hen : 1 ≤ en.toInt - ofs.toInt ∧ en.toInt - ofs.toInt ≤ 4) (hi3_1 : i3_1 = (b0 &&& (255 : Int32))) (hc12_2 : ¬ (i3_1 < (128 : Int32))) (hc31_3 : ¬ (i3_1 < (194 : Int32))) (hc38_58 : (223 : Int32) < i3_1) (hc51_59 : ¬ (i3_1 < (224 : Int32))) (hc58_79 : ¬ ((239 : Int32) < i3_1)) (hjJ100 : ((¬ (i3_1 = (224 : Int32))) ∧ (x101 = (128 : Int32))) ∨ ((i3_1 = (224 : Int32)) ∧ (x101 = (160 : Int32)))) (hjJ103 : ((¬ (i3_1 = (237 : Int32))) ∧ (x104 = (191 : Int32))) ∨ ((i3_1 = (237 : Int32)) ∧ (x104 = (159 : Int32)))) (hc162_105 : ¬ ((en - ofs) < (3 : Int32))) (hi7_106 : i7_106 = (b1 &&& (255 : Int32))) (hc182_107 : i7_106 < x101) : own_isLen (b0 &&& (255 : Int32)).toInt (b1 &&& (255 : Int32)).toInt (b2 &&& (255 : Int32)).toInt (b3 &&& (255 : Int32)).toInt (en.toInt - ofs.toInt) (0 : Int32).toInt := by
  have := b32 en
  have := b32 b0
  have : (255 : Int32).toInt = 255 := rfl
  have : (b0 &&& (255 : Int32)).toInt = b0.toInt % 256 := k_mask b0 (255 : Int32) 8 256 (by decide) (by decide) (by decide)
  have : 0 ≤ (b0 &&& (255 : Int32)).toInt ∧ (b0 &&& (255 : Int32)).toInt ≤ 255 := by omega
  have : i3_1.toInt = (b0 &&& (255 : Int32)).toInt := congrArg Int32.toInt hi3_1
  have : 0 ≤ i3_1.toInt ∧ i3_1.toInt ≤ 255 := by omega
  have : (128 : Int32).toInt = 128 := rfl
  have : (194 : Int32).toInt = 194 := rfl
  have : (223 : Int32).toInt = 223 := rfl
  have : (224 : Int32).toInt = 224 := rfl
  have : (239 : Int32).toInt = 239 := rfl
  have : (160 : Int32).toInt = 160 := rfl
  have := b32 x101
  have : (237 : Int32).toInt = 237 := rfl
  have : (191 : Int32).toInt = 191 := rfl
  have : (159 : Int32).toInt = 159 := rfl
  have := b32 x104
  have := c_isub en ofs
  have := b32 (en - ofs)
  have : (3 : Int32).toInt = 3 := rfl
  have := b32 b1
  have : (b1 &&& (255 : Int32)).toInt = b1.toInt % 256 := k_mask b1 (255 : Int32) 8 256 (by decide) (by decide) (by decide)
  have : 0 ≤ (b1 &&& (255 : Int32)).toInt ∧ (b1 &&& (255 : Int32)).toInt ≤ 255 := by omega
  have : i7_106.toInt = (b1 &&& (255 : Int32)).toInt := congrArg Int32.toInt hi7_106
  have : 0 ≤ i7_106.toInt ∧ i7_106.toInt ≤ 255 := by omega
  have := b32 b2
  have : (b2 &&& (255 : Int32)).toInt = b2.toInt % 256 := k_mask b2 (255 : Int32) 8 256 (by decide) (by decide) (by decide)
  have : 0 ≤ (b2 &&& (255 : Int32)).toInt ∧ (b2 &&& (255 : Int32)).toInt ≤ 255 := by omega
  have := b32 b3
  have : (b3 &&& (255 : Int32)).toInt = b3.toInt % 256 := k_mask b3 (255 : Int32) 8 256 (by decide) (by decide) (by decide)
  have : 0 ≤ (b3 &&& (255 : Int32)).toInt ∧ (b3 &&& (255 : Int32)).toInt ≤ 255 := by omega
  have : (0 : Int32).toInt = 0 := rfl
  have := mt Int32.lt_iff_toInt_lt.mpr hc12_2
  have := mt Int32.lt_iff_toInt_lt.mpr hc31_3
  have := Int32.lt_iff_toInt_lt.mp hc38_58
  have := mt Int32.lt_iff_toInt_lt.mpr hc51_59
  have := mt Int32.lt_iff_toInt_lt.mpr hc58_79
  simp only [Int32.lt_iff_toInt_lt, ← Int32.toInt_inj] at hjJ100
  simp only [Int32.lt_iff_toInt_lt, ← Int32.toInt_inj] at hjJ103
  have := mt Int32.lt_iff_toInt_lt.mpr hc162_105
  have := Int32.lt_iff_toInt_lt.mp hc182_107
  unfold own_isLen
  exact Or.inr (Or.inr (Or.inr (Or.inr ⟨by omega, by omega, by omega, by omega, by omega⟩)))
set_option maxRecDepth 65536 in
set_option maxHeartbeats 40000000 in
theorem lf1_55 (ofs : Int32) (bs : List Int32) (hof : 0 ≤ ofs.toInt ∧ ofs.toInt ≤ 1) (hln : bs.length = 5) : ¬ (ofs + (2 : Int32)) < 0 ∧ (ofs + (2 : Int32)).toNatClampNeg < bs.length := by
  have := b32 ofs
  have := c_iadd ofs (2 : Int32)
  have := b32 (ofs + (2 : Int32))
  unfold Int32.toNatClampNeg
  try simp only [Int32.lt_iff_toInt_lt, ← Int32.toInt_inj, Int32.reduceToInt, Int64.lt_iff_toInt_lt, ← Int64.toInt_inj, Int64.reduceToInt, true_and, and_true, true_or, or_true, false_or, or_false, false_and, and_false, not_true_eq_false, not_false_eq_true] at *
  omega
set_option maxRecDepth 65536 in
set_option maxHeartbeats 40000000 in
theorem lf1_56 (ofs : Int32) (en : Int32) (b0 : Int32) (b1 : Int32) (b2 : Int32) (b3 : Int32) (i3_1 : Int32) (x101 : Int32) (x104 : Int32) (i7_106 : Int32) (r110 : Int32) (hof : 0 ≤ ofs.toInt ∧ ofs.toInt ≤ 1) (hen : 1 ≤ en.toInt - ofs.toInt ∧ en.toInt - ofs.toInt ≤ 4) (hi3_1 : i3_1 = (b0 &&& (255 : Int32))) (hc12_2 : ¬ (i3_1 < (128 : Int32))) (hc31_3 : ¬ (i3_1 < (194 : Int32))) (hc38_58 : (223 : Int32) < i3_1) (hc51_59 : ¬ (i3_1 < (224 : Int32))) (hc58_79 : ¬ ((239 : Int32) < i3_1)) (hjJ100 : ((¬ (i3_1 = (224 : Int32))) ∧ (x101 = (128 : Int32))) ∨ ((i3_1 = (224 : Int32)) ∧ (x101 = (160 : Int32)))) (hjJ103 : ((¬ (i3_1 = (237 : Int32))) ∧ (x104 = (191 : Int32))) ∨ ((i3_1 = (237 : Int32)) ∧ (x104 = (159 : Int32)))) (hc162_105 : ¬ ((en - ofs) < (3 : Int32))) (hi7_106 : i7_106 = (b1 &&& (255 : Int32))) (hc182_107 : ¬ (i7_106 < x101)) (hc189_108 : ¬ (x104 < i7_106)) (hc201_109 : (2 : Int32) < (3 : Int32)) (hr110 : (r110 = (1 : Int32) ∧ (b2 &&& (192 : Int32)) = (128 : Int32)) ∨ (r110 = (0 : Int32) ∧ ¬ ((b2 &&& (192 : Int32)) = (128 : Int32)))) (hc213_111 : ¬ (r110 = 0)) (hc201_112 : ¬ ((3 : Int32) < (3 : Int32))) : own_isLen (b0 &&& (255 : Int32)).toInt (b1 &&& (255 : Int32)).toInt (b2 &&& (255 : Int32)).toInt (b3 &&& (255 : Int32)).toInt (en.toInt - ofs.toInt) (3 : Int32).toInt := by
  have := b32 en
  have := b32 b0
  have : (255 : Int32).toInt = 255 := rfl
  have : (b0 &&& (255 : Int32)).toInt = b0.toInt % 256 := k_mask b0 (255 : Int32) 8 256 (by decide) (by decide) (by decide)
  have : 0 ≤ (b0 &&& (255 : Int32)).toInt ∧ (b0 &&& (255 : Int32)).toInt ≤ 255 := by omega
  have : i3_1.toInt = (b0 &&& (255 : Int32)).toInt := congrArg Int32.toInt hi3_1
  have : 0 ≤ i3_1.toInt ∧ i3_1.toInt ≤ 255 := by omega
  have : (128 : Int32).toInt = 128 := rfl
  have : (194 : Int32).toInt = 194 := rfl
  have : (223 : Int32).toInt = 223 := rfl
  have : (224 : Int32).toInt = 224 := rfl
  have : (239 : Int32).toInt = 239 := rfl
  have : (160 : Int32).toInt = 160 := rfl
  have := b32 x101
  have : (237 : Int32).toInt = 237 := rfl
  have : (191 : Int32).toInt = 191 := rfl
  have : (159 : Int32).toInt = 159 := rfl
  have := b32 x104
  have := c_isub en ofs
  have := b32 (en - ofs)
  have : (3 : Int32).toInt = 3 := rfl
  have := b32 b1
  have : (b1 &&& (255 : Int32)).toInt = b1.toInt % 256 := k_mask b1 (255 : Int32) 8 256 (by decide) (by decide) (by decide)
  have : 0 ≤ (b1 &&& (255 : Int32)).toInt ∧ (b1 &&& (255 : Int32)).toInt ≤ 255 := by omega
  have : i7_106.toInt = (b1 &&& (255 : Int32)).toInt := congrArg Int32.toInt hi7_106
  have : 0 ≤ i7_106.toInt ∧ i7_106.toInt ≤ 255 := by omega
  have : (2 : Int32).toInt = 2 := rfl
  have : (1 : Int32).toInt = 1 := rfl
  have : (192 : Int32).toInt = 192 := rfl
  have := b32 b2
  have : (b2 &&& (192 : Int32)).toInt = b2.toInt % 256 - b2.toInt % 64 := k_field b2 (192 : Int32) (63 : Int32) (255 : Int32) 6 8 64 256 (by decide) (by decide) (by decide) (by decide) (by decide) (by decide) (by decide) (by decide) (by decide) (by decide) (by decide) (by decide)
  have : 0 ≤ (b2 &&& (192 : Int32)).toInt ∧ (b2 &&& (192 : Int32)).toInt ≤ 192 := by omega
  have : (0 : Int32).toInt = 0 := rfl
  have := b32 r110
  have : (b2 &&& (255 : Int32)).toInt = b2.toInt % 256 := k_mask b2 (255 : Int32) 8 256 (by decide) (by decide) (by decide)
  have : 0 ≤ (b2 &&& (255 : Int32)).toInt ∧ (b2 &&& (255 : Int32)).toInt ≤ 255 := by omega
  have := b32 b3
  have : (b3 &&& (255 : Int32)).toInt = b3.toInt % 256 := k_mask b3 (255 : Int32) 8 256 (by decide) (by decide) (by decide)
  have : 0 ≤ (b3 &&& (255 : Int32)).toInt ∧ (b3 &&& (255 : Int32)).toInt ≤ 255 := by omega
  have := mt Int32.lt_iff_toInt_lt.mpr hc12_2
  have := mt Int32.lt_iff_toInt_lt.mpr hc31_3
  have := Int32.lt_iff_toInt_lt.mp hc38_58
  have := mt Int32.lt_iff_toInt_lt.mpr hc51_59
  have := mt Int32.lt_iff_toInt_lt.mpr hc58_79
  simp only [Int32.lt_iff_toInt_lt, ← Int32.toInt_inj] at hjJ100
  simp only [Int32.lt_iff_toInt_lt, ← Int32.toInt_inj] at hjJ103
  have := mt Int32.lt_iff_toInt_lt.mpr hc162_105
  have := mt Int32.lt_iff_toInt_lt.mpr hc182_107
  have := mt Int32.lt_iff_toInt_lt.mpr hc189_108
  have := Int32.lt_iff_toInt_lt.mp hc201_109
  simp only [Int32.lt_iff_toInt_lt, ← Int32.toInt_inj] at hr110
  have := mt Int32.toInt_inj.mp hc213_111
  have := mt Int32.lt_iff_toInt_lt.mpr hc201_112
  unfold own_isLen
  exact Or.inr (Or.inr (Or.inl ⟨by omega, by omega, by omega, by omega, by omega, by omega, by omega, by omega, by omega, by omega⟩))
set_option maxRecDepth 65536 in
set_option maxHeartbeats 40000000 in
theorem lf1_57 (ofs : Int32) (en : Int32) (b0 : Int32) (b1 : Int32) (b2 : Int32) (b3 : Int32) (i3_1 : Int32) (x101 : Int32) (x104 : Int32) (i7_106 : Int32) (r110 : Int32) (hof : 0 ≤ ofs.toInt ∧ ofs.toInt ≤ 1) (hen : 1 ≤ en.toInt - ofs.toInt ∧ en.toInt - ofs.toInt ≤ 4) (hi3_1 : i3_1 = (b0 &&& (255 : Int32))) (hc12_2 : ¬ (i3_1 < (128 : Int32))) (hc31_3 : ¬ (i3_1 < (194 : Int32))) (hc38_58 : (223 : Int32) < i3_1) (hc51_59 : ¬ (i3_1 < (224 : Int32))) (hc58_79 : ¬ ((239 : Int32) < i3_1)) (hjJ100 : ((¬ (i3_1 = (224 : Int32))) ∧ (x101 = (128 : Int32))) ∨ ((i3_1 = (224 : Int32)) ∧ (x101 = (160 : Int32)))) (hjJ103 : ((¬ (i3_1 = (237 : Int32))) ∧ (x104 = (191 : Int32))) ∨ ((i3_1 = (237 : Int32)) ∧ (x104 = (159 : Int32)))) (hc162_105 : ¬ ((en - ofs) < (3 : Int32))) (hi7_106 : i7_106 = (b1 &&& (255 : Int32))) (hc182_107 : ¬ (i7_106 < x101)) (hc189_108 : ¬ (x104 < i7_106)) (hc201_109 : (2 : Int32) < (3 : Int32)) (hr110 : (r110 = (1 : Int32) ∧ (b2 &&& (192 : Int32)) = (128 : Int32)) ∨ (r110 = (0 : Int32) ∧ ¬ ((b2 &&& (192 : Int32)) = (128 : Int32)))) (hc213_111 : r110 = 0) : own_isLen (b0 &&& (255 : Int32)).toInt (b1 &&& (255 : Int32)).toInt (b2 &&& (255 : Int32)).toInt (b3 &&& (255 : Int32)).toInt (en.toInt - ofs.toInt) (0 : Int32).toInt := by
  have := b32 en
  have := b32 b0
  have : (255 : Int32).toInt = 255 := rfl
  have : (b0 &&& (255 : Int32)).toInt = b0.toInt % 256 := k_mask b0 (255 : Int32) 8 256 (by decide) (by decide) (by decide)
  have : 0 ≤ (b0 &&& (255 : Int32)).toInt ∧ (b0 &&& (255 : Int32)).toInt ≤ 255 := by omega
  have : i3_1.toInt = (b0 &&& (255 : Int32)).toInt := congrArg Int32.toInt hi3_1
  have : 0 ≤ i3_1.toInt ∧ i3_1.toInt ≤ 255 := by omega
  have : (128 : Int32).toInt = 128 := rfl
  have : (194 : Int32).toInt = 194 := rfl
  have : (223 : Int32).toInt = 223 := rfl
  have : (224 : Int32).toInt = 224 := rfl
  have : (239 : Int32).toInt = 239 := rfl
  have : (160 : Int32).toInt = 160 := rfl
  have := b32 x101
  have : (237 : Int32).toInt = 237 := rfl
  have : (191 : Int32).toInt = 191 := rfl
  have : (159 : Int32).toInt = 159 := rfl
  have := b32 x104
  have := c_isub en ofs
  have := b32 (en - ofs)
  have : (3 : Int32).toInt = 3 := rfl
  have := b32 b1
  have : (b1 &&& (255 : Int32)).toInt = b1.toInt % 256 := k_mask b1 (255 : Int32) 8 256 (by decide) (by decide) (by decide)
  have : 0 ≤ (b1 &&& (255 : Int32)).toInt ∧ (b1 &&& (255 : Int32)).toInt ≤ 255 := by omega
  have : i7_106.toInt = (b1 &&& (255 : Int32)).toInt := congrArg Int32.toInt hi7_106
  have : 0 ≤ i7_106.toInt ∧ i7_106.toInt ≤ 255 := by omega
  have : (2 : Int32).toInt = 2 := rfl
  have : (1 : Int32).toInt = 1 := rfl
  have : (192 : Int32).toInt = 192 := rfl
  have := b32 b2
  have : (b2 &&& (192 : Int32)).toInt = b2.toInt % 256 - b2.toInt % 64 := k_field b2 (192 : Int32) (63 : Int32) (255 : Int32) 6 8 64 256 (by decide) (by decide) (by decide) (by decide) (by decide) (by decide) (by decide) (by decide) (by decide) (by decide) (by decide) (by decide)
  have : 0 ≤ (b2 &&& (192 : Int32)).toInt ∧ (b2 &&& (192 : Int32)).toInt ≤ 192 := by omega
  have : (0 : Int32).toInt = 0 := rfl
  have := b32 r110
  have : (b2 &&& (255 : Int32)).toInt = b2.toInt % 256 := k_mask b2 (255 : Int32) 8 256 (by decide) (by decide) (by decide)
  have : 0 ≤ (b2 &&& (255 : Int32)).toInt ∧ (b2 &&& (255 : Int32)).toInt ≤ 255 := by omega
  have := b32 b3
  have : (b3 &&& (255 : Int32)).toInt = b3.toInt % 256 := k_mask b3 (255 : Int32) 8 256 (by decide) (by decide) (by decide)
  have : 0 ≤ (b3 &&& (255 : Int32)).toInt ∧ (b3 &&& (255 : Int32)).toInt ≤ 255 := by omega
  have := mt Int32.lt_iff_toInt_lt.mpr hc12_2
  have := mt Int32.lt_iff_toInt_lt.mpr hc31_3
  have := Int32.lt_iff_toInt_lt.mp hc38_58
  have := mt Int32.lt_iff_toInt_lt.mpr hc51_59
  have := mt Int32.lt_iff_toInt_lt.mpr hc58_79
  simp only [Int32.lt_iff_toInt_lt, ← Int32.toInt_inj] at hjJ100
  simp only [Int32.lt_iff_toInt_lt, ← Int32.toInt_inj] at hjJ103
  have := mt Int32.lt_iff_toInt_lt.mpr hc162_105
  have := mt Int32.lt_iff_toInt_lt.mpr hc182_107
  have := mt Int32.lt_iff_toInt_lt.mpr hc189_108
  have := Int32.lt_iff_toInt_lt.mp hc201_109
  simp only [Int32.lt_iff_toInt_lt, ← Int32.toInt_inj] at hr110
  have := congrArg Int32.toInt hc213_111
  unfold own_isLen
  exact Or.inr (Or.inr (Or.inr (Or.inr ⟨by omega, by omega, by omega, by omega, by omega⟩)))
set_option maxRecDepth 65536 in
set_option maxHeartbeats 40000000 in
theorem lf1_58 (ofs : Int32) (en : Int32) (b0 : Int32) (b1 : Int32) (b2 : Int32) (b3 : Int32) (i3_1 : Int32) (x101 : Int32) (x104 : Int32) (i7_106 : Int32) (hof : 0 ≤ ofs.toInt ∧ ofs.toInt ≤ 1) (hen : 1 ≤ en.toInt - ofs.toInt ∧ en.toInt - ofs.toInt ≤ 4) (hi3_1 : i3_1 = (b0 &&& (255 : Int32))) (hc12_2 : ¬ (i3_1 < (128 : Int32))) (hc31_3 : ¬ (i3_1 < (194 : Int32))) (hc38_58 : (223 : Int32) < i3_1) (hc51_59 : ¬ (i3_1 < (224 : Int32))) (hc58_79 : ¬ ((239 : Int32) < i3_1)) (hjJ100 : ((¬ (i3_1 = (224 : Int32))) ∧ (x101 = (128 : Int32))) ∨ ((i3_1 = (224 : Int32)) ∧ (x101 = (160 : Int32)))) (hjJ103 : ((¬ (i3_1 = (237 : Int32))) ∧ (x104 = (191 : Int32))) ∨ ((i3_1 = (237 : Int32)) ∧ (x104 = (159 : Int32)))) (hc162_105 : ¬ ((en - ofs) < (3 : Int32))) (hi7_106 : i7_106 = (b1 &&& (255 : Int32))) (hc182_107 : ¬ (i7_106 < x101)) (hc189_108 : x104 < i7_106) : own_isLen (b0 &&& (255 : Int32)).toInt (b1 &&& (255 : Int32)).toInt (b2 &&& (255 : Int32)).toInt (b3 &&& (255 : Int32)).toInt (en.toInt - ofs.toInt) (0 : Int32).toInt := by
  have := b32 en
  have := b32 b0
  have : (255 : Int32).toInt = 255 := rfl
  have : (b0 &&& (255 : Int32)).toInt = b0.toInt % 256 := k_mask b0 (255 : Int32) 8 256 (by decide) (by decide) (by decide)
  have : 0 ≤ (b0 &&& (255 : Int32)).toInt ∧ (b0 &&& (255 : Int32)).toInt ≤ 255 := by omega
  have : i3_1.toInt = (b0 &&& (255 : Int32)).toInt := congrArg Int32.toInt hi3_1
  have : 0 ≤ i3_1.toInt ∧ i3_1.toInt ≤ 255 := by omega
  have : (128 : Int32).toInt = 128 := rfl
  have : (194 : Int32).toInt = 194 := rfl
  have : (223 : Int32).toInt = 223 := rfl
  have : (224 : Int32).toInt = 224 := rfl
  have : (239 : Int32).toInt = 239 := rfl
  have : (160 : Int32).toInt = 160 := rfl
  have := b32 x101
  have : (237 : Int32).toInt = 237 := rfl
  have : (191 : Int32).toInt = 191 := rfl
  have : (159 : Int32).toInt = 159 := rfl
  have := b32 x104
  have := c_isub en ofs
  have := b32 (en - ofs)
  have : (3 : Int32).toInt = 3 := rfl
  have := b32 b1
  have : (b1 &&& (255 : Int32)).toInt = b1.toInt % 256 := k_mask b1 (255 : Int32) 8 256 (by decide) (by decide) (by decide)
  have : 0 ≤ (b1 &&& (255 : Int32)).toInt ∧ (b1 &&& (255 : Int32)).toInt ≤ 255 := by omega
  have : i7_106.toInt = (b1 &&& (255 : Int32)).toInt := congrArg Int32.toInt hi7_106
  have : 0 ≤ i7_106.toInt ∧ i7_106.toInt ≤ 255 := by omega
  have := b32 b2
  have : (b2 &&& (255 : Int32)).toInt = b2.toInt % 256 := k_mask b2 (255 : Int32) 8 256 (by decide) (by decide) (by decide)
  have : 0 ≤ (b2 &&& (255 : Int32)).toInt ∧ (b2 &&& (255 : Int32)).toInt ≤ 255 := by omega
  have := b32 b3
  have : (b3 &&& (255 : Int32)).toInt = b3.toInt % 256 := k_mask b3 (255 : Int32) 8 256 (by decide) (by decide) (by decide)
  have : 0 ≤ (b3 &&& (255 : Int32)).toInt ∧ (b3 &&& (255 : Int32)).toInt ≤ 255 := by omega
  have : (0 : Int32).toInt = 0 := rfl
  have := mt Int32.lt_iff_toInt_lt.mpr hc12_2
  have := mt Int32.lt_iff_toInt_lt.mpr hc31_3
  have := Int32.lt_iff_toInt_lt.mp hc38_58
  have := mt Int32.lt_iff_toInt_lt.mpr hc51_59
  have := mt Int32.lt_iff_toInt_lt.mpr hc58_79
  simp only [Int32.lt_iff_toInt_lt, ← Int32.toInt_inj] at hjJ100
  simp only [Int32.lt_iff_toInt_lt, ← Int32.toInt_inj] at hjJ103
  have := mt Int32.lt_iff_toInt_lt.mpr hc162_105
  have := mt Int32.lt_iff_toInt_lt.mpr hc182_107
  have := Int32.lt_iff_toInt_lt.mp hc189_108
  unfold own_isLen
  exact Or.inr (Or.inr (Or.inr (Or.inr ⟨by omega, by omega, by omega, by omega, by omega⟩)))
set_option maxRecDepth 65536 in
set_option maxHeartbeats 40000000 in
theorem lf1_59 (ofs : Int32) (en : Int32) (b0 : Int32) (b1 : Int32) (b2 : Int32) (b3 : Int32) (i3_1 : Int32) (x101 : Int32) (x104 : Int32) (hof : 0 ≤ ofs.toInt ∧ ofs.toInt ≤ 1) (hen : 1 ≤ en.toInt - ofs.toInt ∧ en.toInt - ofs.toInt ≤ 4) (hi3_1 : i3_1 = (b0 &&& (255 : Int32))) (hc12_2 : ¬ (i3_1 < (128 : Int32))) (hc31_3 : ¬ (i3_1 < (194 : Int32))) (hc38_58 : (223 : Int32) < i3_1) (hc51_59 : ¬ (i3_1 < (224 : Int32))) (hc58_79 : ¬ ((239 : Int32) < i3_1)) (hjJ100 : ((¬ (i3_1 = (224 : Int32))) ∧ (x101 = (128 : Int32))) ∨ ((i3_1 = (224 : Int32)) ∧ (x101 = (160 : Int32)))) (hjJ103 : ((¬ (i3_1 = (237 : Int32))) ∧ (x104 = (191 : Int32))) ∨ ((i3_1 = (237 : Int32)) ∧ (x104 = (159 : Int32)))) (hc162_105 : (en - ofs) < (3 : Int32)) : own_isLen (b0 &&& (255 : Int32)).toInt (b1 &&& (255 : Int32)).toInt (b2 &&& (255 : Int32)).toInt (b3 &&& (255 : Int32)).toInt (en.toInt - ofs.toInt) (0 : Int32).toInt := by
  have := b32 en
  have := b32 b0
  have : (255 : Int32).toInt = 255 := rfl
  have : (b0 &&& (255 : Int32)).toInt = b0.toInt % 256 := k_mask b0 (255 : Int32) 8 256 (by decide) (by decide) (by decide)
  have : 0 ≤ (b0 &&& (255 : Int32)).toInt ∧ (b0 &&& (255 : Int32)).toInt ≤ 255 := by omega
  have : i3_1.toInt = (b0 &&& (255 : Int32)).toInt := congrArg Int32.toInt hi3_1
  have : 0 ≤ i3_1.toInt ∧ i3_1.toInt ≤ 255 := by omega
  have : (128 : Int32).toInt = 128 := rfl
  have : (194 : Int32).toInt = 194 := rfl
  have : (223 : Int32).toInt = 223 := rfl
  have : (224 : Int32).toInt = 224 := rfl
  have : (239 : Int32).toInt = 239 := rfl
  have : (160 : Int32).toInt = 160 := rfl
  have := b32 x101
  have : (237 : Int32).toInt = 237 := rfl
  have : (191 : Int32).toInt = 191 := rfl
  have : (159 : Int32).toInt = 159 := rfl
  have := b32 x104
  have := c_isub en ofs
  have := b32 (en - ofs)
  have : (3 : Int32).toInt = 3 := rfl
  have := b32 b1
  have : (b1 &&& (255 : Int32)).toInt = b1.toInt % 256 := k_mask b1 (255 : Int32) 8 256 (by decide) (by decide) (by decide)
  have : 0 ≤ (b1 &&& (255 : Int32)).toInt ∧ (b1 &&& (255 : Int32)).toInt ≤ 255 := by omega
  have := b32 b2
  have : (b2 &&& (255 : Int32)).toInt = b2.toInt % 256 := k_mask b2 (255 : Int32) 8 256 (by decide) (by decide) (by decide)
  have : 0 ≤ (b2 &&& (255 : Int32)).toInt ∧ (b2 &&& (255 : Int32)).toInt ≤ 255 := by omega
  have := b32 b3
  have : (b3 &&& (255 : Int32)).toInt = b3.toInt % 256 := k_mask b3 (255 : Int32) 8 256 (by decide) (by decide) (by decide)
  have : 0 ≤ (b3 &&& (255 : Int32)).toInt ∧ (b3 &&& (255 : Int32)).toInt ≤ 255 := by omega
  have : (0 : Int32).toInt = 0 := rfl
  have := mt Int32.lt_iff_toInt_lt.mpr hc12_2
  have := mt Int32.lt_iff_toInt_lt.mpr hc31_3
  have := Int32.lt_iff_toInt_lt.mp hc38_58
  have := mt Int32.lt_iff_toInt_lt.mpr hc51_59
  have := mt Int32.lt_iff_toInt_lt.mpr hc58_79
  simp only [Int32.lt_iff_toInt_lt, ← Int32.toInt_inj] at hjJ100
  simp only [Int32.lt_iff_toInt_lt, ← Int32.toInt_inj] at hjJ103
  have := Int32.lt_iff_toInt_lt.mp hc162_105
  unfold own_isLen
  exact Or.inr (Or.inr (Or.inr (Or.inr ⟨by omega, by omega, by omega, by omega, by omega⟩)))
set_option maxRecDepth 65536 in
set_option maxHeartbeats 40000000 in
theorem lf1_60 (ofs : Int32) (bs : List Int32) (hof : 0 ≤ ofs.toInt ∧ ofs.toInt ≤ 1) (hln : bs.length = 5) : ¬ (ofs + (1 : Int32)) < 0 ∧ (ofs + (1 : Int32)).toNatClampNeg < bs.length := by
  have := b32 ofs
  have := c_iadd ofs (1 : Int32)
  have := b32 (ofs + (1 : Int32))
  unfold Int32.toNatClampNeg
  try simp only [Int32.lt_iff_toInt_lt, ← Int32.toInt_inj, Int32.reduceToInt, Int64.lt_iff_toInt_lt, ← Int64.toInt_inj, Int64.reduceToInt, true_and, and_true, true_or, or_true, false_or, or_false, false_and, and_false, not_true_eq_false, not_false_eq_true] at *
  omega
set_option maxRecDepth 65536 in
set_option maxHeartbeats 40000000 in
theorem lf1_61 (ofs : Int32) (en : Int32) (b0 : Int32) (b1 : Int32) (b2 : Int32) (b3 : Int32) (i3_1 : Int32) (i7_114 : Int32) (hof : 0 ≤ ofs.toInt ∧ ofs.toInt ≤ 1) (hen : 1 ≤ en.toInt - ofs.toInt ∧ en.toInt - ofs.toInt ≤ 4) (hi3_1 : i3_1 = (b0 &&& (255 : Int32))) (hc12_2 : ¬ (i3_1 < (128 : Int32))) (hc31_3 : ¬ (i3_1 < (194 : Int32))) (hc38_58 : ¬ ((223 : Int32) < i3_1)) (hc162_113 : ¬ ((en - ofs) < (2 : Int32))) (hi7_114 : i7_114 = (b1 &&& (255 : Int32))) (hc182_115 : i7_114 < (128 : Int32)) : own_isLen (b0 &&& (255 : Int32)).toInt (b1 &&& (255 : Int32)).toInt (b2 &&& (255 : Int32)).toInt (b3 &&& (255 : Int32)).toInt (en.toInt - ofs.toInt) (0 : Int32).toInt := by
  have := b32 en
  have := b32 b0
  have : (255 : Int32).toInt = 255 := rfl
  have : (b0 &&& (255 : Int32)).toInt = b0.toInt % 256 := k_mask b0 (255 : Int32) 8 256 (by decide) (by decide) (by decide)
  have : 0 ≤ (b0 &&& (255 : Int32)).toInt ∧ (b0 &&& (255 : Int32)).toInt ≤ 255 := by omega
  have : i3_1.toInt = (b0 &&& (255 : Int32)).toInt := congrArg Int32.toInt hi3_1
  have : 0 ≤ i3_1.toInt ∧ i3_1.toInt ≤ 255 := by omega
  have : (128 : Int32).toInt = 128 := rfl
  have : (194 : Int32).toInt = 194 := rfl
  have : (223 : Int32).toInt = 223 := rfl
  have := c_isub en ofs
  have := b32 (en - ofs)
  have : (2 : Int32).toInt = 2 := rfl
  have := b32 b1
  have : (b1 &&& (255 : Int32)).toInt = b1.toInt % 256 := k_mask b1 (255 : Int32) 8 256 (by decide) (by decide) (by decide)
  have : 0 ≤ (b1 &&& (255 : Int32)).toInt ∧ (b1 &&& (255 : Int32)).toInt ≤ 255 := by omega
  have : i7_114.toInt = (b1 &&& (255 : Int32)).toInt := congrArg Int32.toInt hi7_114
  have : 0 ≤ i7_114.toInt ∧ i7_114.toInt ≤ 255 := by omega
  have := b32 b2
  have : (b2 &&& (255 : Int32)).toInt = b2.toInt % 256 := k_mask b2 (255 : Int32) 8 256 (by decide) (by decide) (by decide)
  have : 0 ≤ (b2 &&& (255 : Int32)).toInt ∧ (b2 &&& (255 : Int32)).toInt ≤ 255 := by omega
  have := b32 b3
  have : (b3 &&& (255 : Int32)).toInt = b3.toInt % 256 := k_mask b3 (255 : Int32) 8 256 (by decide) (by decide) (by decide)
  have : 0 ≤ (b3 &&& (255 : Int32)).toInt ∧ (b3 &&& (255 : Int32)).toInt ≤ 255 := by omega
  have : (0 : Int32).toInt = 0 := rfl
  have := mt Int32.lt_iff_toInt_lt.mpr hc12_2
  have := mt Int32.lt_iff_toInt_lt.mpr hc31_3
  have := mt Int32.lt_iff_toInt_lt.mpr hc38_58
  have := mt Int32.lt_iff_toInt_lt.mpr hc162_113
  have := Int32.lt_iff_toInt_lt.mp hc182_115
  unfold own_isLen
  exact Or.inr (Or.inr (Or.inr (Or.inr ⟨by omega, by omega, by omega, by omega, by omega⟩)))
set_option maxRecDepth 65536 in
set_option maxHeartbeats 40000000 in
theorem lf1_62 (ofs : Int32) (en : Int32) (b0 : Int32) (b1 : Int32) (b2 : Int32) (b3 : Int32) (i3_1 : Int32) (i7_114 : Int32) (hof : 0 ≤ ofs.toInt ∧ ofs.toInt ≤ 1) (hen : 1 ≤ en.toInt - ofs.toInt ∧ en.toInt - ofs.toInt ≤ 4) (hi3_1 : i3_1 = (b0 &&& (255 : Int32))) (hc12_2 : ¬ (i3_1 < (128 : Int32))) (hc31_3 : ¬ (i3_1 < (194 : Int32))) (hc38_58 : ¬ ((223 : Int32) < i3_1)) (hc162_113 : ¬ ((en - ofs) < (2 : Int32))) (hi7_114 : i7_114 = (b1 &&& (255 : Int32))) (hc182_115 : ¬ (i7_114 < (128 : Int32))) (hc189_116 : ¬ ((191 : Int32) < i7_114)) (hc201_117 : ¬ ((2 : Int32) < (2 : Int32))) : own_isLen (b0 &&& (255 : Int32)).toInt (b1 &&& (255 : Int32)).toInt (b2 &&& (255 : Int32)).toInt (b3 &&& (255 : Int32)).toInt (en.toInt - ofs.toInt) (2 : Int32).toInt := by
  have := b32 en
  have := b32 b0
  have : (255 : Int32).toInt = 255 := rfl
  have : (b0 &&& (255 : Int32)).toInt = b0.toInt % 256 := k_mask b0 (255 : Int32) 8 256 (by decide) (by decide) (by decide)
  have : 0 ≤ (b0 &&& (255 : Int32)).toInt ∧ (b0 &&& (255 : Int32)).toInt ≤ 255 := by omega
  have : i3_1.toInt = (b0 &&& (255 : Int32)).toInt := congrArg Int32.toInt hi3_1
  have : 0 ≤ i3_1.toInt ∧ i3_1.toInt ≤ 255 := by omega
  have : (128 : Int32).toInt = 128 := rfl
  have : (194 : Int32).toInt = 194 := rfl
  have : (223 : Int32).toInt = 223 := rfl
  have := c_isub en ofs
  have := b32 (en - ofs)
  have : (2 : Int32).toInt = 2 := rfl
  have := b32 b1
  have : (b1 &&& (255 : Int32)).toInt = b1.toInt % 256 := k_mask b1 (255 : Int32) 8 256 (by decide) (by decide) (by decide)
  have : 0 ≤ (b1 &&& (255 : Int32)).toInt ∧ (b1 &&& (255 : Int32)).toInt ≤ 255 := by omega
  have : i7_114.toInt = (b1 &&& (255 : Int32)).toInt := congrArg Int32.toInt hi7_114
  have : 0 ≤ i7_114.toInt ∧ i7_114.toInt ≤ 255 := by omega
  have : (191 : Int32).toInt = 191 := rfl
  have := b32 b2
  have : (b2 &&& (255 : Int32)).toInt = b2.toInt % 256 := k_mask b2 (255 : Int32) 8 256 (by decide) (by decide) (by decide)
  have : 0 ≤ (b2 &&& (255 : Int32)).toInt ∧ (b2 &&& (255 : Int32)).toInt ≤ 255 := by omega
  have := b32 b3
  have : (b3 &&& (255 : Int32)).toInt = b3.toInt % 256 := k_mask b3 (255 : Int32) 8 256 (by decide) (by decide) (by decide)
  have : 0 ≤ (b3 &&& (255 : Int32)).toInt ∧ (b3 &&& (255 : Int32)).toInt ≤ 255 := by omega
  have : (0 : Int32).toInt = 0 := rfl
  have := mt Int32.lt_iff_toInt_lt.mpr hc12_2
  have := mt Int32.lt_iff_toInt_lt.mpr hc31_3
  have := mt Int32.lt_iff_toInt_lt.mpr hc38_58
  have := mt Int32.lt_iff_toInt_lt.mpr hc162_113
  have := mt Int32.lt_iff_toInt_lt.mpr hc182_115
  have := mt Int32.lt_iff_toInt_lt.mpr hc189_116
  have := mt Int32.lt_iff_toInt_lt.mpr hc201_117
  unfold own_isLen
  exact Or.inr (Or.inl ⟨by omega, by omega, by omega, by omega, by omega, by omega⟩)
set_option maxRecDepth 65536 in
set_option maxHeartbeats 40000000 in
theorem lf1_63 (ofs : Int32) (en : Int32) (b0 : Int32) (b1 : Int32) (b2 : Int32) (b3 : Int32) (i3_1 : Int32) (i7_114 : Int32) (hof : 0 ≤ ofs.toInt ∧ ofs.toInt ≤ 1) (hen : 1 ≤ en.toInt - ofs.toInt ∧ en.toInt - ofs.toInt ≤ 4) (hi3_1 : i3_1 = (b0 &&& (255 : Int32))) (hc12_2 : ¬ (i3_1 < (128 : Int32))) (hc31_3 : ¬ (i3_1 < (194 : Int32))) (hc38_58 : ¬ ((223 : Int32) < i3_1)) (hc162_113 : ¬ ((en - ofs) < (2 : Int32))) (hi7_114 : i7_114 = (b1 &&& (255 : Int32))) (hc182_115 : ¬ (i7_114 < (128 : Int32))) (hc189_116 : (191 : Int32) < i7_114) : own_isLen (b0 &&& (255 : Int32)).toInt (b1 &&& (255 : Int32)).toInt (b2 &&& (255 : Int32)).toInt (b3 &&& (255 : Int32)).toInt (en.toInt - ofs.toInt) (0 : Int32).toInt := by
  have := b32 en
  have := b32 b0
  have : (255 : Int32).toInt = 255 := rfl
  have : (b0 &&& (255 : Int32)).toInt = b0.toInt % 256 := k_mask b0 (255 : Int32) 8 256 (by decide) (by decide) (by decide)
  have : 0 ≤ (b0 &&& (255 : Int32)).toInt ∧ (b0 &&& (255 : Int32)).toInt ≤ 255 := by omega
  have : i3_1.toInt = (b0 &&& (255 : Int32)).toInt := congrArg Int32.toInt hi3_1
  have : 0 ≤ i3_1.toInt ∧ i3_1.toInt ≤ 255 := by omega
  have : (128 : Int32).toInt = 128 := rfl
  have : (194 : Int32).toInt = 194 := rfl
  have : (223 : Int32).toInt = 223 := rfl
  have := c_isub en ofs
  have := b32 (en - ofs)
  have : (2 : Int32).toInt = 2 := rfl
  have := b32 b1
  have : (b1 &&& (255 : Int32)).toInt = b1.toInt % 256 := k_mask b1 (255 : Int32) 8 256 (by decide) (by decide) (by decide)
  have : 0 ≤ (b1 &&& (255 : Int32)).toInt ∧ (b1 &&& (255 : Int32)).toInt ≤ 255 := by omega
  have : i7_114.toInt = (b1 &&& (255 : Int32)).toInt := congrArg Int32.toInt hi7_114
  have : 0 ≤ i7_114.toInt ∧ i7_114.toInt ≤ 255 := by omega
  have : (191 : Int32).toInt = 191 := rfl
  have := b32 b2
  have : (b2 &&& (255 : Int32)).toInt = b2.toInt % 256 := k_mask b2 (255 : Int32) 8 256 (by decide) (by decide) (by decide)
  have : 0 ≤ (b2 &&& (255 : Int32)).toInt ∧ (b2 &&& (255 : Int32)).toInt ≤ 255 := by omega
  have := b32 b3
  have : (b3 &&& (255 : Int32)).toInt = b3.toInt % 256 := k_mask b3 (255 : Int32) 8 256 (by decide) (by decide) (by decide)
  have : 0 ≤ (b3 &&& (255 : Int32)).toInt ∧ (b3 &&& (255 : Int32)).toInt ≤ 255 := by omega
  have : (0 : Int32).toInt = 0 := rfl
  have := mt Int32.lt_iff_toInt_lt.mpr hc12_2
  have := mt Int32.lt_iff_toInt_lt.mpr hc31_3
  have := mt Int32.lt_iff_toInt_lt.mpr hc38_58
  have := mt Int32.lt_iff_toInt_lt.mpr hc162_113
  have := mt Int32.lt_iff_toInt_lt.mpr hc182_115
  have := Int32.lt_iff_toInt_lt.mp hc189_116
  unfold own_isLen
  exact Or.inr (Or.inr (Or.inr (Or.inr ⟨by omega, by omega, by omega, by omega, by omega⟩)))
set_option maxRecDepth 65536 in
set_option maxHeartbeats 40000000 in
theorem lf1_64 (ofs : Int32) (en : Int32) (b0 : Int32) (b1 : Int32) (b2 : Int32) (b3 : Int32) (i3_1 : Int32) (hof : 0 ≤ ofs.toInt ∧ ofs.toInt ≤ 1) (hen : 1 ≤ en.toInt - ofs.toInt ∧ en.toInt - ofs.toInt ≤ 4) (hi3_1 : i3_1 = (b0 &&& (255 : Int32))) (hc12_2 : ¬ (i3_1 < (128 : Int32))) (hc31_3 : ¬ (i3_1 < (194 : Int32))) (hc38_58 : ¬ ((223 : Int32) < i3_1)) (hc162_113 : (en - ofs) < (2 : Int32)) : own_isLen (b0 &&& (255 : Int32)).toInt (b1 &&& (255 : Int32)).toInt (b2 &&& (255 : Int32)).toInt (b3 &&& (255 : Int32)).toInt (en.toInt - ofs.toInt) (0 : Int32).toInt := by
  have := b32 en
  have := b32 b0
  have : (255 : Int32).toInt = 255 := rfl
  have : (b0 &&& (255 : Int32)).toInt = b0.toInt % 256 := k_mask b0 (255 : Int32) 8 256 (by decide) (by decide) (by decide)
  have : 0 ≤ (b0 &&& (255 : Int32)).toInt ∧ (b0 &&& (255 : Int32)).toInt ≤ 255 := by omega
  have : i3_1.toInt = (b0 &&& (255 : Int32)).toInt := congrArg Int32.toInt hi3_1
  have : 0 ≤ i3_1.toInt ∧ i3_1.toInt ≤ 255 := by omega
  have : (128 : Int32).toInt = 128 := rfl
  have : (194 : Int32).toInt = 194 := rfl
  have : (223 : Int32).toInt = 223 := rfl
  have := c_isub en ofs
  have := b32 (en - ofs)
  have : (2 : Int32).toInt = 2 := rfl
  have := b32 b1
  have : (b1 &&& (255 : Int32)).toInt = b1.toInt % 256 := k_mask b1 (255 : Int32) 8 256 (by decide) (by decide) (by decide)
  have : 0 ≤ (b1 &&& (255 : Int32)).toInt ∧ (b1 &&& (255 : Int32)).toInt ≤ 255 := by omega
  have := b32 b2
  have : (b2 &&& (255 : Int32)).toInt = b2.toInt % 256 := k_mask b2 (255 : Int32) 8 256 (by decide) (by decide) (by decide)
  have : 0 ≤ (b2 &&& (255 : Int32)).toInt ∧ (b2 &&& (255 : Int32)).toInt ≤ 255 := by omega
  have := b32 b3
  have : (b3 &&& (255 : Int32)).toInt = b3.toInt % 256 := k_mask b3 (255 : Int32) 8 256 (by decide) (by decide) (by decide)
  have : 0 ≤ (b3 &&& (255 : Int32)).toInt ∧ (b3 &&& (255 : Int32)).toInt ≤ 255 := by omega
  have : (0 : Int32).toInt = 0 := rfl
  have := mt Int32.lt_iff_toInt_lt.mpr hc12_2
  have := mt Int32.lt_iff_toInt_lt.mpr hc31_3
  have := mt Int32.lt_iff_toInt_lt.mpr hc38_58
  have := Int32.lt_iff_toInt_lt.mp hc162_113
  unfold own_isLen
  exact Or.inr (Or.inr (Or.inr (Or.inr ⟨by omega, by omega, by omega, by omega, by omega⟩)))
set_option maxRecDepth 65536 in
set_option maxHeartbeats 40000000 in
theorem lf1_65 (ofs : Int32) (en : Int32) (b0 : Int32) (b1 : Int32) (b2 : Int32) (b3 : Int32) (i3_1 : Int32) (hof : 0 ≤ ofs.toInt ∧ ofs.toInt ≤ 1) (hen : 1 ≤ en.toInt - ofs.toInt ∧ en.toInt - ofs.toInt ≤ 4) (hi3_1 : i3_1 = (b0 &&& (255 : Int32))) (hc12_2 : i3_1 < (128 : Int32)) : own_isLen (b0 &&& (255 : Int32)).toInt (b1 &&& (255 : Int32)).toInt (b2 &&& (255 : Int32)).toInt (b3 &&& (255 : Int32)).toInt (en.toInt - ofs.toInt) (1 : Int32).toInt := by
  have := b32 en
  have := b32 b0
  have : (255 : Int32).toInt = 255 := rfl
  have : (b0 &&& (255 : Int32)).toInt = b0.toInt % 256 := k_mask b0 (255 : Int32) 8 256 (by decide) (by decide) (by decide)
  have : 0 ≤ (b0 &&& (255 : Int32)).toInt ∧ (b0 &&& (255 : Int32)).toInt ≤ 255 := by omega
  have : i3_1.toInt = (b0 &&& (255 : Int32)).toInt := congrArg Int32.toInt hi3_1
  have : 0 ≤ i3_1.toInt ∧ i3_1.toInt ≤ 255 := by omega
  have : (128 : Int32).toInt = 128 := rfl
  have := b32 b1
  have : (b1 &&& (255 : Int32)).toInt = b1.toInt % 256 := k_mask b1 (255 : Int32) 8 256 (by decide) (by decide) (by decide)
  have : 0 ≤ (b1 &&& (255 : Int32)).toInt ∧ (b1 &&& (255 : Int32)).toInt ≤ 255 := by omega
  have := b32 b2
  have : (b2 &&& (255 : Int32)).toInt = b2.toInt % 256 := k_mask b2 (255 : Int32) 8 256 (by decide) (by decide) (by decide)
  have : 0 ≤ (b2 &&& (255 : Int32)).toInt ∧ (b2 &&& (255 : Int32)).toInt ≤ 255 := by omega
  have := b32 b3
  have : (b3 &&& (255 : Int32)).toInt = b3.toInt % 256 := k_mask b3 (255 : Int32) 8 256 (by decide) (by decide) (by decide)
  have : 0 ≤ (b3 &&& (255 : Int32)).toInt ∧ (b3 &&& (255 : Int32)).toInt ≤ 255 := by omega
  have : (1 : Int32).toInt = 1 := rfl
  have : (0 : Int32).toInt = 0 := rfl
  have := Int32.lt_iff_toInt_lt.mp hc12_2
  unfold own_isLen
  exact Or.inl ⟨by omega, by omega⟩
theorem d1_0 : decode prog_52_method_3_code 0 = .ok (.aload_n 0, 1) := by decide +kernel
theorem d1_1 : decode prog_52_method_3_code 1 = .ok (.iload_n 1, 1) := by decide +kernel
theorem d1_2 : decode prog_52_method_3_code 2 = .ok (.baload, 1) := by decide +kernel
theorem d1_3 : decode prog_52_method_3_code 3 = .ok (.sipush 255, 3) := by decide +kernel
theorem d1_6 : decode prog_52_method_3_code 6 = .ok (.iand, 1) := by decide +kernel
theorem d1_7 : decode prog_52_method_3_code 7 = .ok (.istore_n 3, 1) := by decide +kernel
theorem d1_8 : decode prog_52_method_3_code 8 = .ok (.iload_n 3, 1) := by decide +kernel
theorem d1_9 : decode prog_52_method_3_code 9 = .ok (.sipush 128, 3) := by decide +kernel
theorem d1_12 : decode prog_52_method_3_code 12 = .ok (.if_icmp .ge 5, 3) := by decide +kernel
theorem d1_15 : decode prog_52_method_3_code 15 = .ok (.iconst 1, 1) := by decide +kernel
theorem d1_16 : decode prog_52_method_3_code 16 = .ok (.ireturn, 1) := by decide +kernel
theorem d1_17 : decode prog_52_method_3_code 17 = .ok (.sipush 128, 3) := by decide +kernel
theorem d1_20 : decode prog_52_method_3_code 20 = .ok (.istore 5, 2) := by decide +kernel
theorem d1_22 : decode prog_52_method_3_code 22 = .ok (.sipush 191, 3) := by decide +kernel
theorem d1_25 : decode prog_52_method_3_code 25 = .ok (.istore 6, 2) := by decide +kernel
theorem d1_27 : decode prog_52_method_3_code 27 = .ok (.iload_n 3, 1) := by decide +kernel
theorem d1_28 : decode prog_52_method_3_code 28 = .ok (.sipush 194, 3) := by decide +kernel
theorem d1_31 : decode prog_52_method_3_code 31 = .ok (.if_icmp .lt 16, 3) := by decide +kernel
theorem d1_34 : decode prog_52_method_3_code 34 = .ok (.iload_n 3, 1) := by decide +kernel
theorem d1_35 : decode prog_52_method_3_code 35 = .ok (.sipush 223, 3) := by decide +kernel
theorem d1_38 : decode prog_52_method_3_code 38 = .ok (.if_icmp .gt 9, 3) := by decide +kernel
theorem d1_41 : decode prog_52_method_3_code 41 = .ok (.iconst 2, 1) := by decide +kernel
theorem d1_42 : decode prog_52_method_3_code 42 = .ok (.istore 4, 2) := by decide +kernel
theorem d1_44 : decode prog_52_method_3_code 44 = .ok (.goto 113, 3) := by decide +kernel
theorem d1_47 : decode prog_52_method_3_code 47 = .ok (.iload_n 3, 1) := by decide +kernel
theorem d1_48 : decode prog_52_method_3_code 48 = .ok (.sipush 224, 3) := by decide +kernel
theorem d1_51 : decode prog_52_method_3_code 51 = .ok (.if_icmp .lt 50, 3) := by decide +kernel
theorem d1_54 : decode prog_52_method_3_code 54 = .ok (.iload_n 3, 1) := by decide +kernel
theorem d1_55 : decode prog_52_method_3_code 55 = .ok (.sipush 239, 3) := by decide +kernel
theorem d1_58 : decode prog_52_method_3_code 58 = .ok (.if_icmp .gt 43, 3) := by decide +kernel
theorem d1_61 : decode prog_52_method_3_code 61 = .ok (.iconst 3, 1) := by decide +kernel
theorem d1_62 : decode prog_52_method_3_code 62 = .ok (.istore 4, 2) := by decide +kernel
theorem d1_64 : decode prog_52_method_3_code 64 = .ok (.iload_n 3, 1) := by decide +kernel
theorem d1_65 : decode prog_52_method_3_code 65 = .ok (.sipush 224, 3) := by decide +kernel
theorem d1_68 : decode prog_52_method_3_code 68 = .ok (.if_icmp .ne 9, 3) := by decide +kernel
theorem d1_71 : decode prog_52_method_3_code 71 = .ok (.sipush 160, 3) := by decide +kernel
theorem d1_74 : decode prog_52_method_3_code 74 = .ok (.goto 5, 3) := by decide +kernel
theorem d1_77 : decode prog_52_method_3_code 77 = .ok (.iload 5, 2) := by decide +kernel
theorem d1_79 : decode prog_52_method_3_code 79 = .ok (.istore 5, 2) := by decide +kernel
theorem d1_81 : decode prog_52_method_3_code 81 = .ok (.iload_n 3, 1) := by decide +kernel
theorem d1_82 : decode prog_52_method_3_code 82 = .ok (.sipush 237, 3) := by decide +kernel
theorem d1_85 : decode prog_52_method_3_code 85 = .ok (.if_icmp .ne 9, 3) := by decide +kernel
theorem d1_88 : decode prog_52_method_3_code 88 = .ok (.sipush 159, 3) := by decide +kernel
theorem d1_91 : decode prog_52_method_3_code 91 = .ok (.goto 5, 3) := by decide +kernel
theorem d1_94 : decode prog_52_method_3_code 94 = .ok (.iload 6, 2) := by decide +kernel
theorem d1_96 : decode prog_52_method_3_code 96 = .ok (.istore 6, 2) := by decide +kernel
theorem d1_98 : decode prog_52_method_3_code 98 = .ok (.goto 59, 3) := by decide +kernel
theorem d1_101 : decode prog_52_method_3_code 101 = .ok (.iload_n 3, 1) := by decide +kernel
theorem d1_102 : decode prog_52_method_3_code 102 = .ok (.sipush 240, 3) := by decide +kernel
theorem d1_105 : decode prog_52_method_3_code 105 = .ok (.if_icmp .lt 50, 3) := by decide +kernel
theorem d1_108 : decode prog_52_method_3_code 108 = .ok (.iload_n 3, 1) := by decide +kernel
theorem d1_109 : decode prog_52_method_3_code 109 = .ok (.sipush 244, 3) := by decide +kernel
theorem d1_112 : decode prog_52_method_3_code 112 = .ok (.if_icmp .gt 43, 3) := by decide +kernel
theorem d1_115 : decode prog_52_method_3_code 115 = .ok (.iconst 4, 1) := by decide +kernel
theorem d1_116 : decode prog_52_method_3_code 116 = .ok (.istore 4, 2) := by decide +kernel
theorem d1_118 : decode prog_52_method_3_code 118 = .ok (.iload_n 3, 1) := by decide +kernel
theorem d1_119 : decode prog_52_method_3_code 119 = .ok (.sipush 240, 3) := by decide +kernel
theorem d1_122 : decode prog_52_method_3_code 122 = .ok (.if_icmp .ne 9, 3) := by decide +kernel
theorem d1_125 : decode prog_52_method_3_code 125 = .ok (.sipush 144, 3) := by decide +kernel
theorem d1_128 : decode prog_52_method_3_code 128 = .ok (.goto 5, 3) := by decide +kernel
theorem d1_131 : decode prog_52_method_3_code 131 = .ok (.iload 5, 2) := by decide +kernel
theorem d1_133 : decode prog_52_method_3_code 133 = .ok (.istore 5, 2) := by decide +kernel
theorem d1_135 : decode prog_52_method_3_code 135 = .ok (.iload_n 3, 1) := by decide +kernel
theorem d1_136 : decode prog_52_method_3_code 136 = .ok (.sipush 244, 3) := by decide +kernel
theorem d1_139 : decode prog_52_method_3_code 139 = .ok (.if_icmp .ne 9, 3) := by decide +kernel
theorem d1_142 : decode prog_52_method_3_code 142 = .ok (.sipush 143, 3) := by decide +kernel
theorem d1_145 : decode prog_52_method_3_code 145 = .ok (.goto 5, 3) := by decide +kernel
theorem d1_148 : decode prog_52_method_3_code 148 = .ok (.iload 6, 2) := by decide +kernel
theorem d1_150 : decode prog_52_method_3_code 150 = .ok (.istore 6, 2) := by decide +kernel
theorem d1_152 : decode prog_52_method_3_code 152 = .ok (.goto 5, 3) := by decide +kernel
theorem d1_155 : decode prog_52_method_3_code 155 = .ok (.iconst 0, 1) := by decide +kernel
theorem d1_156 : decode prog_52_method_3_code 156 = .ok (.ireturn, 1) := by decide +kernel
theorem d1_157 : decode prog_52_method_3_code 157 = .ok (.iload_n 2, 1) := by decide +kernel
theorem d1_158 : decode prog_52_method_3_code 158 = .ok (.iload_n 1, 1) := by decide +kernel
theorem d1_159 : decode prog_52_method_3_code 159 = .ok (.isub, 1) := by decide +kernel
theorem d1_160 : decode prog_52_method_3_code 160 = .ok (.iload 4, 2) := by decide +kernel
theorem d1_162 : decode prog_52_method_3_code 162 = .ok (.if_icmp .ge 5, 3) := by decide +kernel
theorem d1_165 : decode prog_52_method_3_code 165 = .ok (.iconst 0, 1) := by decide +kernel
theorem d1_166 : decode prog_52_method_3_code 166 = .ok (.ireturn, 1) := by decide +kernel
theorem d1_167 : decode prog_52_method_3_code 167 = .ok (.aload_n 0, 1) := by decide +kernel
theorem d1_168 : decode prog_52_method_3_code 168 = .ok (.iload_n 1, 1) := by decide +kernel
theorem d1_169 : decode prog_52_method_3_code 169 = .ok (.iconst 1, 1) := by decide +kernel
theorem d1_170 : decode prog_52_method_3_code 170 = .ok (.iadd, 1) := by decide +kernel
theorem d1_171 : decode prog_52_method_3_code 171 = .ok (.baload, 1) := by decide +kernel
theorem d1_172 : decode prog_52_method_3_code 172 = .ok (.sipush 255, 3) := by decide +kernel
theorem d1_175 : decode prog_52_method_3_code 175 = .ok (.iand, 1) := by decide +kernel
theorem d1_176 : decode prog_52_method_3_code 176 = .ok (.istore 7, 2) := by decide +kernel
theorem d1_178 : decode prog_52_method_3_code 178 = .ok (.iload 7, 2) := by decide +kernel
theorem d1_180 : decode prog_52_method_3_code 180 = .ok (.iload 5, 2) := by decide +kernel
theorem d1_182 : decode prog_52_method_3_code 182 = .ok (.if_icmp .lt 10, 3) := by decide +kernel
theorem d1_185 : decode prog_52_method_3_code 185 = .ok (.iload 7, 2) := by decide +kernel
theorem d1_187 : decode prog_52_method_3_code 187 = .ok (.iload 6, 2) := by decide +kernel
theorem d1_189 : decode prog_52_method_3_code 189 = .ok (.if_icmp .le 5, 3) := by decide +kernel
theorem d1_192 : decode prog_52_method_3_code 192 = .ok (.iconst 0, 1) := by decide +kernel
theorem d1_193 : decode prog_52_method_3_code 193 = .ok (.ireturn, 1) := by decide +kernel
theorem d1_194 : decode prog_52_method_3_code 194 = .ok (.iconst 2, 1) := by decide +kernel
theorem d1_195 : decode prog_52_method_3_code 195 = .ok (.istore 8, 2) := by decide +kernel
theorem d1_197 : decode prog_52_method_3_code 197 = .ok (.iload 8, 2) := by decide +kernel
theorem d1_199 : decode prog_52_method_3_code 199 = .ok (.iload 4, 2) := by decide +kernel
theorem d1_201 : decode prog_52_method_3_code 201 = .ok (.if_icmp .ge 23, 3) := by decide +kernel
theorem d1_204 : decode prog_52_method_3_code 204 = .ok (.aload_n 0, 1) := by decide +kernel
theorem d1_205 : decode prog_52_method_3_code 205 = .ok (.iload_n 1, 1) := by decide +kernel
theorem d1_206 : decode prog_52_method_3_code 206 = .ok (.iload 8, 2) := by decide +kernel
theorem d1_208 : decode prog_52_method_3_code 208 = .ok (.iadd, 1) := by decide +kernel
theorem d1_209 : decode prog_52_method_3_code 209 = .ok (.baload, 1) := by decide +kernel
theorem d1_210 : decode prog_52_method_3_code 210 = .ok (.invokestatic 13, 3) := by decide +kernel
theorem d1_213 : decode prog_52_method_3_code 213 = .ok (.ifCond .ne 5, 3) := by decide +kernel
theorem d1_216 : decode prog_52_method_3_code 216 = .ok (.iconst 0, 1) := by decide +kernel
theorem d1_217 : decode prog_52_method_3_code 217 = .ok (.ireturn, 1) := by decide +kernel
theorem d1_218 : decode prog_52_method_3_code 218 = .ok (.iinc 8 1, 3) := by decide +kernel
theorem d1_221 : decode prog_52_method_3_code 221 = .ok (.goto (-24), 3) := by decide +kernel
theorem d1_224 : decode prog_52_method_3_code 224 = .ok (.iload 4, 2) := by decide +kernel
theorem d1_226 : decode prog_52_method_3_code 226 = .ok (.ireturn, 1) := by decide +kernel
set_option maxRecDepth 65536 in
set_option maxHeartbeats 40000000 in
theorem rm_seq {l : Launch} {Z : State} {a0 : Array Value} (hw : ∀ d ∈ tables_1, d.before a0 Z = true) (arr : Addr) (ofs en b0 b1 b2 b3 : Int32) (bs : List Int32) (h : Heap) (n0 : Nat) (zn : n0 ≤ h.size) (V_arr : PA Z h arr .byte bs) (hof : 0 ≤ ofs.toInt ∧ ofs.toInt ≤ 1) (hln : bs.length = 5) (hen : 1 ≤ en.toInt - ofs.toInt ∧ en.toInt - ofs.toInt ≤ 4) (he0 : b0 = bs.getD ofs.toNatClampNeg 0) (he1 : b1 = bs.getD (ofs + (1 : Int32)).toNatClampNeg 0) (he2 : b2 = bs.getD (ofs + (2 : Int32)).toNatClampNeg 0) (he3 : b3 = bs.getD (ofs + (3 : Int32)).toNatClampNeg 0) :
    Met l Z (⟨"com/example/homeward/homeward/server/Utf8", "sequenceLength", "([BII)I"⟩ : MethodName) prog_52_method_3_code 9 (some .int) [] ({ frames := 1, cells := 0, slots := 0, locals := 12 } : Room) #[(.ref arr), (.int ofs), (.int en)] h n0 (RI fun r h' => h' = h ∧ own_isLen (b0 &&& (255 : Int32)).toInt (b1 &&& (255 : Int32)).toInt (b2 &&& (255 : Int32)).toInt (b3 &&& (255 : Int32)).toInt (en.toInt - ofs.toInt) r.toInt) := by
  refine start (ls := #[.val (.ref arr), .val (.int ofs), .val (.int en), .unset, .unset, .unset, .unset, .unset, .unset]) (plainFor_of_name pn4) (fun m => by first | (simp [entryFrame, mkF, argsToLocals, Value.category]; done) | rfl) ?_
  intro p e s m below meth c T G w X
  refine aloadN w X d1_0 1 rfl rfl rfl ?_
  refine iloadN w X d1_1 2 rfl rfl ?_
  refine baload w X V_arr (lf1_1 ofs bs hof hln).1 ofs.toNatClampNeg rfl (lf1_1 ofs bs hof hln).2 d1_2 3 rfl b0 he0 ?_
  refine sipush w X (255 : Int32) d1_3 6 rfl rfl ?_
  refine iand w X (b0 &&& (255 : Int32)) d1_6 7 rfl rfl ?_
  obtain ⟨i3_1, hi3_1⟩ : ∃ z : Int32, z = (b0 &&& (255 : Int32)) := ⟨_, rfl⟩
  refine istoreN w X i3_1 d1_7 8 rfl hi3_1 #[.val (.ref arr), .val (.int ofs), .val (.int en), .val (.int i3_1), .unset, .unset, .unset, .unset, .unset] rfl ?_
  refine iloadN w X d1_8 9 rfl rfl ?_
  refine sipush w X (128 : Int32) d1_9 12 rfl rfl ?_
  refine icmp_ge w X d1_12 17 15 (by decide) (by decide) rfl (fun hc12_2 => ?_) (fun hc12_2 => ?_)
  ·
    refine sipush w X (128 : Int32) d1_17 20 rfl rfl ?_
    refine istore w X (128 : Int32) d1_20 22 rfl rfl #[.val (.ref arr), .val (.int ofs), .val (.int en), .val (.int i3_1), .unset, .val (.int (128 : Int32)), .unset, .unset, .unset] rfl ?_
    refine sipush w X (191 : Int32) d1_22 25 rfl rfl ?_
    refine istore w X (191 : Int32) d1_25 27 rfl rfl #[.val (.ref arr), .val (.int ofs), .val (.int en), .val (.int i3_1), .unset, .val (.int (128 : Int32)), .val (.int (191 : Int32)), .unset, .unset] rfl ?_
    refine iloadN w X d1_27 28 rfl rfl ?_
    refine sipush w X (194 : Int32) d1_28 31 rfl rfl ?_
    refine icmp_lt w X d1_31 47 34 (by decide) (by decide) rfl (fun hc31_3 => ?_) (fun hc31_3 => ?_)
    ·
      refine iloadN w X d1_47 48 rfl rfl ?_
      refine sipush w X (224 : Int32) d1_48 51 rfl rfl ?_
      refine icmp_lt w X d1_51 101 54 (by decide) (by decide) rfl (fun hc51_4 => ?_) (fun hc51_4 => ?_)
      ·
        refine iloadN w X d1_101 102 rfl rfl ?_
        refine sipush w X (240 : Int32) d1_102 105 rfl rfl ?_
        refine icmp_lt w X d1_105 155 108 (by decide) (by decide) rfl (fun hc105_5 => ?_) (fun hc105_5 => ?_)
        ·
          refine iconst w X (0 : Int32) d1_155 156 rfl rfl ?_
          refine retI w X rfl d1_156 (by decide) (by decide) ?_
          exact ⟨_, rfl, rfl, lf1_2 ofs en b0 b1 b2 b3 i3_1 hof hen hi3_1 hc12_2 hc31_3 hc51_4 hc105_5⟩
        ·
          refine iloadN w X d1_108 109 rfl rfl ?_
          refine sipush w X (244 : Int32) d1_109 112 rfl rfl ?_
          refine icmp_gt w X d1_112 155 115 (by decide) (by decide) rfl (fun hc112_6 => ?_) (fun hc112_6 => ?_)
          ·
            refine iconst w X (0 : Int32) d1_155 156 rfl rfl ?_
            refine retI w X rfl d1_156 (by decide) (by decide) ?_
            exact ⟨_, rfl, rfl, lf1_3 ofs en b0 b1 b2 b3 i3_1 hof hen hi3_1 hc12_2 hc31_3 hc51_4 hc105_5 hc112_6⟩
          ·
            refine iconst w X (4 : Int32) d1_115 116 rfl rfl ?_
            refine istore w X (4 : Int32) d1_116 118 rfl rfl #[.val (.ref arr), .val (.int ofs), .val (.int en), .val (.int i3_1), .val (.int (4 : Int32)), .val (.int (128 : Int32)), .val (.int (191 : Int32)), .unset, .unset] rfl ?_
            refine iloadN w X d1_118 119 rfl rfl ?_
            refine sipush w X (240 : Int32) d1_119 122 rfl rfl ?_
            have J8 : ∀ (T : State) (x9 : Int32), Sd p l e ({ frames := 1, cells := 0, slots := 0, locals := 12 } : Room) s m #[(.ref arr), (.int ofs), (.int en)] below meth c n0 T h 0 0 → (((¬ (i3_1 = (240 : Int32))) ∧ (x9 = (128 : Int32))) ∨ ((i3_1 = (240 : Int32)) ∧ (x9 = (144 : Int32)))) → G (T.setTop (mkF m 133 #[.val (.ref arr), .val (.int ofs), .val (.int en), .val (.int i3_1), .val (.int (4 : Int32)), .val (.int (128 : Int32)), .val (.int (191 : Int32)), .unset, .unset] [(.int x9)])) := by
              intro T x9 X hjJ8
              refine istore w X x9 d1_133 135 rfl rfl #[.val (.ref arr), .val (.int ofs), .val (.int en), .val (.int i3_1), .val (.int (4 : Int32)), .val (.int x9), .val (.int (191 : Int32)), .unset, .unset] rfl ?_
              refine iloadN w X d1_135 136 rfl rfl ?_
              refine sipush w X (244 : Int32) d1_136 139 rfl rfl ?_
              have J11 : ∀ (T : State) (x12 : Int32), Sd p l e ({ frames := 1, cells := 0, slots := 0, locals := 12 } : Room) s m #[(.ref arr), (.int ofs), (.int en)] below meth c n0 T h 0 0 → (((¬ (i3_1 = (244 : Int32))) ∧ (x12 = (191 : Int32))) ∨ ((i3_1 = (244 : Int32)) ∧ (x12 = (143 : Int32)))) → G (T.setTop (mkF m 150 #[.val (.ref arr), .val (.int ofs), .val (.int en), .val (.int i3_1), .val (.int (4 : Int32)), .val (.int x9), .val (.int (191 : Int32)), .unset, .unset] [(.int x12)])) := by
                intro T x12 X hjJ11
                refine istore w X x12 d1_150 152 rfl rfl #[.val (.ref arr), .val (.int ofs), .val (.int en), .val (.int i3_1), .val (.int (4 : Int32)), .val (.int x9), .val (.int x12), .unset, .unset] rfl ?_
                refine goto w X d1_152 157 (by decide) (by decide) ?_
                refine iloadN w X d1_157 158 rfl rfl ?_
                refine iloadN w X d1_158 159 rfl rfl ?_
                refine isub w X (en - ofs) d1_159 160 rfl rfl ?_
                refine iload w X d1_160 162 rfl rfl ?_
                refine icmp_ge w X d1_162 167 165 (by decide) (by decide) rfl (fun hc162_13 => ?_) (fun hc162_13 => ?_)
                ·
                  refine aloadN w X d1_167 168 rfl rfl rfl ?_
                  refine iloadN w X d1_168 169 rfl rfl ?_
                  refine iconst w X (1 : Int32) d1_169 170 rfl rfl ?_
                  refine iadd w X (ofs + (1 : Int32)) d1_170 171 rfl rfl ?_
                  refine baload w X V_arr (lf1_4 ofs bs hof hln).1 (ofs + (1 : Int32)).toNatClampNeg rfl (lf1_4 ofs bs hof hln).2 d1_171 172 rfl b1 he1 ?_
                  refine sipush w X (255 : Int32) d1_172 175 rfl rfl ?_
                  refine iand w X (b1 &&& (255 : Int32)) d1_175 176 rfl rfl ?_
                  obtain ⟨i7_14, hi7_14⟩ : ∃ z : Int32, z = (b1 &&& (255 : Int32)) := ⟨_, rfl⟩
                  refine istore w X i7_14 d1_176 178 rfl hi7_14 #[.val (.ref arr), .val (.int ofs), .val (.int en), .val (.int i3_1), .val (.int (4 : Int32)), .val (.int x9), .val (.int x12), .val (.int i7_14), .unset] rfl ?_
                  refine iload w X d1_178 180 rfl rfl ?_
                  refine iload w X d1_180 182 rfl rfl ?_
                  refine icmp_lt w X d1_182 192 185 (by decide) (by decide) rfl (fun hc182_15 => ?_) (fun hc182_15 => ?_)
                  ·
                    refine iconst w X (0 : Int32) d1_192 193 rfl rfl ?_
                    refine retI w X rfl d1_193 (by decide) (by decide) ?_
                    exact ⟨_, rfl, rfl, lf1_5 ofs en b0 b1 b2 b3 i3_1 x9 x12 i7_14 hof hen hi3_1 hc12_2 hc31_3 hc51_4 hc105_5 hc112_6 hjJ8 hjJ11 hc162_13 hi7_14 hc182_15⟩
                  ·
                    refine iload w X d1_185 187 rfl rfl ?_
                    refine iload w X d1_187 189 rfl rfl ?_
                    refine icmp_le w X d1_189 194 192 (by decide) (by decide) rfl (fun hc189_16 => ?_) (fun hc189_16 => ?_)
                    ·
                      refine iconst w X (2 : Int32) d1_194 195 rfl rfl ?_
                      refine istore w X (2 : Int32) d1_195 197 rfl rfl #[.val (.ref arr), .val (.int ofs), .val (.int en), .val (.int i3_1), .val (.int (4 : Int32)), .val (.int x9), .val (.int x12), .val (.int i7_14), .val (.int (2 : Int32))] rfl ?_
                      refine iload w X d1_197 199 rfl rfl ?_
                      refine iload w X d1_199 201 rfl rfl ?_
                      refine icmp_ge w X d1_201 224 204 (by decide) (by decide) rfl (fun q => absurd q (by decide)) (fun hc201_17 => ?_)
                      refine aloadN w X d1_204 205 rfl rfl rfl ?_
                      refine iloadN w X d1_205 206 rfl rfl ?_
                      refine iload w X d1_206 208 rfl rfl ?_
                      refine iadd w X (ofs + (2 : Int32)) d1_208 209 rfl rfl ?_
                      refine baload w X V_arr (lf1_6 ofs bs hof hln).1 (ofs + (2 : Int32)).toNatClampNeg rfl (lf1_6 ofs bs hof hln).2 d1_209 210 rfl b2 he2 ?_
                      refine callSPI w X [(.int b2)] (wd14 hw) (wd15 hw) (wd3 hw) (wd16 hw) (by decide) (rm_isc hw b2 h n0 zn) d1_210 213 rfl 0 (by decide) (by decide) (lenOf pd1 rfl) rfl (Nat.le_of_eq rfl) rfl (by decide) (by decide) (fun r18 T X hq => ?_)
                      have hr18 := hq
                      refine if_ne w X d1_213 218 216 (by decide) (by decide) rfl (fun hc213_19 => ?_) (fun hc213_19 => ?_)
                      ·
                        refine iinc w X (3 : Int32) d1_218 221 rfl rfl (by decide) #[.val (.ref arr), .val (.int ofs), .val (.int en), .val (.int i3_1), .val (.int (4 : Int32)), .val (.int x9), .val (.int x12), .val (.int i7_14), .val (.int (3 : Int32))] rfl ?_
                        refine goto w X d1_221 197 (by decide) (by decide) ?_
                        refine iload w X d1_197 199 rfl rfl ?_
                        refine iload w X d1_199 201 rfl rfl ?_
                        refine icmp_ge w X d1_201 224 204 (by decide) (by decide) rfl (fun q => absurd q (by decide)) (fun hc201_20 => ?_)
                        refine aloadN w X d1_204 205 rfl rfl rfl ?_
                        refine iloadN w X d1_205 206 rfl rfl ?_
                        refine iload w X d1_206 208 rfl rfl ?_
                        refine iadd w X (ofs + (3 : Int32)) d1_208 209 rfl rfl ?_
                        refine baload w X V_arr (lf1_7 ofs bs hof hln).1 (ofs + (3 : Int32)).toNatClampNeg rfl (lf1_7 ofs bs hof hln).2 d1_209 210 rfl b3 he3 ?_
                        refine callSPI w X [(.int b3)] (wd14 hw) (wd15 hw) (wd3 hw) (wd16 hw) (by decide) (rm_isc hw b3 h n0 zn) d1_210 213 rfl 0 (by decide) (by decide) (lenOf pd1 rfl) rfl (Nat.le_of_eq rfl) rfl (by decide) (by decide) (fun r21 T X hq => ?_)
                        have hr21 := hq
                        refine if_ne w X d1_213 218 216 (by decide) (by decide) rfl (fun hc213_22 => ?_) (fun hc213_22 => ?_)
                        ·
                          refine iinc w X (4 : Int32) d1_218 221 rfl rfl (by decide) #[.val (.ref arr), .val (.int ofs), .val (.int en), .val (.int i3_1), .val (.int (4 : Int32)), .val (.int x9), .val (.int x12), .val (.int i7_14), .val (.int (4 : Int32))] rfl ?_
                          refine goto w X d1_221 197 (by decide) (by decide) ?_
                          refine iload w X d1_197 199 rfl rfl ?_
                          refine iload w X d1_199 201 rfl rfl ?_
                          refine icmp_ge w X d1_201 224 204 (by decide) (by decide) rfl (fun hc201_23 => ?_) (fun q => absurd q (by decide))
                          refine iload w X d1_224 226 rfl rfl ?_
                          refine retI w X rfl d1_226 (by decide) (by decide) ?_
                          exact ⟨_, rfl, rfl, lf1_8 ofs en b0 b1 b2 b3 i3_1 x9 x12 i7_14 r18 r21 hof hen hi3_1 hc12_2 hc31_3 hc51_4 hc105_5 hc112_6 hjJ8 hjJ11 hc162_13 hi7_14 hc182_15 hc189_16 hc201_17 hr18 hc213_19 hc201_20 hr21 hc213_22 hc201_23⟩
                        ·
                          refine iconst w X (0 : Int32) d1_216 217 rfl rfl ?_
                          refine retI w X rfl d1_217 (by decide) (by decide) ?_
                          exact ⟨_, rfl, rfl, lf1_9 ofs en b0 b1 b2 b3 i3_1 x9 x12 i7_14 r18 r21 hof hen hi3_1 hc12_2 hc31_3 hc51_4 hc105_5 hc112_6 hjJ8 hjJ11 hc162_13 hi7_14 hc182_15 hc189_16 hc201_17 hr18 hc213_19 hc201_20 hr21 hc213_22⟩
                      ·
                        refine iconst w X (0 : Int32) d1_216 217 rfl rfl ?_
                        refine retI w X rfl d1_217 (by decide) (by decide) ?_
                        exact ⟨_, rfl, rfl, lf1_10 ofs en b0 b1 b2 b3 i3_1 x9 x12 i7_14 r18 hof hen hi3_1 hc12_2 hc31_3 hc51_4 hc105_5 hc112_6 hjJ8 hjJ11 hc162_13 hi7_14 hc182_15 hc189_16 hc201_17 hr18 hc213_19⟩
                    ·
                      refine iconst w X (0 : Int32) d1_192 193 rfl rfl ?_
                      refine retI w X rfl d1_193 (by decide) (by decide) ?_
                      exact ⟨_, rfl, rfl, lf1_11 ofs en b0 b1 b2 b3 i3_1 x9 x12 i7_14 hof hen hi3_1 hc12_2 hc31_3 hc51_4 hc105_5 hc112_6 hjJ8 hjJ11 hc162_13 hi7_14 hc182_15 hc189_16⟩
                ·
                  refine iconst w X (0 : Int32) d1_165 166 rfl rfl ?_
                  refine retI w X rfl d1_166 (by decide) (by decide) ?_
                  exact ⟨_, rfl, rfl, lf1_12 ofs en b0 b1 b2 b3 i3_1 x9 x12 hof hen hi3_1 hc12_2 hc31_3 hc51_4 hc105_5 hc112_6 hjJ8 hjJ11 hc162_13⟩
              refine icmp_ne w X d1_139 148 142 (by decide) (by decide) rfl (fun hc139_10 => ?_) (fun hc139_10 => ?_)
              ·
                refine iload w X d1_148 150 rfl rfl ?_
                exact J11 T (191 : Int32) X (Or.inl (⟨hc139_10, rfl⟩))
              ·
                refine sipush w X (143 : Int32) d1_142 145 rfl rfl ?_
                refine goto w X d1_145 150 (by decide) (by decide) ?_
                exact J11 T (143 : Int32) X (Or.inr (⟨hc139_10, rfl⟩))
            refine icmp_ne w X d1_122 131 125 (by decide) (by decide) rfl (fun hc122_7 => ?_) (fun hc122_7 => ?_)
            ·
              refine iload w X d1_131 133 rfl rfl ?_
              exact J8 T (128 : Int32) X (Or.inl (⟨hc122_7, rfl⟩))
            ·
              refine sipush w X (144 : Int32) d1_125 128 rfl rfl ?_
              refine goto w X d1_128 133 (by decide) (by decide) ?_
              exact J8 T (144 : Int32) X (Or.inr (⟨hc122_7, rfl⟩))
      ·
        refine iloadN w X d1_54 55 rfl rfl ?_
        refine sipush w X (239 : Int32) d1_55 58 rfl rfl ?_
        refine icmp_gt w X d1_58 101 61 (by decide) (by decide) rfl (fun hc58_24 => ?_) (fun hc58_24 => ?_)
        ·
          refine iloadN w X d1_101 102 rfl rfl ?_
          refine sipush w X (240 : Int32) d1_102 105 rfl rfl ?_
          refine icmp_lt w X d1_105 155 108 (by decide) (by decide) rfl (fun hc105_25 => ?_) (fun hc105_25 => ?_)
          ·
            refine iconst w X (0 : Int32) d1_155 156 rfl rfl ?_
            refine retI w X rfl d1_156 (by decide) (by decide) ?_
            exact ⟨_, rfl, rfl, lf1_13 ofs en b0 b1 b2 b3 i3_1 hof hen hi3_1 hc12_2 hc31_3 hc51_4 hc58_24 hc105_25⟩
          ·
            refine iloadN w X d1_108 109 rfl rfl ?_
            refine sipush w X (244 : Int32) d1_109 112 rfl rfl ?_
            refine icmp_gt w X d1_112 155 115 (by decide) (by decide) rfl (fun hc112_26 => ?_) (fun hc112_26 => ?_)
            ·
              refine iconst w X (0 : Int32) d1_155 156 rfl rfl ?_
              refine retI w X rfl d1_156 (by decide) (by decide) ?_
              exact ⟨_, rfl, rfl, lf1_14 ofs en b0 b1 b2 b3 i3_1 hof hen hi3_1 hc12_2 hc31_3 hc51_4 hc58_24 hc105_25 hc112_26⟩
            ·
              refine iconst w X (4 : Int32) d1_115 116 rfl rfl ?_
              refine istore w X (4 : Int32) d1_116 118 rfl rfl #[.val (.ref arr), .val (.int ofs), .val (.int en), .val (.int i3_1), .val (.int (4 : Int32)), .val (.int (128 : Int32)), .val (.int (191 : Int32)), .unset, .unset] rfl ?_
              refine iloadN w X d1_118 119 rfl rfl ?_
              refine sipush w X (240 : Int32) d1_119 122 rfl rfl ?_
              have J28 : ∀ (T : State) (x29 : Int32), Sd p l e ({ frames := 1, cells := 0, slots := 0, locals := 12 } : Room) s m #[(.ref arr), (.int ofs), (.int en)] below meth c n0 T h 0 0 → (((¬ (i3_1 = (240 : Int32))) ∧ (x29 = (128 : Int32))) ∨ ((i3_1 = (240 : Int32)) ∧ (x29 = (144 : Int32)))) → G (T.setTop (mkF m 133 #[.val (.ref arr), .val (.int ofs), .val (.int en), .val (.int i3_1), .val (.int (4 : Int32)), .val (.int (128 : Int32)), .val (.int (191 : Int32)), .unset, .unset] [(.int x29)])) := by
                intro T x29 X hjJ28
                refine istore w X x29 d1_133 135 rfl rfl #[.val (.ref arr), .val (.int ofs), .val (.int en), .val (.int i3_1), .val (.int (4 : Int32)), .val (.int x29), .val (.int (191 : Int32)), .unset, .unset] rfl ?_
                refine iloadN w X d1_135 136 rfl rfl ?_
                refine sipush w X (244 : Int32) d1_136 139 rfl rfl ?_
                have J31 : ∀ (T : State) (x32 : Int32), Sd p l e ({ frames := 1, cells := 0, slots := 0, locals := 12 } : Room) s m #[(.ref arr), (.int ofs), (.int en)] below meth c n0 T h 0 0 → (((¬ (i3_1 = (244 : Int32))) ∧ (x32 = (191 : Int32))) ∨ ((i3_1 = (244 : Int32)) ∧ (x32 = (143 : Int32)))) → G (T.setTop (mkF m 150 #[.val (.ref arr), .val (.int ofs), .val (.int en), .val (.int i3_1), .val (.int (4 : Int32)), .val (.int x29), .val (.int (191 : Int32)), .unset, .unset] [(.int x32)])) := by
                  intro T x32 X hjJ31
                  refine istore w X x32 d1_150 152 rfl rfl #[.val (.ref arr), .val (.int ofs), .val (.int en), .val (.int i3_1), .val (.int (4 : Int32)), .val (.int x29), .val (.int x32), .unset, .unset] rfl ?_
                  refine goto w X d1_152 157 (by decide) (by decide) ?_
                  refine iloadN w X d1_157 158 rfl rfl ?_
                  refine iloadN w X d1_158 159 rfl rfl ?_
                  refine isub w X (en - ofs) d1_159 160 rfl rfl ?_
                  refine iload w X d1_160 162 rfl rfl ?_
                  refine icmp_ge w X d1_162 167 165 (by decide) (by decide) rfl (fun hc162_33 => ?_) (fun hc162_33 => ?_)
                  ·
                    refine aloadN w X d1_167 168 rfl rfl rfl ?_
                    refine iloadN w X d1_168 169 rfl rfl ?_
                    refine iconst w X (1 : Int32) d1_169 170 rfl rfl ?_
                    refine iadd w X (ofs + (1 : Int32)) d1_170 171 rfl rfl ?_
                    refine baload w X V_arr (lf1_15 ofs bs hof hln).1 (ofs + (1 : Int32)).toNatClampNeg rfl (lf1_15 ofs bs hof hln).2 d1_171 172 rfl b1 he1 ?_
                    refine sipush w X (255 : Int32) d1_172 175 rfl rfl ?_
                    refine iand w X (b1 &&& (255 : Int32)) d1_175 176 rfl rfl ?_
                    obtain ⟨i7_34, hi7_34⟩ : ∃ z : Int32, z = (b1 &&& (255 : Int32)) := ⟨_, rfl⟩
                    refine istore w X i7_34 d1_176 178 rfl hi7_34 #[.val (.ref arr), .val (.int ofs), .val (.int en), .val (.int i3_1), .val (.int (4 : Int32)), .val (.int x29), .val (.int x32), .val (.int i7_34), .unset] rfl ?_
                    refine iload w X d1_178 180 rfl rfl ?_
                    refine iload w X d1_180 182 rfl rfl ?_
                    refine icmp_lt w X d1_182 192 185 (by decide) (by decide) rfl (fun hc182_35 => ?_) (fun hc182_35 => ?_)
                    ·
                      refine iconst w X (0 : Int32) d1_192 193 rfl rfl ?_
                      refine retI w X rfl d1_193 (by decide) (by decide) ?_
                      exact ⟨_, rfl, rfl, lf1_16 ofs en b0 b1 b2 b3 i3_1 x29 x32 i7_34 hof hen hi3_1 hc12_2 hc31_3 hc51_4 hc58_24 hc105_25 hc112_26 hjJ28 hjJ31 hc162_33 hi7_34 hc182_35⟩
                    ·
                      refine iload w X d1_185 187 rfl rfl ?_
                      refine iload w X d1_187 189 rfl rfl ?_
                      refine icmp_le w X d1_189 194 192 (by decide) (by decide) rfl (fun hc189_36 => ?_) (fun hc189_36 => ?_)
                      ·
                        refine iconst w X (2 : Int32) d1_194 195 rfl rfl ?_
                        refine istore w X (2 : Int32) d1_195 197 rfl rfl #[.val (.ref arr), .val (.int ofs), .val (.int en), .val (.int i3_1), .val (.int (4 : Int32)), .val (.int x29), .val (.int x32), .val (.int i7_34), .val (.int (2 : Int32))] rfl ?_
                        refine iload w X d1_197 199 rfl rfl ?_
                        refine iload w X d1_199 201 rfl rfl ?_
                        refine icmp_ge w X d1_201 224 204 (by decide) (by decide) rfl (fun q => absurd q (by decide)) (fun hc201_37 => ?_)
                        refine aloadN w X d1_204 205 rfl rfl rfl ?_
                        refine iloadN w X d1_205 206 rfl rfl ?_
                        refine iload w X d1_206 208 rfl rfl ?_
                        refine iadd w X (ofs + (2 : Int32)) d1_208 209 rfl rfl ?_
                        refine baload w X V_arr (lf1_17 ofs bs hof hln).1 (ofs + (2 : Int32)).toNatClampNeg rfl (lf1_17 ofs bs hof hln).2 d1_209 210 rfl b2 he2 ?_
                        refine callSPI w X [(.int b2)] (wd14 hw) (wd15 hw) (wd3 hw) (wd16 hw) (by decide) (rm_isc hw b2 h n0 zn) d1_210 213 rfl 0 (by decide) (by decide) (lenOf pd1 rfl) rfl (Nat.le_of_eq rfl) rfl (by decide) (by decide) (fun r38 T X hq => ?_)
                        have hr38 := hq
                        refine if_ne w X d1_213 218 216 (by decide) (by decide) rfl (fun hc213_39 => ?_) (fun hc213_39 => ?_)
                        ·
                          refine iinc w X (3 : Int32) d1_218 221 rfl rfl (by decide) #[.val (.ref arr), .val (.int ofs), .val (.int en), .val (.int i3_1), .val (.int (4 : Int32)), .val (.int x29), .val (.int x32), .val (.int i7_34), .val (.int (3 : Int32))] rfl ?_
                          refine goto w X d1_221 197 (by decide) (by decide) ?_
                          refine iload w X d1_197 199 rfl rfl ?_
                          refine iload w X d1_199 201 rfl rfl ?_
                          refine icmp_ge w X d1_201 224 204 (by decide) (by decide) rfl (fun q => absurd q (by decide)) (fun hc201_40 => ?_)
                          refine aloadN w X d1_204 205 rfl rfl rfl ?_
                          refine iloadN w X d1_205 206 rfl rfl ?_
                          refine iload w X d1_206 208 rfl rfl ?_
                          refine iadd w X (ofs + (3 : Int32)) d1_208 209 rfl rfl ?_
                          refine baload w X V_arr (lf1_18 ofs bs hof hln).1 (ofs + (3 : Int32)).toNatClampNeg rfl (lf1_18 ofs bs hof hln).2 d1_209 210 rfl b3 he3 ?_
                          refine callSPI w X [(.int b3)] (wd14 hw) (wd15 hw) (wd3 hw) (wd16 hw) (by decide) (rm_isc hw b3 h n0 zn) d1_210 213 rfl 0 (by decide) (by decide) (lenOf pd1 rfl) rfl (Nat.le_of_eq rfl) rfl (by decide) (by decide) (fun r41 T X hq => ?_)
                          have hr41 := hq
                          refine if_ne w X d1_213 218 216 (by decide) (by decide) rfl (fun hc213_42 => ?_) (fun hc213_42 => ?_)
                          ·
                            refine iinc w X (4 : Int32) d1_218 221 rfl rfl (by decide) #[.val (.ref arr), .val (.int ofs), .val (.int en), .val (.int i3_1), .val (.int (4 : Int32)), .val (.int x29), .val (.int x32), .val (.int i7_34), .val (.int (4 : Int32))] rfl ?_
                            refine goto w X d1_221 197 (by decide) (by decide) ?_
                            refine iload w X d1_197 199 rfl rfl ?_
                            refine iload w X d1_199 201 rfl rfl ?_
                            refine icmp_ge w X d1_201 224 204 (by decide) (by decide) rfl (fun hc201_43 => ?_) (fun q => absurd q (by decide))
                            refine iload w X d1_224 226 rfl rfl ?_
                            refine retI w X rfl d1_226 (by decide) (by decide) ?_
                            exact ⟨_, rfl, rfl, lf1_19 ofs en b0 b1 b2 b3 i3_1 x29 x32 i7_34 r38 r41 hof hen hi3_1 hc12_2 hc31_3 hc51_4 hc58_24 hc105_25 hc112_26 hjJ28 hjJ31 hc162_33 hi7_34 hc182_35 hc189_36 hc201_37 hr38 hc213_39 hc201_40 hr41 hc213_42 hc201_43⟩
                          ·
                            refine iconst w X (0 : Int32) d1_216 217 rfl rfl ?_
                            refine retI w X rfl d1_217 (by decide) (by decide) ?_
                            exact ⟨_, rfl, rfl, lf1_20 ofs en b0 b1 b2 b3 i3_1 x29 x32 i7_34 r38 r41 hof hen hi3_1 hc12_2 hc31_3 hc51_4 hc58_24 hc105_25 hc112_26 hjJ28 hjJ31 hc162_33 hi7_34 hc182_35 hc189_36 hc201_37 hr38 hc213_39 hc201_40 hr41 hc213_42⟩
                        ·
                          refine iconst w X (0 : Int32) d1_216 217 rfl rfl ?_
                          refine retI w X rfl d1_217 (by decide) (by decide) ?_
                          exact ⟨_, rfl, rfl, lf1_21 ofs en b0 b1 b2 b3 i3_1 x29 x32 i7_34 r38 hof hen hi3_1 hc12_2 hc31_3 hc51_4 hc58_24 hc105_25 hc112_26 hjJ28 hjJ31 hc162_33 hi7_34 hc182_35 hc189_36 hc201_37 hr38 hc213_39⟩
                      ·
                        refine iconst w X (0 : Int32) d1_192 193 rfl rfl ?_
                        refine retI w X rfl d1_193 (by decide) (by decide) ?_
                        exact ⟨_, rfl, rfl, lf1_22 ofs en b0 b1 b2 b3 i3_1 x29 x32 i7_34 hof hen hi3_1 hc12_2 hc31_3 hc51_4 hc58_24 hc105_25 hc112_26 hjJ28 hjJ31 hc162_33 hi7_34 hc182_35 hc189_36⟩
                  ·
                    refine iconst w X (0 : Int32) d1_165 166 rfl rfl ?_
                    refine retI w X rfl d1_166 (by decide) (by decide) ?_
                    exact ⟨_, rfl, rfl, lf1_23 ofs en b0 b1 b2 b3 i3_1 x29 x32 hof hen hi3_1 hc12_2 hc31_3 hc51_4 hc58_24 hc105_25 hc112_26 hjJ28 hjJ31 hc162_33⟩
                refine icmp_ne w X d1_139 148 142 (by decide) (by decide) rfl (fun hc139_30 => ?_) (fun hc139_30 => ?_)
                ·
                  refine iload w X d1_148 150 rfl rfl ?_
                  exact J31 T (191 : Int32) X (Or.inl (⟨hc139_30, rfl⟩))
                ·
                  refine sipush w X (143 : Int32) d1_142 145 rfl rfl ?_
                  refine goto w X d1_145 150 (by decide) (by decide) ?_
                  exact J31 T (143 : Int32) X (Or.inr (⟨hc139_30, rfl⟩))
              refine icmp_ne w X d1_122 131 125 (by decide) (by decide) rfl (fun hc122_27 => ?_) (fun hc122_27 => ?_)
              ·
                refine iload w X d1_131 133 rfl rfl ?_
                exact J28 T (128 : Int32) X (Or.inl (⟨hc122_27, rfl⟩))
              ·
                refine sipush w X (144 : Int32) d1_125 128 rfl rfl ?_
                refine goto w X d1_128 133 (by decide) (by decide) ?_
                exact J28 T (144 : Int32) X (Or.inr (⟨hc122_27, rfl⟩))
        ·
          refine iconst w X (3 : Int32) d1_61 62 rfl rfl ?_
          refine istore w X (3 : Int32) d1_62 64 rfl rfl #[.val (.ref arr), .val (.int ofs), .val (.int en), .val (.int i3_1), .val (.int (3 : Int32)), .val (.int (128 : Int32)), .val (.int (191 : Int32)), .unset, .unset] rfl ?_
          refine iloadN w X d1_64 65 rfl rfl ?_
          refine sipush w X (224 : Int32) d1_65 68 rfl rfl ?_
          have J45 : ∀ (T : State) (x46 : Int32), Sd p l e ({ frames := 1, cells := 0, slots := 0, locals := 12 } : Room) s m #[(.ref arr), (.int ofs), (.int en)] below meth c n0 T h 0 0 → (((¬ (i3_1 = (224 : Int32))) ∧ (x46 = (128 : Int32))) ∨ ((i3_1 = (224 : Int32)) ∧ (x46 = (160 : Int32)))) → G (T.setTop (mkF m 79 #[.val (.ref arr), .val (.int ofs), .val (.int en), .val (.int i3_1), .val (.int (3 : Int32)), .val (.int (128 : Int32)), .val (.int (191 : Int32)), .unset, .unset] [(.int x46)])) := by
            intro T x46 X hjJ45
            refine istore w X x46 d1_79 81 rfl rfl #[.val (.ref arr), .val (.int ofs), .val (.int en), .val (.int i3_1), .val (.int (3 : Int32)), .val (.int x46), .val (.int (191 : Int32)), .unset, .unset] rfl ?_
            refine iloadN w X d1_81 82 rfl rfl ?_
            refine sipush w X (237 : Int32) d1_82 85 rfl rfl ?_
            have J48 : ∀ (T : State) (x49 : Int32), Sd p l e ({ frames := 1, cells := 0, slots := 0, locals := 12 } : Room) s m #[(.ref arr), (.int ofs), (.int en)] below meth c n0 T h 0 0 → (((¬ (i3_1 = (237 : Int32))) ∧ (x49 = (191 : Int32))) ∨ ((i3_1 = (237 : Int32)) ∧ (x49 = (159 : Int32)))) → G (T.setTop (mkF m 96 #[.val (.ref arr), .val (.int ofs), .val (.int en), .val (.int i3_1), .val (.int (3 : Int32)), .val (.int x46), .val (.int (191 : Int32)), .unset, .unset] [(.int x49)])) := by
              intro T x49 X hjJ48
              refine istore w X x49 d1_96 98 rfl rfl #[.val (.ref arr), .val (.int ofs), .val (.int en), .val (.int i3_1), .val (.int (3 : Int32)), .val (.int x46), .val (.int x49), .unset, .unset] rfl ?_
              refine goto w X d1_98 157 (by decide) (by decide) ?_
              refine iloadN w X d1_157 158 rfl rfl ?_
              refine iloadN w X d1_158 159 rfl rfl ?_
              refine isub w X (en - ofs) d1_159 160 rfl rfl ?_
              refine iload w X d1_160 162 rfl rfl ?_
              refine icmp_ge w X d1_162 167 165 (by decide) (by decide) rfl (fun hc162_50 => ?_) (fun hc162_50 => ?_)
              ·
                refine aloadN w X d1_167 168 rfl rfl rfl ?_
                refine iloadN w X d1_168 169 rfl rfl ?_
                refine iconst w X (1 : Int32) d1_169 170 rfl rfl ?_
                refine iadd w X (ofs + (1 : Int32)) d1_170 171 rfl rfl ?_
                refine baload w X V_arr (lf1_24 ofs bs hof hln).1 (ofs + (1 : Int32)).toNatClampNeg rfl (lf1_24 ofs bs hof hln).2 d1_171 172 rfl b1 he1 ?_
                refine sipush w X (255 : Int32) d1_172 175 rfl rfl ?_
                refine iand w X (b1 &&& (255 : Int32)) d1_175 176 rfl rfl ?_
                obtain ⟨i7_51, hi7_51⟩ : ∃ z : Int32, z = (b1 &&& (255 : Int32)) := ⟨_, rfl⟩
                refine istore w X i7_51 d1_176 178 rfl hi7_51 #[.val (.ref arr), .val (.int ofs), .val (.int en), .val (.int i3_1), .val (.int (3 : Int32)), .val (.int x46), .val (.int x49), .val (.int i7_51), .unset] rfl ?_
                refine iload w X d1_178 180 rfl rfl ?_
                refine iload w X d1_180 182 rfl rfl ?_
                refine icmp_lt w X d1_182 192 185 (by decide) (by decide) rfl (fun hc182_52 => ?_) (fun hc182_52 => ?_)
                ·
                  refine iconst w X (0 : Int32) d1_192 193 rfl rfl ?_
                  refine retI w X rfl d1_193 (by decide) (by decide) ?_
                  exact ⟨_, rfl, rfl, lf1_25 ofs en b0 b1 b2 b3 i3_1 x46 x49 i7_51 hof hen hi3_1 hc12_2 hc31_3 hc51_4 hc58_24 hjJ45 hjJ48 hc162_50 hi7_51 hc182_52⟩
                ·
                  refine iload w X d1_185 187 rfl rfl ?_
                  refine iload w X d1_187 189 rfl rfl ?_
                  refine icmp_le w X d1_189 194 192 (by decide) (by decide) rfl (fun hc189_53 => ?_) (fun hc189_53 => ?_)
                  ·
                    refine iconst w X (2 : Int32) d1_194 195 rfl rfl ?_
                    refine istore w X (2 : Int32) d1_195 197 rfl rfl #[.val (.ref arr), .val (.int ofs), .val (.int en), .val (.int i3_1), .val (.int (3 : Int32)), .val (.int x46), .val (.int x49), .val (.int i7_51), .val (.int (2 : Int32))] rfl ?_
                    refine iload w X d1_197 199 rfl rfl ?_
                    refine iload w X d1_199 201 rfl rfl ?_
                    refine icmp_ge w X d1_201 224 204 (by decide) (by decide) rfl (fun q => absurd q (by decide)) (fun hc201_54 => ?_)
                    refine aloadN w X d1_204 205 rfl rfl rfl ?_
                    refine iloadN w X d1_205 206 rfl rfl ?_
                    refine iload w X d1_206 208 rfl rfl ?_
                    refine iadd w X (ofs + (2 : Int32)) d1_208 209 rfl rfl ?_
                    refine baload w X V_arr (lf1_26 ofs bs hof hln).1 (ofs + (2 : Int32)).toNatClampNeg rfl (lf1_26 ofs bs hof hln).2 d1_209 210 rfl b2 he2 ?_
                    refine callSPI w X [(.int b2)] (wd14 hw) (wd15 hw) (wd3 hw) (wd16 hw) (by decide) (rm_isc hw b2 h n0 zn) d1_210 213 rfl 0 (by decide) (by decide) (lenOf pd1 rfl) rfl (Nat.le_of_eq rfl) rfl (by decide) (by decide) (fun r55 T X hq => ?_)
                    have hr55 := hq
                    refine if_ne w X d1_213 218 216 (by decide) (by decide) rfl (fun hc213_56 => ?_) (fun hc213_56 => ?_)
                    ·
                      refine iinc w X (3 : Int32) d1_218 221 rfl rfl (by decide) #[.val (.ref arr), .val (.int ofs), .val (.int en), .val (.int i3_1), .val (.int (3 : Int32)), .val (.int x46), .val (.int x49), .val (.int i7_51), .val (.int (3 : Int32))] rfl ?_
                      refine goto w X d1_221 197 (by decide) (by decide) ?_
                      refine iload w X d1_197 199 rfl rfl ?_
                      refine iload w X d1_199 201 rfl rfl ?_
                      refine icmp_ge w X d1_201 224 204 (by decide) (by decide) rfl (fun hc201_57 => ?_) (fun q => absurd q (by decide))
                      refine iload w X d1_224 226 rfl rfl ?_
                      refine retI w X rfl d1_226 (by decide) (by decide) ?_
                      exact ⟨_, rfl, rfl, lf1_27 ofs en b0 b1 b2 b3 i3_1 x46 x49 i7_51 r55 hof hen hi3_1 hc12_2 hc31_3 hc51_4 hc58_24 hjJ45 hjJ48 hc162_50 hi7_51 hc182_52 hc189_53 hc201_54 hr55 hc213_56 hc201_57⟩
                    ·
                      refine iconst w X (0 : Int32) d1_216 217 rfl rfl ?_
                      refine retI w X rfl d1_217 (by decide) (by decide) ?_
                      exact ⟨_, rfl, rfl, lf1_28 ofs en b0 b1 b2 b3 i3_1 x46 x49 i7_51 r55 hof hen hi3_1 hc12_2 hc31_3 hc51_4 hc58_24 hjJ45 hjJ48 hc162_50 hi7_51 hc182_52 hc189_53 hc201_54 hr55 hc213_56⟩
                  ·
                    refine iconst w X (0 : Int32) d1_192 193 rfl rfl ?_
                    refine retI w X rfl d1_193 (by decide) (by decide) ?_
                    exact ⟨_, rfl, rfl, lf1_29 ofs en b0 b1 b2 b3 i3_1 x46 x49 i7_51 hof hen hi3_1 hc12_2 hc31_3 hc51_4 hc58_24 hjJ45 hjJ48 hc162_50 hi7_51 hc182_52 hc189_53⟩
              ·
                refine iconst w X (0 : Int32) d1_165 166 rfl rfl ?_
                refine retI w X rfl d1_166 (by decide) (by decide) ?_
                exact ⟨_, rfl, rfl, lf1_30 ofs en b0 b1 b2 b3 i3_1 x46 x49 hof hen hi3_1 hc12_2 hc31_3 hc51_4 hc58_24 hjJ45 hjJ48 hc162_50⟩
            refine icmp_ne w X d1_85 94 88 (by decide) (by decide) rfl (fun hc85_47 => ?_) (fun hc85_47 => ?_)
            ·
              refine iload w X d1_94 96 rfl rfl ?_
              exact J48 T (191 : Int32) X (Or.inl (⟨hc85_47, rfl⟩))
            ·
              refine sipush w X (159 : Int32) d1_88 91 rfl rfl ?_
              refine goto w X d1_91 96 (by decide) (by decide) ?_
              exact J48 T (159 : Int32) X (Or.inr (⟨hc85_47, rfl⟩))
          refine icmp_ne w X d1_68 77 71 (by decide) (by decide) rfl (fun hc68_44 => ?_) (fun hc68_44 => ?_)
          ·
            refine iload w X d1_77 79 rfl rfl ?_
            exact J45 T (128 : Int32) X (Or.inl (⟨hc68_44, rfl⟩))
          ·
            refine sipush w X (160 : Int32) d1_71 74 rfl rfl ?_
            refine goto w X d1_74 79 (by decide) (by decide) ?_
            exact J45 T (160 : Int32) X (Or.inr (⟨hc68_44, rfl⟩))
    ·
      refine iloadN w X d1_34 35 rfl rfl ?_
      refine sipush w X (223 : Int32) d1_35 38 rfl rfl ?_
      refine icmp_gt w X d1_38 47 41 (by decide) (by decide) rfl (fun hc38_58 => ?_) (fun hc38_58 => ?_)
      ·
        refine iloadN w X d1_47 48 rfl rfl ?_
        refine sipush w X (224 : Int32) d1_48 51 rfl rfl ?_
        refine icmp_lt w X d1_51 101 54 (by decide) (by decide) rfl (fun hc51_59 => ?_) (fun hc51_59 => ?_)
        ·
          refine iloadN w X d1_101 102 rfl rfl ?_
          refine sipush w X (240 : Int32) d1_102 105 rfl rfl ?_
          refine icmp_lt w X d1_105 155 108 (by decide) (by decide) rfl (fun hc105_60 => ?_) (fun hc105_60 => ?_)
          ·
            refine iconst w X (0 : Int32) d1_155 156 rfl rfl ?_
            refine retI w X rfl d1_156 (by decide) (by decide) ?_
            exact ⟨_, rfl, rfl, lf1_31 ofs en b0 b1 b2 b3 i3_1 hof hen hi3_1 hc12_2 hc31_3 hc38_58 hc51_59 hc105_60⟩
          ·
            refine iloadN w X d1_108 109 rfl rfl ?_
            refine sipush w X (244 : Int32) d1_109 112 rfl rfl ?_
            refine icmp_gt w X d1_112 155 115 (by decide) (by decide) rfl (fun hc112_61 => ?_) (fun hc112_61 => ?_)
            ·
              refine iconst w X (0 : Int32) d1_155 156 rfl rfl ?_
              refine retI w X rfl d1_156 (by decide) (by decide) ?_
              exact ⟨_, rfl, rfl, lf1_32 ofs en b0 b1 b2 b3 i3_1 hof hen hi3_1 hc12_2 hc31_3 hc38_58 hc51_59 hc105_60 hc112_61⟩
            ·
              refine iconst w X (4 : Int32) d1_115 116 rfl rfl ?_
              refine istore w X (4 : Int32) d1_116 118 rfl rfl #[.val (.ref arr), .val (.int ofs), .val (.int en), .val (.int i3_1), .val (.int (4 : Int32)), .val (.int (128 : Int32)), .val (.int (191 : Int32)), .unset, .unset] rfl ?_
              refine iloadN w X d1_118 119 rfl rfl ?_
              refine sipush w X (240 : Int32) d1_119 122 rfl rfl ?_
              have J63 : ∀ (T : State) (x64 : Int32), Sd p l e ({ frames := 1, cells := 0, slots := 0, locals := 12 } : Room) s m #[(.ref arr), (.int ofs), (.int en)] below meth c n0 T h 0 0 → (((¬ (i3_1 = (240 : Int32))) ∧ (x64 = (128 : Int32))) ∨ ((i3_1 = (240 : Int32)) ∧ (x64 = (144 : Int32)))) → G (T.setTop (mkF m 133 #[.val (.ref arr), .val (.int ofs), .val (.int en), .val (.int i3_1), .val (.int (4 : Int32)), .val (.int (128 : Int32)), .val (.int (191 : Int32)), .unset, .unset] [(.int x64)])) := by
                intro T x64 X hjJ63
                refine istore w X x64 d1_133 135 rfl rfl #[.val (.ref arr), .val (.int ofs), .val (.int en), .val (.int i3_1), .val (.int (4 : Int32)), .val (.int x64), .val (.int (191 : Int32)), .unset, .unset] rfl ?_
                refine iloadN w X d1_135 136 rfl rfl ?_
                refine sipush w X (244 : Int32) d1_136 139 rfl rfl ?_
                have J66 : ∀ (T : State) (x67 : Int32), Sd p l e ({ frames := 1, cells := 0, slots := 0, locals := 12 } : Room) s m #[(.ref arr), (.int ofs), (.int en)] below meth c n0 T h 0 0 → (((¬ (i3_1 = (244 : Int32))) ∧ (x67 = (191 : Int32))) ∨ ((i3_1 = (244 : Int32)) ∧ (x67 = (143 : Int32)))) → G (T.setTop (mkF m 150 #[.val (.ref arr), .val (.int ofs), .val (.int en), .val (.int i3_1), .val (.int (4 : Int32)), .val (.int x64), .val (.int (191 : Int32)), .unset, .unset] [(.int x67)])) := by
                  intro T x67 X hjJ66
                  refine istore w X x67 d1_150 152 rfl rfl #[.val (.ref arr), .val (.int ofs), .val (.int en), .val (.int i3_1), .val (.int (4 : Int32)), .val (.int x64), .val (.int x67), .unset, .unset] rfl ?_
                  refine goto w X d1_152 157 (by decide) (by decide) ?_
                  refine iloadN w X d1_157 158 rfl rfl ?_
                  refine iloadN w X d1_158 159 rfl rfl ?_
                  refine isub w X (en - ofs) d1_159 160 rfl rfl ?_
                  refine iload w X d1_160 162 rfl rfl ?_
                  refine icmp_ge w X d1_162 167 165 (by decide) (by decide) rfl (fun hc162_68 => ?_) (fun hc162_68 => ?_)
                  ·
                    refine aloadN w X d1_167 168 rfl rfl rfl ?_
                    refine iloadN w X d1_168 169 rfl rfl ?_
                    refine iconst w X (1 : Int32) d1_169 170 rfl rfl ?_
                    refine iadd w X (ofs + (1 : Int32)) d1_170 171 rfl rfl ?_
                    refine baload w X V_arr (lf1_33 ofs bs hof hln).1 (ofs + (1 : Int32)).toNatClampNeg rfl (lf1_33 ofs bs hof hln).2 d1_171 172 rfl b1 he1 ?_
                    refine sipush w X (255 : Int32) d1_172 175 rfl rfl ?_
                    refine iand w X (b1 &&& (255 : Int32)) d1_175 176 rfl rfl ?_
                    obtain ⟨i7_69, hi7_69⟩ : ∃ z : Int32, z = (b1 &&& (255 : Int32)) := ⟨_, rfl⟩
                    refine istore w X i7_69 d1_176 178 rfl hi7_69 #[.val (.ref arr), .val (.int ofs), .val (.int en), .val (.int i3_1), .val (.int (4 : Int32)), .val (.int x64), .val (.int x67), .val (.int i7_69), .unset] rfl ?_
                    refine iload w X d1_178 180 rfl rfl ?_
                    refine iload w X d1_180 182 rfl rfl ?_
                    refine icmp_lt w X d1_182 192 185 (by decide) (by decide) rfl (fun hc182_70 => ?_) (fun hc182_70 => ?_)
                    ·
                      refine iconst w X (0 : Int32) d1_192 193 rfl rfl ?_
                      refine retI w X rfl d1_193 (by decide) (by decide) ?_
                      exact ⟨_, rfl, rfl, lf1_34 ofs en b0 b1 b2 b3 i3_1 x64 x67 i7_69 hof hen hi3_1 hc12_2 hc31_3 hc38_58 hc51_59 hc105_60 hc112_61 hjJ63 hjJ66 hc162_68 hi7_69 hc182_70⟩
                    ·
                      refine iload w X d1_185 187 rfl rfl ?_
                      refine iload w X d1_187 189 rfl rfl ?_
                      refine icmp_le w X d1_189 194 192 (by decide) (by decide) rfl (fun hc189_71 => ?_) (fun hc189_71 => ?_)
                      ·
                        refine iconst w X (2 : Int32) d1_194 195 rfl rfl ?_
                        refine istore w X (2 : Int32) d1_195 197 rfl rfl #[.val (.ref arr), .val (.int ofs), .val (.int en), .val (.int i3_1), .val (.int (4 : Int32)), .val (.int x64), .val (.int x67), .val (.int i7_69), .val (.int (2 : Int32))] rfl ?_
                        refine iload w X d1_197 199 rfl rfl ?_
                        refine iload w X d1_199 201 rfl rfl ?_
                        refine icmp_ge w X d1_201 224 204 (by decide) (by decide) rfl (fun q => absurd q (by decide)) (fun hc201_72 => ?_)
                        refine aloadN w X d1_204 205 rfl rfl rfl ?_
                        refine iloadN w X d1_205 206 rfl rfl ?_
                        refine iload w X d1_206 208 rfl rfl ?_
                        refine iadd w X (ofs + (2 : Int32)) d1_208 209 rfl rfl ?_
                        refine baload w X V_arr (lf1_35 ofs bs hof hln).1 (ofs + (2 : Int32)).toNatClampNeg rfl (lf1_35 ofs bs hof hln).2 d1_209 210 rfl b2 he2 ?_
                        refine callSPI w X [(.int b2)] (wd14 hw) (wd15 hw) (wd3 hw) (wd16 hw) (by decide) (rm_isc hw b2 h n0 zn) d1_210 213 rfl 0 (by decide) (by decide) (lenOf pd1 rfl) rfl (Nat.le_of_eq rfl) rfl (by decide) (by decide) (fun r73 T X hq => ?_)
                        have hr73 := hq
                        refine if_ne w X d1_213 218 216 (by decide) (by decide) rfl (fun hc213_74 => ?_) (fun hc213_74 => ?_)
                        ·
                          refine iinc w X (3 : Int32) d1_218 221 rfl rfl (by decide) #[.val (.ref arr), .val (.int ofs), .val (.int en), .val (.int i3_1), .val (.int (4 : Int32)), .val (.int x64), .val (.int x67), .val (.int i7_69), .val (.int (3 : Int32))] rfl ?_
                          refine goto w X d1_221 197 (by decide) (by decide) ?_
                          refine iload w X d1_197 199 rfl rfl ?_
                          refine iload w X d1_199 201 rfl rfl ?_
                          refine icmp_ge w X d1_201 224 204 (by decide) (by decide) rfl (fun q => absurd q (by decide)) (fun hc201_75 => ?_)
                          refine aloadN w X d1_204 205 rfl rfl rfl ?_
                          refine iloadN w X d1_205 206 rfl rfl ?_
                          refine iload w X d1_206 208 rfl rfl ?_
                          refine iadd w X (ofs + (3 : Int32)) d1_208 209 rfl rfl ?_
                          refine baload w X V_arr (lf1_36 ofs bs hof hln).1 (ofs + (3 : Int32)).toNatClampNeg rfl (lf1_36 ofs bs hof hln).2 d1_209 210 rfl b3 he3 ?_
                          refine callSPI w X [(.int b3)] (wd14 hw) (wd15 hw) (wd3 hw) (wd16 hw) (by decide) (rm_isc hw b3 h n0 zn) d1_210 213 rfl 0 (by decide) (by decide) (lenOf pd1 rfl) rfl (Nat.le_of_eq rfl) rfl (by decide) (by decide) (fun r76 T X hq => ?_)
                          have hr76 := hq
                          refine if_ne w X d1_213 218 216 (by decide) (by decide) rfl (fun hc213_77 => ?_) (fun hc213_77 => ?_)
                          ·
                            refine iinc w X (4 : Int32) d1_218 221 rfl rfl (by decide) #[.val (.ref arr), .val (.int ofs), .val (.int en), .val (.int i3_1), .val (.int (4 : Int32)), .val (.int x64), .val (.int x67), .val (.int i7_69), .val (.int (4 : Int32))] rfl ?_
                            refine goto w X d1_221 197 (by decide) (by decide) ?_
                            refine iload w X d1_197 199 rfl rfl ?_
                            refine iload w X d1_199 201 rfl rfl ?_
                            refine icmp_ge w X d1_201 224 204 (by decide) (by decide) rfl (fun hc201_78 => ?_) (fun q => absurd q (by decide))
                            refine iload w X d1_224 226 rfl rfl ?_
                            refine retI w X rfl d1_226 (by decide) (by decide) ?_
                            exact ⟨_, rfl, rfl, lf1_37 ofs en b0 b1 b2 b3 i3_1 x64 x67 i7_69 r73 r76 hof hen hi3_1 hc12_2 hc31_3 hc38_58 hc51_59 hc105_60 hc112_61 hjJ63 hjJ66 hc162_68 hi7_69 hc182_70 hc189_71 hc201_72 hr73 hc213_74 hc201_75 hr76 hc213_77 hc201_78⟩
                          ·
                            refine iconst w X (0 : Int32) d1_216 217 rfl rfl ?_
                            refine retI w X rfl d1_217 (by decide) (by decide) ?_
                            exact ⟨_, rfl, rfl, lf1_38 ofs en b0 b1 b2 b3 i3_1 x64 x67 i7_69 r73 r76 hof hen hi3_1 hc12_2 hc31_3 hc38_58 hc51_59 hc105_60 hc112_61 hjJ63 hjJ66 hc162_68 hi7_69 hc182_70 hc189_71 hc201_72 hr73 hc213_74 hc201_75 hr76 hc213_77⟩
                        ·
                          refine iconst w X (0 : Int32) d1_216 217 rfl rfl ?_
                          refine retI w X rfl d1_217 (by decide) (by decide) ?_
                          exact ⟨_, rfl, rfl, lf1_39 ofs en b0 b1 b2 b3 i3_1 x64 x67 i7_69 r73 hof hen hi3_1 hc12_2 hc31_3 hc38_58 hc51_59 hc105_60 hc112_61 hjJ63 hjJ66 hc162_68 hi7_69 hc182_70 hc189_71 hc201_72 hr73 hc213_74⟩
                      ·
                        refine iconst w X (0 : Int32) d1_192 193 rfl rfl ?_
                        refine retI w X rfl d1_193 (by decide) (by decide) ?_
                        exact ⟨_, rfl, rfl, lf1_40 ofs en b0 b1 b2 b3 i3_1 x64 x67 i7_69 hof hen hi3_1 hc12_2 hc31_3 hc38_58 hc51_59 hc105_60 hc112_61 hjJ63 hjJ66 hc162_68 hi7_69 hc182_70 hc189_71⟩
                  ·
                    refine iconst w X (0 : Int32) d1_165 166 rfl rfl ?_
                    refine retI w X rfl d1_166 (by decide) (by decide) ?_
                    exact ⟨_, rfl, rfl, lf1_41 ofs en b0 b1 b2 b3 i3_1 x64 x67 hof hen hi3_1 hc12_2 hc31_3 hc38_58 hc51_59 hc105_60 hc112_61 hjJ63 hjJ66 hc162_68⟩
                refine icmp_ne w X d1_139 148 142 (by decide) (by decide) rfl (fun hc139_65 => ?_) (fun hc139_65 => ?_)
                ·
                  refine iload w X d1_148 150 rfl rfl ?_
                  exact J66 T (191 : Int32) X (Or.inl (⟨hc139_65, rfl⟩))
                ·
                  refine sipush w X (143 : Int32) d1_142 145 rfl rfl ?_
                  refine goto w X d1_145 150 (by decide) (by decide) ?_
                  exact J66 T (143 : Int32) X (Or.inr (⟨hc139_65, rfl⟩))
              refine icmp_ne w X d1_122 131 125 (by decide) (by decide) rfl (fun hc122_62 => ?_) (fun hc122_62 => ?_)
              ·
                refine iload w X d1_131 133 rfl rfl ?_
                exact J63 T (128 : Int32) X (Or.inl (⟨hc122_62, rfl⟩))
              ·
                refine sipush w X (144 : Int32) d1_125 128 rfl rfl ?_
                refine goto w X d1_128 133 (by decide) (by decide) ?_
                exact J63 T (144 : Int32) X (Or.inr (⟨hc122_62, rfl⟩))
        ·
          refine iloadN w X d1_54 55 rfl rfl ?_
          refine sipush w X (239 : Int32) d1_55 58 rfl rfl ?_
          refine icmp_gt w X d1_58 101 61 (by decide) (by decide) rfl (fun hc58_79 => ?_) (fun hc58_79 => ?_)
          ·
            refine iloadN w X d1_101 102 rfl rfl ?_
            refine sipush w X (240 : Int32) d1_102 105 rfl rfl ?_
            refine icmp_lt w X d1_105 155 108 (by decide) (by decide) rfl (fun hc105_80 => ?_) (fun hc105_80 => ?_)
            ·
              refine iconst w X (0 : Int32) d1_155 156 rfl rfl ?_
              refine retI w X rfl d1_156 (by decide) (by decide) ?_
              exact ⟨_, rfl, rfl, lf1_42 ofs en b0 b1 b2 b3 i3_1 hof hen hi3_1 hc12_2 hc31_3 hc38_58 hc51_59 hc58_79 hc105_80⟩
            ·
              refine iloadN w X d1_108 109 rfl rfl ?_
              refine sipush w X (244 : Int32) d1_109 112 rfl rfl ?_
              refine icmp_gt w X d1_112 155 115 (by decide) (by decide) rfl (fun hc112_81 => ?_) (fun hc112_81 => ?_)
              ·
                refine iconst w X (0 : Int32) d1_155 156 rfl rfl ?_
                refine retI w X rfl d1_156 (by decide) (by decide) ?_
                exact ⟨_, rfl, rfl, lf1_43 ofs en b0 b1 b2 b3 i3_1 hof hen hi3_1 hc12_2 hc31_3 hc38_58 hc51_59 hc58_79 hc105_80 hc112_81⟩
              ·
                refine iconst w X (4 : Int32) d1_115 116 rfl rfl ?_
                refine istore w X (4 : Int32) d1_116 118 rfl rfl #[.val (.ref arr), .val (.int ofs), .val (.int en), .val (.int i3_1), .val (.int (4 : Int32)), .val (.int (128 : Int32)), .val (.int (191 : Int32)), .unset, .unset] rfl ?_
                refine iloadN w X d1_118 119 rfl rfl ?_
                refine sipush w X (240 : Int32) d1_119 122 rfl rfl ?_
                have J83 : ∀ (T : State) (x84 : Int32), Sd p l e ({ frames := 1, cells := 0, slots := 0, locals := 12 } : Room) s m #[(.ref arr), (.int ofs), (.int en)] below meth c n0 T h 0 0 → (((¬ (i3_1 = (240 : Int32))) ∧ (x84 = (128 : Int32))) ∨ ((i3_1 = (240 : Int32)) ∧ (x84 = (144 : Int32)))) → G (T.setTop (mkF m 133 #[.val (.ref arr), .val (.int ofs), .val (.int en), .val (.int i3_1), .val (.int (4 : Int32)), .val (.int (128 : Int32)), .val (.int (191 : Int32)), .unset, .unset] [(.int x84)])) := by
                  intro T x84 X hjJ83
                  refine istore w X x84 d1_133 135 rfl rfl #[.val (.ref arr), .val (.int ofs), .val (.int en), .val (.int i3_1), .val (.int (4 : Int32)), .val (.int x84), .val (.int (191 : Int32)), .unset, .unset] rfl ?_
                  refine iloadN w X d1_135 136 rfl rfl ?_
                  refine sipush w X (244 : Int32) d1_136 139 rfl rfl ?_
                  have J86 : ∀ (T : State) (x87 : Int32), Sd p l e ({ frames := 1, cells := 0, slots := 0, locals := 12 } : Room) s m #[(.ref arr), (.int ofs), (.int en)] below meth c n0 T h 0 0 → (((¬ (i3_1 = (244 : Int32))) ∧ (x87 = (191 : Int32))) ∨ ((i3_1 = (244 : Int32)) ∧ (x87 = (143 : Int32)))) → G (T.setTop (mkF m 150 #[.val (.ref arr), .val (.int ofs), .val (.int en), .val (.int i3_1), .val (.int (4 : Int32)), .val (.int x84), .val (.int (191 : Int32)), .unset, .unset] [(.int x87)])) := by
                    intro T x87 X hjJ86
                    refine istore w X x87 d1_150 152 rfl rfl #[.val (.ref arr), .val (.int ofs), .val (.int en), .val (.int i3_1), .val (.int (4 : Int32)), .val (.int x84), .val (.int x87), .unset, .unset] rfl ?_
                    refine goto w X d1_152 157 (by decide) (by decide) ?_
                    refine iloadN w X d1_157 158 rfl rfl ?_
                    refine iloadN w X d1_158 159 rfl rfl ?_
                    refine isub w X (en - ofs) d1_159 160 rfl rfl ?_
                    refine iload w X d1_160 162 rfl rfl ?_
                    refine icmp_ge w X d1_162 167 165 (by decide) (by decide) rfl (fun hc162_88 => ?_) (fun hc162_88 => ?_)
                    ·
                      refine aloadN w X d1_167 168 rfl rfl rfl ?_
                      refine iloadN w X d1_168 169 rfl rfl ?_
                      refine iconst w X (1 : Int32) d1_169 170 rfl rfl ?_
                      refine iadd w X (ofs + (1 : Int32)) d1_170 171 rfl rfl ?_
                      refine baload w X V_arr (lf1_44 ofs bs hof hln).1 (ofs + (1 : Int32)).toNatClampNeg rfl (lf1_44 ofs bs hof hln).2 d1_171 172 rfl b1 he1 ?_
                      refine sipush w X (255 : Int32) d1_172 175 rfl rfl ?_
                      refine iand w X (b1 &&& (255 : Int32)) d1_175 176 rfl rfl ?_
                      obtain ⟨i7_89, hi7_89⟩ : ∃ z : Int32, z = (b1 &&& (255 : Int32)) := ⟨_, rfl⟩
                      refine istore w X i7_89 d1_176 178 rfl hi7_89 #[.val (.ref arr), .val (.int ofs), .val (.int en), .val (.int i3_1), .val (.int (4 : Int32)), .val (.int x84), .val (.int x87), .val (.int i7_89), .unset] rfl ?_
                      refine iload w X d1_178 180 rfl rfl ?_
                      refine iload w X d1_180 182 rfl rfl ?_
                      refine icmp_lt w X d1_182 192 185 (by decide) (by decide) rfl (fun hc182_90 => ?_) (fun hc182_90 => ?_)
                      ·
                        refine iconst w X (0 : Int32) d1_192 193 rfl rfl ?_
                        refine retI w X rfl d1_193 (by decide) (by decide) ?_
                        exact ⟨_, rfl, rfl, lf1_45 ofs en b0 b1 b2 b3 i3_1 x84 x87 i7_89 hof hen hi3_1 hc12_2 hc31_3 hc38_58 hc51_59 hc58_79 hc105_80 hc112_81 hjJ83 hjJ86 hc162_88 hi7_89 hc182_90⟩
                      ·
                        refine iload w X d1_185 187 rfl rfl ?_
                        refine iload w X d1_187 189 rfl rfl ?_
                        refine icmp_le w X d1_189 194 192 (by decide) (by decide) rfl (fun hc189_91 => ?_) (fun hc189_91 => ?_)
                        ·
                          refine iconst w X (2 : Int32) d1_194 195 rfl rfl ?_
                          refine istore w X (2 : Int32) d1_195 197 rfl rfl #[.val (.ref arr), .val (.int ofs), .val (.int en), .val (.int i3_1), .val (.int (4 : Int32)), .val (.int x84), .val (.int x87), .val (.int i7_89), .val (.int (2 : Int32))] rfl ?_
                          refine iload w X d1_197 199 rfl rfl ?_
                          refine iload w X d1_199 201 rfl rfl ?_
                          refine icmp_ge w X d1_201 224 204 (by decide) (by decide) rfl (fun q => absurd q (by decide)) (fun hc201_92 => ?_)
                          refine aloadN w X d1_204 205 rfl rfl rfl ?_
                          refine iloadN w X d1_205 206 rfl rfl ?_
                          refine iload w X d1_206 208 rfl rfl ?_
                          refine iadd w X (ofs + (2 : Int32)) d1_208 209 rfl rfl ?_
                          refine baload w X V_arr (lf1_46 ofs bs hof hln).1 (ofs + (2 : Int32)).toNatClampNeg rfl (lf1_46 ofs bs hof hln).2 d1_209 210 rfl b2 he2 ?_
                          refine callSPI w X [(.int b2)] (wd14 hw) (wd15 hw) (wd3 hw) (wd16 hw) (by decide) (rm_isc hw b2 h n0 zn) d1_210 213 rfl 0 (by decide) (by decide) (lenOf pd1 rfl) rfl (Nat.le_of_eq rfl) rfl (by decide) (by decide) (fun r93 T X hq => ?_)
                          have hr93 := hq
                          refine if_ne w X d1_213 218 216 (by decide) (by decide) rfl (fun hc213_94 => ?_) (fun hc213_94 => ?_)
                          ·
                            refine iinc w X (3 : Int32) d1_218 221 rfl rfl (by decide) #[.val (.ref arr), .val (.int ofs), .val (.int en), .val (.int i3_1), .val (.int (4 : Int32)), .val (.int x84), .val (.int x87), .val (.int i7_89), .val (.int (3 : Int32))] rfl ?_
                            refine goto w X d1_221 197 (by decide) (by decide) ?_
                            refine iload w X d1_197 199 rfl rfl ?_
                            refine iload w X d1_199 201 rfl rfl ?_
                            refine icmp_ge w X d1_201 224 204 (by decide) (by decide) rfl (fun q => absurd q (by decide)) (fun hc201_95 => ?_)
                            refine aloadN w X d1_204 205 rfl rfl rfl ?_
                            refine iloadN w X d1_205 206 rfl rfl ?_
                            refine iload w X d1_206 208 rfl rfl ?_
                            refine iadd w X (ofs + (3 : Int32)) d1_208 209 rfl rfl ?_
                            refine baload w X V_arr (lf1_47 ofs bs hof hln).1 (ofs + (3 : Int32)).toNatClampNeg rfl (lf1_47 ofs bs hof hln).2 d1_209 210 rfl b3 he3 ?_
                            refine callSPI w X [(.int b3)] (wd14 hw) (wd15 hw) (wd3 hw) (wd16 hw) (by decide) (rm_isc hw b3 h n0 zn) d1_210 213 rfl 0 (by decide) (by decide) (lenOf pd1 rfl) rfl (Nat.le_of_eq rfl) rfl (by decide) (by decide) (fun r96 T X hq => ?_)
                            have hr96 := hq
                            refine if_ne w X d1_213 218 216 (by decide) (by decide) rfl (fun hc213_97 => ?_) (fun hc213_97 => ?_)
                            ·
                              refine iinc w X (4 : Int32) d1_218 221 rfl rfl (by decide) #[.val (.ref arr), .val (.int ofs), .val (.int en), .val (.int i3_1), .val (.int (4 : Int32)), .val (.int x84), .val (.int x87), .val (.int i7_89), .val (.int (4 : Int32))] rfl ?_
                              refine goto w X d1_221 197 (by decide) (by decide) ?_
                              refine iload w X d1_197 199 rfl rfl ?_
                              refine iload w X d1_199 201 rfl rfl ?_
                              refine icmp_ge w X d1_201 224 204 (by decide) (by decide) rfl (fun hc201_98 => ?_) (fun q => absurd q (by decide))
                              refine iload w X d1_224 226 rfl rfl ?_
                              refine retI w X rfl d1_226 (by decide) (by decide) ?_
                              exact ⟨_, rfl, rfl, lf1_48 ofs en b0 b1 b2 b3 i3_1 x84 x87 i7_89 r93 r96 hof hen hi3_1 hc12_2 hc31_3 hc38_58 hc51_59 hc58_79 hc105_80 hc112_81 hjJ83 hjJ86 hc162_88 hi7_89 hc182_90 hc189_91 hc201_92 hr93 hc213_94 hc201_95 hr96 hc213_97 hc201_98⟩
                            ·
                              refine iconst w X (0 : Int32) d1_216 217 rfl rfl ?_
                              refine retI w X rfl d1_217 (by decide) (by decide) ?_
                              exact ⟨_, rfl, rfl, lf1_49 ofs en b0 b1 b2 b3 i3_1 x84 x87 i7_89 r93 r96 hof hen hi3_1 hc12_2 hc31_3 hc38_58 hc51_59 hc58_79 hc105_80 hc112_81 hjJ83 hjJ86 hc162_88 hi7_89 hc182_90 hc189_91 hc201_92 hr93 hc213_94 hc201_95 hr96 hc213_97⟩
                          ·
                            refine iconst w X (0 : Int32) d1_216 217 rfl rfl ?_
                            refine retI w X rfl d1_217 (by decide) (by decide) ?_
                            exact ⟨_, rfl, rfl, lf1_50 ofs en b0 b1 b2 b3 i3_1 x84 x87 i7_89 r93 hof hen hi3_1 hc12_2 hc31_3 hc38_58 hc51_59 hc58_79 hc105_80 hc112_81 hjJ83 hjJ86 hc162_88 hi7_89 hc182_90 hc189_91 hc201_92 hr93 hc213_94⟩
                        ·
                          refine iconst w X (0 : Int32) d1_192 193 rfl rfl ?_
                          refine retI w X rfl d1_193 (by decide) (by decide) ?_
                          exact ⟨_, rfl, rfl, lf1_51 ofs en b0 b1 b2 b3 i3_1 x84 x87 i7_89 hof hen hi3_1 hc12_2 hc31_3 hc38_58 hc51_59 hc58_79 hc105_80 hc112_81 hjJ83 hjJ86 hc162_88 hi7_89 hc182_90 hc189_91⟩
                    ·
                      refine iconst w X (0 : Int32) d1_165 166 rfl rfl ?_
                      refine retI w X rfl d1_166 (by decide) (by decide) ?_
                      exact ⟨_, rfl, rfl, lf1_52 ofs en b0 b1 b2 b3 i3_1 x84 x87 hof hen hi3_1 hc12_2 hc31_3 hc38_58 hc51_59 hc58_79 hc105_80 hc112_81 hjJ83 hjJ86 hc162_88⟩
                  refine icmp_ne w X d1_139 148 142 (by decide) (by decide) rfl (fun hc139_85 => ?_) (fun hc139_85 => ?_)
                  ·
                    refine iload w X d1_148 150 rfl rfl ?_
                    exact J86 T (191 : Int32) X (Or.inl (⟨hc139_85, rfl⟩))
                  ·
                    refine sipush w X (143 : Int32) d1_142 145 rfl rfl ?_
                    refine goto w X d1_145 150 (by decide) (by decide) ?_
                    exact J86 T (143 : Int32) X (Or.inr (⟨hc139_85, rfl⟩))
                refine icmp_ne w X d1_122 131 125 (by decide) (by decide) rfl (fun hc122_82 => ?_) (fun hc122_82 => ?_)
                ·
                  refine iload w X d1_131 133 rfl rfl ?_
                  exact J83 T (128 : Int32) X (Or.inl (⟨hc122_82, rfl⟩))
                ·
                  refine sipush w X (144 : Int32) d1_125 128 rfl rfl ?_
                  refine goto w X d1_128 133 (by decide) (by decide) ?_
                  exact J83 T (144 : Int32) X (Or.inr (⟨hc122_82, rfl⟩))
          ·
            refine iconst w X (3 : Int32) d1_61 62 rfl rfl ?_
            refine istore w X (3 : Int32) d1_62 64 rfl rfl #[.val (.ref arr), .val (.int ofs), .val (.int en), .val (.int i3_1), .val (.int (3 : Int32)), .val (.int (128 : Int32)), .val (.int (191 : Int32)), .unset, .unset] rfl ?_
            refine iloadN w X d1_64 65 rfl rfl ?_
            refine sipush w X (224 : Int32) d1_65 68 rfl rfl ?_
            have J100 : ∀ (T : State) (x101 : Int32), Sd p l e ({ frames := 1, cells := 0, slots := 0, locals := 12 } : Room) s m #[(.ref arr), (.int ofs), (.int en)] below meth c n0 T h 0 0 → (((¬ (i3_1 = (224 : Int32))) ∧ (x101 = (128 : Int32))) ∨ ((i3_1 = (224 : Int32)) ∧ (x101 = (160 : Int32)))) → G (T.setTop (mkF m 79 #[.val (.ref arr), .val (.int ofs), .val (.int en), .val (.int i3_1), .val (.int (3 : Int32)), .val (.int (128 : Int32)), .val (.int (191 : Int32)), .unset, .unset] [(.int x101)])) := by
              intro T x101 X hjJ100
              refine istore w X x101 d1_79 81 rfl rfl #[.val (.ref arr), .val (.int ofs), .val (.int en), .val (.int i3_1), .val (.int (3 : Int32)), .val (.int x101), .val (.int (191 : Int32)), .unset, .unset] rfl ?_
              refine iloadN w X d1_81 82 rfl rfl ?_
              refine sipush w X (237 : Int32) d1_82 85 rfl rfl ?_
              have J103 : ∀ (T : State) (x104 : Int32), Sd p l e ({ frames := 1, cells := 0, slots := 0, locals := 12 } : Room) s m #[(.ref arr), (.int ofs), (.int en)] below meth c n0 T h 0 0 → (((¬ (i3_1 = (237 : Int32))) ∧ (x104 = (191 : Int32))) ∨ ((i3_1 = (237 : Int32)) ∧ (x104 = (159 : Int32)))) → G (T.setTop (mkF m 96 #[.val (.ref arr), .val (.int ofs), .val (.int en), .val (.int i3_1), .val (.int (3 : Int32)), .val (.int x101), .val (.int (191 : Int32)), .unset, .unset] [(.int x104)])) := by
                intro T x104 X hjJ103
                refine istore w X x104 d1_96 98 rfl rfl #[.val (.ref arr), .val (.int ofs), .val (.int en), .val (.int i3_1), .val (.int (3 : Int32)), .val (.int x101), .val (.int x104), .unset, .unset] rfl ?_
                refine goto w X d1_98 157 (by decide) (by decide) ?_
                refine iloadN w X d1_157 158 rfl rfl ?_
                refine iloadN w X d1_158 159 rfl rfl ?_
                refine isub w X (en - ofs) d1_159 160 rfl rfl ?_
                refine iload w X d1_160 162 rfl rfl ?_
                refine icmp_ge w X d1_162 167 165 (by decide) (by decide) rfl (fun hc162_105 => ?_) (fun hc162_105 => ?_)
                ·
                  refine aloadN w X d1_167 168 rfl rfl rfl ?_
                  refine iloadN w X d1_168 169 rfl rfl ?_
                  refine iconst w X (1 : Int32) d1_169 170 rfl rfl ?_
                  refine iadd w X (ofs + (1 : Int32)) d1_170 171 rfl rfl ?_
                  refine baload w X V_arr (lf1_53 ofs bs hof hln).1 (ofs + (1 : Int32)).toNatClampNeg rfl (lf1_53 ofs bs hof hln).2 d1_171 172 rfl b1 he1 ?_
                  refine sipush w X (255 : Int32) d1_172 175 rfl rfl ?_
                  refine iand w X (b1 &&& (255 : Int32)) d1_175 176 rfl rfl ?_
                  obtain ⟨i7_106, hi7_106⟩ : ∃ z : Int32, z = (b1 &&& (255 : Int32)) := ⟨_, rfl⟩
                  refine istore w X i7_106 d1_176 178 rfl hi7_106 #[.val (.ref arr), .val (.int ofs), .val (.int en), .val (.int i3_1), .val (.int (3 : Int32)), .val (.int x101), .val (.int x104), .val (.int i7_106), .unset] rfl ?_
                  refine iload w X d1_178 180 rfl rfl ?_
                  refine iload w X d1_180 182 rfl rfl ?_
                  refine icmp_lt w X d1_182 192 185 (by decide) (by decide) rfl (fun hc182_107 => ?_) (fun hc182_107 => ?_)
                  ·
                    refine iconst w X (0 : Int32) d1_192 193 rfl rfl ?_
                    refine retI w X rfl d1_193 (by decide) (by decide) ?_
                    exact ⟨_, rfl, rfl, lf1_54 ofs en b0 b1 b2 b3 i3_1 x101 x104 i7_106 hof hen hi3_1 hc12_2 hc31_3 hc38_58 hc51_59 hc58_79 hjJ100 hjJ103 hc162_105 hi7_106 hc182_107⟩
                  ·
                    refine iload w X d1_185 187 rfl rfl ?_
                    refine iload w X d1_187 189 rfl rfl ?_
                    refine icmp_le w X d1_189 194 192 (by decide) (by decide) rfl (fun hc189_108 => ?_) (fun hc189_108 => ?_)
                    ·
                      refine iconst w X (2 : Int32) d1_194 195 rfl rfl ?_
                      refine istore w X (2 : Int32) d1_195 197 rfl rfl #[.val (.ref arr), .val (.int ofs), .val (.int en), .val (.int i3_1), .val (.int (3 : Int32)), .val (.int x101), .val (.int x104), .val (.int i7_106), .val (.int (2 : Int32))] rfl ?_
                      refine iload w X d1_197 199 rfl rfl ?_
                      refine iload w X d1_199 201 rfl rfl ?_
                      refine icmp_ge w X d1_201 224 204 (by decide) (by decide) rfl (fun q => absurd q (by decide)) (fun hc201_109 => ?_)
                      refine aloadN w X d1_204 205 rfl rfl rfl ?_
                      refine iloadN w X d1_205 206 rfl rfl ?_
                      refine iload w X d1_206 208 rfl rfl ?_
                      refine iadd w X (ofs + (2 : Int32)) d1_208 209 rfl rfl ?_
                      refine baload w X V_arr (lf1_55 ofs bs hof hln).1 (ofs + (2 : Int32)).toNatClampNeg rfl (lf1_55 ofs bs hof hln).2 d1_209 210 rfl b2 he2 ?_
                      refine callSPI w X [(.int b2)] (wd14 hw) (wd15 hw) (wd3 hw) (wd16 hw) (by decide) (rm_isc hw b2 h n0 zn) d1_210 213 rfl 0 (by decide) (by decide) (lenOf pd1 rfl) rfl (Nat.le_of_eq rfl) rfl (by decide) (by decide) (fun r110 T X hq => ?_)
                      have hr110 := hq
                      refine if_ne w X d1_213 218 216 (by decide) (by decide) rfl (fun hc213_111 => ?_) (fun hc213_111 => ?_)
                      ·
                        refine iinc w X (3 : Int32) d1_218 221 rfl rfl (by decide) #[.val (.ref arr), .val (.int ofs), .val (.int en), .val (.int i3_1), .val (.int (3 : Int32)), .val (.int x101), .val (.int x104), .val (.int i7_106), .val (.int (3 : Int32))] rfl ?_
                        refine goto w X d1_221 197 (by decide) (by decide) ?_
                        refine iload w X d1_197 199 rfl rfl ?_
                        refine iload w X d1_199 201 rfl rfl ?_
                        refine icmp_ge w X d1_201 224 204 (by decide) (by decide) rfl (fun hc201_112 => ?_) (fun q => absurd q (by decide))
                        refine iload w X d1_224 226 rfl rfl ?_
                        refine retI w X rfl d1_226 (by decide) (by decide) ?_
                        exact ⟨_, rfl, rfl, lf1_56 ofs en b0 b1 b2 b3 i3_1 x101 x104 i7_106 r110 hof hen hi3_1 hc12_2 hc31_3 hc38_58 hc51_59 hc58_79 hjJ100 hjJ103 hc162_105 hi7_106 hc182_107 hc189_108 hc201_109 hr110 hc213_111 hc201_112⟩
                      ·
                        refine iconst w X (0 : Int32) d1_216 217 rfl rfl ?_
                        refine retI w X rfl d1_217 (by decide) (by decide) ?_
                        exact ⟨_, rfl, rfl, lf1_57 ofs en b0 b1 b2 b3 i3_1 x101 x104 i7_106 r110 hof hen hi3_1 hc12_2 hc31_3 hc38_58 hc51_59 hc58_79 hjJ100 hjJ103 hc162_105 hi7_106 hc182_107 hc189_108 hc201_109 hr110 hc213_111⟩
                    ·
                      refine iconst w X (0 : Int32) d1_192 193 rfl rfl ?_
                      refine retI w X rfl d1_193 (by decide) (by decide) ?_
                      exact ⟨_, rfl, rfl, lf1_58 ofs en b0 b1 b2 b3 i3_1 x101 x104 i7_106 hof hen hi3_1 hc12_2 hc31_3 hc38_58 hc51_59 hc58_79 hjJ100 hjJ103 hc162_105 hi7_106 hc182_107 hc189_108⟩
                ·
                  refine iconst w X (0 : Int32) d1_165 166 rfl rfl ?_
                  refine retI w X rfl d1_166 (by decide) (by decide) ?_
                  exact ⟨_, rfl, rfl, lf1_59 ofs en b0 b1 b2 b3 i3_1 x101 x104 hof hen hi3_1 hc12_2 hc31_3 hc38_58 hc51_59 hc58_79 hjJ100 hjJ103 hc162_105⟩
              refine icmp_ne w X d1_85 94 88 (by decide) (by decide) rfl (fun hc85_102 => ?_) (fun hc85_102 => ?_)
              ·
                refine iload w X d1_94 96 rfl rfl ?_
                exact J103 T (191 : Int32) X (Or.inl (⟨hc85_102, rfl⟩))
              ·
                refine sipush w X (159 : Int32) d1_88 91 rfl rfl ?_
                refine goto w X d1_91 96 (by decide) (by decide) ?_
                exact J103 T (159 : Int32) X (Or.inr (⟨hc85_102, rfl⟩))
            refine icmp_ne w X d1_68 77 71 (by decide) (by decide) rfl (fun hc68_99 => ?_) (fun hc68_99 => ?_)
            ·
              refine iload w X d1_77 79 rfl rfl ?_
              exact J100 T (128 : Int32) X (Or.inl (⟨hc68_99, rfl⟩))
            ·
              refine sipush w X (160 : Int32) d1_71 74 rfl rfl ?_
              refine goto w X d1_74 79 (by decide) (by decide) ?_
              exact J100 T (160 : Int32) X (Or.inr (⟨hc68_99, rfl⟩))
      ·
        refine iconst w X (2 : Int32) d1_41 42 rfl rfl ?_
        refine istore w X (2 : Int32) d1_42 44 rfl rfl #[.val (.ref arr), .val (.int ofs), .val (.int en), .val (.int i3_1), .val (.int (2 : Int32)), .val (.int (128 : Int32)), .val (.int (191 : Int32)), .unset, .unset] rfl ?_
        refine goto w X d1_44 157 (by decide) (by decide) ?_
        refine iloadN w X d1_157 158 rfl rfl ?_
        refine iloadN w X d1_158 159 rfl rfl ?_
        refine isub w X (en - ofs) d1_159 160 rfl rfl ?_
        refine iload w X d1_160 162 rfl rfl ?_
        refine icmp_ge w X d1_162 167 165 (by decide) (by decide) rfl (fun hc162_113 => ?_) (fun hc162_113 => ?_)
        ·
          refine aloadN w X d1_167 168 rfl rfl rfl ?_
          refine iloadN w X d1_168 169 rfl rfl ?_
          refine iconst w X (1 : Int32) d1_169 170 rfl rfl ?_
          refine iadd w X (ofs + (1 : Int32)) d1_170 171 rfl rfl ?_
          refine baload w X V_arr (lf1_60 ofs bs hof hln).1 (ofs + (1 : Int32)).toNatClampNeg rfl (lf1_60 ofs bs hof hln).2 d1_171 172 rfl b1 he1 ?_
          refine sipush w X (255 : Int32) d1_172 175 rfl rfl ?_
          refine iand w X (b1 &&& (255 : Int32)) d1_175 176 rfl rfl ?_
          obtain ⟨i7_114, hi7_114⟩ : ∃ z : Int32, z = (b1 &&& (255 : Int32)) := ⟨_, rfl⟩
          refine istore w X i7_114 d1_176 178 rfl hi7_114 #[.val (.ref arr), .val (.int ofs), .val (.int en), .val (.int i3_1), .val (.int (2 : Int32)), .val (.int (128 : Int32)), .val (.int (191 : Int32)), .val (.int i7_114), .unset] rfl ?_
          refine iload w X d1_178 180 rfl rfl ?_
          refine iload w X d1_180 182 rfl rfl ?_
          refine icmp_lt w X d1_182 192 185 (by decide) (by decide) rfl (fun hc182_115 => ?_) (fun hc182_115 => ?_)
          ·
            refine iconst w X (0 : Int32) d1_192 193 rfl rfl ?_
            refine retI w X rfl d1_193 (by decide) (by decide) ?_
            exact ⟨_, rfl, rfl, lf1_61 ofs en b0 b1 b2 b3 i3_1 i7_114 hof hen hi3_1 hc12_2 hc31_3 hc38_58 hc162_113 hi7_114 hc182_115⟩
          ·
            refine iload w X d1_185 187 rfl rfl ?_
            refine iload w X d1_187 189 rfl rfl ?_
            refine icmp_le w X d1_189 194 192 (by decide) (by decide) rfl (fun hc189_116 => ?_) (fun hc189_116 => ?_)
            ·
              refine iconst w X (2 : Int32) d1_194 195 rfl rfl ?_
              refine istore w X (2 : Int32) d1_195 197 rfl rfl #[.val (.ref arr), .val (.int ofs), .val (.int en), .val (.int i3_1), .val (.int (2 : Int32)), .val (.int (128 : Int32)), .val (.int (191 : Int32)), .val (.int i7_114), .val (.int (2 : Int32))] rfl ?_
              refine iload w X d1_197 199 rfl rfl ?_
              refine iload w X d1_199 201 rfl rfl ?_
              refine icmp_ge w X d1_201 224 204 (by decide) (by decide) rfl (fun hc201_117 => ?_) (fun q => absurd q (by decide))
              refine iload w X d1_224 226 rfl rfl ?_
              refine retI w X rfl d1_226 (by decide) (by decide) ?_
              exact ⟨_, rfl, rfl, lf1_62 ofs en b0 b1 b2 b3 i3_1 i7_114 hof hen hi3_1 hc12_2 hc31_3 hc38_58 hc162_113 hi7_114 hc182_115 hc189_116 hc201_117⟩
            ·
              refine iconst w X (0 : Int32) d1_192 193 rfl rfl ?_
              refine retI w X rfl d1_193 (by decide) (by decide) ?_
              exact ⟨_, rfl, rfl, lf1_63 ofs en b0 b1 b2 b3 i3_1 i7_114 hof hen hi3_1 hc12_2 hc31_3 hc38_58 hc162_113 hi7_114 hc182_115 hc189_116⟩
        ·
          refine iconst w X (0 : Int32) d1_165 166 rfl rfl ?_
          refine retI w X rfl d1_166 (by decide) (by decide) ?_
          exact ⟨_, rfl, rfl, lf1_64 ofs en b0 b1 b2 b3 i3_1 hof hen hi3_1 hc12_2 hc31_3 hc38_58 hc162_113⟩
  ·
    refine iconst w X (1 : Int32) d1_15 16 rfl rfl ?_
    refine retI w X rfl d1_16 (by decide) (by decide) ?_
    exact ⟨_, rfl, rfl, lf1_65 ofs en b0 b1 b2 b3 i3_1 hof hen hi3_1 hc12_2⟩
set_option maxRecDepth 65536 in
set_option maxHeartbeats 40000000 in
theorem lf0_1 (v0 : Int32) (v1 : Int32) (v2 : Int32) (v3 : Int32) (v4 : Int32) (i6_2 : Int32) (i7_3 : Int32) (i9_6 : Int32) (e8 : Int32) (e10 : Int32) (e12 : Int32) (e14 : Int32) (e16 : Int32) (e18 : Int32) (hi6_2 : i6_2 = ((((v4.toUInt32 >>> ((1 : Int32) &&& 31).toUInt32).toInt32) &&& (3 : Int32)) + (1 : Int32))) (hi7_3 : i7_3 = ((0 : Int32) + i6_2)) (hi9_6 : i9_6 = (((v4.toUInt32 >>> ((8 : Int32) &&& 31).toUInt32).toInt32).toInt8.toInt32)) (he8 : e8 = (i9_6.toInt8.toInt32)) (he10 : e10 = (i9_6.toInt8.toInt32)) (he12 : e12 = (v0.toInt8.toInt32)) (he14 : e14 = (v1.toInt8.toInt32)) (he16 : e16 = (v2.toInt8.toInt32)) (he18 : e18 = (v3.toInt8.toInt32)) : 1 ≤ i7_3.toInt - (0 : Int32).toInt ∧ i7_3.toInt - (0 : Int32).toInt ≤ 4 := by
  have := b32 v0
  have := b32 v1
  have := b32 v2
  have := b32 v3
  have := b32 v4
  have := b32 i6_2
  have := b32 i7_3
  have := b32 i9_6
  have := b32 e8
  have := b32 e10
  have := b32 e12
  have := b32 e14
  have := b32 e16
  have := b32 e18
  have := k_ushr v4 (1 : Int32) 1 2 (by decide) (by decide) (by decide)
  have := k_mask ((v4.toUInt32 >>> ((1 : Int32) &&& 31).toUInt32).toInt32) (3 : Int32) 2 4 (by decide) (by decide) (by decide)
  have := c_iadd (((v4.toUInt32 >>> ((1 : Int32) &&& 31).toUInt32).toInt32) &&& (3 : Int32)) (1 : Int32)
  have := b32 ((((v4.toUInt32 >>> ((1 : Int32) &&& 31).toUInt32).toInt32) &&& (3 : Int32)) + (1 : Int32))
  have := c_iadd (0 : Int32) i6_2
  have := b32 ((0 : Int32) + i6_2)
  have := k_ushr v4 (8 : Int32) 8 256 (by decide) (by decide) (by decide)
  have := c_i2b ((v4.toUInt32 >>> ((8 : Int32) &&& 31).toUInt32).toInt32)
  have := c_i2b i9_6
  have := c_i2b v0
  have := c_i2b v1
  have := c_i2b v2
  have := c_i2b v3
  try simp only [Int32.lt_iff_toInt_lt, ← Int32.toInt_inj, Int32.reduceToInt, Int64.lt_iff_toInt_lt, ← Int64.toInt_inj, Int64.reduceToInt, true_and, and_true, true_or, or_true, false_or, or_false, false_and, and_false, not_true_eq_false, not_false_eq_true] at *
  omega
set_option maxRecDepth 65536 in
set_option maxHeartbeats 40000000 in
theorem lf0_2 (v0 : Int32) : 0 ≤ (v0 &&& (255 : Int32)).toInt ∧ (v0 &&& (255 : Int32)).toInt ≤ 255 := by
  have := b32 v0
  have := k_mask v0 (255 : Int32) 8 256 (by decide) (by decide) (by decide)
  try simp only [Int32.lt_iff_toInt_lt, ← Int32.toInt_inj, Int32.reduceToInt, Int64.lt_iff_toInt_lt, ← Int64.toInt_inj, Int64.reduceToInt, true_and, and_true, true_or, or_true, false_or, or_false, false_and, and_false, not_true_eq_false, not_false_eq_true] at *
  omega
set_option maxRecDepth 65536 in
set_option maxHeartbeats 40000000 in
theorem lf0_3 (v1 : Int32) : 0 ≤ (v1 &&& (255 : Int32)).toInt ∧ (v1 &&& (255 : Int32)).toInt ≤ 255 := by
  have := b32 v1
  have := k_mask v1 (255 : Int32) 8 256 (by decide) (by decide) (by decide)
  try simp only [Int32.lt_iff_toInt_lt, ← Int32.toInt_inj, Int32.reduceToInt, Int64.lt_iff_toInt_lt, ← Int64.toInt_inj, Int64.reduceToInt, true_and, and_true, true_or, or_true, false_or, or_false, false_and, and_false, not_true_eq_false, not_false_eq_true] at *
  omega
set_option maxRecDepth 65536 in
set_option maxHeartbeats 40000000 in
theorem lf0_4 (v2 : Int32) : 0 ≤ (v2 &&& (255 : Int32)).toInt ∧ (v2 &&& (255 : Int32)).toInt ≤ 255 := by
  have := b32 v2
  have := k_mask v2 (255 : Int32) 8 256 (by decide) (by decide) (by decide)
  try simp only [Int32.lt_iff_toInt_lt, ← Int32.toInt_inj, Int32.reduceToInt, Int64.lt_iff_toInt_lt, ← Int64.toInt_inj, Int64.reduceToInt, true_and, and_true, true_or, or_true, false_or, or_false, false_and, and_false, not_true_eq_false, not_false_eq_true] at *
  omega
set_option maxRecDepth 65536 in
set_option maxHeartbeats 40000000 in
theorem lf0_5 (v3 : Int32) : 0 ≤ (v3 &&& (255 : Int32)).toInt ∧ (v3 &&& (255 : Int32)).toInt ≤ 255 := by
  have := b32 v3
  have := k_mask v3 (255 : Int32) 8 256 (by decide) (by decide) (by decide)
  try simp only [Int32.lt_iff_toInt_lt, ← Int32.toInt_inj, Int32.reduceToInt, Int64.lt_iff_toInt_lt, ← Int64.toInt_inj, Int64.reduceToInt, true_and, and_true, true_or, or_true, false_or, or_false, false_and, and_false, not_true_eq_false, not_false_eq_true] at *
  omega
set_option maxRecDepth 65536 in
set_option maxHeartbeats 40000000 in
theorem lf0_6 (v4 : Int32) (i6_2 : Int32) (i7_3 : Int32) (hi6_2 : i6_2 = ((((v4.toUInt32 >>> ((1 : Int32) &&& 31).toUInt32).toInt32) &&& (3 : Int32)) + (1 : Int32))) (hi7_3 : i7_3 = ((0 : Int32) + i6_2)) : 1 ≤ i6_2.toInt ∧ i6_2.toInt ≤ 4 := by
  have := b32 v4
  have := b32 i6_2
  have := b32 i7_3
  have := k_ushr v4 (1 : Int32) 1 2 (by decide) (by decide) (by decide)
  have := k_mask ((v4.toUInt32 >>> ((1 : Int32) &&& 31).toUInt32).toInt32) (3 : Int32) 2 4 (by decide) (by decide) (by decide)
  have := c_iadd (((v4.toUInt32 >>> ((1 : Int32) &&& 31).toUInt32).toInt32) &&& (3 : Int32)) (1 : Int32)
  have := b32 ((((v4.toUInt32 >>> ((1 : Int32) &&& 31).toUInt32).toInt32) &&& (3 : Int32)) + (1 : Int32))
  have := c_iadd (0 : Int32) i6_2
  have := b32 ((0 : Int32) + i6_2)
  try simp only [Int32.lt_iff_toInt_lt, ← Int32.toInt_inj, Int32.reduceToInt, Int64.lt_iff_toInt_lt, ← Int64.toInt_inj, Int64.reduceToInt, true_and, and_true, true_or, or_true, false_or, or_false, false_and, and_false, not_true_eq_false, not_false_eq_true] at *
  omega
set_option maxRecDepth 65536 in
set_option maxHeartbeats 40000000 in
theorem lf0_7 (v0 : Int32) (v1 : Int32) (v2 : Int32) (v3 : Int32) (v4 : Int32) (i6_2 : Int32) (i7_3 : Int32) (i9_6 : Int32) (e8 : Int32) (e10 : Int32) (e12 : Int32) (e14 : Int32) (e16 : Int32) (e18 : Int32) (r19 : Int32) (r20 : Int32) (hi6_2 : i6_2 = ((((v4.toUInt32 >>> ((1 : Int32) &&& 31).toUInt32).toInt32) &&& (3 : Int32)) + (1 : Int32))) (hi7_3 : i7_3 = ((0 : Int32) + i6_2)) (hi9_6 : i9_6 = (((v4.toUInt32 >>> ((8 : Int32) &&& 31).toUInt32).toInt32).toInt8.toInt32)) (he8 : e8 = (i9_6.toInt8.toInt32)) (he10 : e10 = (i9_6.toInt8.toInt32)) (he12 : e12 = (v0.toInt8.toInt32)) (he14 : e14 = (v1.toInt8.toInt32)) (he16 : e16 = (v2.toInt8.toInt32)) (he18 : e18 = (v3.toInt8.toInt32)) (hr19 : own_isLen (e12 &&& (255 : Int32)).toInt (e14 &&& (255 : Int32)).toInt (e16 &&& (255 : Int32)).toInt (e18 &&& (255 : Int32)).toInt (i7_3.toInt - (0 : Int32).toInt) r19.toInt) (hr20 : own_isLen (v0 &&& (255 : Int32)).toInt (v1 &&& (255 : Int32)).toInt (v2 &&& (255 : Int32)).toInt (v3 &&& (255 : Int32)).toInt i6_2.toInt r20.toInt) : r19 = r20 := by
  rw [he12, he14, he16, he18, own_b255, own_b255, own_b255, own_b255] at hr19
  apply Int32.toInt_inj.mp
  have e1 : i7_3.toInt - (0 : Int32).toInt = i6_2.toInt := by
    have := c_iadd (0 : Int32) i6_2
    have := b32 ((0 : Int32) + i6_2)
    have := b32 v4
    have := b32 i6_2
    have := k_ushr v4 (1 : Int32) 1 2 (by decide) (by decide) (by decide)
    have := k_mask ((v4.toUInt32 >>> ((1 : Int32) &&& 31).toUInt32).toInt32) (3 : Int32) 2 4 (by decide) (by decide) (by decide)
    have := c_iadd (((v4.toUInt32 >>> ((1 : Int32) &&& 31).toUInt32).toInt32) &&& (3 : Int32)) (1 : Int32)
    have := b32 ((((v4.toUInt32 >>> ((1 : Int32) &&& 31).toUInt32).toInt32) &&& (3 : Int32)) + (1 : Int32))
    simp only [Int32.reduceToInt] at *
    simp only [hi7_3, hi6_2] at *
    omega
  rw [e1] at hr19
  exact own_one hr19 hr20
set_option maxRecDepth 65536 in
set_option maxHeartbeats 40000000 in
theorem lf0_8 (v0 : Int32) (v1 : Int32) (v2 : Int32) (v3 : Int32) (v4 : Int32) (i6_22 : Int32) (i7_23 : Int32) (i9_26 : Int32) (e28 : Int32) (e30 : Int32) (e32 : Int32) (e34 : Int32) (e36 : Int32) (e38 : Int32) (hi6_22 : i6_22 = ((((v4.toUInt32 >>> ((1 : Int32) &&& 31).toUInt32).toInt32) &&& (3 : Int32)) + (1 : Int32))) (hi7_23 : i7_23 = ((1 : Int32) + i6_22)) (hi9_26 : i9_26 = (((v4.toUInt32 >>> ((8 : Int32) &&& 31).toUInt32).toInt32).toInt8.toInt32)) (he28 : e28 = (i9_26.toInt8.toInt32)) (he30 : e30 = (i9_26.toInt8.toInt32)) (he32 : e32 = (v0.toInt8.toInt32)) (he34 : e34 = (v1.toInt8.toInt32)) (he36 : e36 = (v2.toInt8.toInt32)) (he38 : e38 = (v3.toInt8.toInt32)) : 1 ≤ i7_23.toInt - (1 : Int32).toInt ∧ i7_23.toInt - (1 : Int32).toInt ≤ 4 := by
  have := b32 v0
  have := b32 v1
  have := b32 v2
  have := b32 v3
  have := b32 v4
  have := b32 i6_22
  have := b32 i7_23
  have := b32 i9_26
  have := b32 e28
  have := b32 e30
  have := b32 e32
  have := b32 e34
  have := b32 e36
  have := b32 e38
  have := k_ushr v4 (1 : Int32) 1 2 (by decide) (by decide) (by decide)
  have := k_mask ((v4.toUInt32 >>> ((1 : Int32) &&& 31).toUInt32).toInt32) (3 : Int32) 2 4 (by decide) (by decide) (by decide)
  have := c_iadd (((v4.toUInt32 >>> ((1 : Int32) &&& 31).toUInt32).toInt32) &&& (3 : Int32)) (1 : Int32)
  have := b32 ((((v4.toUInt32 >>> ((1 : Int32) &&& 31).toUInt32).toInt32) &&& (3 : Int32)) + (1 : Int32))
  have := c_iadd (1 : Int32) i6_22
  have := b32 ((1 : Int32) + i6_22)
  have := k_ushr v4 (8 : Int32) 8 256 (by decide) (by decide) (by decide)
  have := c_i2b ((v4.toUInt32 >>> ((8 : Int32) &&& 31).toUInt32).toInt32)
  have := c_i2b i9_26
  have := c_i2b v0
  have := c_i2b v1
  have := c_i2b v2
  have := c_i2b v3
  try simp only [Int32.lt_iff_toInt_lt, ← Int32.toInt_inj, Int32.reduceToInt, Int64.lt_iff_toInt_lt, ← Int64.toInt_inj, Int64.reduceToInt, true_and, and_true, true_or, or_true, false_or, or_false, false_and, and_false, not_true_eq_false, not_false_eq_true] at *
  omega
set_option maxRecDepth 65536 in
set_option maxHeartbeats 40000000 in
theorem lf0_9 (v0 : Int32) : 0 ≤ (v0 &&& (255 : Int32)).toInt ∧ (v0 &&& (255 : Int32)).toInt ≤ 255 := by
  have := b32 v0
  have := k_mask v0 (255 : Int32) 8 256 (by decide) (by decide) (by decide)
  try simp only [Int32.lt_iff_toInt_lt, ← Int32.toInt_inj, Int32.reduceToInt, Int64.lt_iff_toInt_lt, ← Int64.toInt_inj, Int64.reduceToInt, true_and, and_true, true_or, or_true, false_or, or_false, false_and, and_false, not_true_eq_false, not_false_eq_true] at *
  omega
set_option maxRecDepth 65536 in
set_option maxHeartbeats 40000000 in
theorem lf0_10 (v1 : Int32) : 0 ≤ (v1 &&& (255 : Int32)).toInt ∧ (v1 &&& (255 : Int32)).toInt ≤ 255 := by
  have := b32 v1
  have := k_mask v1 (255 : Int32) 8 256 (by decide) (by decide) (by decide)
  try simp only [Int32.lt_iff_toInt_lt, ← Int32.toInt_inj, Int32.reduceToInt, Int64.lt_iff_toInt_lt, ← Int64.toInt_inj, Int64.reduceToInt, true_and, and_true, true_or, or_true, false_or, or_false, false_and, and_false, not_true_eq_false, not_false_eq_true] at *
  omega
set_option maxRecDepth 65536 in
set_option maxHeartbeats 40000000 in
theorem lf0_11 (v2 : Int32) : 0 ≤ (v2 &&& (255 : Int32)).toInt ∧ (v2 &&& (255 : Int32)).toInt ≤ 255 := by
  have := b32 v2
  have := k_mask v2 (255 : Int32) 8 256 (by decide) (by decide) (by decide)
  try simp only [Int32.lt_iff_toInt_lt, ← Int32.toInt_inj, Int32.reduceToInt, Int64.lt_iff_toInt_lt, ← Int64.toInt_inj, Int64.reduceToInt, true_and, and_true, true_or, or_true, false_or, or_false, false_and, and_false, not_true_eq_false, not_false_eq_true] at *
  omega
set_option maxRecDepth 65536 in
set_option maxHeartbeats 40000000 in
theorem lf0_12 (v3 : Int32) : 0 ≤ (v3 &&& (255 : Int32)).toInt ∧ (v3 &&& (255 : Int32)).toInt ≤ 255 := by
  have := b32 v3
  have := k_mask v3 (255 : Int32) 8 256 (by decide) (by decide) (by decide)
  try simp only [Int32.lt_iff_toInt_lt, ← Int32.toInt_inj, Int32.reduceToInt, Int64.lt_iff_toInt_lt, ← Int64.toInt_inj, Int64.reduceToInt, true_and, and_true, true_or, or_true, false_or, or_false, false_and, and_false, not_true_eq_false, not_false_eq_true] at *
  omega
set_option maxRecDepth 65536 in
set_option maxHeartbeats 40000000 in
theorem lf0_13 (v4 : Int32) (i6_22 : Int32) (i7_23 : Int32) (hi6_22 : i6_22 = ((((v4.toUInt32 >>> ((1 : Int32) &&& 31).toUInt32).toInt32) &&& (3 : Int32)) + (1 : Int32))) (hi7_23 : i7_23 = ((1 : Int32) + i6_22)) : 1 ≤ i6_22.toInt ∧ i6_22.toInt ≤ 4 := by
  have := b32 v4
  have := b32 i6_22
  have := b32 i7_23
  have := k_ushr v4 (1 : Int32) 1 2 (by decide) (by decide) (by decide)
  have := k_mask ((v4.toUInt32 >>> ((1 : Int32) &&& 31).toUInt32).toInt32) (3 : Int32) 2 4 (by decide) (by decide) (by decide)
  have := c_iadd (((v4.toUInt32 >>> ((1 : Int32) &&& 31).toUInt32).toInt32) &&& (3 : Int32)) (1 : Int32)
  have := b32 ((((v4.toUInt32 >>> ((1 : Int32) &&& 31).toUInt32).toInt32) &&& (3 : Int32)) + (1 : Int32))
  have := c_iadd (1 : Int32) i6_22
  have := b32 ((1 : Int32) + i6_22)
  try simp only [Int32.lt_iff_toInt_lt, ← Int32.toInt_inj, Int32.reduceToInt, Int64.lt_iff_toInt_lt, ← Int64.toInt_inj, Int64.reduceToInt, true_and, and_true, true_or, or_true, false_or, or_false, false_and, and_false, not_true_eq_false, not_false_eq_true] at *
  omega
set_option maxRecDepth 65536 in
set_option maxHeartbeats 40000000 in
theorem lf0_14 (v0 : Int32) (v1 : Int32) (v2 : Int32) (v3 : Int32) (v4 : Int32) (i6_22 : Int32) (i7_23 : Int32) (i9_26 : Int32) (e28 : Int32) (e30 : Int32) (e32 : Int32) (e34 : Int32) (e36 : Int32) (e38 : Int32) (r39 : Int32) (r40 : Int32) (hi6_22 : i6_22 = ((((v4.toUInt32 >>> ((1 : Int32) &&& 31).toUInt32).toInt32) &&& (3 : Int32)) + (1 : Int32))) (hi7_23 : i7_23 = ((1 : Int32) + i6_22)) (hi9_26 : i9_26 = (((v4.toUInt32 >>> ((8 : Int32) &&& 31).toUInt32).toInt32).toInt8.toInt32)) (he28 : e28 = (i9_26.toInt8.toInt32)) (he30 : e30 = (i9_26.toInt8.toInt32)) (he32 : e32 = (v0.toInt8.toInt32)) (he34 : e34 = (v1.toInt8.toInt32)) (he36 : e36 = (v2.toInt8.toInt32)) (he38 : e38 = (v3.toInt8.toInt32)) (hr39 : own_isLen (e32 &&& (255 : Int32)).toInt (e34 &&& (255 : Int32)).toInt (e36 &&& (255 : Int32)).toInt (e38 &&& (255 : Int32)).toInt (i7_23.toInt - (1 : Int32).toInt) r39.toInt) (hr40 : own_isLen (v0 &&& (255 : Int32)).toInt (v1 &&& (255 : Int32)).toInt (v2 &&& (255 : Int32)).toInt (v3 &&& (255 : Int32)).toInt i6_22.toInt r40.toInt) : r39 = r40 := by
  rw [he32, he34, he36, he38, own_b255, own_b255, own_b255, own_b255] at hr39
  apply Int32.toInt_inj.mp
  have e1 : i7_23.toInt - (1 : Int32).toInt = i6_22.toInt := by
    have := c_iadd (1 : Int32) i6_22
    have := b32 ((1 : Int32) + i6_22)
    have := b32 v4
    have := b32 i6_22
    have := k_ushr v4 (1 : Int32) 1 2 (by decide) (by decide) (by decide)
    have := k_mask ((v4.toUInt32 >>> ((1 : Int32) &&& 31).toUInt32).toInt32) (3 : Int32) 2 4 (by decide) (by decide) (by decide)
    have := c_iadd (((v4.toUInt32 >>> ((1 : Int32) &&& 31).toUInt32).toInt32) &&& (3 : Int32)) (1 : Int32)
    have := b32 ((((v4.toUInt32 >>> ((1 : Int32) &&& 31).toUInt32).toInt32) &&& (3 : Int32)) + (1 : Int32))
    simp only [Int32.reduceToInt] at *
    simp only [hi7_23, hi6_22] at *
    omega
  rw [e1] at hr39
  exact own_one hr39 hr40
set_option maxRecDepth 65536 in
set_option maxHeartbeats 40000000 in
theorem rm_law {l : Launch} {Z : State} {a0 : Array Value} (hw : ∀ d ∈ tables_1, d.before a0 Z = true) (v0 v1 v2 v3 v4 : Int32) (h : Heap) (n0 : Nat) (zn : n0 ≤ h.size) :
    Met l Z x code maxLocals ret tables_1 room_1 #[(.int v0), (.int v1), (.int v2), (.int v3), (.int v4)] h n0 (RI fun r _ => r = 1) := by
  refine start (ls := #[.val (.int v0), .val (.int v1), .val (.int v2), .val (.int v3), .val (.int v4), .unset, .unset, .unset, .unset, .unset, .unset]) (plainFor_of_name pn3) (fun m => by first | (simp [entryFrame, mkF, argsToLocals, Value.category, maxLocals]; done) | rfl) ?_
  intro p e s m below meth c T G w X
  refine iload w X at_0 2 rfl rfl ?_
  refine iconst w X (1 : Int32) at_2 3 rfl rfl ?_
  refine iand w X (v4 &&& (1 : Int32)) at_3 4 rfl rfl ?_
  obtain ⟨i5_1, hi5_1⟩ : ∃ z : Int32, z = (v4 &&& (1 : Int32)) := ⟨_, rfl⟩
  refine istore w X i5_1 at_4 6 rfl hi5_1 #[.val (.int v0), .val (.int v1), .val (.int v2), .val (.int v3), .val (.int v4), .val (.int i5_1), .unset, .unset, .unset, .unset, .unset] rfl ?_
  have hat : i5_1 = 0 ∨ i5_1 = 1 := by rw [hi5_1]; exact and_one _
  rcases hat with rfl | rfl
  ·
    refine iload w X at_6 8 rfl rfl ?_
    refine iconst w X (1 : Int32) at_8 9 rfl rfl ?_
    refine iushr w X ((v4.toUInt32 >>> ((1 : Int32) &&& 31).toUInt32).toInt32) at_9 10 rfl rfl ?_
    refine iconst w X (3 : Int32) at_10 11 rfl rfl ?_
    refine iand w X (((v4.toUInt32 >>> ((1 : Int32) &&& 31).toUInt32).toInt32) &&& (3 : Int32)) at_11 12 rfl rfl ?_
    refine iconst w X (1 : Int32) at_12 13 rfl rfl ?_
    refine iadd w X ((((v4.toUInt32 >>> ((1 : Int32) &&& 31).toUInt32).toInt32) &&& (3 : Int32)) + (1 : Int32)) at_13 14 rfl rfl ?_
    obtain ⟨i6_2, hi6_2⟩ : ∃ z : Int32, z = ((((v4.toUInt32 >>> ((1 : Int32) &&& 31).toUInt32).toInt32) &&& (3 : Int32)) + (1 : Int32)) := ⟨_, rfl⟩
    refine istore w X i6_2 at_14 16 rfl hi6_2 #[.val (.int v0), .val (.int v1), .val (.int v2), .val (.int v3), .val (.int v4), .val (.int (0 : Int32)), .val (.int i6_2), .unset, .unset, .unset, .unset] rfl ?_
    refine iload w X at_16 18 rfl rfl ?_
    refine iload w X at_18 20 rfl rfl ?_
    refine iadd w X ((0 : Int32) + i6_2) at_20 21 rfl rfl ?_
    obtain ⟨i7_3, hi7_3⟩ : ∃ z : Int32, z = ((0 : Int32) + i6_2) := ⟨_, rfl⟩
    refine istore w X i7_3 at_21 23 rfl hi7_3 #[.val (.int v0), .val (.int v1), .val (.int v2), .val (.int v3), .val (.int v4), .val (.int (0 : Int32)), .val (.int i6_2), .val (.int i7_3), .unset, .unset, .unset] rfl ?_
    refine iconst w X (5 : Int32) at_23 24 rfl rfl ?_
    refine newarr (aty := .byte) w X (wd0 hw) at_24 26 rfl (by decide) 5 (by decide) (by decide) (by decide) (by decide) (fun T h4 b5 cA X hnb5 E A => ?_)
    have g_b5 : n0 ≤ b5 := by rw [hnb5]; exact zn
    have zn : n0 ≤ h4.size := Nat.le_trans zn E.1
    have V_b5 : PA Z h4 b5 .byte [(0 : Int32), (0 : Int32), (0 : Int32), (0 : Int32), (0 : Int32)] := PA.new .byte rfl rfl 5 A (by decide)
    refine astore w X at_26 28 rfl rfl #[.val (.int v0), .val (.int v1), .val (.int v2), .val (.int v3), .val (.int v4), .val (.int (0 : Int32)), .val (.int i6_2), .val (.int i7_3), .val (.ref b5), .unset, .unset] rfl ?_
    refine iload w X at_28 30 rfl rfl ?_
    refine bipush w X (8 : Int32) at_30 32 rfl rfl ?_
    refine iushr w X ((v4.toUInt32 >>> ((8 : Int32) &&& 31).toUInt32).toInt32) at_32 33 rfl rfl ?_
    refine i2b w X (((v4.toUInt32 >>> ((8 : Int32) &&& 31).toUInt32).toInt32).toInt8.toInt32) at_33 34 rfl rfl ?_
    obtain ⟨i9_6, hi9_6⟩ : ∃ z : Int32, z = (((v4.toUInt32 >>> ((8 : Int32) &&& 31).toUInt32).toInt32).toInt8.toInt32) := ⟨_, rfl⟩
    refine istore w X i9_6 at_34 36 rfl hi9_6 #[.val (.int v0), .val (.int v1), .val (.int v2), .val (.int v3), .val (.int v4), .val (.int (0 : Int32)), .val (.int i6_2), .val (.int i7_3), .val (.ref b5), .val (.int i9_6), .unset] rfl ?_
    refine aload w X at_36 38 rfl rfl rfl ?_
    refine iconst w X (0 : Int32) at_38 39 rfl rfl ?_
    refine iload w X at_39 41 rfl rfl ?_
    obtain ⟨e8, he8⟩ : ∃ z : Int32, z = (i9_6.toInt8.toInt32) := ⟨_, rfl⟩
    refine bastore w X V_b5 (by decide) 0 rfl (Nat.le_of_ble_eq_true rfl) g_b5 at_41 42 rfl e8 he8 (fun T h7 X W V_b5 => ?_)
    have V_b5 : PA Z h7 b5 .byte [e8, (0 : Int32), (0 : Int32), (0 : Int32), (0 : Int32)] := V_b5
    have zn : n0 ≤ h7.size := W.size ▸ zn
    refine aload w X at_42 44 rfl rfl rfl ?_
    refine iconst w X (4 : Int32) at_44 45 rfl rfl ?_
    refine iload w X at_45 47 rfl rfl ?_
    obtain ⟨e10, he10⟩ : ∃ z : Int32, z = (i9_6.toInt8.toInt32) := ⟨_, rfl⟩
    refine bastore w X V_b5 (by decide) 4 rfl (Nat.le_of_ble_eq_true rfl) g_b5 at_47 48 rfl e10 he10 (fun T h9 X W V_b5 => ?_)
    have V_b5 : PA Z h9 b5 .byte [e8, (0 : Int32), (0 : Int32), (0 : Int32), e10] := V_b5
    have zn : n0 ≤ h9.size := W.size ▸ zn
    refine aload w X at_48 50 rfl rfl rfl ?_
    refine iload w X at_50 52 rfl rfl ?_
    refine iloadN w X at_52 53 rfl rfl ?_
    refine i2b w X (v0.toInt8.toInt32) at_53 54 rfl rfl ?_
    obtain ⟨e12, he12⟩ : ∃ z : Int32, z = (v0.toInt8.toInt32) := ⟨_, rfl⟩
    refine bastore w X V_b5 (by decide) 0 rfl (Nat.le_of_ble_eq_true rfl) g_b5 at_54 55 rfl e12 (by rw [he12]; exact (nar_b _).symm) (fun T h11 X W V_b5 => ?_)
    have V_b5 : PA Z h11 b5 .byte [e12, (0 : Int32), (0 : Int32), (0 : Int32), e10] := V_b5
    have zn : n0 ≤ h11.size := W.size ▸ zn
    refine aload w X at_55 57 rfl rfl rfl ?_
    refine iload w X at_57 59 rfl rfl ?_
    refine iconst w X (1 : Int32) at_59 60 rfl rfl ?_
    refine iadd w X (1 : Int32) at_60 61 rfl (by decide) ?_
    refine iloadN w X at_61 62 rfl rfl ?_
    refine i2b w X (v1.toInt8.toInt32) at_62 63 rfl rfl ?_
    obtain ⟨e14, he14⟩ : ∃ z : Int32, z = (v1.toInt8.toInt32) := ⟨_, rfl⟩
    refine bastore w X V_b5 (by decide) 1 rfl (Nat.le_of_ble_eq_true rfl) g_b5 at_63 64 rfl e14 (by rw [he14]; exact (nar_b _).symm) (fun T h13 X W V_b5 => ?_)
    have V_b5 : PA Z h13 b5 .byte [e12, e14, (0 : Int32), (0 : Int32), e10] := V_b5
    have zn : n0 ≤ h13.size := W.size ▸ zn
    refine aload w X at_64 66 rfl rfl rfl ?_
    refine iload w X at_66 68 rfl rfl ?_
    refine iconst w X (2 : Int32) at_68 69 rfl rfl ?_
    refine iadd w X (2 : Int32) at_69 70 rfl (by decide) ?_
    refine iloadN w X at_70 71 rfl rfl ?_
    refine i2b w X (v2.toInt8.toInt32) at_71 72 rfl rfl ?_
    obtain ⟨e16, he16⟩ : ∃ z : Int32, z = (v2.toInt8.toInt32) := ⟨_, rfl⟩
    refine bastore w X V_b5 (by decide) 2 rfl (Nat.le_of_ble_eq_true rfl) g_b5 at_72 73 rfl e16 (by rw [he16]; exact (nar_b _).symm) (fun T h15 X W V_b5 => ?_)
    have V_b5 : PA Z h15 b5 .byte [e12, e14, e16, (0 : Int32), e10] := V_b5
    have zn : n0 ≤ h15.size := W.size ▸ zn
    refine aload w X at_73 75 rfl rfl rfl ?_
    refine iload w X at_75 77 rfl rfl ?_
    refine iconst w X (3 : Int32) at_77 78 rfl rfl ?_
    refine iadd w X (3 : Int32) at_78 79 rfl (by decide) ?_
    refine iloadN w X at_79 80 rfl rfl ?_
    refine i2b w X (v3.toInt8.toInt32) at_80 81 rfl rfl ?_
    obtain ⟨e18, he18⟩ : ∃ z : Int32, z = (v3.toInt8.toInt32) := ⟨_, rfl⟩
    refine bastore w X V_b5 (by decide) 3 rfl (Nat.le_of_ble_eq_true rfl) g_b5 at_81 82 rfl e18 (by rw [he18]; exact (nar_b _).symm) (fun T h17 X W V_b5 => ?_)
    have V_b5 : PA Z h17 b5 .byte [e12, e14, e16, e18, e10] := V_b5
    have zn : n0 ≤ h17.size := W.size ▸ zn
    refine aload w X at_82 84 rfl rfl rfl ?_
    refine iload w X at_84 86 rfl rfl ?_
    refine iload w X at_86 88 rfl rfl ?_
    refine callSPI w X [(.ref b5), (.int (0 : Int32)), (.int i7_3)] (wd1 hw) (wd2 hw) (wd3 hw) (wd4 hw) (by decide) (rm_seq hw b5 (0 : Int32) i7_3 e12 e14 e16 e18 [e12, e14, e16, e18, e10] h17 n0 zn V_b5 (by decide) rfl (lf0_1 v0 v1 v2 v3 v4 i6_2 i7_3 i9_6 e8 e10 e12 e14 e16 e18 hi6_2 hi7_3 hi9_6 he8 he10 he12 he14 he16 he18) rfl rfl rfl rfl) at_88 91 rfl 0 (by decide) (by decide) (lenOf pd2 rfl) rfl (Nat.le_of_eq rfl) rfl (by decide) (by decide) (fun r19 T X hq => ?_)
    have hr19 := hq
    refine istore w X r19 at_91 93 rfl rfl #[.val (.int v0), .val (.int v1), .val (.int v2), .val (.int v3), .val (.int v4), .val (.int (0 : Int32)), .val (.int i6_2), .val (.int i7_3), .val (.ref b5), .val (.int i9_6), .val (.int r19)] rfl ?_
    refine iload w X at_93 95 rfl rfl ?_
    refine iloadN w X at_95 96 rfl rfl ?_
    refine sipush w X (255 : Int32) at_96 99 rfl rfl ?_
    refine iand w X (v0 &&& (255 : Int32)) at_99 100 rfl rfl ?_
    refine iloadN w X at_100 101 rfl rfl ?_
    refine sipush w X (255 : Int32) at_101 104 rfl rfl ?_
    refine iand w X (v1 &&& (255 : Int32)) at_104 105 rfl rfl ?_
    refine iloadN w X at_105 106 rfl rfl ?_
    refine sipush w X (255 : Int32) at_106 109 rfl rfl ?_
    refine iand w X (v2 &&& (255 : Int32)) at_109 110 rfl rfl ?_
    refine iloadN w X at_110 111 rfl rfl ?_
    refine sipush w X (255 : Int32) at_111 114 rfl rfl ?_
    refine iand w X (v3 &&& (255 : Int32)) at_114 115 rfl rfl ?_
    refine iload w X at_115 117 rfl rfl ?_
    refine callSPI w X [(.int (v0 &&& (255 : Int32))), (.int (v1 &&& (255 : Int32))), (.int (v2 &&& (255 : Int32))), (.int (v3 &&& (255 : Int32))), (.int i6_2)] (wd5 hw) (wd6 hw) (wd7 hw) (wd8 hw) (by decide) (rm_exp hw (v0 &&& (255 : Int32)) (v1 &&& (255 : Int32)) (v2 &&& (255 : Int32)) (v3 &&& (255 : Int32)) i6_2 h17 n0 zn (lf0_2 v0) (lf0_3 v1) (lf0_4 v2) (lf0_5 v3) (lf0_6 v4 i6_2 i7_3 hi6_2 hi7_3)) at_117 120 rfl 1 (by decide) (by decide) (lenOf pd3 rfl) rfl (Nat.le_of_eq rfl) rfl (by decide) (by decide) (fun r20 T X hq => ?_)
    have hr20 := hq
    refine icmp_ne w X at_120 127 123 (by decide) (by decide) rfl (fun q => False.elim (by exact q (lf0_7 v0 v1 v2 v3 v4 i6_2 i7_3 i9_6 e8 e10 e12 e14 e16 e18 r19 r20 hi6_2 hi7_3 hi9_6 he8 he10 he12 he14 he16 he18 hr19 hr20))) (fun hc120_21 => ?_)
    refine iconst w X (1 : Int32) at_123 124 rfl rfl ?_
    refine goto w X at_124 128 (by decide) (by decide) ?_
    refine retN w X (t := .boolean) rfl (by simp) at_128 (by decide) (by decide) ?_
    exact ⟨_, rfl, rfl⟩
  ·
    refine iload w X at_6 8 rfl rfl ?_
    refine iconst w X (1 : Int32) at_8 9 rfl rfl ?_
    refine iushr w X ((v4.toUInt32 >>> ((1 : Int32) &&& 31).toUInt32).toInt32) at_9 10 rfl rfl ?_
    refine iconst w X (3 : Int32) at_10 11 rfl rfl ?_
    refine iand w X (((v4.toUInt32 >>> ((1 : Int32) &&& 31).toUInt32).toInt32) &&& (3 : Int32)) at_11 12 rfl rfl ?_
    refine iconst w X (1 : Int32) at_12 13 rfl rfl ?_
    refine iadd w X ((((v4.toUInt32 >>> ((1 : Int32) &&& 31).toUInt32).toInt32) &&& (3 : Int32)) + (1 : Int32)) at_13 14 rfl rfl ?_
    obtain ⟨i6_22, hi6_22⟩ : ∃ z : Int32, z = ((((v4.toUInt32 >>> ((1 : Int32) &&& 31).toUInt32).toInt32) &&& (3 : Int32)) + (1 : Int32)) := ⟨_, rfl⟩
    refine istore w X i6_22 at_14 16 rfl hi6_22 #[.val (.int v0), .val (.int v1), .val (.int v2), .val (.int v3), .val (.int v4), .val (.int (1 : Int32)), .val (.int i6_22), .unset, .unset, .unset, .unset] rfl ?_
    refine iload w X at_16 18 rfl rfl ?_
    refine iload w X at_18 20 rfl rfl ?_
    refine iadd w X ((1 : Int32) + i6_22) at_20 21 rfl rfl ?_
    obtain ⟨i7_23, hi7_23⟩ : ∃ z : Int32, z = ((1 : Int32) + i6_22) := ⟨_, rfl⟩
    refine istore w X i7_23 at_21 23 rfl hi7_23 #[.val (.int v0), .val (.int v1), .val (.int v2), .val (.int v3), .val (.int v4), .val (.int (1 : Int32)), .val (.int i6_22), .val (.int i7_23), .unset, .unset, .unset] rfl ?_
    refine iconst w X (5 : Int32) at_23 24 rfl rfl ?_
    refine newarr (aty := .byte) w X (wd0 hw) at_24 26 rfl (by decide) 5 (by decide) (by decide) (by decide) (by decide) (fun T h24 b25 cA X hnb25 E A => ?_)
    have g_b25 : n0 ≤ b25 := by rw [hnb25]; exact zn
    have zn : n0 ≤ h24.size := Nat.le_trans zn E.1
    have V_b25 : PA Z h24 b25 .byte [(0 : Int32), (0 : Int32), (0 : Int32), (0 : Int32), (0 : Int32)] := PA.new .byte rfl rfl 5 A (by decide)
    refine astore w X at_26 28 rfl rfl #[.val (.int v0), .val (.int v1), .val (.int v2), .val (.int v3), .val (.int v4), .val (.int (1 : Int32)), .val (.int i6_22), .val (.int i7_23), .val (.ref b25), .unset, .unset] rfl ?_
    refine iload w X at_28 30 rfl rfl ?_
    refine bipush w X (8 : Int32) at_30 32 rfl rfl ?_
    refine iushr w X ((v4.toUInt32 >>> ((8 : Int32) &&& 31).toUInt32).toInt32) at_32 33 rfl rfl ?_
    refine i2b w X (((v4.toUInt32 >>> ((8 : Int32) &&& 31).toUInt32).toInt32).toInt8.toInt32) at_33 34 rfl rfl ?_
    obtain ⟨i9_26, hi9_26⟩ : ∃ z : Int32, z = (((v4.toUInt32 >>> ((8 : Int32) &&& 31).toUInt32).toInt32).toInt8.toInt32) := ⟨_, rfl⟩
    refine istore w X i9_26 at_34 36 rfl hi9_26 #[.val (.int v0), .val (.int v1), .val (.int v2), .val (.int v3), .val (.int v4), .val (.int (1 : Int32)), .val (.int i6_22), .val (.int i7_23), .val (.ref b25), .val (.int i9_26), .unset] rfl ?_
    refine aload w X at_36 38 rfl rfl rfl ?_
    refine iconst w X (0 : Int32) at_38 39 rfl rfl ?_
    refine iload w X at_39 41 rfl rfl ?_
    obtain ⟨e28, he28⟩ : ∃ z : Int32, z = (i9_26.toInt8.toInt32) := ⟨_, rfl⟩
    refine bastore w X V_b25 (by decide) 0 rfl (Nat.le_of_ble_eq_true rfl) g_b25 at_41 42 rfl e28 he28 (fun T h27 X W V_b25 => ?_)
    have V_b25 : PA Z h27 b25 .byte [e28, (0 : Int32), (0 : Int32), (0 : Int32), (0 : Int32)] := V_b25
    have zn : n0 ≤ h27.size := W.size ▸ zn
    refine aload w X at_42 44 rfl rfl rfl ?_
    refine iconst w X (4 : Int32) at_44 45 rfl rfl ?_
    refine iload w X at_45 47 rfl rfl ?_
    obtain ⟨e30, he30⟩ : ∃ z : Int32, z = (i9_26.toInt8.toInt32) := ⟨_, rfl⟩
    refine bastore w X V_b25 (by decide) 4 rfl (Nat.le_of_ble_eq_true rfl) g_b25 at_47 48 rfl e30 he30 (fun T h29 X W V_b25 => ?_)
    have V_b25 : PA Z h29 b25 .byte [e28, (0 : Int32), (0 : Int32), (0 : Int32), e30] := V_b25
    have zn : n0 ≤ h29.size := W.size ▸ zn
    refine aload w X at_48 50 rfl rfl rfl ?_
    refine iload w X at_50 52 rfl rfl ?_
    refine iloadN w X at_52 53 rfl rfl ?_
    refine i2b w X (v0.toInt8.toInt32) at_53 54 rfl rfl ?_
    obtain ⟨e32, he32⟩ : ∃ z : Int32, z = (v0.toInt8.toInt32) := ⟨_, rfl⟩
    refine bastore w X V_b25 (by decide) 1 rfl (Nat.le_of_ble_eq_true rfl) g_b25 at_54 55 rfl e32 (by rw [he32]; exact (nar_b _).symm) (fun T h31 X W V_b25 => ?_)
    have V_b25 : PA Z h31 b25 .byte [e28, e32, (0 : Int32), (0 : Int32), e30] := V_b25
    have zn : n0 ≤ h31.size := W.size ▸ zn
    refine aload w X at_55 57 rfl rfl rfl ?_
    refine iload w X at_57 59 rfl rfl ?_
    refine iconst w X (1 : Int32) at_59 60 rfl rfl ?_
    refine iadd w X (2 : Int32) at_60 61 rfl (by decide) ?_
    refine iloadN w X at_61 62 rfl rfl ?_
    refine i2b w X (v1.toInt8.toInt32) at_62 63 rfl rfl ?_
    obtain ⟨e34, he34⟩ : ∃ z : Int32, z = (v1.toInt8.toInt32) := ⟨_, rfl⟩
    refine bastore w X V_b25 (by decide) 2 rfl (Nat.le_of_ble_eq_true rfl) g_b25 at_63 64 rfl e34 (by rw [he34]; exact (nar_b _).symm) (fun T h33 X W V_b25 => ?_)
    have V_b25 : PA Z h33 b25 .byte [e28, e32, e34, (0 : Int32), e30] := V_b25
    have zn : n0 ≤ h33.size := W.size ▸ zn
    refine aload w X at_64 66 rfl rfl rfl ?_
    refine iload w X at_66 68 rfl rfl ?_
    refine iconst w X (2 : Int32) at_68 69 rfl rfl ?_
    refine iadd w X (3 : Int32) at_69 70 rfl (by decide) ?_
    refine iloadN w X at_70 71 rfl rfl ?_
    refine i2b w X (v2.toInt8.toInt32) at_71 72 rfl rfl ?_
    obtain ⟨e36, he36⟩ : ∃ z : Int32, z = (v2.toInt8.toInt32) := ⟨_, rfl⟩
    refine bastore w X V_b25 (by decide) 3 rfl (Nat.le_of_ble_eq_true rfl) g_b25 at_72 73 rfl e36 (by rw [he36]; exact (nar_b _).symm) (fun T h35 X W V_b25 => ?_)
    have V_b25 : PA Z h35 b25 .byte [e28, e32, e34, e36, e30] := V_b25
    have zn : n0 ≤ h35.size := W.size ▸ zn
    refine aload w X at_73 75 rfl rfl rfl ?_
    refine iload w X at_75 77 rfl rfl ?_
    refine iconst w X (3 : Int32) at_77 78 rfl rfl ?_
    refine iadd w X (4 : Int32) at_78 79 rfl (by decide) ?_
    refine iloadN w X at_79 80 rfl rfl ?_
    refine i2b w X (v3.toInt8.toInt32) at_80 81 rfl rfl ?_
    obtain ⟨e38, he38⟩ : ∃ z : Int32, z = (v3.toInt8.toInt32) := ⟨_, rfl⟩
    refine bastore w X V_b25 (by decide) 4 rfl (Nat.le_of_ble_eq_true rfl) g_b25 at_81 82 rfl e38 (by rw [he38]; exact (nar_b _).symm) (fun T h37 X W V_b25 => ?_)
    have V_b25 : PA Z h37 b25 .byte [e28, e32, e34, e36, e38] := V_b25
    have zn : n0 ≤ h37.size := W.size ▸ zn
    refine aload w X at_82 84 rfl rfl rfl ?_
    refine iload w X at_84 86 rfl rfl ?_
    refine iload w X at_86 88 rfl rfl ?_
    refine callSPI w X [(.ref b25), (.int (1 : Int32)), (.int i7_23)] (wd1 hw) (wd2 hw) (wd3 hw) (wd4 hw) (by decide) (rm_seq hw b25 (1 : Int32) i7_23 e32 e34 e36 e38 [e28, e32, e34, e36, e38] h37 n0 zn V_b25 (by decide) rfl (lf0_8 v0 v1 v2 v3 v4 i6_22 i7_23 i9_26 e28 e30 e32 e34 e36 e38 hi6_22 hi7_23 hi9_26 he28 he30 he32 he34 he36 he38) rfl rfl rfl rfl) at_88 91 rfl 0 (by decide) (by decide) (lenOf pd2 rfl) rfl (Nat.le_of_eq rfl) rfl (by decide) (by decide) (fun r39 T X hq => ?_)
    have hr39 := hq
    refine istore w X r39 at_91 93 rfl rfl #[.val (.int v0), .val (.int v1), .val (.int v2), .val (.int v3), .val (.int v4), .val (.int (1 : Int32)), .val (.int i6_22), .val (.int i7_23), .val (.ref b25), .val (.int i9_26), .val (.int r39)] rfl ?_
    refine iload w X at_93 95 rfl rfl ?_
    refine iloadN w X at_95 96 rfl rfl ?_
    refine sipush w X (255 : Int32) at_96 99 rfl rfl ?_
    refine iand w X (v0 &&& (255 : Int32)) at_99 100 rfl rfl ?_
    refine iloadN w X at_100 101 rfl rfl ?_
    refine sipush w X (255 : Int32) at_101 104 rfl rfl ?_
    refine iand w X (v1 &&& (255 : Int32)) at_104 105 rfl rfl ?_
    refine iloadN w X at_105 106 rfl rfl ?_
    refine sipush w X (255 : Int32) at_106 109 rfl rfl ?_
    refine iand w X (v2 &&& (255 : Int32)) at_109 110 rfl rfl ?_
    refine iloadN w X at_110 111 rfl rfl ?_
    refine sipush w X (255 : Int32) at_111 114 rfl rfl ?_
    refine iand w X (v3 &&& (255 : Int32)) at_114 115 rfl rfl ?_
    refine iload w X at_115 117 rfl rfl ?_
    refine callSPI w X [(.int (v0 &&& (255 : Int32))), (.int (v1 &&& (255 : Int32))), (.int (v2 &&& (255 : Int32))), (.int (v3 &&& (255 : Int32))), (.int i6_22)] (wd5 hw) (wd6 hw) (wd7 hw) (wd8 hw) (by decide) (rm_exp hw (v0 &&& (255 : Int32)) (v1 &&& (255 : Int32)) (v2 &&& (255 : Int32)) (v3 &&& (255 : Int32)) i6_22 h37 n0 zn (lf0_9 v0) (lf0_10 v1) (lf0_11 v2) (lf0_12 v3) (lf0_13 v4 i6_22 i7_23 hi6_22 hi7_23)) at_117 120 rfl 1 (by decide) (by decide) (lenOf pd3 rfl) rfl (Nat.le_of_eq rfl) rfl (by decide) (by decide) (fun r40 T X hq => ?_)
    have hr40 := hq
    refine icmp_ne w X at_120 127 123 (by decide) (by decide) rfl (fun q => False.elim (by exact q (lf0_14 v0 v1 v2 v3 v4 i6_22 i7_23 i9_26 e28 e30 e32 e34 e36 e38 r39 r40 hi6_22 hi7_23 hi9_26 he28 he30 he32 he34 he36 he38 hr39 hr40))) (fun hc120_41 => ?_)
    refine iconst w X (1 : Int32) at_123 124 rfl rfl ?_
    refine goto w X at_124 128 (by decide) (by decide) ?_
    refine retN w X (t := .boolean) rfl (by simp) at_128 (by decide) (by decide) ?_
    exact ⟨_, rfl, rfl⟩
set_option maxRecDepth 65536 in
set_option maxHeartbeats 40000000 in
theorem comes_1 {Post : Tables → Env → Array Value → State → Outcome → State → Prop} (hpost : ∀ tb e args s v u, (limb_1_1.after args s (.returned v) u = true ∧ limb_1_2.after args s (.returned v) u = true ∧ True) → FrameEnd s (.returned v) u (Jvm.fieldLocs frame_1_writes args s ++ Jvm.arrayLocs frame_1_arrays args s ++ Jvm.staticLocs frame_1_statics s) 16 128 → Post tb e args s (.returned v) u) :
    ArmFor flags0 classFile x code maxLocals ret World_1 tables_1 room_1 Calls_1 rest_1 Pre_1 Post := by
  intro l hfl _ _ p e ha hc hk s m args below hf hA hF happ hP
  obtain ⟨hcalls, hrest, hpre⟩ := hP
  obtain ⟨-, -, -, hnamed, -, -, -, hat⟩ := (Spec.applies_iff hf).mp happ
  obtain ⟨hg, hn⟩ := and_e (Cond.before_iff.mp (show (Jvm.Cond.and given_1 narrow_1).before args s = true from hpre))
  obtain ⟨g1, g2⟩ := and_e hg
  obtain ⟨g3, g4⟩ := and_e g2
  obtain ⟨g5, g6⟩ := and_e g4
  obtain ⟨g7, g8⟩ := and_e g6
  obtain ⟨g9, g10⟩ := and_e g8
  obtain ⟨w0, w1, w2, w3, w4, rfl⟩ : ∃ w0 w1 w2 w3 w4 : Value, args = #[w0, w1, w2, w3, w4] := by
    have hs : args.size = 5 := by simpa [Cond.value, given_1] using g1
    obtain ⟨L⟩ := args
    match L, hs with
    | [w0, w1, w2, w3, w4], _ => exact ⟨w0, w1, w2, w3, w4, rfl⟩
  have hw := fun d (hd : d ∈ tables_1) => atoms_spec (ws := Jvm.Cond.code x code maxLocals ret :: tables_1) hat d (List.mem_cons_of_mem _ hd)
  obtain ⟨i0, ei0⟩ := is_v g3
  obtain rfl : w0 = (.int i0) := Option.some.inj ei0
  obtain ⟨i1, ei1⟩ := is_v g5
  obtain rfl : w1 = (.int i1) := Option.some.inj ei1
  obtain ⟨i2, ei2⟩ := is_v g7
  obtain rfl : w2 = (.int i2) := Option.some.inj ei2
  obtain ⟨i3, ei3⟩ := is_v g9
  obtain rfl : w3 = (.int i3) := Option.some.inj ei3
  obtain ⟨i4, ei4⟩ := is_v g10
  obtain rfl : w4 = (.int i4) := Option.some.inj ei4
  obtain ⟨n, o, h1, h2, h3, _, L, rfl, ⟨⟨_, rfl, rfl⟩, N⟩, hq⟩ := rm_law (l := l) hw i0 i1 i2 i3 i4 s.heap s.heap.size (Nat.le_refl _) p e ha hc hk s m _ below hf ((Spec.applies_iff_loose hf).mp happ).1 ⟨rfl, State.Warmed39.refl s, rfl⟩ trivial
  refine ⟨n, _, h1, h2, h3, hpost _ _ _ _ _ _ ⟨Cond.after_iff.mpr rfl, Cond.after_iff.mpr (eq_i res_at (Term.int_eval (1)) rfl), trivial⟩ ⟨hq.1, hq.2.1, (hq.2.2.sift fun y hy => Or.inr (N y hy)).mono (by decide) (by decide)⟩⟩
theorem main_1_1 : Claimed_1_1 := comes_1 fun _ _ _ _ _ _ h hF => ⟨h.1, hF⟩
theorem main_1_2 : Claimed_1_2 := comes_1 fun _ _ _ _ _ _ h hF => ⟨h.2.1, hF⟩
end Jvm.Pilot.@@N@@
namespace Jvm.Pilot.@@N@@
open Jvm Jvm.ClassFile Sem Op Lib Jvm.Free Jvm.Stand Jvm.Pilot.@@N@@.Jvm.D
/-! MADE BY PROGRAM (witnessworld.py) out of the Statement's table words and the real class files: 9 classes; the members and pool entries that the words name. The judged class is class 1, her method 1. -/
namespace start1
open Jvm.ClassFile
def u (s : String) : CpInfo := .utf8 (stringToUtf16 s)
/-- a pool by its gaps: so many unusable entries, then the entry; so many at the end -/
def gap : Nat → List CpInfo → List CpInfo
  | 0, r => r
  | n + 1, r => .unusable :: gap n r
def poolList (es : List (Nat × CpInfo)) (last : Nat) : List CpInfo := es.foldr (fun e r => gap e.1 (e.2 :: r)) (gap last [])
def pool (es : List (Nat × CpInfo)) (last : Nat) : Array CpInfo := ⟨poolList es last⟩
def fileOf (pool : Array CpInfo) (this : Nat) (attrs : Array Attribute := #[]) (ms : Array MethodInfo := #[]) (fl : Nat := 33) (sup : Nat := 0) (ifs : Array Nat := #[]) (fds : Array FieldInfo := #[]) : ClassFile where
  minorVersion := 0
  majorVersion := 65
  constantPool := pool
  accessFlags := fl
  thisClass := this
  superClass := sup
  interfaces := ifs
  fields := fds
  methods := ms
  attributes := attrs
def plain (name : String) (sup : Option ClassId) : Class where
  name := name
  kind := .ordinary
  loader := none
  accessFlags := 33
  super := sup
  interfaces := #[]
  cf := none
  fields := #[]
  methods := #[]
  instanceTypes := #[]
  staticTypes := #[]
  resolved := #[]
  callSites := []
  init := .initialized
  statics := none
  mirror := none

def pool0 : Array CpInfo := pool [(5, u "<init>"), (0, u "()V"), (1, .class_ 10), (1, u "java/lang/Object")] 113

def k0m0 : Method := { name := "<init>", desc := "()V", sig := { parameters := [], returnType := none }, accessFlags := 1, code := none }
/-- java/lang/Object -/
def k0 : Class := { plain "java/lang/Object" none with
  accessFlags := 33
  interfaces := #[]
  cf := some (fileOf pool0 8 #[] #[{ accessFlags := 1, nameIndex := 5, descriptorIndex := 6, attributes := #[] }] 33 0 #[] #[])
  fields := #[]
  methods := #[k0m0]
  instanceTypes := #[]
  staticTypes := #[]
  resolved := Array.replicate 124 none
  statics := none }

def pool1 : Array CpInfo := pool [(2, .class_ 4), (1, u "java/lang/Object"), (0, u "<init>"), (0, u "()V"), (0, .methodref 8 9), (0, .class_ 10), (0, .nameAndType 11 12), (0, u "com/example/homeward/homeward/server/Utf8"), (0, u "sequenceLength"), (0, u "([BII)I"), (0, .methodref 14 15), (0, .class_ 16), (0, .nameAndType 17 18), (0, u "com/example/homeward/homeward/server/Utf8SequenceLengthPinLaw"), (0, u "expected"), (0, u "(IIIII)I"), (0, .methodref 14 20), (0, .nameAndType 21 22), (0, u "cont"), (0, u "(I)Z"), (0, .integer 65536), (0, .integer 1114111), (0, .integer 55296), (0, .integer 57343), (2, u "law"), (0, u "(IIIII)Z")] 5

def k1m0 : Method := { name := "<init>", desc := "()V", sig := { parameters := [], returnType := none }, accessFlags := 1, code := none }
def k1c1 : Code := { maxStack := 6, maxLocals := 11, code := code, exceptionTable := #[], attributes := #[] }
def k1m1 : Method := { name := "law", desc := "(IIIII)Z", sig := { parameters := [.int, .int, .int, .int, .int], returnType := some .boolean }, accessFlags := 9, code := some k1c1 }
def k1c2 : Code := { maxStack := 2, maxLocals := 1, code := method_3_code, exceptionTable := #[], attributes := #[] }
def k1m2 : Method := { name := "cont", desc := "(I)Z", sig := { parameters := [.int], returnType := some .boolean }, accessFlags := 10, code := some k1c2 }
def k1c3 : Code := { maxStack := 3, maxLocals := 8, code := method_4_code, exceptionTable := #[], attributes := #[] }
def k1m3 : Method := { name := "expected", desc := "(IIIII)I", sig := { parameters := [.int, .int, .int, .int, .int], returnType := some .int }, accessFlags := 10, code := some k1c3 }
/-- com/example/homeward/homeward/server/Utf8SequenceLengthPinLaw -/
def k1 : Class := { plain "com/example/homeward/homeward/server/Utf8SequenceLengthPinLaw" (some 0) with
  accessFlags := 49
  interfaces := #[]
  cf := some (fileOf pool1 14 #[] #[{ accessFlags := 1, nameIndex := 5, descriptorIndex := 6, attributes := #[] }, { accessFlags := 9, nameIndex := 29, descriptorIndex := 30, attributes := #[] }, { accessFlags := 10, nameIndex := 21, descriptorIndex := 22, attributes := #[] }, { accessFlags := 10, nameIndex := 17, descriptorIndex := 18, attributes := #[] }] 49 2 #[] #[])
  fields := #[]
  methods := #[k1m0, k1m1, k1m2, k1m3]
  instanceTypes := #[]
  staticTypes := #[]
  resolved := Array.replicate 36 none
  statics := none }

def pool2 : Array CpInfo := pool [(2, .class_ 4), (1, u "java/lang/Object"), (0, u "<init>"), (0, u "()V"), (1, .class_ 10), (1, u "com/example/homeward/homeward/server/Utf8"), (0, u "sequenceLength"), (0, u "([BII)I"), (0, .methodref 8 14), (0, .nameAndType 15 16), (0, u "isContinuation"), (0, u "(B)Z"), (12, u "SHORTEST"), (0, u "[I")] 84

def k2m0 : Method := { name := "<init>", desc := "()V", sig := { parameters := [], returnType := none }, accessFlags := 2, code := none }
def k2c1 : Code := { maxStack := 3, maxLocals := 9, code := prog_52_method_3_code, exceptionTable := #[], attributes := #[] }
def k2m1 : Method := { name := "sequenceLength", desc := "([BII)I", sig := { parameters := [(.array .byte), .int, .int], returnType := some .int }, accessFlags := 8, code := some k2c1 }
def k2c2 : Code := { maxStack := 2, maxLocals := 1, code := prog_52_method_7_code, exceptionTable := #[], attributes := #[] }
def k2m2 : Method := { name := "isContinuation", desc := "(B)Z", sig := { parameters := [.byte], returnType := some .boolean }, accessFlags := 10, code := some k2c2 }
/-- com/example/homeward/homeward/server/Utf8 -/
def k2 : Class := { plain "com/example/homeward/homeward/server/Utf8" (some 0) with
  accessFlags := 48
  interfaces := #[]
  cf := some (fileOf pool2 8 #[] #[{ accessFlags := 2, nameIndex := 5, descriptorIndex := 6, attributes := #[] }, { accessFlags := 8, nameIndex := 11, descriptorIndex := 12, attributes := #[] }, { accessFlags := 10, nameIndex := 15, descriptorIndex := 16, attributes := #[] }] 48 2 #[] #[{ accessFlags := 26, nameIndex := 29, descriptorIndex := 30, attributes := #[] }])
  fields := #[{ name := "SHORTEST", type := (.array .int), accessFlags := 26, slot := 0, constantValue := 0 }]
  methods := #[k2m0, k2m1, k2m2]
  instanceTypes := #[]
  staticTypes := #[(.array .int)]
  resolved := Array.replicate 115 none
  statics := none }

def pool3 : Array CpInfo := pool [(1, u "java/lang/Cloneable"), (0, .class_ 1), (0, u "java/lang/Object"), (0, .class_ 3)] 3

/-- java/lang/Cloneable -/
def k3 : Class := { plain "java/lang/Cloneable" (some 0) with
  accessFlags := 1537
  interfaces := #[]
  cf := some (fileOf pool3 2 #[] #[] 1537 4 #[] #[])
  fields := #[]
  methods := #[]
  instanceTypes := #[]
  staticTypes := #[]
  resolved := Array.replicate 8 none
  statics := none }

def pool4 : Array CpInfo := pool [(1, u "java/io/Serializable"), (0, .class_ 1), (0, u "java/lang/Object"), (0, .class_ 3)] 3

/-- java/io/Serializable -/
def k4 : Class := { plain "java/io/Serializable" (some 0) with
  accessFlags := 1537
  interfaces := #[]
  cf := some (fileOf pool4 2 #[] #[] 1537 4 #[] #[])
  fields := #[]
  methods := #[]
  instanceTypes := #[]
  staticTypes := #[]
  resolved := Array.replicate 8 none
  statics := none }

/-- the primitive byte -/
def k5 : Class := { plain "byte" none with kind := .primitive 'B', accessFlags := 0x411 }
/-- [B -/
def k6 : Class := { plain "[B" (some 0) with kind := .array 5 .byte, interfaces := #[3, 4], accessFlags := 1041 }

/-- the primitive int -/
def k7 : Class := { plain "int" none with kind := .primitive 'I', accessFlags := 0x411 }
/-- [I -/
def k8 : Class := { plain "[I" (some 0) with kind := .array 7 .int, interfaces := #[3, 4], accessFlags := 1041 }

def heap : Heap := #[]
def classes : Array Class := #[k0, k1, k2, k3, k4, k5, k6, k7, k8]
def interned : List (Array UInt16 × Addr) := []
def slotsUsed : Nat := 0
def theMethod : MethodId := ⟨1, 1⟩
def args0 : Array Value := #[.int 5, .int 6, .int 7, .int 8, .int 9]
def aboutOver (below : List Frame) : State where
  vm := { classes := classes, interned := interned.toArray }
  heap := heap
  slotsUsed := slotsUsed
  threads := #[{ frames := .invoking theMethod args0 :: below }]
def below0 : List Frame := [.native { method := ⟨0, 0⟩, args := #[] }]
def about1 : State := aboutOver below0
def p0 : Program := .bare "" "" ""
def e0 : Env := launch0.env 0 0 0
theorem w_frames : about1.frames = Frame.invoking theMethod args0 :: below0 := rfl
set_option maxRecDepth 65536 in
theorem w_args : argsFit about1.vm theMethod args0 = true := by decide +kernel
set_option maxRecDepth 65536 in
theorem w_heap : heapFits about1 = true := by decide +kernel
set_option maxRecDepth 65536 in
theorem w_runnable : about1.curStatus? = some .runnable := by decide +kernel
set_option maxRecDepth 65536 in
theorem w_alone : about1.alone = true := by decide +kernel
set_option maxRecDepth 65536 in
theorem w_named : about1.methodNamed? x = some theMethod := by decide +kernel
set_option maxRecDepth 65536 in
theorem w_hears : about1.hears theMethod below0 = true := by decide +kernel
set_option maxRecDepth 65536 in
theorem w_ripe : about1.ripe theMethod args0 below0 = true := by decide +kernel
theorem w_running : about1.status = .running := rfl
set_option maxRecDepth 65536 in
theorem w_room : about1.hasRoom e0.platform room_1 = true :=
  launch0.hasRoom_least _ room_1 (by decide +kernel) (by decide +kernel) (by decide +kernel) (by decide +kernel) (by decide +kernel) (by decide +kernel)
theorem allAtoms_all (ts : List Jvm.Cond) (a : Array Jvm.Value) (st : Jvm.State) : (allAtoms ts).before a st = ts.all (fun c => c.before a st) := by
  induction ts with
  | nil => rfl
  | cons c t ih =>
    show (Jvm.Cond.and c (allAtoms t)).before a st = _
    rw [Jvm.Cond.before_and, ih, List.all_cons]
def words1 : List Jvm.Cond := Jvm.Cond.code x code maxLocals ret :: tables_1
/-- a 'code' word, met by the world's own term for the bytes: nothing is compared byte by byte -/
theorem code_word {y : MethodName} {bytes : ByteArray} {mx : Nat} {rt : Option FieldType} {a : Array Value} {s : State} {m : MethodId} {meth : Method} {c : Code} (h1 : s.methodNamed? y = some m) (h2 : s.vm.method? m = some meth) (h3 : meth.code = some c) (h4 : c.code = bytes)
    (h5 : (c.maxLocals == mx && c.exceptionTable.isEmpty && decide (c.maxStack ≤ mostOperands) && decide (meth.sig.returnType = rt) && !meth.locks && decide (parseMethodDescriptor y.desc = some meth.sig)) = true) : (Jvm.Cond.code y bytes mx rt).before a s = true := by
  simp only [Bool.and_eq_true, beq_iff_eq, Bool.not_eq_true', decide_eq_true_eq] at h5
  obtain ⟨⟨⟨⟨⟨g1, g2⟩, g3⟩, g4⟩, g5⟩, g6⟩ := h5
  simp [Cond.before, Cond.holds, Cond.value, h1, h2, h3, h4, g1, g2, g3, g4, g5, g6]
def isCode : Jvm.Cond → Bool
  | .code _ _ _ _ => true
  | _ => false
theorem all_split {L : List Jvm.Cond} {P : Jvm.Cond → Bool} (h1 : L.all (fun c => isCode c || P c) = true) (h2 : ∀ c ∈ L.filter isCode, P c = true) : L.all P = true := by
  refine List.all_eq_true.mpr fun c hc => ?_
  have h := List.all_eq_true.mp h1 c hc
  rcases Bool.eq_false_or_eq_true (isCode c) with hi | hi
  · exact h2 c (List.mem_filter.mpr ⟨hc, hi⟩)
  · simpa [hi] using h
set_option maxRecDepth 65536 in
theorem w_c0 : (Jvm.Cond.code x code maxLocals ret).before args0 about1 = true := code_word (m := ⟨1, 1⟩) (meth := k1m1) (c := k1c1) (by decide +kernel) rfl rfl rfl (by decide +kernel)
set_option maxRecDepth 65536 in
theorem w_c1 : (Jvm.Cond.code ({ cls := "com/example/homeward/homeward/server/Utf8", name := "sequenceLength", desc := "([BII)I" } : Jvm.MethodName) prog_52_method_3_code (9 : Nat) (Option.some Jvm.ClassFile.FieldType.int)).before args0 about1 = true := code_word (m := ⟨2, 1⟩) (meth := k2m1) (c := k2c1) (by decide +kernel) rfl rfl rfl (by decide +kernel)
set_option maxRecDepth 65536 in
theorem w_c2 : (Jvm.Cond.code ({ cls := "com/example/homeward/homeward/server/Utf8SequenceLengthPinLaw", name := "expected", desc := "(IIIII)I" } : Jvm.MethodName) method_4_code (8 : Nat) (Option.some Jvm.ClassFile.FieldType.int)).before args0 about1 = true := code_word (m := ⟨1, 3⟩) (meth := k1m3) (c := k1c3) (by decide +kernel) rfl rfl rfl (by decide +kernel)
set_option maxRecDepth 65536 in
theorem w_c3 : (Jvm.Cond.code ({ cls := "com/example/homeward/homeward/server/Utf8SequenceLengthPinLaw", name := "cont", desc := "(I)Z" } : Jvm.MethodName) method_3_code (1 : Nat) (Option.some Jvm.ClassFile.FieldType.boolean)).before args0 about1 = true := code_word (m := ⟨1, 2⟩) (meth := k1m2) (c := k1c2) (by decide +kernel) rfl rfl rfl (by decide +kernel)
set_option maxRecDepth 65536 in
theorem w_c4 : (Jvm.Cond.code ({ cls := "com/example/homeward/homeward/server/Utf8", name := "isContinuation", desc := "(B)Z" } : Jvm.MethodName) prog_52_method_7_code (1 : Nat) (Option.some Jvm.ClassFile.FieldType.boolean)).before args0 about1 = true := code_word (m := ⟨2, 2⟩) (meth := k2m2) (c := k2c2) (by decide +kernel) rfl rfl rfl (by decide +kernel)
def codes1 : List Jvm.Cond := [Jvm.Cond.code x code maxLocals ret, Jvm.Cond.code ({ cls := "com/example/homeward/homeward/server/Utf8", name := "sequenceLength", desc := "([BII)I" } : Jvm.MethodName) prog_52_method_3_code (9 : Nat) (Option.some Jvm.ClassFile.FieldType.int), Jvm.Cond.code ({ cls := "com/example/homeward/homeward/server/Utf8SequenceLengthPinLaw", name := "expected", desc := "(IIIII)I" } : Jvm.MethodName) method_4_code (8 : Nat) (Option.some Jvm.ClassFile.FieldType.int), Jvm.Cond.code ({ cls := "com/example/homeward/homeward/server/Utf8SequenceLengthPinLaw", name := "cont", desc := "(I)Z" } : Jvm.MethodName) method_3_code (1 : Nat) (Option.some Jvm.ClassFile.FieldType.boolean), Jvm.Cond.code ({ cls := "com/example/homeward/homeward/server/Utf8", name := "isContinuation", desc := "(B)Z" } : Jvm.MethodName) prog_52_method_7_code (1 : Nat) (Option.some Jvm.ClassFile.FieldType.boolean)]
set_option maxRecDepth 65536 in
theorem codes_eq : words1.filter isCode = codes1 := rfl
theorem w_codes : ∀ c ∈ words1.filter isCode, c.before args0 about1 = true := by
  rw [codes_eq]
  intro c hc
  simp only [codes1, List.mem_cons, List.not_mem_nil, or_false] at hc
  rcases hc with rfl | rfl | rfl | rfl | rfl
  · exact w_c0
  · exact w_c1
  · exact w_c2
  · exact w_c3
  · exact w_c4
set_option maxRecDepth 65536 in
theorem w_t1 : words1.all (fun c => isCode c || c.before args0 about1) = true := by decide +kernel
theorem w_tables : (allAtoms (Jvm.Cond.code x code maxLocals ret :: tables_1)).before args0 about1 = true := by
  rw [allAtoms_all]
  show words1.all (fun c => c.before args0 about1) = true
  refine all_split ?_ w_codes
  rw [w_t1]
set_option maxRecDepth 65536 in
theorem w_case : (Jvm.Cond.and given_1 narrow_1).before args0 about1 = true := by decide +kernel
theorem w_applies : (headSpec (Jvm.Cond.code x code maxLocals ret :: tables_1) room_1).applies x e0.platform about1 = true :=
  (Spec.applies_iff w_frames).mpr ⟨w_running, w_runnable, w_alone, w_named, w_hears, w_ripe, w_room, w_tables⟩
theorem atStart : AtStart classFile x code maxLocals ret World_1 tables_1 room_1 Calls_1 rest_1 Pre_1 launch0 p0 e0 about1 theMethod args0 below0 :=
  ⟨lists_1, trivial, launch0.admits_env _ _ _, launch0.least_env, fairChoices_fair.cas, fairChoices_fair.clock, w_frames, w_args, w_heap, w_applies, trivial, trivial, w_case⟩
end start1
theorem witness_1 : WitnessClaimed_1 := ⟨start1.p0, start1.e0, start1.about1, start1.theMethod, start1.args0, start1.below0, start1.atStart⟩
end Jvm.Pilot.@@N@@
