import JvmDerived
import JvmDerived.Pilot.@@N@@Statement
import JvmDerived.Pilot.@@N@@Code
set_option linter.unusedVariables false
set_option linter.unusedSimpArgs false
namespace Jvm.Own
open Jvm Jvm.ClassFile Sem Op Lib Jvm.Free Jvm.Stand Jvm.LawKit Jvm.RoadKit
/-- where the run stands: nothing older than n0 is written, the heap is h -/
def Sd (p : Program) (l : Launch) (e : Env) (R : Room) (s : State) (m : MethodId) (args : Array Value) (below : List Frame) (meth : Method) (c : Code) (n0 : Nat) (T : State) (h : Heap) (cells slots : Nat) : Prop :=
  ∃ locs, Stand p l e R s m args below meth c T locs cells slots ∧ Fr n0 locs ∧ T.heap = h
/-- what a walk knows throughout -/
def Wk (p : Program) (l : Launch) (e : Env) (R : Room) (s : State) (m : MethodId) (args : Array Value) (below : List Frame) (meth : Method) (c : Code) (n0 : Nat) (Z : State) (own nm : String) (bc : ByteArray) (ml : Nat) (rt : Option FieldType) (Q : Option Value → Heap → Prop) (G : State → Prop) : Prop :=
  (∀ S S' : State, (∀ t, Steps p.tables e below S' t → Steps p.tables e below S t) → G S' → G S) ∧
  p.tables.exec = Jvm.exec ∧ c.code = bc ∧ c.maxLocals = ml ∧ Z.Warmed39 s.vm ∧ s.vm.findClass own = some m.cls ∧ meth.sig.returnType = rt ∧ meth.name = nm ∧
  (∀ (T : State) (h : Heap) (cells slots : Nat) (v : Option Value), Sd p l e R s m args below meth c n0 T h cells slots → cells ≤ R.cells → slots ≤ R.slots → (meth.sig.returnType = none → v = none) → Q v h →
    ∀ S : State, (∀ fs : List Frame, (∀ (f : JFrame) (acts : List Action), f.method = m → f.locked = none → f.entered = [] → (doReturn e (T.setTop f) acts v).1 = T.setFrames fs) → Steps p.tables e below S (T.setFrames fs)) → G S)
/-- a body's contract -/
abbrev Met (l : Launch) (Z : State) (x : MethodName) (bc : ByteArray) (ml : Nat) (rt : Option FieldType) (ws : List Jvm.Cond) (rm : Room) (av : Array Value) (h : Heap) (n0 : Nat) (Q : Option Value → Heap → Prop) : Prop :=
  MetFree l x (head1 (Jvm.Cond.code x bc ml rt :: ws) rm) (fun a U => a = av ∧ Z.Warmed39 U.vm ∧ U.heap = h) (fun _ _ _ _ _ => True) (fun _ U o U' => ∃ v L, o = .returned v ∧ (Q v U'.heap ∧ Fr n0 L) ∧ FrameEnd U o U' L rm.cells rm.slots)
def RI (P : Int32 → Heap → Prop) (v : Option Value) (h : Heap) : Prop := ∃ r, v = some (.int r) ∧ P r h
def RJ (P : Int64 → Heap → Prop) (v : Option Value) (h : Heap) : Prop := ∃ r, v = some (.long r) ∧ P r h
def RR (P : Value → Heap → Prop) (v : Option Value) (h : Heap) : Prop := ∃ r, v = some r ∧ P r h
def RV (P : Heap → Prop) (v : Option Value) (h : Heap) : Prop := v = none ∧ P h
section Law
variable {p : Program} {l : Launch} {e : Env} {R : Room} {s : State} {m : MethodId} {args : Array Value} {below : List Frame} {meth : Method} {c : Code} {n0 : Nat} {T : State} {h : Heap} {cells slots : Nat} {Z : State} {a0 : Array Value} {own nm : String} {bc : ByteArray} {ml : Nat} {rt : Option FieldType} {Q : Option Value → Heap → Prop} {G : State → Prop}
variable {pc : Nat} {ls : Array Slot} {st : List Value}
theorem nf_same {s : State} {a : Array Value} {C : String} {y y' : MethodName} (hs : (Cond.selects C y' y').before a s = true) (hi : (Cond.instanceMethod y').before a s = true) (hc : y'.cls = y.cls) : NotFace s y := fun r0 h0 => by
  obtain ⟨mk, methM, hn, -⟩ := Cond.instanceMethod_spec hi
  have h1 := findClass_of_methodNamed h0
  have h2 := findClass_of_methodNamed hn
  rw [hc] at h2
  have e : r0.cls = mk.cls := Option.some.inj (h1.symm.trans h2)
  rw [e]
  exact notFace_of_selects hs mk hn
theorem privB {p : Program} {l : Launch} {e : Env} {R : Room} {s : State} {m : MethodId} {args : Array Value} {below : List Frame} {meth : Method} {c : Code} {T : State} {locs : List Loc} {cells slots : Nat} (X : Stand p l e R s m args below meth c T locs cells slots) (hexec : p.tables.exec = Jvm.exec) {own : String} {index : Nat} {y : MethodName} {bytes : ByteArray} {maxL : Nat} {ret : Option FieldType}
    (hown : s.vm.findClass own = some m.cls) (hlink : (Cond.methodLink own index y).before args s = true) (hinst : (Cond.instanceMethod y).before args s = true) (hnf : NotFace s y)
    (hpriv : s.PrivateAt y) (hcode : (Cond.code y bytes maxL ret).before args s = true) (hy : y.cls ≠ "java/lang/invoke/MethodHandle" ∧ y.cls ≠ "java/lang/invoke/VarHandle")
    {W : Nat} {Pre : Free.Pt → Array Value → Prop} {Post : Free.Pt → Array Value → Option Value → Free.Pt → Prop} (hK : Free.Back l R p e below s args y 3 W Pre Post)
    {g : JFrame} (hg : g.method = m) (hsize : g.locals.size = c.maxLocals) {s₀ : State} (hcome : Steps p.tables e below s₀ (T.setTop g)) {a : Addr} {cell : Cell} (hcell : T.heap[a]? = some cell) (hobj : ∀ q, cell.vm ≠ .statics q)
    {argsL rest : List Value} (hlen : ∀ sig, parseMethodDescriptor y.desc = some sig → argsL.length = sig.parameters.length)
    (hstack : g.stack = argsL.reverse ++ .ref a :: rest) (hW : 2 * g.monitorRoom + (rest.map fun v => v.category).sum ≤ W) (hdg : decode c.code g.pc = .ok (.invokevirtual index, 3))
    (hpre : ∀ vm₁, s.WarmedH vm₁ → Pre ⟨T.setVm vm₁, locs, cells, slots⟩ (.ref a :: argsL).toArray) :
    ∃ (v : Option Value) (vm₁ : Vm) (B : Free.Pt), s.WarmedH vm₁ ∧ Stand p l e R s m args below meth c B.U B.locs B.cells B.slots ∧ Post ⟨T.setVm vm₁, locs, cells, slots⟩ (.ref a :: argsL).toArray v B ∧
      Steps p.tables e below s₀ (B.U.setTop { g with pc := g.pc + 3, stack := v.toList ++ rest }) := by
  obtain ⟨mk, methM, hnamed, hmethM, hstM, habM⟩ := Cond.instanceMethod_spec hinst
  obtain ⟨methM', cM, hmethM', -, -, -, -, -, -, hsigM⟩ := Cond.code_spec hnamed hcode
  cases hmethM.symm.trans hmethM'
  obtain ⟨kP, hkP, hkPi⟩ := hnf mk hnamed
  have hselP : selectMethod e.platform s.vm cell.cls mk = .method mk := selectMethod_private hmethM (hpriv mk methM hnamed hmethM)
  obtain ⟨vm₁, X₁, hstep₁⟩ := X.invokevirtual hexec hown hlink hnamed hmethM hstM hkP hkPi hy (a := a) (cell := cell) hcell hobj hselP hmethM habM hkP hkPi (g := g) hg (argsL := argsL) (rest := rest) (hlen _ hsigM) hstack hdg
  obtain ⟨v, B, X', hpost, hsteps⟩ := hK m meth c ⟨T.setVm vm₁, locs, cells, slots⟩ { g with stack := rest } (.invokevirtual index) mk (.ref a :: argsL).toArray X₁ hg hsize hdg hW (X₁.named hnamed) (hpre vm₁ X₁.warmed)
  exact ⟨v, vm₁, B, X₁.warmed, X', hpost, (hcome.trans (hstep₁ _ fun acts => by rw [doInvoke_state]; exact Steps.refl _)).trans hsteps⟩
theorem start {x : MethodName} {ws : List Jvm.Cond} {rm : Room} {av : Array Value} (hpl : plainFor x = true) (hef : ∀ m, entryFrame m av ml = mkF m 0 ls [])
    (body : ∀ (p : Program) (e : Env) (s : State) (m : MethodId) (below : List Frame) (meth : Method) (c : Code) (T : State) (G : State → Prop), Wk p l e rm s m av below meth c n0 Z x.cls x.name bc ml rt Q G → Sd p l e rm s m av below meth c n0 T h 0 0 → G (T.setTop (mkF m 0 ls []))) :
    Met l Z x bc ml rt ws rm av h n0 Q := by
  refine MetFree.of_bodySF hpl hisR ?_
  intro p e s m args below meth c s₁ Bd hml0 hP hK
  obtain ⟨rfl, hZ, hh⟩ := hP
  have X0 : Stand p l e rm s m args below meth c s₁ [] 0 0 := Stand.of_body Bd
  have e0 : s₁.heap = h := by rw [← hh, Bd.state]; rfl
  rw [hef m]
  refine body p e s m below meth c s₁ (fun S => ∃ s₂ o, Steps p.tables e below S s₂ ∧ s₂.status = .running ∧ Ended s₂ below o ∧ ∃ v L, o = .returned v ∧ (Q v s₂.heap ∧ Fr n0 L) ∧ FrameEnd s o s₂ L rm.cells rm.slots)
    ⟨fun S S' hs hg => ?_, Bd.exec, Bd.bytes, hml0, hZ, findClass_of_methodNamed Bd.named, Bd.returns, (name_of_methodNamed Bd.named Bd.method).1, ?_⟩ ⟨[], X0, Fr.nil n0, e0⟩
  · obtain ⟨s2, o, h1, h2⟩ := hg
    exact ⟨s2, o, hs _ h1, h2⟩
  · intro T h cells slots v ⟨locs, X, N, eT⟩ hc hl hv hQ S hS
    obtain ⟨fs, hr, hrun, hended, hW, hsame⟩ := X.leave (v := v) hv Bd.notSynchronized
    subst eT
    exact ⟨_, _, hS fs hr, hrun, hended, v, locs, rfl, ⟨hQ, N⟩, ⟨_, rfl⟩, hW, hsame.mono hc hl⟩
theorem Sd.mono {cells' slots' : Nat} (X : Sd p l e R s m args below meth c n0 T h cells slots) (hc : cells ≤ cells') (hl : slots ≤ slots') : Sd p l e R s m args below meth c n0 T h cells' slots' := by
  obtain ⟨locs, X, N, eT⟩ := X
  exact ⟨locs, { X with same := X.same.mono hc hl }, N, eT⟩

theorem aloadN (w : Wk p l e R s m args below meth c n0 Z own nm bc ml rt Q G) (X : Sd p l e R s m args below meth c n0 T h cells slots) {k : Fin 4} {v : Value} (hd : decode bc pc = .ok (.aload_n k, 1)) (pc' : Nat) (hp : pc + 1 = pc') (hl : ls[k.val]? = some (.val v)) (hv : v.isRef = true) (k : G (T.setTop (mkF m pc' ls (v :: st)))) : G (T.setTop (mkF m pc ls st)) := by
  obtain ⟨locs, Y, -, -⟩ := X
  subst hp
  exact w.1 _ _ (fun t q => XS.aloadN Y.here w.2.1 rfl (hb w.2.2.1 hd) hl hv q) k
theorem aload (w : Wk p l e R s m args below meth c n0 Z own nm bc ml rt Q G) (X : Sd p l e R s m args below meth c n0 T h cells slots) {k : Nat} {v : Value} (hd : decode bc pc = .ok (.aload k, 2)) (pc' : Nat) (hp : pc + 2 = pc') (hl : ls[k]? = some (.val v)) (hv : v.isRef = true) (k : G (T.setTop (mkF m pc' ls (v :: st)))) : G (T.setTop (mkF m pc ls st)) := by
  obtain ⟨locs, Y, -, -⟩ := X
  subst hp
  exact w.1 _ _ (fun t q => XS.aload Y.here w.2.1 rfl (hb w.2.2.1 hd) hl hv q) k
theorem iloadN (w : Wk p l e R s m args below meth c n0 Z own nm bc ml rt Q G) (X : Sd p l e R s m args below meth c n0 T h cells slots) {k : Fin 4} {v : Int32} (hd : decode bc pc = .ok (.iload_n k, 1)) (pc' : Nat) (hp : pc + 1 = pc') (hl : ls[k.val]? = some (.val (.int v))) (k : G (T.setTop (mkF m pc' ls (.int v :: st)))) : G (T.setTop (mkF m pc ls st)) := by
  obtain ⟨locs, Y, -, -⟩ := X
  subst hp
  exact w.1 _ _ (fun t q => XS.iloadN Y.here w.2.1 rfl (hb w.2.2.1 hd) hl q) k
theorem iload (w : Wk p l e R s m args below meth c n0 Z own nm bc ml rt Q G) (X : Sd p l e R s m args below meth c n0 T h cells slots) {k : Nat} {v : Int32} (hd : decode bc pc = .ok (.iload k, 2)) (pc' : Nat) (hp : pc + 2 = pc') (hl : ls[k]? = some (.val (.int v))) (k : G (T.setTop (mkF m pc' ls (.int v :: st)))) : G (T.setTop (mkF m pc ls st)) := by
  obtain ⟨locs, Y, -, -⟩ := X
  subst hp
  exact w.1 _ _ (fun t q => XS.iload Y.here w.2.1 rfl (hb w.2.2.1 hd) hl q) k
theorem lloadN (w : Wk p l e R s m args below meth c n0 Z own nm bc ml rt Q G) (X : Sd p l e R s m args below meth c n0 T h cells slots) {k : Fin 4} {v : Int64} (hd : decode bc pc = .ok (.lload_n k, 1)) (pc' : Nat) (hp : pc + 1 = pc') (hl : ls[k.val]? = some (.val (.long v))) (k : G (T.setTop (mkF m pc' ls (.long v :: st)))) : G (T.setTop (mkF m pc ls st)) := by
  obtain ⟨locs, Y, -, -⟩ := X
  subst hp
  exact w.1 _ _ (fun t q => XT.lloadN Y.here w.2.1 rfl (hb w.2.2.1 hd) hl q) k
theorem lload (w : Wk p l e R s m args below meth c n0 Z own nm bc ml rt Q G) (X : Sd p l e R s m args below meth c n0 T h cells slots) {k : Nat} {v : Int64} (hd : decode bc pc = .ok (.lload k, 2)) (pc' : Nat) (hp : pc + 2 = pc') (hl : ls[k]? = some (.val (.long v))) (k : G (T.setTop (mkF m pc' ls (.long v :: st)))) : G (T.setTop (mkF m pc ls st)) := by
  obtain ⟨locs, Y, -, -⟩ := X
  subst hp
  exact w.1 _ _ (fun t q => XT.lload Y.here w.2.1 rfl (hb w.2.2.1 hd) hl q) k
theorem istoreN (w : Wk p l e R s m args below meth c n0 Z own nm bc ml rt Q G) (X : Sd p l e R s m args below meth c n0 T h cells slots) {k : Fin 4} {x : Int32} (z : Int32) (hd : decode bc pc = .ok (.istore_n k, 1)) (pc' : Nat) (hp : pc + 1 = pc') (hz : z = x) (l' : Array Slot) (hl : storeLocals ls k.val (.int z) = some l') (k : G (T.setTop (mkF m pc' l' st))) : G (T.setTop (mkF m pc ls (.int x :: st))) := by
  obtain ⟨locs, Y, -, -⟩ := X
  subst hp
  subst hz
  exact w.1 _ _ (fun t q => XS.istoreN Y.here w.2.1 rfl (hb w.2.2.1 hd) rfl hl q) k
theorem istore (w : Wk p l e R s m args below meth c n0 Z own nm bc ml rt Q G) (X : Sd p l e R s m args below meth c n0 T h cells slots) {k : Nat} {x : Int32} (z : Int32) (hd : decode bc pc = .ok (.istore k, 2)) (pc' : Nat) (hp : pc + 2 = pc') (hz : z = x) (l' : Array Slot) (hl : storeLocals ls k (.int z) = some l') (k : G (T.setTop (mkF m pc' l' st))) : G (T.setTop (mkF m pc ls (.int x :: st))) := by
  obtain ⟨locs, Y, -, -⟩ := X
  subst hp
  subst hz
  exact w.1 _ _ (fun t q => XS.istore Y.here w.2.1 rfl (hb w.2.2.1 hd) rfl hl q) k
theorem lstoreN (w : Wk p l e R s m args below meth c n0 Z own nm bc ml rt Q G) (X : Sd p l e R s m args below meth c n0 T h cells slots) {k : Fin 4} {x : Int64} (z : Int64) (hd : decode bc pc = .ok (.lstore_n k, 1)) (pc' : Nat) (hp : pc + 1 = pc') (hz : z = x) (l' : Array Slot) (hl : storeLocals ls k.val (.long z) = some l') (k : G (T.setTop (mkF m pc' l' st))) : G (T.setTop (mkF m pc ls (.long x :: st))) := by
  obtain ⟨locs, Y, -, -⟩ := X
  subst hp
  subst hz
  exact w.1 _ _ (fun t q => XT.lstoreN Y.here w.2.1 rfl (hb w.2.2.1 hd) rfl hl q) k
theorem lstore (w : Wk p l e R s m args below meth c n0 Z own nm bc ml rt Q G) (X : Sd p l e R s m args below meth c n0 T h cells slots) {k : Nat} {x : Int64} (z : Int64) (hd : decode bc pc = .ok (.lstore k, 2)) (pc' : Nat) (hp : pc + 2 = pc') (hz : z = x) (l' : Array Slot) (hl : storeLocals ls k (.long z) = some l') (k : G (T.setTop (mkF m pc' l' st))) : G (T.setTop (mkF m pc ls (.long x :: st))) := by
  obtain ⟨locs, Y, -, -⟩ := X
  subst hp
  subst hz
  exact w.1 _ _ (fun t q => XT.lstore Y.here w.2.1 rfl (hb w.2.2.1 hd) rfl hl q) k
theorem astoreN (w : Wk p l e R s m args below meth c n0 Z own nm bc ml rt Q G) (X : Sd p l e R s m args below meth c n0 T h cells slots) {k : Fin 4} {x : Value} (hd : decode bc pc = .ok (.astore_n k, 1)) (pc' : Nat) (hp : pc + 1 = pc') (hv : x.isRef = true) (l' : Array Slot) (hl : storeLocals ls k.val x = some l') (k : G (T.setTop (mkF m pc' l' st))) : G (T.setTop (mkF m pc ls (x :: st))) := by
  obtain ⟨locs, Y, -, -⟩ := X
  subst hp
  exact w.1 _ _ (fun t q => XS.astoreN Y.here w.2.1 rfl (hb w.2.2.1 hd) rfl hv hl q) k
theorem astore (w : Wk p l e R s m args below meth c n0 Z own nm bc ml rt Q G) (X : Sd p l e R s m args below meth c n0 T h cells slots) {k : Nat} {x : Value} (hd : decode bc pc = .ok (.astore k, 2)) (pc' : Nat) (hp : pc + 2 = pc') (hv : x.isRef = true) (l' : Array Slot) (hl : storeLocals ls k x = some l') (k : G (T.setTop (mkF m pc' l' st))) : G (T.setTop (mkF m pc ls (x :: st))) := by
  obtain ⟨locs, Y, -, -⟩ := X
  subst hp
  exact w.1 _ _ (fun t q => XS.astore Y.here w.2.1 rfl (hb w.2.2.1 hd) rfl hv hl q) k
theorem iconst (w : Wk p l e R s m args below meth c n0 Z own nm bc ml rt Q G) (X : Sd p l e R s m args below meth c n0 T h cells slots) {i : Int} (v : Int32) (hd : decode bc pc = .ok (.iconst i, 1)) (pc' : Nat) (hp : pc + 1 = pc') (hv : Int32.ofInt i = v) (k : G (T.setTop (mkF m pc' ls (.int v :: st)))) : G (T.setTop (mkF m pc ls st)) := by
  obtain ⟨locs, Y, -, -⟩ := X
  subst hp
  subst hv
  exact w.1 _ _ (fun t q => XS.iconst Y.here w.2.1 rfl (hb w.2.2.1 hd) q) k
theorem bipush (w : Wk p l e R s m args below meth c n0 Z own nm bc ml rt Q G) (X : Sd p l e R s m args below meth c n0 T h cells slots) {i : Int} (v : Int32) (hd : decode bc pc = .ok (.bipush i, 2)) (pc' : Nat) (hp : pc + 2 = pc') (hv : (Int8.ofInt i).toInt32 = v) (k : G (T.setTop (mkF m pc' ls (.int v :: st)))) : G (T.setTop (mkF m pc ls st)) := by
  obtain ⟨locs, Y, -, -⟩ := X
  subst hp
  subst hv
  exact w.1 _ _ (fun t q => XS.bipush Y.here w.2.1 rfl (hb w.2.2.1 hd) q) k
theorem sipush (w : Wk p l e R s m args below meth c n0 Z own nm bc ml rt Q G) (X : Sd p l e R s m args below meth c n0 T h cells slots) {i : Int} (v : Int32) (hd : decode bc pc = .ok (.sipush i, 3)) (pc' : Nat) (hp : pc + 3 = pc') (hv : (Int16.ofInt i).toInt32 = v) (k : G (T.setTop (mkF m pc' ls (.int v :: st)))) : G (T.setTop (mkF m pc ls st)) := by
  obtain ⟨locs, Y, -, -⟩ := X
  subst hp
  subst hv
  exact w.1 _ _ (fun t q => XS.sipush Y.here w.2.1 rfl (hb w.2.2.1 hd) q) k
theorem lconst (w : Wk p l e R s m args below meth c n0 Z own nm bc ml rt Q G) (X : Sd p l e R s m args below meth c n0 T h cells slots) {i : Fin 2} (v : Int64) (hd : decode bc pc = .ok (.lconst i, 1)) (pc' : Nat) (hp : pc + 1 = pc') (hv : Int64.ofNat i = v) (k : G (T.setTop (mkF m pc' ls (.long v :: st)))) : G (T.setTop (mkF m pc ls st)) := by
  obtain ⟨locs, Y, -, -⟩ := X
  subst hp
  subst hv
  exact w.1 _ _ (fun t q => XS.lconst Y.here w.2.1 rfl (hb w.2.2.1 hd) q) k
theorem aconstNull (w : Wk p l e R s m args below meth c n0 Z own nm bc ml rt Q G) (X : Sd p l e R s m args below meth c n0 T h cells slots)  (hd : decode bc pc = .ok (.aconst_null, 1)) (pc' : Nat) (hp : pc + 1 = pc')  (k : G (T.setTop (mkF m pc' ls (.null :: st)))) : G (T.setTop (mkF m pc ls st)) := by
  obtain ⟨locs, Y, -, -⟩ := X
  subst hp
  exact w.1 _ _ (fun t q => XS.aconstNull Y.here w.2.1 rfl (hb w.2.2.1 hd) q) k
theorem iadd (w : Wk p l e R s m args below meth c n0 Z own nm bc ml rt Q G) (X : Sd p l e R s m args below meth c n0 T h cells slots) {x y : Int32} (z : Int32) (hd : decode bc pc = .ok (.iadd, 1)) (pc' : Nat) (hp : pc + 1 = pc') (hz : z = x + y) (k : G (T.setTop (mkF m pc' ls (.int z :: st)))) : G (T.setTop (mkF m pc ls (.int y :: .int x :: st))) := by
  obtain ⟨locs, Y, -, -⟩ := X
  subst hp
  subst hz
  exact w.1 _ _ (fun t q => XS.iadd Y.here w.2.1 rfl (hb w.2.2.1 hd) rfl q) k
theorem isub (w : Wk p l e R s m args below meth c n0 Z own nm bc ml rt Q G) (X : Sd p l e R s m args below meth c n0 T h cells slots) {x y : Int32} (z : Int32) (hd : decode bc pc = .ok (.isub, 1)) (pc' : Nat) (hp : pc + 1 = pc') (hz : z = x - y) (k : G (T.setTop (mkF m pc' ls (.int z :: st)))) : G (T.setTop (mkF m pc ls (.int y :: .int x :: st))) := by
  obtain ⟨locs, Y, -, -⟩ := X
  subst hp
  subst hz
  exact w.1 _ _ (fun t q => XS.isub Y.here w.2.1 rfl (hb w.2.2.1 hd) rfl q) k
theorem imul (w : Wk p l e R s m args below meth c n0 Z own nm bc ml rt Q G) (X : Sd p l e R s m args below meth c n0 T h cells slots) {x y : Int32} (z : Int32) (hd : decode bc pc = .ok (.imul, 1)) (pc' : Nat) (hp : pc + 1 = pc') (hz : z = x * y) (k : G (T.setTop (mkF m pc' ls (.int z :: st)))) : G (T.setTop (mkF m pc ls (.int y :: .int x :: st))) := by
  obtain ⟨locs, Y, -, -⟩ := X
  subst hp
  subst hz
  exact w.1 _ _ (fun t q => XS.imul Y.here w.2.1 rfl (hb w.2.2.1 hd) rfl q) k
theorem iand (w : Wk p l e R s m args below meth c n0 Z own nm bc ml rt Q G) (X : Sd p l e R s m args below meth c n0 T h cells slots) {x y : Int32} (z : Int32) (hd : decode bc pc = .ok (.iand, 1)) (pc' : Nat) (hp : pc + 1 = pc') (hz : z = x &&& y) (k : G (T.setTop (mkF m pc' ls (.int z :: st)))) : G (T.setTop (mkF m pc ls (.int y :: .int x :: st))) := by
  obtain ⟨locs, Y, -, -⟩ := X
  subst hp
  subst hz
  exact w.1 _ _ (fun t q => XS.iand Y.here w.2.1 rfl (hb w.2.2.1 hd) rfl q) k
theorem ior (w : Wk p l e R s m args below meth c n0 Z own nm bc ml rt Q G) (X : Sd p l e R s m args below meth c n0 T h cells slots) {x y : Int32} (z : Int32) (hd : decode bc pc = .ok (.ior, 1)) (pc' : Nat) (hp : pc + 1 = pc') (hz : z = x ||| y) (k : G (T.setTop (mkF m pc' ls (.int z :: st)))) : G (T.setTop (mkF m pc ls (.int y :: .int x :: st))) := by
  obtain ⟨locs, Y, -, -⟩ := X
  subst hp
  subst hz
  exact w.1 _ _ (fun t q => XS.ior Y.here w.2.1 rfl (hb w.2.2.1 hd) rfl q) k
theorem ixor (w : Wk p l e R s m args below meth c n0 Z own nm bc ml rt Q G) (X : Sd p l e R s m args below meth c n0 T h cells slots) {x y : Int32} (z : Int32) (hd : decode bc pc = .ok (.ixor, 1)) (pc' : Nat) (hp : pc + 1 = pc') (hz : z = x ^^^ y) (k : G (T.setTop (mkF m pc' ls (.int z :: st)))) : G (T.setTop (mkF m pc ls (.int y :: .int x :: st))) := by
  obtain ⟨locs, Y, -, -⟩ := X
  subst hp
  subst hz
  exact w.1 _ _ (fun t q => XS.ixor Y.here w.2.1 rfl (hb w.2.2.1 hd) rfl q) k
theorem ishl (w : Wk p l e R s m args below meth c n0 Z own nm bc ml rt Q G) (X : Sd p l e R s m args below meth c n0 T h cells slots) {x y : Int32} (z : Int32) (hd : decode bc pc = .ok (.ishl, 1)) (pc' : Nat) (hp : pc + 1 = pc') (hz : z = x <<< (y &&& 31)) (k : G (T.setTop (mkF m pc' ls (.int z :: st)))) : G (T.setTop (mkF m pc ls (.int y :: .int x :: st))) := by
  obtain ⟨locs, Y, -, -⟩ := X
  subst hp
  subst hz
  exact w.1 _ _ (fun t q => XS.ishl Y.here w.2.1 rfl (hb w.2.2.1 hd) rfl q) k
theorem ishr (w : Wk p l e R s m args below meth c n0 Z own nm bc ml rt Q G) (X : Sd p l e R s m args below meth c n0 T h cells slots) {x y : Int32} (z : Int32) (hd : decode bc pc = .ok (.ishr, 1)) (pc' : Nat) (hp : pc + 1 = pc') (hz : z = x >>> (y &&& 31)) (k : G (T.setTop (mkF m pc' ls (.int z :: st)))) : G (T.setTop (mkF m pc ls (.int y :: .int x :: st))) := by
  obtain ⟨locs, Y, -, -⟩ := X
  subst hp
  subst hz
  exact w.1 _ _ (fun t q => XS.ishr Y.here w.2.1 rfl (hb w.2.2.1 hd) rfl q) k
theorem iushr (w : Wk p l e R s m args below meth c n0 Z own nm bc ml rt Q G) (X : Sd p l e R s m args below meth c n0 T h cells slots) {x y : Int32} (z : Int32) (hd : decode bc pc = .ok (.iushr, 1)) (pc' : Nat) (hp : pc + 1 = pc') (hz : z = (x.toUInt32 >>> (y &&& 31).toUInt32).toInt32) (k : G (T.setTop (mkF m pc' ls (.int z :: st)))) : G (T.setTop (mkF m pc ls (.int y :: .int x :: st))) := by
  obtain ⟨locs, Y, -, -⟩ := X
  subst hp
  subst hz
  exact w.1 _ _ (fun t q => XS.iushr Y.here w.2.1 rfl (hb w.2.2.1 hd) rfl q) k
theorem irem (w : Wk p l e R s m args below meth c n0 Z own nm bc ml rt Q G) (X : Sd p l e R s m args below meth c n0 T h cells slots) {x y : Int32} (z : Int32) (hd : decode bc pc = .ok (.irem, 1)) (pc' : Nat) (hp : pc + 1 = pc') (hz : z = x % y) (hy : y ≠ 0) (k : G (T.setTop (mkF m pc' ls (.int z :: st)))) : G (T.setTop (mkF m pc ls (.int y :: .int x :: st))) := by
  obtain ⟨locs, Y, -, -⟩ := X
  subst hp
  subst hz
  exact w.1 _ _ (fun t q => Jvm.RoadKit.iremM Y w.2.1 rfl (hb w.2.2.1 hd) rfl hy q) k
theorem idiv (w : Wk p l e R s m args below meth c n0 Z own nm bc ml rt Q G) (X : Sd p l e R s m args below meth c n0 T h cells slots) {x y : Int32} (z : Int32) (hd : decode bc pc = .ok (.idiv, 1)) (pc' : Nat) (hp : pc + 1 = pc') (hz : z = x / y) (hy : y ≠ 0) (k : G (T.setTop (mkF m pc' ls (.int z :: st)))) : G (T.setTop (mkF m pc ls (.int y :: .int x :: st))) := by
  obtain ⟨locs, Y, -, -⟩ := X
  subst hp
  subst hz
  exact w.1 _ _ (fun t q => XS.idiv Y.here w.2.1 rfl (hb w.2.2.1 hd) rfl hy q) k
theorem ineg (w : Wk p l e R s m args below meth c n0 Z own nm bc ml rt Q G) (X : Sd p l e R s m args below meth c n0 T h cells slots) {x : Int32} (z : Int32) (hd : decode bc pc = .ok (.ineg, 1)) (pc' : Nat) (hp : pc + 1 = pc') (hz : z = -x) (k : G (T.setTop (mkF m pc' ls (.int z :: st)))) : G (T.setTop (mkF m pc ls (.int x :: st))) := by
  obtain ⟨locs, Y, -, -⟩ := X
  subst hp
  subst hz
  exact w.1 _ _ (fun t q => XS.ineg Y.here w.2.1 rfl (hb w.2.2.1 hd) rfl q) k
theorem ladd (w : Wk p l e R s m args below meth c n0 Z own nm bc ml rt Q G) (X : Sd p l e R s m args below meth c n0 T h cells slots) {x y : Int64} (z : Int64) (hd : decode bc pc = .ok (.ladd, 1)) (pc' : Nat) (hp : pc + 1 = pc') (hz : z = x + y) (k : G (T.setTop (mkF m pc' ls (.long z :: st)))) : G (T.setTop (mkF m pc ls (.long y :: .long x :: st))) := by
  obtain ⟨locs, Y, -, -⟩ := X
  subst hp
  subst hz
  exact w.1 _ _ (fun t q => XS.ladd Y.here w.2.1 rfl (hb w.2.2.1 hd) rfl q) k
theorem lsub (w : Wk p l e R s m args below meth c n0 Z own nm bc ml rt Q G) (X : Sd p l e R s m args below meth c n0 T h cells slots) {x y : Int64} (z : Int64) (hd : decode bc pc = .ok (.lsub, 1)) (pc' : Nat) (hp : pc + 1 = pc') (hz : z = x - y) (k : G (T.setTop (mkF m pc' ls (.long z :: st)))) : G (T.setTop (mkF m pc ls (.long y :: .long x :: st))) := by
  obtain ⟨locs, Y, -, -⟩ := X
  subst hp
  subst hz
  exact w.1 _ _ (fun t q => XS.lsub Y.here w.2.1 rfl (hb w.2.2.1 hd) rfl q) k
theorem lmul (w : Wk p l e R s m args below meth c n0 Z own nm bc ml rt Q G) (X : Sd p l e R s m args below meth c n0 T h cells slots) {x y : Int64} (z : Int64) (hd : decode bc pc = .ok (.lmul, 1)) (pc' : Nat) (hp : pc + 1 = pc') (hz : z = x * y) (k : G (T.setTop (mkF m pc' ls (.long z :: st)))) : G (T.setTop (mkF m pc ls (.long y :: .long x :: st))) := by
  obtain ⟨locs, Y, -, -⟩ := X
  subst hp
  subst hz
  exact w.1 _ _ (fun t q => XS.lmul Y.here w.2.1 rfl (hb w.2.2.1 hd) rfl q) k
theorem land (w : Wk p l e R s m args below meth c n0 Z own nm bc ml rt Q G) (X : Sd p l e R s m args below meth c n0 T h cells slots) {x y : Int64} (z : Int64) (hd : decode bc pc = .ok (.land, 1)) (pc' : Nat) (hp : pc + 1 = pc') (hz : z = x &&& y) (k : G (T.setTop (mkF m pc' ls (.long z :: st)))) : G (T.setTop (mkF m pc ls (.long y :: .long x :: st))) := by
  obtain ⟨locs, Y, -, -⟩ := X
  subst hp
  subst hz
  exact w.1 _ _ (fun t q => XS.land Y.here w.2.1 rfl (hb w.2.2.1 hd) rfl q) k
theorem lor (w : Wk p l e R s m args below meth c n0 Z own nm bc ml rt Q G) (X : Sd p l e R s m args below meth c n0 T h cells slots) {x y : Int64} (z : Int64) (hd : decode bc pc = .ok (.lor, 1)) (pc' : Nat) (hp : pc + 1 = pc') (hz : z = x ||| y) (k : G (T.setTop (mkF m pc' ls (.long z :: st)))) : G (T.setTop (mkF m pc ls (.long y :: .long x :: st))) := by
  obtain ⟨locs, Y, -, -⟩ := X
  subst hp
  subst hz
  exact w.1 _ _ (fun t q => XS.lor Y.here w.2.1 rfl (hb w.2.2.1 hd) rfl q) k
theorem lxor (w : Wk p l e R s m args below meth c n0 Z own nm bc ml rt Q G) (X : Sd p l e R s m args below meth c n0 T h cells slots) {x y : Int64} (z : Int64) (hd : decode bc pc = .ok (.lxor, 1)) (pc' : Nat) (hp : pc + 1 = pc') (hz : z = x ^^^ y) (k : G (T.setTop (mkF m pc' ls (.long z :: st)))) : G (T.setTop (mkF m pc ls (.long y :: .long x :: st))) := by
  obtain ⟨locs, Y, -, -⟩ := X
  subst hp
  subst hz
  exact w.1 _ _ (fun t q => XS.lxor Y.here w.2.1 rfl (hb w.2.2.1 hd) rfl q) k
theorem lshl (w : Wk p l e R s m args below meth c n0 Z own nm bc ml rt Q G) (X : Sd p l e R s m args below meth c n0 T h cells slots) {x : Int64} {y : Int32} (z : Int64) (hd : decode bc pc = .ok (.lshl, 1)) (pc' : Nat) (hp : pc + 1 = pc') (hz : z = x <<< (y &&& 0x3f).toInt64) (k : G (T.setTop (mkF m pc' ls (.long z :: st)))) : G (T.setTop (mkF m pc ls (.int y :: .long x :: st))) := by
  obtain ⟨locs, Y, -, -⟩ := X
  subst hp
  subst hz
  exact w.1 _ _ (fun t q => XS.lshl Y.here w.2.1 rfl (hb w.2.2.1 hd) rfl q) k
theorem lshr (w : Wk p l e R s m args below meth c n0 Z own nm bc ml rt Q G) (X : Sd p l e R s m args below meth c n0 T h cells slots) {x : Int64} {y : Int32} (z : Int64) (hd : decode bc pc = .ok (.lshr, 1)) (pc' : Nat) (hp : pc + 1 = pc') (hz : z = x >>> (y &&& 0x3f).toInt64) (k : G (T.setTop (mkF m pc' ls (.long z :: st)))) : G (T.setTop (mkF m pc ls (.int y :: .long x :: st))) := by
  obtain ⟨locs, Y, -, -⟩ := X
  subst hp
  subst hz
  exact w.1 _ _ (fun t q => XS.lshr Y.here w.2.1 rfl (hb w.2.2.1 hd) rfl q) k
theorem lushr (w : Wk p l e R s m args below meth c n0 Z own nm bc ml rt Q G) (X : Sd p l e R s m args below meth c n0 T h cells slots) {x : Int64} {y : Int32} (z : Int64) (hd : decode bc pc = .ok (.lushr, 1)) (pc' : Nat) (hp : pc + 1 = pc') (hz : z = (x.toUInt64 >>> (y &&& 0x3f).toInt64.toUInt64).toInt64) (k : G (T.setTop (mkF m pc' ls (.long z :: st)))) : G (T.setTop (mkF m pc ls (.int y :: .long x :: st))) := by
  obtain ⟨locs, Y, -, -⟩ := X
  subst hp
  subst hz
  exact w.1 _ _ (fun t q => XS.lushr Y.here w.2.1 rfl (hb w.2.2.1 hd) rfl q) k
theorem i2b (w : Wk p l e R s m args below meth c n0 Z own nm bc ml rt Q G) (X : Sd p l e R s m args below meth c n0 T h cells slots) {x : Int32} (z : Int32) (hd : decode bc pc = .ok (.i2b, 1)) (pc' : Nat) (hp : pc + 1 = pc') (hz : z = x.toInt8.toInt32) (k : G (T.setTop (mkF m pc' ls (.int z :: st)))) : G (T.setTop (mkF m pc ls (.int x :: st))) := by
  obtain ⟨locs, Y, -, -⟩ := X
  subst hp
  subst hz
  exact w.1 _ _ (fun t q => XS.i2b Y.here w.2.1 rfl (hb w.2.2.1 hd) rfl q) k
theorem i2c (w : Wk p l e R s m args below meth c n0 Z own nm bc ml rt Q G) (X : Sd p l e R s m args below meth c n0 T h cells slots) {x : Int32} (z : Int32) (hd : decode bc pc = .ok (.i2c, 1)) (pc' : Nat) (hp : pc + 1 = pc') (hz : z = x.toUInt32.toUInt16.toUInt32.toInt32) (k : G (T.setTop (mkF m pc' ls (.int z :: st)))) : G (T.setTop (mkF m pc ls (.int x :: st))) := by
  obtain ⟨locs, Y, -, -⟩ := X
  subst hp
  subst hz
  exact w.1 _ _ (fun t q => XS.i2c Y.here w.2.1 rfl (hb w.2.2.1 hd) rfl q) k
theorem i2s (w : Wk p l e R s m args below meth c n0 Z own nm bc ml rt Q G) (X : Sd p l e R s m args below meth c n0 T h cells slots) {x : Int32} (z : Int32) (hd : decode bc pc = .ok (.i2s, 1)) (pc' : Nat) (hp : pc + 1 = pc') (hz : z = x.toInt16.toInt32) (k : G (T.setTop (mkF m pc' ls (.int z :: st)))) : G (T.setTop (mkF m pc ls (.int x :: st))) := by
  obtain ⟨locs, Y, -, -⟩ := X
  subst hp
  subst hz
  exact w.1 _ _ (fun t q => XS.i2s Y.here w.2.1 rfl (hb w.2.2.1 hd) rfl q) k
theorem l2i (w : Wk p l e R s m args below meth c n0 Z own nm bc ml rt Q G) (X : Sd p l e R s m args below meth c n0 T h cells slots) {x : Int64} (z : Int32) (hd : decode bc pc = .ok (.l2i, 1)) (pc' : Nat) (hp : pc + 1 = pc') (hz : z = x.toInt32) (k : G (T.setTop (mkF m pc' ls (.int z :: st)))) : G (T.setTop (mkF m pc ls (.long x :: st))) := by
  obtain ⟨locs, Y, -, -⟩ := X
  subst hp
  subst hz
  exact w.1 _ _ (fun t q => XS.l2i Y.here w.2.1 rfl (hb w.2.2.1 hd) rfl q) k
theorem i2l (w : Wk p l e R s m args below meth c n0 Z own nm bc ml rt Q G) (X : Sd p l e R s m args below meth c n0 T h cells slots) {x : Int32} (z : Int64) (hd : decode bc pc = .ok (.i2l, 1)) (pc' : Nat) (hp : pc + 1 = pc') (hz : z = x.toInt64) (k : G (T.setTop (mkF m pc' ls (.long z :: st)))) : G (T.setTop (mkF m pc ls (.int x :: st))) := by
  obtain ⟨locs, Y, -, -⟩ := X
  subst hp
  subst hz
  exact w.1 _ _ (fun t q => XS.i2l Y.here w.2.1 rfl (hb w.2.2.1 hd) rfl q) k
theorem lcmp (w : Wk p l e R s m args below meth c n0 Z own nm bc ml rt Q G) (X : Sd p l e R s m args below meth c n0 T h cells slots) {x y : Int64} (z : Int32) (hd : decode bc pc = .ok (.lcmp, 1)) (pc' : Nat) (hp : pc + 1 = pc') (hz : z = lcmpW x y) (k : G (T.setTop (mkF m pc' ls (.int z :: st)))) : G (T.setTop (mkF m pc ls (.long y :: .long x :: st))) := by
  obtain ⟨locs, Y, -, -⟩ := X
  subst hp
  subst hz
  exact w.1 _ _ (fun t q => XS.lcmp Y.here w.2.1 rfl (hb w.2.2.1 hd) rfl q) k
theorem dup (w : Wk p l e R s m args below meth c n0 Z own nm bc ml rt Q G) (X : Sd p l e R s m args below meth c n0 T h cells slots) {x : Value} (hd : decode bc pc = .ok (.dup, 1)) (pc' : Nat) (hp : pc + 1 = pc') (hx : x.category = 1) (k : G (T.setTop (mkF m pc' ls (x :: x :: st)))) : G (T.setTop (mkF m pc ls (x :: st))) := by
  obtain ⟨locs, Y, -, -⟩ := X
  subst hp
  exact w.1 _ _ (fun t q => XS.dup Y.here w.2.1 rfl (hb w.2.2.1 hd) rfl hx q) k
theorem dupX1 (w : Wk p l e R s m args below meth c n0 Z own nm bc ml rt Q G) (X : Sd p l e R s m args below meth c n0 T h cells slots) {x y : Value} (hd : decode bc pc = .ok (.dup_x1, 1)) (pc' : Nat) (hp : pc + 1 = pc') (hx : x.category = 1) (hy : y.category = 1) (k : G (T.setTop (mkF m pc' ls (x :: y :: x :: st)))) : G (T.setTop (mkF m pc ls (x :: y :: st))) := by
  obtain ⟨locs, Y, -, -⟩ := X
  subst hp
  exact w.1 _ _ (fun t q => XS.dupX1 Y.here w.2.1 rfl (hb w.2.2.1 hd) rfl hx hy q) k
theorem dup2 (w : Wk p l e R s m args below meth c n0 Z own nm bc ml rt Q G) (X : Sd p l e R s m args below meth c n0 T h cells slots) {x y : Value} (hd : decode bc pc = .ok (.dup2, 1)) (pc' : Nat) (hp : pc + 1 = pc') (hx : x.category = 1) (hy : y.category = 1) (k : G (T.setTop (mkF m pc' ls (x :: y :: x :: y :: st)))) : G (T.setTop (mkF m pc ls (x :: y :: st))) := by
  obtain ⟨locs, Y, -, -⟩ := X
  subst hp
  exact w.1 _ _ (fun t q => XT.dup2 Y.here w.2.1 rfl (hb w.2.2.1 hd) rfl hx hy q) k
theorem popV (w : Wk p l e R s m args below meth c n0 Z own nm bc ml rt Q G) (X : Sd p l e R s m args below meth c n0 T h cells slots) {x : Value} (hd : decode bc pc = .ok (.pop, 1)) (pc' : Nat) (hp : pc + 1 = pc') (hx : x.category = 1) (k : G (T.setTop (mkF m pc' ls st))) : G (T.setTop (mkF m pc ls (x :: st))) := by
  obtain ⟨locs, Y, -, -⟩ := X
  subst hp
  exact w.1 _ _ (fun t q => XS.pop Y.here w.2.1 rfl (hb w.2.2.1 hd) rfl hx q) k
theorem iinc (w : Wk p l e R s m args below meth c n0 Z own nm bc ml rt Q G) (X : Sd p l e R s m args below meth c n0 T h cells slots) {k : Nat} {i : Int} {x : Int32} (z : Int32) (hd : decode bc pc = .ok (.iinc k i, 3)) (pc' : Nat) (hp : pc + 3 = pc') (hl : ls[k]? = some (.val (.int x))) (hz : z = x + Int32.ofInt i) (l' : Array Slot) (hl' : storeLocals ls k (.int z) = some l') (k : G (T.setTop (mkF m pc' l' st))) : G (T.setTop (mkF m pc ls st)) := by
  obtain ⟨locs, Y, -, -⟩ := X
  subst hp
  subst hz
  exact w.1 _ _ (fun t q => XS.iinc Y.here w.2.1 rfl (hb w.2.2.1 hd) hl hl' q) k
theorem goto (w : Wk p l e R s m args below meth c n0 Z own nm bc ml rt Q G) (X : Sd p l e R s m args below meth c n0 T h cells slots) {o : Int} (hd : decode bc pc = .ok (.goto o, 3)) (pc' : Nat) (ho : 0 ≤ (pc : Int) + o) (hp : ((pc : Int) + o).toNat = pc') (k : G (T.setTop (mkF m pc' ls st))) : G (T.setTop (mkF m pc ls st)) := by
  obtain ⟨locs, Y, -, -⟩ := X
  exact w.1 _ _ (fun t q => XS.goto Y.here w.2.1 rfl (pc0 := pc) (pc' := pc') rfl (hb w.2.2.1 hd) ho hp q) k
theorem ldcI (w : Wk p l e R s m args below meth c n0 Z own nm bc ml rt Q G) (X : Sd p l e R s m args below meth c n0 T h cells slots) {i : Nat} {v : Int32} (wc : (Cond.constant own i v).before a0 Z = true) (hd : decode bc pc = .ok (.ldc i, 2)) (pc' : Nat) (hp : pc + 2 = pc') (k : G (T.setTop (mkF m pc' ls (.int v :: st)))) : G (T.setTop (mkF m pc ls st)) := by
  obtain ⟨locs, Y, -, -⟩ := X
  subst hp
  exact w.1 _ _ (Y.ldcInt w.2.1 w.2.2.2.2.2.1 (mvT w.2.2.2.2.1 wc) (g := mkF m pc ls st) rfl (hb w.2.2.1 hd)) k
theorem ldcwI (w : Wk p l e R s m args below meth c n0 Z own nm bc ml rt Q G) (X : Sd p l e R s m args below meth c n0 T h cells slots) {i : Nat} {v : Int32} (wc : (Cond.constant own i v).before a0 Z = true) (hd : decode bc pc = .ok (.ldc_w i, 3)) (pc' : Nat) (hp : pc + 3 = pc') (k : G (T.setTop (mkF m pc' ls (.int v :: st)))) : G (T.setTop (mkF m pc ls st)) := by
  obtain ⟨locs, Y, -, -⟩ := X
  subst hp
  exact w.1 _ _ (Y.ldcwInt w.2.1 w.2.2.2.2.2.1 (mvT w.2.2.2.2.1 wc) (g := mkF m pc ls st) rfl (hb w.2.2.1 hd)) k
theorem ldc2J (w : Wk p l e R s m args below meth c n0 Z own nm bc ml rt Q G) (X : Sd p l e R s m args below meth c n0 T h cells slots) {i : Nat} {v : Int64} (wc : (Cond.constantLong own i v).before a0 Z = true) (hd : decode bc pc = .ok (.ldc2_w i, 3)) (pc' : Nat) (hp : pc + 3 = pc') (k : G (T.setTop (mkF m pc' ls (.long v :: st)))) : G (T.setTop (mkF m pc ls st)) := by
  obtain ⟨locs, Y, -, -⟩ := X
  subst hp
  exact w.1 _ _ (Y.ldc2Long w.2.1 w.2.2.2.2.2.1 (mvT w.2.2.2.2.1 wc) (g := mkF m pc ls st) rfl (hb w.2.2.1 hd)) k
theorem icmp_lt (w : Wk p l e R s m args below meth c n0 Z own nm bc ml rt Q G) (X : Sd p l e R s m args below meth c n0 T h cells slots) {x y : Int32} {o : Int} (hd : decode bc pc = .ok (.if_icmp .lt o, 3)) (pT pF : Nat) (ho : 0 ≤ (pc : Int) + o) (hp : ((pc : Int) + o).toNat = pT) (hq : pc + 3 = pF) (k1 : x < y → G (T.setTop (mkF m pT ls st))) (k2 : ¬ x < y → G (T.setTop (mkF m pF ls st))) : G (T.setTop (mkF m pc ls (.int y :: .int x :: st))) := by
  obtain ⟨locs, Y, -, -⟩ := X
  subst hq
  by_cases q : x < y
  · exact w.1 _ _ (fun t z => XS.icmpYes Y.here w.2.1 rfl (pc0 := pc) (pc' := pT) rfl (hb w.2.2.1 hd) rfl (tlt q).1 ho hp z) (k1 q)
  · exact w.1 _ _ (fun t z => XS.icmpNo Y.here w.2.1 rfl (hb w.2.2.1 hd) rfl (flt q).1 z) (k2 q)
theorem if_lt (w : Wk p l e R s m args below meth c n0 Z own nm bc ml rt Q G) (X : Sd p l e R s m args below meth c n0 T h cells slots) {x : Int32} {o : Int} (hd : decode bc pc = .ok (.ifCond .lt o, 3)) (pT pF : Nat) (ho : 0 ≤ (pc : Int) + o) (hp : ((pc : Int) + o).toNat = pT) (hq : pc + 3 = pF) (k1 : x < 0 → G (T.setTop (mkF m pT ls st))) (k2 : ¬ x < 0 → G (T.setTop (mkF m pF ls st))) : G (T.setTop (mkF m pc ls (.int x :: st))) := by
  obtain ⟨locs, Y, -, -⟩ := X
  subst hq
  by_cases q : x < 0
  · exact w.1 _ _ (fun t z => XS.ifYes Y.here w.2.1 rfl (pc0 := pc) (pc' := pT) rfl (hb w.2.2.1 hd) rfl ((if0 _ _).trans (tlt q).1) ho hp z) (k1 q)
  · exact w.1 _ _ (fun t z => XS.ifNo Y.here w.2.1 rfl (hb w.2.2.1 hd) rfl ((if0 _ _).trans (flt q).1) z) (k2 q)
theorem icmp_ge (w : Wk p l e R s m args below meth c n0 Z own nm bc ml rt Q G) (X : Sd p l e R s m args below meth c n0 T h cells slots) {x y : Int32} {o : Int} (hd : decode bc pc = .ok (.if_icmp .ge o, 3)) (pT pF : Nat) (ho : 0 ≤ (pc : Int) + o) (hp : ((pc : Int) + o).toNat = pT) (hq : pc + 3 = pF) (k1 : ¬ x < y → G (T.setTop (mkF m pT ls st))) (k2 : x < y → G (T.setTop (mkF m pF ls st))) : G (T.setTop (mkF m pc ls (.int y :: .int x :: st))) := by
  obtain ⟨locs, Y, -, -⟩ := X
  subst hq
  by_cases q : x < y
  · exact w.1 _ _ (fun t z => XS.icmpNo Y.here w.2.1 rfl (hb w.2.2.1 hd) rfl (tlt q).2.1 z) (k2 q)
  · exact w.1 _ _ (fun t z => XS.icmpYes Y.here w.2.1 rfl (pc0 := pc) (pc' := pT) rfl (hb w.2.2.1 hd) rfl (flt q).2.1 ho hp z) (k1 q)
theorem if_ge (w : Wk p l e R s m args below meth c n0 Z own nm bc ml rt Q G) (X : Sd p l e R s m args below meth c n0 T h cells slots) {x : Int32} {o : Int} (hd : decode bc pc = .ok (.ifCond .ge o, 3)) (pT pF : Nat) (ho : 0 ≤ (pc : Int) + o) (hp : ((pc : Int) + o).toNat = pT) (hq : pc + 3 = pF) (k1 : ¬ x < 0 → G (T.setTop (mkF m pT ls st))) (k2 : x < 0 → G (T.setTop (mkF m pF ls st))) : G (T.setTop (mkF m pc ls (.int x :: st))) := by
  obtain ⟨locs, Y, -, -⟩ := X
  subst hq
  by_cases q : x < 0
  · exact w.1 _ _ (fun t z => XS.ifNo Y.here w.2.1 rfl (hb w.2.2.1 hd) rfl ((if0 _ _).trans (tlt q).2.1) z) (k2 q)
  · exact w.1 _ _ (fun t z => XS.ifYes Y.here w.2.1 rfl (pc0 := pc) (pc' := pT) rfl (hb w.2.2.1 hd) rfl ((if0 _ _).trans (flt q).2.1) ho hp z) (k1 q)
theorem icmp_gt (w : Wk p l e R s m args below meth c n0 Z own nm bc ml rt Q G) (X : Sd p l e R s m args below meth c n0 T h cells slots) {x y : Int32} {o : Int} (hd : decode bc pc = .ok (.if_icmp .gt o, 3)) (pT pF : Nat) (ho : 0 ≤ (pc : Int) + o) (hp : ((pc : Int) + o).toNat = pT) (hq : pc + 3 = pF) (k1 : y < x → G (T.setTop (mkF m pT ls st))) (k2 : ¬ y < x → G (T.setTop (mkF m pF ls st))) : G (T.setTop (mkF m pc ls (.int y :: .int x :: st))) := by
  obtain ⟨locs, Y, -, -⟩ := X
  subst hq
  by_cases q : y < x
  · exact w.1 _ _ (fun t z => XS.icmpYes Y.here w.2.1 rfl (pc0 := pc) (pc' := pT) rfl (hb w.2.2.1 hd) rfl (tlt q).2.2.1 ho hp z) (k1 q)
  · exact w.1 _ _ (fun t z => XS.icmpNo Y.here w.2.1 rfl (hb w.2.2.1 hd) rfl (flt q).2.2.1 z) (k2 q)
theorem if_gt (w : Wk p l e R s m args below meth c n0 Z own nm bc ml rt Q G) (X : Sd p l e R s m args below meth c n0 T h cells slots) {x : Int32} {o : Int} (hd : decode bc pc = .ok (.ifCond .gt o, 3)) (pT pF : Nat) (ho : 0 ≤ (pc : Int) + o) (hp : ((pc : Int) + o).toNat = pT) (hq : pc + 3 = pF) (k1 : 0 < x → G (T.setTop (mkF m pT ls st))) (k2 : ¬ 0 < x → G (T.setTop (mkF m pF ls st))) : G (T.setTop (mkF m pc ls (.int x :: st))) := by
  obtain ⟨locs, Y, -, -⟩ := X
  subst hq
  by_cases q : 0 < x
  · exact w.1 _ _ (fun t z => XS.ifYes Y.here w.2.1 rfl (pc0 := pc) (pc' := pT) rfl (hb w.2.2.1 hd) rfl ((if0 _ _).trans (tlt q).2.2.1) ho hp z) (k1 q)
  · exact w.1 _ _ (fun t z => XS.ifNo Y.here w.2.1 rfl (hb w.2.2.1 hd) rfl ((if0 _ _).trans (flt q).2.2.1) z) (k2 q)
theorem icmp_le (w : Wk p l e R s m args below meth c n0 Z own nm bc ml rt Q G) (X : Sd p l e R s m args below meth c n0 T h cells slots) {x y : Int32} {o : Int} (hd : decode bc pc = .ok (.if_icmp .le o, 3)) (pT pF : Nat) (ho : 0 ≤ (pc : Int) + o) (hp : ((pc : Int) + o).toNat = pT) (hq : pc + 3 = pF) (k1 : ¬ y < x → G (T.setTop (mkF m pT ls st))) (k2 : y < x → G (T.setTop (mkF m pF ls st))) : G (T.setTop (mkF m pc ls (.int y :: .int x :: st))) := by
  obtain ⟨locs, Y, -, -⟩ := X
  subst hq
  by_cases q : y < x
  · exact w.1 _ _ (fun t z => XS.icmpNo Y.here w.2.1 rfl (hb w.2.2.1 hd) rfl (tlt q).2.2.2 z) (k2 q)
  · exact w.1 _ _ (fun t z => XS.icmpYes Y.here w.2.1 rfl (pc0 := pc) (pc' := pT) rfl (hb w.2.2.1 hd) rfl (flt q).2.2.2 ho hp z) (k1 q)
theorem if_le (w : Wk p l e R s m args below meth c n0 Z own nm bc ml rt Q G) (X : Sd p l e R s m args below meth c n0 T h cells slots) {x : Int32} {o : Int} (hd : decode bc pc = .ok (.ifCond .le o, 3)) (pT pF : Nat) (ho : 0 ≤ (pc : Int) + o) (hp : ((pc : Int) + o).toNat = pT) (hq : pc + 3 = pF) (k1 : ¬ 0 < x → G (T.setTop (mkF m pT ls st))) (k2 : 0 < x → G (T.setTop (mkF m pF ls st))) : G (T.setTop (mkF m pc ls (.int x :: st))) := by
  obtain ⟨locs, Y, -, -⟩ := X
  subst hq
  by_cases q : 0 < x
  · exact w.1 _ _ (fun t z => XS.ifNo Y.here w.2.1 rfl (hb w.2.2.1 hd) rfl ((if0 _ _).trans (tlt q).2.2.2) z) (k2 q)
  · exact w.1 _ _ (fun t z => XS.ifYes Y.here w.2.1 rfl (pc0 := pc) (pc' := pT) rfl (hb w.2.2.1 hd) rfl ((if0 _ _).trans (flt q).2.2.2) ho hp z) (k1 q)
theorem icmp_eq (w : Wk p l e R s m args below meth c n0 Z own nm bc ml rt Q G) (X : Sd p l e R s m args below meth c n0 T h cells slots) {x y : Int32} {o : Int} (hd : decode bc pc = .ok (.if_icmp .eq o, 3)) (pT pF : Nat) (ho : 0 ≤ (pc : Int) + o) (hp : ((pc : Int) + o).toNat = pT) (hq : pc + 3 = pF) (k1 : x = y → G (T.setTop (mkF m pT ls st))) (k2 : ¬ x = y → G (T.setTop (mkF m pF ls st))) : G (T.setTop (mkF m pc ls (.int y :: .int x :: st))) := by
  obtain ⟨locs, Y, -, -⟩ := X
  subst hq
  by_cases q : x = y
  · exact w.1 _ _ (fun t z => XS.icmpYes Y.here w.2.1 rfl (pc0 := pc) (pc' := pT) rfl (hb w.2.2.1 hd) rfl (teq q).1 ho hp z) (k1 q)
  · exact w.1 _ _ (fun t z => XS.icmpNo Y.here w.2.1 rfl (hb w.2.2.1 hd) rfl (feq q).1 z) (k2 q)
theorem if_eq (w : Wk p l e R s m args below meth c n0 Z own nm bc ml rt Q G) (X : Sd p l e R s m args below meth c n0 T h cells slots) {x : Int32} {o : Int} (hd : decode bc pc = .ok (.ifCond .eq o, 3)) (pT pF : Nat) (ho : 0 ≤ (pc : Int) + o) (hp : ((pc : Int) + o).toNat = pT) (hq : pc + 3 = pF) (k1 : x = 0 → G (T.setTop (mkF m pT ls st))) (k2 : ¬ x = 0 → G (T.setTop (mkF m pF ls st))) : G (T.setTop (mkF m pc ls (.int x :: st))) := by
  obtain ⟨locs, Y, -, -⟩ := X
  subst hq
  by_cases q : x = 0
  · exact w.1 _ _ (fun t z => XS.ifYes Y.here w.2.1 rfl (pc0 := pc) (pc' := pT) rfl (hb w.2.2.1 hd) rfl ((if0 _ _).trans (teq q).1) ho hp z) (k1 q)
  · exact w.1 _ _ (fun t z => XS.ifNo Y.here w.2.1 rfl (hb w.2.2.1 hd) rfl ((if0 _ _).trans (feq q).1) z) (k2 q)
theorem icmp_ne (w : Wk p l e R s m args below meth c n0 Z own nm bc ml rt Q G) (X : Sd p l e R s m args below meth c n0 T h cells slots) {x y : Int32} {o : Int} (hd : decode bc pc = .ok (.if_icmp .ne o, 3)) (pT pF : Nat) (ho : 0 ≤ (pc : Int) + o) (hp : ((pc : Int) + o).toNat = pT) (hq : pc + 3 = pF) (k1 : ¬ x = y → G (T.setTop (mkF m pT ls st))) (k2 : x = y → G (T.setTop (mkF m pF ls st))) : G (T.setTop (mkF m pc ls (.int y :: .int x :: st))) := by
  obtain ⟨locs, Y, -, -⟩ := X
  subst hq
  by_cases q : x = y
  · exact w.1 _ _ (fun t z => XS.icmpNo Y.here w.2.1 rfl (hb w.2.2.1 hd) rfl (teq q).2 z) (k2 q)
  · exact w.1 _ _ (fun t z => XS.icmpYes Y.here w.2.1 rfl (pc0 := pc) (pc' := pT) rfl (hb w.2.2.1 hd) rfl (feq q).2 ho hp z) (k1 q)
theorem if_ne (w : Wk p l e R s m args below meth c n0 Z own nm bc ml rt Q G) (X : Sd p l e R s m args below meth c n0 T h cells slots) {x : Int32} {o : Int} (hd : decode bc pc = .ok (.ifCond .ne o, 3)) (pT pF : Nat) (ho : 0 ≤ (pc : Int) + o) (hp : ((pc : Int) + o).toNat = pT) (hq : pc + 3 = pF) (k1 : ¬ x = 0 → G (T.setTop (mkF m pT ls st))) (k2 : x = 0 → G (T.setTop (mkF m pF ls st))) : G (T.setTop (mkF m pc ls (.int x :: st))) := by
  obtain ⟨locs, Y, -, -⟩ := X
  subst hq
  by_cases q : x = 0
  · exact w.1 _ _ (fun t z => XS.ifNo Y.here w.2.1 rfl (hb w.2.2.1 hd) rfl ((if0 _ _).trans (teq q).2) z) (k2 q)
  · exact w.1 _ _ (fun t z => XS.ifYes Y.here w.2.1 rfl (pc0 := pc) (pc' := pT) rfl (hb w.2.2.1 hd) rfl ((if0 _ _).trans (feq q).2) ho hp z) (k1 q)
theorem acmp_eq (w : Wk p l e R s m args below meth c n0 Z own nm bc ml rt Q G) (X : Sd p l e R s m args below meth c n0 T h cells slots) {x y : Value} (hx : x.isRef = true) (hy : y.isRef = true) {o : Int} (hd : decode bc pc = .ok (.if_acmp .eq o, 3)) (pT pF : Nat) (ho : 0 ≤ (pc : Int) + o) (hp : ((pc : Int) + o).toNat = pT) (hq : pc + 3 = pF) (k1 : x = y → G (T.setTop (mkF m pT ls st))) (k2 : ¬ x = y → G (T.setTop (mkF m pF ls st))) : G (T.setTop (mkF m pc ls (y :: x :: st))) := by
  obtain ⟨locs, Y, -, -⟩ := X
  subst hq
  by_cases q : x = y
  · exact w.1 _ _ (fun t z => Jvm.RoadKit.acmp (g := mkF m pc ls (y :: x :: st)) Y w.2.1 rfl hx hy (pc0 := pc) (pc' := pT) (same := true) rfl (hb w.2.2.1 hd) rfl (decide_eq_true q) ho (by simp [acV]; omega) z) (k1 q)
  · exact w.1 _ _ (fun t z => Jvm.RoadKit.acmp (g := mkF m pc ls (y :: x :: st)) Y w.2.1 rfl hx hy (pc0 := pc) (pc' := pc + 3) (same := false) rfl (hb w.2.2.1 hd) rfl (decide_eq_false q) ho (by simp [acV]) z) (k2 q)
theorem acmp_ne (w : Wk p l e R s m args below meth c n0 Z own nm bc ml rt Q G) (X : Sd p l e R s m args below meth c n0 T h cells slots) {x y : Value} (hx : x.isRef = true) (hy : y.isRef = true) {o : Int} (hd : decode bc pc = .ok (.if_acmp .ne o, 3)) (pT pF : Nat) (ho : 0 ≤ (pc : Int) + o) (hp : ((pc : Int) + o).toNat = pT) (hq : pc + 3 = pF) (k1 : ¬ x = y → G (T.setTop (mkF m pT ls st))) (k2 : x = y → G (T.setTop (mkF m pF ls st))) : G (T.setTop (mkF m pc ls (y :: x :: st))) := by
  obtain ⟨locs, Y, -, -⟩ := X
  subst hq
  by_cases q : x = y
  · exact w.1 _ _ (fun t z => Jvm.RoadKit.acmp (g := mkF m pc ls (y :: x :: st)) Y w.2.1 rfl hx hy (pc0 := pc) (pc' := pc + 3) (same := true) rfl (hb w.2.2.1 hd) rfl (decide_eq_true q) ho (by simp [acV]) z) (k2 q)
  · exact w.1 _ _ (fun t z => Jvm.RoadKit.acmp (g := mkF m pc ls (y :: x :: st)) Y w.2.1 rfl hx hy (pc0 := pc) (pc' := pT) (same := false) rfl (hb w.2.2.1 hd) rfl (decide_eq_false q) ho (by simp [acV]; omega) z) (k1 q)
theorem ifnull_ref (w : Wk p l e R s m args below meth c n0 Z own nm bc ml rt Q G) (X : Sd p l e R s m args below meth c n0 T h cells slots) {b : Addr} {o : Int} (hd : decode bc pc = .ok (.ifnull o, 3)) (pF : Nat) (hq : pc + 3 = pF) (k : G (T.setTop (mkF m pF ls st))) : G (T.setTop (mkF m pc ls (.ref b :: st))) := by
  obtain ⟨locs, Y, -, -⟩ := X
  subst hq
  exact w.1 _ _ (fun t z => XS.ifnullNo Y.here w.2.1 rfl (hb w.2.2.1 hd) rfl z) k
theorem ifnull_null (w : Wk p l e R s m args below meth c n0 Z own nm bc ml rt Q G) (X : Sd p l e R s m args below meth c n0 T h cells slots) {o : Int} (hd : decode bc pc = .ok (.ifnull o, 3)) (pT : Nat) (ho : 0 ≤ (pc : Int) + o) (hp : ((pc : Int) + o).toNat = pT) (k : G (T.setTop (mkF m pT ls st))) : G (T.setTop (mkF m pc ls (.null :: st))) := by
  obtain ⟨locs, Y, -, -⟩ := X
  exact w.1 _ _ (fun t z => XS.ifnullYes Y.here w.2.1 rfl (pc0 := pc) (pc' := pT) rfl (hb w.2.2.1 hd) rfl ho hp z) k
theorem ifnonnull_ref (w : Wk p l e R s m args below meth c n0 Z own nm bc ml rt Q G) (X : Sd p l e R s m args below meth c n0 T h cells slots) {b : Addr} {o : Int} (hd : decode bc pc = .ok (.ifnonnull o, 3)) (pT : Nat) (ho : 0 ≤ (pc : Int) + o) (hp : ((pc : Int) + o).toNat = pT) (k : G (T.setTop (mkF m pT ls st))) : G (T.setTop (mkF m pc ls (.ref b :: st))) := by
  obtain ⟨locs, Y, -, -⟩ := X
  exact w.1 _ _ (fun t z => XT.ifnonnullYes Y.here w.2.1 rfl (pc0 := pc) (pc' := pT) rfl (hb w.2.2.1 hd) rfl ho hp z) k
theorem ifnonnull_null (w : Wk p l e R s m args below meth c n0 Z own nm bc ml rt Q G) (X : Sd p l e R s m args below meth c n0 T h cells slots) {o : Int} (hd : decode bc pc = .ok (.ifnonnull o, 3)) (pF : Nat) (hq : pc + 3 = pF) (k : G (T.setTop (mkF m pF ls st))) : G (T.setTop (mkF m pc ls (.null :: st))) := by
  obtain ⟨locs, Y, -, -⟩ := X
  subst hq
  exact w.1 _ _ (fun t z => XT.ifnonnullNo Y.here w.2.1 rfl (hb w.2.2.1 hd) rfl z) k
theorem lswHit (w : Wk p l e R s m args below meth c n0 Z own nm bc ml rt Q G) (X : Sd p l e R s m args below meth c n0 T h cells slots) {i : Int32} {df : Int} {ps : Array (Int × Int)} {len : Nat} (hd : decode bc pc = .ok (.lookupswitch df ps, len)) (hs : (ps.toList.zip (ps.toList.drop 1)).all (fun (a, next) => a.1 < next.1) = true) {a off : Int} (pc' : Nat) (hf : ps.find? (·.1 == i.toInt) = some (a, off)) (ho : 0 ≤ (pc : Int) + off) (hp : ((pc : Int) + off).toNat = pc') (k : G (T.setTop (mkF m pc' ls st))) : G (T.setTop (mkF m pc ls (.int i :: st))) := by
  obtain ⟨locs, Y, -, -⟩ := X
  subst hp
  exact w.1 _ _ (fun t z => Y.lookupswitchHit w.2.1 (g := mkF m pc ls (.int i :: st)) rfl rfl (hb w.2.2.1 hd) hs hf ho t z) k
theorem lswMiss (w : Wk p l e R s m args below meth c n0 Z own nm bc ml rt Q G) (X : Sd p l e R s m args below meth c n0 T h cells slots) {i : Int32} {df : Int} {ps : Array (Int × Int)} {len : Nat} (hd : decode bc pc = .ok (.lookupswitch df ps, len)) (hs : (ps.toList.zip (ps.toList.drop 1)).all (fun (a, next) => a.1 < next.1) = true) (pc' : Nat) (hf : ps.find? (·.1 == i.toInt) = none) (ho : 0 ≤ (pc : Int) + df) (hp : ((pc : Int) + df).toNat = pc') (k : G (T.setTop (mkF m pc' ls st))) : G (T.setTop (mkF m pc ls (.int i :: st))) := by
  obtain ⟨locs, Y, -, -⟩ := X
  subst hp
  exact w.1 _ _ (fun t z => Y.lookupswitchMiss w.2.1 (g := mkF m pc ls (.int i :: st)) rfl rfl (hb w.2.2.1 hd) hs hf ho t z) k
theorem tswIn (w : Wk p l e R s m args below meth c n0 Z own nm bc ml rt Q G) (X : Sd p l e R s m args below meth c n0 T h cells slots) {i : Int32} {df lo hi : Int} {ofs : Array Int} {len : Nat} (hd : decode bc pc = .ok (.tableswitch df lo hi ofs, len)) (pc' : Nat) {off : Int} (hin : ¬ (i.toInt < lo ∨ i.toInt > hi)) (hoff : ofs[(i.toInt - lo).toNat]? = some off) (ho : 0 ≤ (pc : Int) + off) (hp : ((pc : Int) + off).toNat = pc') (k : G (T.setTop (mkF m pc' ls st))) : G (T.setTop (mkF m pc ls (.int i :: st))) := by
  obtain ⟨locs, Y, -, -⟩ := X
  exact w.1 _ _ (fun t z => XS.tswIn Y.here w.2.1 rfl (pc0 := pc) (pc' := pc') rfl (hb w.2.2.1 hd) rfl hin hoff ho hp z) k
theorem tswOut (w : Wk p l e R s m args below meth c n0 Z own nm bc ml rt Q G) (X : Sd p l e R s m args below meth c n0 T h cells slots) {i : Int32} {df lo hi : Int} {ofs : Array Int} {len : Nat} (hd : decode bc pc = .ok (.tableswitch df lo hi ofs, len)) (pc' : Nat) (hout : i.toInt < lo ∨ i.toInt > hi) (ho : 0 ≤ (pc : Int) + df) (hp : ((pc : Int) + df).toNat = pc') (k : G (T.setTop (mkF m pc' ls st))) : G (T.setTop (mkF m pc ls (.int i :: st))) := by
  obtain ⟨locs, Y, -, -⟩ := X
  exact w.1 _ _ (fun t z => XS.tswOut Y.here w.2.1 rfl (pc0 := pc) (pc' := pc') rfl (hb w.2.2.1 hd) rfl hout ho hp z) k
theorem retI (w : Wk p l e R s m args below meth c n0 Z own nm bc ml rt Q G) (X : Sd p l e R s m args below meth c n0 T h cells slots) {z : Int32} (hrt : rt = some .int) (hd : decode bc pc = .ok (.ireturn, 1)) (hc : cells ≤ R.cells) (hl : slots ≤ R.slots) (k : Q (some (.int z)) h) : G (T.setTop (mkF m pc ls (.int z :: st))) := by
  have hr : meth.sig.returnType = some .int := w.2.2.2.2.2.2.1.trans hrt
  refine w.2.2.2.2.2.2.2.2 T h cells slots (some (.int z)) X hc hl (fun q => by rw [hr] at q; cases q) k _ (fun fs hfs => ?_)
  obtain ⟨locs, Y, -, -⟩ := X
  exact retOut Y w.2.1 hr rfl (Or.inl ⟨rfl, Or.inl rfl, z, rfl⟩) (hb w.2.2.1 hd) hfs
theorem retN (w : Wk p l e R s m args below meth c n0 Z own nm bc ml rt Q G) (X : Sd p l e R s m args below meth c n0 T h cells slots) {z : Int32} {t : FieldType} (hrt : rt = some t) (ht : t = .boolean ∨ t = .byte ∨ t = .char ∨ t = .short) (hd : decode bc pc = .ok (.ireturn, 1)) (hc : cells ≤ R.cells) (hl : slots ≤ R.slots) (k : Q (some (.int (nar t z))) h) : G (T.setTop (mkF m pc ls (.int z :: st))) := by
  have hr : meth.sig.returnType = some t := w.2.2.2.2.2.2.1.trans hrt
  refine w.2.2.2.2.2.2.2.2 T h cells slots (some (.int (nar t z))) X hc hl (fun q => by rw [hr] at q; cases q) k _ (fun fs hfs => ?_)
  obtain ⟨locs, Y, -, -⟩ := X
  exact Jvm.RoadKit.retN Y w.2.1 hr ht (hb w.2.2.1 hd) hfs
theorem retJ (w : Wk p l e R s m args below meth c n0 Z own nm bc ml rt Q G) (X : Sd p l e R s m args below meth c n0 T h cells slots) {z : Int64} (hrt : rt = some .long) (hd : decode bc pc = .ok (.lreturn, 1)) (hc : cells ≤ R.cells) (hl : slots ≤ R.slots) (k : Q (some (.long z)) h) : G (T.setTop (mkF m pc ls (.long z :: st))) := by
  have hr : meth.sig.returnType = some .long := w.2.2.2.2.2.2.1.trans hrt
  refine w.2.2.2.2.2.2.2.2 T h cells slots (some (.long z)) X hc hl (fun q => by rw [hr] at q; cases q) k _ (fun fs hfs => ?_)
  obtain ⟨locs, Y, -, -⟩ := X
  exact retOut Y w.2.1 hr rfl (Or.inr (Or.inl ⟨rfl, rfl, z, rfl⟩)) (hb w.2.2.1 hd) hfs
theorem retA (w : Wk p l e R s m args below meth c n0 Z own nm bc ml rt Q G) (X : Sd p l e R s m args below meth c n0 T h cells slots) {z : Value} {t : FieldType} (hrt : rt = some t) (ht : t.isReference = true) (hz : z.isRef = true) (hd : decode bc pc = .ok (.areturn, 1)) (hc : cells ≤ R.cells) (hl : slots ≤ R.slots) (k : Q (some z) h) : G (T.setTop (mkF m pc ls (z :: st))) := by
  have hr : meth.sig.returnType = some t := w.2.2.2.2.2.2.1.trans hrt
  refine w.2.2.2.2.2.2.2.2 T h cells slots (some z) X hc hl (fun q => by rw [hr] at q; cases q) k _ (fun fs hfs => ?_)
  obtain ⟨locs, Y, -, -⟩ := X
  refine retOut Y w.2.1 hr ?_ (Or.inr (Or.inr (Or.inr (Or.inr ⟨rfl, ht, hz⟩)))) (hb w.2.2.1 hd) hfs
  rcases ref_cases hz with rfl | ⟨a, rfl⟩ <;> cases t <;> first | rfl | (cases ht; done)
theorem retV (w : Wk p l e R s m args below meth c n0 Z own nm bc ml rt Q G) (X : Sd p l e R s m args below meth c n0 T h cells slots) (hrt : rt = none) (hd : decode bc pc = .ok (.return_, 1)) (hc : cells ≤ R.cells) (hl : slots ≤ R.slots) (k : Q none h) : G (T.setTop (mkF m pc ls [])) := by
  have hr : meth.sig.returnType = none := w.2.2.2.2.2.2.1.trans hrt
  refine w.2.2.2.2.2.2.2.2 T h cells slots none X hc hl (fun _ => rfl) k _ (fun fs hfs => ?_)
  obtain ⟨locs, Y, -, -⟩ := X
  exact Y.returnOut w.2.1 hr (hb w.2.2.1 hd) hfs
theorem getfield (w : Wk p l e R s m args below meth c n0 Z own nm bc ml rt Q G) (X : Sd p l e R s m args below meth c n0 T h cells slots) {R0 O n d : String} {i : Nat} {a : Addr} {v : Value} (wl : (Cond.fieldLink own i R0 n d).before a0 Z = true) (via : Via Z R0 O n d) (F : Fld Z h a O n d v) (hd : decode bc pc = .ok (.getfield i, 3)) (pc' : Nat) (hp : pc + 3 = pc') (k : ∀ T' : State, Sd p l e R s m args below meth c n0 T' h cells slots → G (T'.setTop (mkF m pc' ls (v :: st)))) : G (T.setTop (mkF m pc ls (.ref a :: st))) := by
  obtain ⟨locs, Y, N, eT⟩ := X
  subst hp
  obtain ⟨T', Y', e', q⟩ := getF Y w.2.1 w.2.2.2.2.1 (host := "") w.2.2.2.2.2.1 (Or.inl wl) via eT F (g := mkF m pc ls (.ref a :: st)) rfl rfl (hb w.2.2.1 hd)
  exact w.1 _ _ q (k T' ⟨locs, Y', N, e'⟩)
theorem getfieldNest (w : Wk p l e R s m args below meth c n0 Z own nm bc ml rt Q G) (X : Sd p l e R s m args below meth c n0 T h cells slots) {R0 O n d host : String} {i : Nat} {a : Addr} {v : Value} (wl : (Cond.fieldLinkNest own i R0 n d host).before a0 Z = true) (via : Via Z R0 O n d) (F : Fld Z h a O n d v) (hd : decode bc pc = .ok (.getfield i, 3)) (pc' : Nat) (hp : pc + 3 = pc') (k : ∀ T' : State, Sd p l e R s m args below meth c n0 T' h cells slots → G (T'.setTop (mkF m pc' ls (v :: st)))) : G (T.setTop (mkF m pc ls (.ref a :: st))) := by
  obtain ⟨locs, Y, N, eT⟩ := X
  subst hp
  obtain ⟨T', Y', e', q⟩ := getF Y w.2.1 w.2.2.2.2.1 w.2.2.2.2.2.1 (Or.inr wl) via eT F (g := mkF m pc ls (.ref a :: st)) rfl rfl (hb w.2.2.1 hd)
  exact w.1 _ _ q (k T' ⟨locs, Y', N, e'⟩)
theorem getstatic (w : Wk p l e R s m args below meth c n0 Z own nm bc ml rt Q G) (X : Sd p l e R s m args below meth c n0 T h cells slots) {R0 O n d : String} {i : Nat} {v : Value} (wl : (Cond.fieldLink own i R0 n d).before a0 Z = true) (via : Via Z R0 O n d) (F : Sta Z h O n d v) (hd : decode bc pc = .ok (.getstatic i, 3)) (pc' : Nat) (hp : pc + 3 = pc') (k : ∀ T' : State, Sd p l e R s m args below meth c n0 T' h cells slots → G (T'.setTop (mkF m pc' ls (v :: st)))) : G (T.setTop (mkF m pc ls st)) := by
  obtain ⟨locs, Y, N, eT⟩ := X
  subst hp
  obtain ⟨T', Y', e', q⟩ := getS2 (host := "") Y w.2.1 w.2.2.2.2.1 w.2.2.2.2.2.1 (Or.inl wl) via eT F (g := mkF m pc ls st) rfl (hb w.2.2.1 hd)
  exact w.1 _ _ q (k T' ⟨locs, Y', N, e'⟩)
theorem getstaticNest (w : Wk p l e R s m args below meth c n0 Z own nm bc ml rt Q G) (X : Sd p l e R s m args below meth c n0 T h cells slots) {R0 O n d host : String} {i : Nat} {v : Value} (wl : (Cond.fieldLinkNest own i R0 n d host).before a0 Z = true) (via : Via Z R0 O n d) (F : Sta Z h O n d v) (hd : decode bc pc = .ok (.getstatic i, 3)) (pc' : Nat) (hp : pc + 3 = pc') (k : ∀ T' : State, Sd p l e R s m args below meth c n0 T' h cells slots → G (T'.setTop (mkF m pc' ls (v :: st)))) : G (T.setTop (mkF m pc ls st)) := by
  obtain ⟨locs, Y, N, eT⟩ := X
  subst hp
  obtain ⟨T', Y', e', q⟩ := getS2 Y w.2.1 w.2.2.2.2.1 w.2.2.2.2.2.1 (Or.inr wl) via eT F (g := mkF m pc ls st) rfl (hb w.2.2.1 hd)
  exact w.1 _ _ q (k T' ⟨locs, Y', N, e'⟩)
theorem checkcast (w : Wk p l e R s m args below meth c n0 Z own nm bc ml rt Q G) (X : Sd p l e R s m args below meth c n0 T h cells slots) {K : String} {i : Nat} {a : Addr} (wl : (Cond.classLink own i K).before a0 Z = true) (F : Ins Z h a K true) (hd : decode bc pc = .ok (.checkcast i, 3)) (pc' : Nat) (hp : pc + 3 = pc') (k : ∀ T' : State, Sd p l e R s m args below meth c n0 T' h cells slots → G (T'.setTop (mkF m pc' ls (.ref a :: st)))) : G (T.setTop (mkF m pc ls (.ref a :: st))) := by
  obtain ⟨locs, Y, N, eT⟩ := X
  subst hp
  obtain ⟨T', Y', e', q⟩ := castY Y w.2.1 w.2.2.2.2.1 w.2.2.2.2.2.1 wl eT F (g := mkF m pc ls (.ref a :: st)) rfl rfl (hb w.2.2.1 hd)
  exact w.1 _ _ q (k T' ⟨locs, Y', N, e'⟩)
theorem putfield (w : Wk p l e R s m args below meth c n0 Z own nm bc ml rt Q G) (X : Sd p l e R s m args below meth c n0 T h cells slots) {R0 O n d C : String} {i kk : Nat} {ty : FieldType} {a : Addr} {v old : Value} (wl : (Cond.fieldLink own i R0 n d).before a0 Z = true) (via : Via Z R0 O n d) (F : Fld Z h a O n d old) (E : Exa Z h a C) (L : (Cond.lays C O n d).before a0 Z = true ∨ ((Cond.laysFinal C O n d).before a0 Z = true ∧ own = O ∧ nm = "<init>")) (wi : (Cond.instantiable C kk).before a0 Z = true) (hty : parseFieldDescriptor d = some ty) (hn : narrow ty v = v) (hf : fits ty v = true) (ha : n0 ≤ a) (hd : decode bc pc = .ok (.putfield i, 3)) (pc' : Nat) (hp : pc + 3 = pc')
    (k : ∀ (T' : State) (h' : Heap), Sd p l e R s m args below meth c n0 T' h' cells slots → Wr h h' a (Jvm.RoadKit.slotOf Z O n d) v → G (T'.setTop (mkF m pc' ls st))) : G (T.setTop (mkF m pc ls (v :: .ref a :: st))) := by
  obtain ⟨locs, Y, N, eT⟩ := X
  subst hp
  obtain ⟨T', h', Y', e', W', q⟩ := putF Y w.2.1 w.2.2.2.2.1 (host := "") w.2.2.2.2.2.1 (Or.inl wl) via eT F E (L.imp id fun z => ⟨z.1, z.2.1, w.2.2.2.2.2.2.2.1.trans z.2.2⟩) wi hty hn hf (g := mkF m pc ls (v :: .ref a :: st)) rfl rfl (hb w.2.2.1 hd)
  exact w.1 _ _ q (k T' h' ⟨_, Y', Fr.snoc Y' N ha, e'⟩ W')
theorem putfieldN (w : Wk p l e R s m args below meth c n0 Z own nm bc ml rt Q G) (X : Sd p l e R s m args below meth c n0 T h cells slots) {R0 O n d C : String} {i kk : Nat} {ty : FieldType} {a : Addr} {v v' old : Value} (wl : (Cond.fieldLink own i R0 n d).before a0 Z = true) (via : Via Z R0 O n d) (F : Fld Z h a O n d old) (E : Exa Z h a C) (L : (Cond.lays C O n d).before a0 Z = true ∨ ((Cond.laysFinal C O n d).before a0 Z = true ∧ own = O ∧ nm = "<init>")) (wi : (Cond.instantiable C kk).before a0 Z = true) (hty : parseFieldDescriptor d = some ty) (hn : narrow ty v = v') (hf : fits ty v' = true) (ha : n0 ≤ a) (hd : decode bc pc = .ok (.putfield i, 3)) (pc' : Nat) (hp : pc + 3 = pc')
    (k : ∀ (T' : State) (h' : Heap), Sd p l e R s m args below meth c n0 T' h' cells slots → Wr h h' a (Jvm.RoadKit.slotOf Z O n d) v' → G (T'.setTop (mkF m pc' ls st))) : G (T.setTop (mkF m pc ls (v :: .ref a :: st))) := by
  obtain ⟨locs, Y, N, eT⟩ := X
  subst hp
  obtain ⟨T', h', Y', e', W', q⟩ := putFN Y w.2.1 w.2.2.2.2.1 w.2.2.2.2.2.1 wl via eT F E (L.imp id fun z => ⟨z.1, z.2.1, w.2.2.2.2.2.2.2.1.trans z.2.2⟩) wi hty hn hf (g := mkF m pc ls (v :: .ref a :: st)) rfl rfl (hb w.2.2.1 hd)
  exact w.1 _ _ q (k T' h' ⟨_, Y', Fr.snoc Y' N ha, e'⟩ W')
theorem new (w : Wk p l e R s m args below meth c n0 Z own nm bc ml rt Q G) (X : Sd p l e R s m args below meth c n0 T h cells slots) {C : String} {i n : Nat} (wl : (Cond.classLink own i C).before a0 Z = true) (wi : (Cond.instantiable C n).before a0 Z = true) (wz : (Cond.initialized C).before a0 Z = true) (hd : decode bc pc = .ok (.new i, 3)) (pc' : Nat) (hp : pc + 3 = pc') (hc : cells + 1 ≤ R.cells) (hl : slots + n ≤ R.slots)
    (k : ∀ (T' : State) (h' : Heap) (a : Addr), Sd p l e R s m args below meth c n0 T' h' (cells + 1) (slots + n) → a = h.size → Ext h h' → Exa Z h' a C → (∀ {O nm d : String} {ty : FieldType}, Laid Z a0 C O nm d → parseFieldDescriptor d = some ty → Fld Z h' a O nm d (defaultValue ty)) → G (T'.setTop (mkF m pc' ls (.ref a :: st)))) : G (T.setTop (mkF m pc ls st)) := by
  obtain ⟨locs, Y, N, eT⟩ := X
  subst hp
  obtain ⟨T', h', Y', e', E', A', D', -, q⟩ := newO Y w.2.1 w.2.2.2.2.1 w.2.2.2.2.2.1 wl wi wz eT (g := mkF m pc ls st) rfl (hb w.2.2.1 hd) hc hl
  exact w.1 _ _ q (k T' h' _ ⟨locs, Y', N, e'⟩ rfl E' A' D')
theorem newarr (w : Wk p l e R s m args below meth c n0 Z own nm bc ml rt Q G) (X : Sd p l e R s m args below meth c n0 T h cells slots) {aty : ArrayType} {n : Int32} (wa : (Cond.arrayClass (newarray.typeOf aty)).before a0 Z = true) (hd : decode bc pc = .ok (.newarray aty, 2)) (pc' : Nat) (hp : pc + 2 = pc') (hn : ¬ n < 0) (cap : Nat) (hcap : n.toNatClampNeg ≤ cap) (hb' : cap * 8 ≤ 536870912) (hc : cells + 1 ≤ R.cells) (hl : slots + cap ≤ R.slots)
    (k : ∀ (T' : State) (h' : Heap) (a : Addr) (cA : ClassId), Sd p l e R s m args below meth c n0 T' h' (cells + 1) (slots + cap) → a = h.size → Ext h h' → Arr Z h' a (newA cA (newarray.typeOf aty) n) (newarray.typeOf aty) → G (T'.setTop (mkF m pc' ls (.ref a :: st)))) : G (T.setTop (mkF m pc ls (.int n :: st))) := by
  obtain ⟨locs, Y, N, eT⟩ := X
  subst hp
  obtain ⟨T', h', cA, Y', e', E', A', q⟩ := newP Y w.2.1 w.2.2.2.2.1 wa eT (g := mkF m pc ls (.int n :: st)) rfl (hb w.2.2.1 hd) rfl hn hcap hb' hc hl
  exact w.1 _ _ q (k T' h' _ cA ⟨locs, Y', N, e'⟩ rfl E' A')
theorem anewO (w : Wk p l e R s m args below meth c n0 Z own nm bc ml rt Q G) (X : Sd p l e R s m args below meth c n0 T h cells slots) {C : String} {i : Nat} {n : Int32} (w1 : (Cond.classLink own i C).before a0 Z = true) (w2 : (Cond.arrayOver (.object C)).before a0 Z = true) (hd : decode bc pc = .ok (.anewarray i, 3)) (pc' : Nat) (hp : pc + 3 = pc') (hn : ¬ n < 0) (cap : Nat) (hcap : n.toNatClampNeg ≤ cap) (hb' : cap * 8 ≤ 536870912) (hc : cells + 1 ≤ R.cells) (hl : slots + cap ≤ R.slots)
    (k : ∀ (T' : State) (h' : Heap) (a : Addr) (cA : ClassId), Sd p l e R s m args below meth c n0 T' h' (cells + 1) (slots + cap) → a = h.size → Ext h h' → Arr Z h' a (newA cA (.object C) n) (.object C) ∧ Ovr Z cA C → G (T'.setTop (mkF m pc' ls (.ref a :: st)))) : G (T.setTop (mkF m pc ls (.int n :: st))) := by
  obtain ⟨locs, Y, N, eT⟩ := X
  subst hp
  obtain ⟨T', h', cA, Y', e', E', A', O', q⟩ := newR Y w.2.1 w.2.2.2.2.1 w.2.2.2.2.2.1 w1 w2 eT (g := mkF m pc ls (.int n :: st)) rfl (hb w.2.2.1 hd) rfl hn hcap hb' hc hl
  exact w.1 _ _ q (k T' h' _ cA ⟨locs, Y', N, e'⟩ rfl E' ⟨A', O'⟩)
theorem anewA (w : Wk p l e R s m args below meth c n0 Z own nm bc ml rt Q G) (X : Sd p l e R s m args below meth c n0 T h cells slots) {C : String} {ty : FieldType} {i : Nat} {n : Int32} (hC : (FieldType.array ty).toString = C) (w1 : (Cond.classLink own i C).before a0 Z = true) (w2 : (Cond.arrayOver (.array ty)).before a0 Z = true) (hd : decode bc pc = .ok (.anewarray i, 3)) (pc' : Nat) (hp : pc + 3 = pc') (hn : ¬ n < 0) (cap : Nat) (hcap : n.toNatClampNeg ≤ cap) (hb' : cap * 8 ≤ 536870912) (hc : cells + 1 ≤ R.cells) (hl : slots + cap ≤ R.slots)
    (k : ∀ (T' : State) (h' : Heap) (a : Addr) (cA : ClassId), Sd p l e R s m args below meth c n0 T' h' (cells + 1) (slots + cap) → a = h.size → Ext h h' → Arr Z h' a (newA cA (.array ty) n) (.array ty) ∧ OvrA Z cA ty C → G (T'.setTop (mkF m pc' ls (.ref a :: st)))) : G (T.setTop (mkF m pc ls (.int n :: st))) := by
  obtain ⟨locs, Y, N, eT⟩ := X
  subst hp
  obtain ⟨T', h', cA, Y', e', E', A', -, O', q⟩ := newRA Y w.2.1 w.2.2.2.2.1 w.2.2.2.2.2.1 hC w1 w2 eT (g := mkF m pc ls (.int n :: st)) rfl (hb w.2.2.1 hd) rfl hn hcap hb' hc hl rfl
  exact w.1 _ _ q (k T' h' _ cA ⟨locs, Y', N, e'⟩ rfl E' ⟨A', O'⟩)
theorem initObj (w : Wk p l e R s m args below meth c n0 Z own nm bc ml rt Q G) (X : Sd p l e R s m args below meth c n0 T h cells slots) {i : Nat} {a : Addr} (w1 : (Cond.methodLink own i Lib.objectInit).before a0 Z = true) (w2 : (Cond.instanceMethod Lib.objectInit).before a0 Z = true) (w3 : (Cond.code Lib.objectInit ⟨#[0xb1]⟩ 1 none).before a0 Z = true) (hd : decode bc pc = .ok (.invokespecial i, 3)) (pc' : Nat) (hp : pc + 3 = pc') (hsz : ls.size = ml) (hf : 1 ≤ R.frames) (Wd : Nat) (hW : (st.map fun v => v.category).sum ≤ Wd) (hl : Wd + 12 ≤ R.locals)
    (k : ∀ T' : State, Sd p l e R s m args below meth c n0 T' h cells slots → G (T'.setTop (mkF m pc' ls st))) : G (T.setTop (mkF m pc ls (.ref a :: st))) := by
  obtain ⟨locs, Y, N, eT⟩ := X
  subst hp
  obtain ⟨T', Y', e', q⟩ := initO Y w.2.1 w.2.2.2.2.1 w.2.2.2.2.2.1 w1 w2 w3 eT (g := mkF m pc ls (.ref a :: st)) rfl (hsz.trans w.2.2.2.1.symm) rfl (hb w.2.2.1 hd) hf (W := Wd) (by show 2 * 0 + _ ≤ _; omega) hl
  exact w.1 _ _ q (k T' ⟨locs, Y', N, e'⟩)
theorem callS (w : Wk p l e R s m args below meth c n0 Z own nm bc ml rt Q G) (X : Sd p l e R s m args below meth c n0 T h cells slots) {y : MethodName} {ybc : ByteArray} {yml : Nat} {yrt : Option FieldType} {rm : Room} {i : Nat} {sk : List Value} {Qy : Option Value → Heap → Prop} (av : List Value) (w1 : (Cond.methodLink own i y).before a0 Z = true) (w2 : (Cond.static y).before a0 Z = true) (w3 : (Cond.initialized y.cls).before a0 Z = true) (w4 : (Cond.code y ybc yml yrt).before a0 Z = true) (hy : y.cls ≠ "java/lang/invoke/MethodHandle" ∧ y.cls ≠ "java/lang/invoke/VarHandle") (hM : Met l Z y ybc yml yrt [] rm av.toArray h n0 Qy) (hd : decode bc pc = .ok (.invokestatic i, 3)) (pc' : Nat) (hp : pc + 3 = pc') (Wd : Nat) (hfr : rm.frames + 1 ≤ R.frames) (hlo : Wd + (yml + 11) + rm.locals ≤ R.locals) (hlen : ∀ sig, parseMethodDescriptor y.desc = some sig → av.length = sig.parameters.length) (hst : sk = av.reverse ++ st) (hW : (st.map fun v => v.category).sum ≤ Wd) (hsz : ls.size = ml) (hc : cells + rm.cells ≤ R.cells) (hs : slots + rm.slots ≤ R.slots) (k : ∀ (v : Option Value) (T' : State) (h' : Heap), Sd p l e R s m args below meth c n0 T' h' (cells + rm.cells) (slots + rm.slots) → Qy v h' → G (T'.setTop (mkF m pc' ls (v.toList ++ st)))) : G (T.setTop (mkF m pc ls sk)) := by
  obtain ⟨locs, Y, N, eT⟩ := X
  subst hp hst
  have hZ := w.2.2.2.2.1
  obtain ⟨v, _, ⟨T', L', k', n'⟩, -, Y', ⟨Lc, ⟨hQ, NL⟩, l1, y1, z1⟩, q⟩ := Jvm.LawKit.callS Y w.2.1 (y := y) w.2.2.2.2.2.1 (mvT hZ w1) (mvT hZ w2) (mvT hZ w3) (mvT hZ w4) hy (backOf (W := Wd) (Q := fun v h' L => Qy v h' ∧ Fr n0 L) hM hZ w4 w3 hfr hlo) (g := mkF m pc ls (av.reverse ++ st)) rfl (hsz.trans w.2.2.2.1.symm) (argsL := av) (rest := st) hlen rfl (by show 2 * 0 + _ ≤ _; omega) (hb w.2.2.1 hd) (fun _ _ => ⟨rfl, eT, hc, hs⟩)
  dsimp only [Pt.U, Pt.locs, Pt.cells, Pt.slots] at Y' l1 y1 z1 q hQ
  subst l1 y1 z1
  exact w.1 _ _ q (k v T' _ ⟨_, Y', Fr.app N NL, rfl⟩ hQ)
theorem callN (w : Wk p l e R s m args below meth c n0 Z own nm bc ml rt Q G) (X : Sd p l e R s m args below meth c n0 T h cells slots) {y : MethodName} {ybc : ByteArray} {yml : Nat} {rm : Room} {i : Nat} {sk : List Value} {Qy : Option Value → Heap → Prop} {a : Addr} (av : List Value) (w1 : (Cond.methodLink own i y).before a0 Z = true) (w2 : (Cond.instanceMethod y).before a0 Z = true) (w3 : (Cond.initialized y.cls).before a0 Z = true) (w4 : (Cond.code y ybc yml none).before a0 Z = true) (hi : y.name = "<init>") (hy : y.cls ≠ "java/lang/invoke/MethodHandle" ∧ y.cls ≠ "java/lang/invoke/VarHandle") (hM : Met l Z y ybc yml none [] rm (.ref a :: av).toArray h n0 Qy) (hd : decode bc pc = .ok (.invokespecial i, 3)) (pc' : Nat) (hp : pc + 3 = pc') (Wd : Nat) (hfr : rm.frames + 1 ≤ R.frames) (hlo : Wd + (yml + 11) + rm.locals ≤ R.locals) (hlen : ∀ sig, parseMethodDescriptor y.desc = some sig → av.length = sig.parameters.length) (hst : sk = av.reverse ++ .ref a :: st) (hW : (st.map fun v => v.category).sum ≤ Wd) (hsz : ls.size = ml) (hc : cells + rm.cells ≤ R.cells) (hs : slots + rm.slots ≤ R.slots) (k : ∀ (v : Option Value) (T' : State) (h' : Heap), Sd p l e R s m args below meth c n0 T' h' (cells + rm.cells) (slots + rm.slots) → Qy v h' → G (T'.setTop (mkF m pc' ls (v.toList ++ st)))) : G (T.setTop (mkF m pc ls sk)) := by
  obtain ⟨locs, Y, N, eT⟩ := X
  subst hp hst
  have hZ := w.2.2.2.2.1
  obtain ⟨v, _, ⟨T', L', k', n'⟩, -, Y', ⟨Lc, ⟨hQ, NL⟩, l1, y1, z1⟩, q⟩ := Y.specialBack w.2.1 (y := y) hi w.2.2.2.2.2.1 (mvT hZ w1) (mvT hZ w2) (mvT hZ w4) hy (backOf (W := Wd) (Q := fun v h' L => Qy v h' ∧ Fr n0 L) hM hZ w4 w3 hfr hlo) (g := mkF m pc ls (av.reverse ++ .ref a :: st)) rfl (hsz.trans w.2.2.2.1.symm) (Steps.refl _) (a := a) (argsL := av) (rest := st) hlen rfl (by show 2 * 0 + _ ≤ _; omega) (hb w.2.2.1 hd) (fun _ _ => ⟨rfl, eT, hc, hs⟩)
  dsimp only [Pt.U, Pt.locs, Pt.cells, Pt.slots] at Y' l1 y1 z1 q hQ
  subst l1 y1 z1
  exact w.1 _ _ (fun t z => q.trans z) (k v T' _ ⟨_, Y', Fr.app N NL, rfl⟩ hQ)
theorem callV (w : Wk p l e R s m args below meth c n0 Z own nm bc ml rt Q G) (X : Sd p l e R s m args below meth c n0 T h cells slots) {y z : MethodName} {ybc : ByteArray} {yml : Nat} {yrt : Option FieldType} {rm : Room} {i : Nat} {sk : List Value} {Qy : Option Value → Heap → Prop} {C : String} {a : Addr} (av : List Value) (w1 : (Cond.methodLink own i y).before a0 Z = true) (w2 : (Cond.declares y).before a0 Z = true) (hnf : NotFace s y) (w5 : (Cond.selects C y z).before a0 Z = true) (w6 : (Cond.instanceMethod z).before a0 Z = true) (w3 : (Cond.initialized z.cls).before a0 Z = true) (w4 : (Cond.code z ybc yml yrt).before a0 Z = true) (hy : y.cls ≠ "java/lang/invoke/MethodHandle" ∧ y.cls ≠ "java/lang/invoke/VarHandle") (E : Exa Z h a C) (hM : Met l Z z ybc yml yrt [] rm (.ref a :: av).toArray h n0 Qy) (hd : decode bc pc = .ok (.invokevirtual i, 3)) (pc' : Nat) (hp : pc + 3 = pc') (Wd : Nat) (hfr : rm.frames + 1 ≤ R.frames) (hlo : Wd + (yml + 11) + rm.locals ≤ R.locals) (hlen : ∀ sig, parseMethodDescriptor y.desc = some sig → av.length = sig.parameters.length) (hst : sk = av.reverse ++ .ref a :: st) (hW : (st.map fun v => v.category).sum ≤ Wd) (hsz : ls.size = ml) (hc : cells + rm.cells ≤ R.cells) (hs : slots + rm.slots ≤ R.slots) (k : ∀ (v : Option Value) (T' : State) (h' : Heap), Sd p l e R s m args below meth c n0 T' h' (cells + rm.cells) (slots + rm.slots) → Qy v h' → G (T'.setTop (mkF m pc' ls (v.toList ++ st)))) : G (T.setTop (mkF m pc ls sk)) := by
  obtain ⟨locs, Y, N, eT⟩ := X
  subst hp hst
  have hZ := w.2.2.2.2.1
  obtain ⟨cq, kq, qa, qb, qc⟩ := isOf hZ eT E
  obtain ⟨v, _, ⟨T', L', k', n'⟩, -, Y', ⟨Lc, ⟨hQ, NL⟩, l1, y1, z1⟩, q⟩ := Y.virtualBack w.2.1 (y := y) (z := z) w.2.2.2.2.2.1 (mvT hZ w1) (mvT hZ w2) hnf (mvT hZ w5) (mvT hZ w6) hy (backOf (W := Wd) (Q := fun v h' L => Qy v h' ∧ Fr n0 L) hM hZ w4 w3 hfr hlo) qa qc (g := mkF m pc ls (av.reverse ++ .ref a :: st)) rfl (hsz.trans w.2.2.2.1.symm) (Steps.refl _) (argsL := av) (rest := st) hlen rfl (by show 2 * 0 + _ ≤ _; omega) (hb w.2.2.1 hd) (fun _ _ => ⟨rfl, eT, hc, hs⟩)
  dsimp only [Pt.U, Pt.locs, Pt.cells, Pt.slots] at Y' l1 y1 z1 q hQ
  subst l1 y1 z1
  exact w.1 _ _ (fun t z => q.trans z) (k v T' _ ⟨_, Y', Fr.app N NL, rfl⟩ hQ)
theorem callP (w : Wk p l e R s m args below meth c n0 Z own nm bc ml rt Q G) (X : Sd p l e R s m args below meth c n0 T h cells slots) {y : MethodName} {ybc : ByteArray} {yml : Nat} {yrt : Option FieldType} {rm : Room} {i : Nat} {sk : List Value} {Qy : Option Value → Heap → Prop} {a : Addr} (av : List Value) (w1 : (Cond.methodLink own i y).before a0 Z = true) (w6 : (Cond.instanceMethod y).before a0 Z = true) (hnf : NotFace s y) (w7 : (Cond.privateMethod y).before a0 Z = true) (w3 : (Cond.initialized y.cls).before a0 Z = true) (w4 : (Cond.code y ybc yml yrt).before a0 Z = true) (hy : y.cls ≠ "java/lang/invoke/MethodHandle" ∧ y.cls ≠ "java/lang/invoke/VarHandle") {C : String} (E : Exa Z h a C) (hM : Met l Z y ybc yml yrt [] rm (.ref a :: av).toArray h n0 Qy) (hd : decode bc pc = .ok (.invokevirtual i, 3)) (pc' : Nat) (hp : pc + 3 = pc') (Wd : Nat) (hfr : rm.frames + 1 ≤ R.frames) (hlo : Wd + (yml + 11) + rm.locals ≤ R.locals) (hlen : ∀ sig, parseMethodDescriptor y.desc = some sig → av.length = sig.parameters.length) (hst : sk = av.reverse ++ .ref a :: st) (hW : (st.map fun v => v.category).sum ≤ Wd) (hsz : ls.size = ml) (hc : cells + rm.cells ≤ R.cells) (hs : slots + rm.slots ≤ R.slots) (k : ∀ (v : Option Value) (T' : State) (h' : Heap), Sd p l e R s m args below meth c n0 T' h' (cells + rm.cells) (slots + rm.slots) → Qy v h' → G (T'.setTop (mkF m pc' ls (v.toList ++ st)))) : G (T.setTop (mkF m pc ls sk)) := by
  obtain ⟨locs, Y, N, eT⟩ := X
  subst hp hst
  have hZ := w.2.2.2.2.1
  obtain ⟨cq, qa, qc⟩ := E.cell
  obtain ⟨v, _, ⟨T', L', k', n'⟩, -, Y', ⟨Lc, ⟨hQ, NL⟩, l1, y1, z1⟩, q⟩ := privB Y w.2.1 (y := y) w.2.2.2.2.2.1 (mvT hZ w1) (mvT hZ w6) hnf (Cond.privateMethod_at (mvP hZ w7 (args := #[]))) (mvT hZ w4) hy (backOf (W := Wd) (Q := fun v h' L => Qy v h' ∧ Fr n0 L) hM hZ w4 w3 hfr hlo) (g := mkF m pc ls (av.reverse ++ .ref a :: st)) rfl (hsz.trans w.2.2.2.1.symm) (Steps.refl _) (a := a) (by rw [eT]; exact qa) qc (argsL := av) (rest := st) hlen rfl (by show 2 * 0 + _ ≤ _; omega) (hb w.2.2.1 hd) (fun _ _ => ⟨rfl, eT, hc, hs⟩)
  dsimp only [Pt.U, Pt.locs, Pt.cells, Pt.slots] at Y' l1 y1 z1 q hQ
  subst l1 y1 z1
  exact w.1 _ _ (fun t z => q.trans z) (k v T' _ ⟨_, Y', Fr.app N NL, rfl⟩ hQ)
theorem callSI (w : Wk p l e R s m args below meth c n0 Z own nm bc ml rt Q G) (X : Sd p l e R s m args below meth c n0 T h cells slots) {y : MethodName} {ybc : ByteArray} {yml : Nat} {yrt : Option FieldType} {rm : Room} {i : Nat} {sk : List Value} {P : Int32 → Heap → Prop}  (av : List Value) (w1 : (Cond.methodLink own i y).before a0 Z = true) (w2 : (Cond.static y).before a0 Z = true) (w3 : (Cond.initialized y.cls).before a0 Z = true) (w4 : (Cond.code y ybc yml yrt).before a0 Z = true) (hy : y.cls ≠ "java/lang/invoke/MethodHandle" ∧ y.cls ≠ "java/lang/invoke/VarHandle") (hM : Met l Z y ybc yml yrt [] rm av.toArray h n0 (RI P)) (hd : decode bc pc = .ok (.invokestatic i, 3)) (pc' : Nat) (hp : pc + 3 = pc') (Wd : Nat) (hfr : rm.frames + 1 ≤ R.frames) (hlo : Wd + (yml + 11) + rm.locals ≤ R.locals) (hlen : ∀ sig, parseMethodDescriptor y.desc = some sig → av.length = sig.parameters.length) (hst : sk = av.reverse ++ st) (hW : (st.map fun v => v.category).sum ≤ Wd) (hsz : ls.size = ml) (hc : cells + rm.cells ≤ R.cells) (hs : slots + rm.slots ≤ R.slots) (k : ∀ (r : Int32) (T' : State) (h' : Heap), Sd p l e R s m args below meth c n0 T' h' (cells + rm.cells) (slots + rm.slots) → P r h' → G (T'.setTop (mkF m pc' ls (.int r :: st)))) : G (T.setTop (mkF m pc ls sk)) := by
  refine callS w X av w1 w2 w3 w4 hy hM hd pc' hp Wd hfr hlo hlen hst hW hsz hc hs (fun v T' h' Y hq => ?_)
  obtain ⟨r, rfl, hr⟩ := hq
  exact k r T' h' Y hr
theorem callSPI (w : Wk p l e R s m args below meth c n0 Z own nm bc ml rt Q G) (X : Sd p l e R s m args below meth c n0 T h cells slots) {y : MethodName} {ybc : ByteArray} {yml : Nat} {yrt : Option FieldType} {rm : Room} {i : Nat} {sk : List Value} {P : Int32 → Prop}  (av : List Value) (w1 : (Cond.methodLink own i y).before a0 Z = true) (w2 : (Cond.static y).before a0 Z = true) (w3 : (Cond.initialized y.cls).before a0 Z = true) (w4 : (Cond.code y ybc yml yrt).before a0 Z = true) (hy : y.cls ≠ "java/lang/invoke/MethodHandle" ∧ y.cls ≠ "java/lang/invoke/VarHandle") (hM : Met l Z y ybc yml yrt [] rm av.toArray h n0 (RI fun r h' => h' = h ∧ P r)) (hd : decode bc pc = .ok (.invokestatic i, 3)) (pc' : Nat) (hp : pc + 3 = pc') (Wd : Nat) (hfr : rm.frames + 1 ≤ R.frames) (hlo : Wd + (yml + 11) + rm.locals ≤ R.locals) (hlen : ∀ sig, parseMethodDescriptor y.desc = some sig → av.length = sig.parameters.length) (hst : sk = av.reverse ++ st) (hW : (st.map fun v => v.category).sum ≤ Wd) (hsz : ls.size = ml) (hc : cells + rm.cells ≤ R.cells) (hs : slots + rm.slots ≤ R.slots) (k : ∀ (r : Int32) (T' : State), Sd p l e R s m args below meth c n0 T' h (cells + rm.cells) (slots + rm.slots) → P r → G (T'.setTop (mkF m pc' ls (.int r :: st)))) : G (T.setTop (mkF m pc ls sk)) := by
  refine callSI w X av w1 w2 w3 w4 hy hM hd pc' hp Wd hfr hlo hlen hst hW hsz hc hs (fun r T' h' Y hq => ?_)
  obtain ⟨q, hr⟩ := hq
  subst q
  exact k r T' Y hr
theorem callSJ (w : Wk p l e R s m args below meth c n0 Z own nm bc ml rt Q G) (X : Sd p l e R s m args below meth c n0 T h cells slots) {y : MethodName} {ybc : ByteArray} {yml : Nat} {yrt : Option FieldType} {rm : Room} {i : Nat} {sk : List Value} {P : Int64 → Heap → Prop}  (av : List Value) (w1 : (Cond.methodLink own i y).before a0 Z = true) (w2 : (Cond.static y).before a0 Z = true) (w3 : (Cond.initialized y.cls).before a0 Z = true) (w4 : (Cond.code y ybc yml yrt).before a0 Z = true) (hy : y.cls ≠ "java/lang/invoke/MethodHandle" ∧ y.cls ≠ "java/lang/invoke/VarHandle") (hM : Met l Z y ybc yml yrt [] rm av.toArray h n0 (RJ P)) (hd : decode bc pc = .ok (.invokestatic i, 3)) (pc' : Nat) (hp : pc + 3 = pc') (Wd : Nat) (hfr : rm.frames + 1 ≤ R.frames) (hlo : Wd + (yml + 11) + rm.locals ≤ R.locals) (hlen : ∀ sig, parseMethodDescriptor y.desc = some sig → av.length = sig.parameters.length) (hst : sk = av.reverse ++ st) (hW : (st.map fun v => v.category).sum ≤ Wd) (hsz : ls.size = ml) (hc : cells + rm.cells ≤ R.cells) (hs : slots + rm.slots ≤ R.slots) (k : ∀ (r : Int64) (T' : State) (h' : Heap), Sd p l e R s m args below meth c n0 T' h' (cells + rm.cells) (slots + rm.slots) → P r h' → G (T'.setTop (mkF m pc' ls (.long r :: st)))) : G (T.setTop (mkF m pc ls sk)) := by
  refine callS w X av w1 w2 w3 w4 hy hM hd pc' hp Wd hfr hlo hlen hst hW hsz hc hs (fun v T' h' Y hq => ?_)
  obtain ⟨r, rfl, hr⟩ := hq
  exact k r T' h' Y hr
theorem callSPJ (w : Wk p l e R s m args below meth c n0 Z own nm bc ml rt Q G) (X : Sd p l e R s m args below meth c n0 T h cells slots) {y : MethodName} {ybc : ByteArray} {yml : Nat} {yrt : Option FieldType} {rm : Room} {i : Nat} {sk : List Value} {P : Int64 → Prop}  (av : List Value) (w1 : (Cond.methodLink own i y).before a0 Z = true) (w2 : (Cond.static y).before a0 Z = true) (w3 : (Cond.initialized y.cls).before a0 Z = true) (w4 : (Cond.code y ybc yml yrt).before a0 Z = true) (hy : y.cls ≠ "java/lang/invoke/MethodHandle" ∧ y.cls ≠ "java/lang/invoke/VarHandle") (hM : Met l Z y ybc yml yrt [] rm av.toArray h n0 (RJ fun r h' => h' = h ∧ P r)) (hd : decode bc pc = .ok (.invokestatic i, 3)) (pc' : Nat) (hp : pc + 3 = pc') (Wd : Nat) (hfr : rm.frames + 1 ≤ R.frames) (hlo : Wd + (yml + 11) + rm.locals ≤ R.locals) (hlen : ∀ sig, parseMethodDescriptor y.desc = some sig → av.length = sig.parameters.length) (hst : sk = av.reverse ++ st) (hW : (st.map fun v => v.category).sum ≤ Wd) (hsz : ls.size = ml) (hc : cells + rm.cells ≤ R.cells) (hs : slots + rm.slots ≤ R.slots) (k : ∀ (r : Int64) (T' : State), Sd p l e R s m args below meth c n0 T' h (cells + rm.cells) (slots + rm.slots) → P r → G (T'.setTop (mkF m pc' ls (.long r :: st)))) : G (T.setTop (mkF m pc ls sk)) := by
  refine callSJ w X av w1 w2 w3 w4 hy hM hd pc' hp Wd hfr hlo hlen hst hW hsz hc hs (fun r T' h' Y hq => ?_)
  obtain ⟨q, hr⟩ := hq
  subst q
  exact k r T' Y hr
theorem callSR (w : Wk p l e R s m args below meth c n0 Z own nm bc ml rt Q G) (X : Sd p l e R s m args below meth c n0 T h cells slots) {y : MethodName} {ybc : ByteArray} {yml : Nat} {yrt : Option FieldType} {rm : Room} {i : Nat} {sk : List Value} {P : Value → Heap → Prop}  (av : List Value) (w1 : (Cond.methodLink own i y).before a0 Z = true) (w2 : (Cond.static y).before a0 Z = true) (w3 : (Cond.initialized y.cls).before a0 Z = true) (w4 : (Cond.code y ybc yml yrt).before a0 Z = true) (hy : y.cls ≠ "java/lang/invoke/MethodHandle" ∧ y.cls ≠ "java/lang/invoke/VarHandle") (hM : Met l Z y ybc yml yrt [] rm av.toArray h n0 (RR P)) (hd : decode bc pc = .ok (.invokestatic i, 3)) (pc' : Nat) (hp : pc + 3 = pc') (Wd : Nat) (hfr : rm.frames + 1 ≤ R.frames) (hlo : Wd + (yml + 11) + rm.locals ≤ R.locals) (hlen : ∀ sig, parseMethodDescriptor y.desc = some sig → av.length = sig.parameters.length) (hst : sk = av.reverse ++ st) (hW : (st.map fun v => v.category).sum ≤ Wd) (hsz : ls.size = ml) (hc : cells + rm.cells ≤ R.cells) (hs : slots + rm.slots ≤ R.slots) (k : ∀ (r : Value) (T' : State) (h' : Heap), Sd p l e R s m args below meth c n0 T' h' (cells + rm.cells) (slots + rm.slots) → P r h' → G (T'.setTop (mkF m pc' ls (r :: st)))) : G (T.setTop (mkF m pc ls sk)) := by
  refine callS w X av w1 w2 w3 w4 hy hM hd pc' hp Wd hfr hlo hlen hst hW hsz hc hs (fun v T' h' Y hq => ?_)
  obtain ⟨r, rfl, hr⟩ := hq
  exact k r T' h' Y hr
theorem callSPR (w : Wk p l e R s m args below meth c n0 Z own nm bc ml rt Q G) (X : Sd p l e R s m args below meth c n0 T h cells slots) {y : MethodName} {ybc : ByteArray} {yml : Nat} {yrt : Option FieldType} {rm : Room} {i : Nat} {sk : List Value} {P : Value → Prop}  (av : List Value) (w1 : (Cond.methodLink own i y).before a0 Z = true) (w2 : (Cond.static y).before a0 Z = true) (w3 : (Cond.initialized y.cls).before a0 Z = true) (w4 : (Cond.code y ybc yml yrt).before a0 Z = true) (hy : y.cls ≠ "java/lang/invoke/MethodHandle" ∧ y.cls ≠ "java/lang/invoke/VarHandle") (hM : Met l Z y ybc yml yrt [] rm av.toArray h n0 (RR fun r h' => h' = h ∧ P r)) (hd : decode bc pc = .ok (.invokestatic i, 3)) (pc' : Nat) (hp : pc + 3 = pc') (Wd : Nat) (hfr : rm.frames + 1 ≤ R.frames) (hlo : Wd + (yml + 11) + rm.locals ≤ R.locals) (hlen : ∀ sig, parseMethodDescriptor y.desc = some sig → av.length = sig.parameters.length) (hst : sk = av.reverse ++ st) (hW : (st.map fun v => v.category).sum ≤ Wd) (hsz : ls.size = ml) (hc : cells + rm.cells ≤ R.cells) (hs : slots + rm.slots ≤ R.slots) (k : ∀ (r : Value) (T' : State), Sd p l e R s m args below meth c n0 T' h (cells + rm.cells) (slots + rm.slots) → P r → G (T'.setTop (mkF m pc' ls (r :: st)))) : G (T.setTop (mkF m pc ls sk)) := by
  refine callSR w X av w1 w2 w3 w4 hy hM hd pc' hp Wd hfr hlo hlen hst hW hsz hc hs (fun r T' h' Y hq => ?_)
  obtain ⟨q, hr⟩ := hq
  subst q
  exact k r T' Y hr
theorem callSV (w : Wk p l e R s m args below meth c n0 Z own nm bc ml rt Q G) (X : Sd p l e R s m args below meth c n0 T h cells slots) {y : MethodName} {ybc : ByteArray} {yml : Nat} {yrt : Option FieldType} {rm : Room} {i : Nat} {sk : List Value} {P : Heap → Prop}  (av : List Value) (w1 : (Cond.methodLink own i y).before a0 Z = true) (w2 : (Cond.static y).before a0 Z = true) (w3 : (Cond.initialized y.cls).before a0 Z = true) (w4 : (Cond.code y ybc yml yrt).before a0 Z = true) (hy : y.cls ≠ "java/lang/invoke/MethodHandle" ∧ y.cls ≠ "java/lang/invoke/VarHandle") (hM : Met l Z y ybc yml yrt [] rm av.toArray h n0 (RV P)) (hd : decode bc pc = .ok (.invokestatic i, 3)) (pc' : Nat) (hp : pc + 3 = pc') (Wd : Nat) (hfr : rm.frames + 1 ≤ R.frames) (hlo : Wd + (yml + 11) + rm.locals ≤ R.locals) (hlen : ∀ sig, parseMethodDescriptor y.desc = some sig → av.length = sig.parameters.length) (hst : sk = av.reverse ++ st) (hW : (st.map fun v => v.category).sum ≤ Wd) (hsz : ls.size = ml) (hc : cells + rm.cells ≤ R.cells) (hs : slots + rm.slots ≤ R.slots) (k : ∀  (T' : State) (h' : Heap), Sd p l e R s m args below meth c n0 T' h' (cells + rm.cells) (slots + rm.slots) → P h' → G (T'.setTop (mkF m pc' ls (st)))) : G (T.setTop (mkF m pc ls sk)) := by
  refine callS w X av w1 w2 w3 w4 hy hM hd pc' hp Wd hfr hlo hlen hst hW hsz hc hs (fun v T' h' Y hq => ?_)
  obtain ⟨rfl, hr⟩ := hq
  exact k T' h' Y hr
theorem callSPV (w : Wk p l e R s m args below meth c n0 Z own nm bc ml rt Q G) (X : Sd p l e R s m args below meth c n0 T h cells slots) {y : MethodName} {ybc : ByteArray} {yml : Nat} {yrt : Option FieldType} {rm : Room} {i : Nat} {sk : List Value}  (av : List Value) (w1 : (Cond.methodLink own i y).before a0 Z = true) (w2 : (Cond.static y).before a0 Z = true) (w3 : (Cond.initialized y.cls).before a0 Z = true) (w4 : (Cond.code y ybc yml yrt).before a0 Z = true) (hy : y.cls ≠ "java/lang/invoke/MethodHandle" ∧ y.cls ≠ "java/lang/invoke/VarHandle") (hM : Met l Z y ybc yml yrt [] rm av.toArray h n0 (RV fun h' => h' = h)) (hd : decode bc pc = .ok (.invokestatic i, 3)) (pc' : Nat) (hp : pc + 3 = pc') (Wd : Nat) (hfr : rm.frames + 1 ≤ R.frames) (hlo : Wd + (yml + 11) + rm.locals ≤ R.locals) (hlen : ∀ sig, parseMethodDescriptor y.desc = some sig → av.length = sig.parameters.length) (hst : sk = av.reverse ++ st) (hW : (st.map fun v => v.category).sum ≤ Wd) (hsz : ls.size = ml) (hc : cells + rm.cells ≤ R.cells) (hs : slots + rm.slots ≤ R.slots) (k : ∀ (T' : State), Sd p l e R s m args below meth c n0 T' h (cells + rm.cells) (slots + rm.slots) → G (T'.setTop (mkF m pc' ls st))) : G (T.setTop (mkF m pc ls sk)) := by
  refine callSV w X av w1 w2 w3 w4 hy hM hd pc' hp Wd hfr hlo hlen hst hW hsz hc hs (fun T' h' Y hq => ?_)
  subst hq
  exact k T' Y
theorem callNV (w : Wk p l e R s m args below meth c n0 Z own nm bc ml rt Q G) (X : Sd p l e R s m args below meth c n0 T h cells slots) {y : MethodName} {ybc : ByteArray} {yml : Nat} {rm : Room} {i : Nat} {sk : List Value} {P : Heap → Prop} {a : Addr} (av : List Value) (w1 : (Cond.methodLink own i y).before a0 Z = true) (w2 : (Cond.instanceMethod y).before a0 Z = true) (w3 : (Cond.initialized y.cls).before a0 Z = true) (w4 : (Cond.code y ybc yml none).before a0 Z = true) (hi : y.name = "<init>") (hy : y.cls ≠ "java/lang/invoke/MethodHandle" ∧ y.cls ≠ "java/lang/invoke/VarHandle") (hM : Met l Z y ybc yml none [] rm (.ref a :: av).toArray h n0 (RV P)) (hd : decode bc pc = .ok (.invokespecial i, 3)) (pc' : Nat) (hp : pc + 3 = pc') (Wd : Nat) (hfr : rm.frames + 1 ≤ R.frames) (hlo : Wd + (yml + 11) + rm.locals ≤ R.locals) (hlen : ∀ sig, parseMethodDescriptor y.desc = some sig → av.length = sig.parameters.length) (hst : sk = av.reverse ++ .ref a :: st) (hW : (st.map fun v => v.category).sum ≤ Wd) (hsz : ls.size = ml) (hc : cells + rm.cells ≤ R.cells) (hs : slots + rm.slots ≤ R.slots) (k : ∀  (T' : State) (h' : Heap), Sd p l e R s m args below meth c n0 T' h' (cells + rm.cells) (slots + rm.slots) → P h' → G (T'.setTop (mkF m pc' ls (st)))) : G (T.setTop (mkF m pc ls sk)) := by
  refine callN w X av w1 w2 w3 w4 hi hy hM hd pc' hp Wd hfr hlo hlen hst hW hsz hc hs (fun v T' h' Y hq => ?_)
  obtain ⟨rfl, hr⟩ := hq
  exact k T' h' Y hr
theorem callNPV (w : Wk p l e R s m args below meth c n0 Z own nm bc ml rt Q G) (X : Sd p l e R s m args below meth c n0 T h cells slots) {y : MethodName} {ybc : ByteArray} {yml : Nat} {rm : Room} {i : Nat} {sk : List Value} {a : Addr} (av : List Value) (w1 : (Cond.methodLink own i y).before a0 Z = true) (w2 : (Cond.instanceMethod y).before a0 Z = true) (w3 : (Cond.initialized y.cls).before a0 Z = true) (w4 : (Cond.code y ybc yml none).before a0 Z = true) (hi : y.name = "<init>") (hy : y.cls ≠ "java/lang/invoke/MethodHandle" ∧ y.cls ≠ "java/lang/invoke/VarHandle") (hM : Met l Z y ybc yml none [] rm (.ref a :: av).toArray h n0 (RV fun h' => h' = h)) (hd : decode bc pc = .ok (.invokespecial i, 3)) (pc' : Nat) (hp : pc + 3 = pc') (Wd : Nat) (hfr : rm.frames + 1 ≤ R.frames) (hlo : Wd + (yml + 11) + rm.locals ≤ R.locals) (hlen : ∀ sig, parseMethodDescriptor y.desc = some sig → av.length = sig.parameters.length) (hst : sk = av.reverse ++ .ref a :: st) (hW : (st.map fun v => v.category).sum ≤ Wd) (hsz : ls.size = ml) (hc : cells + rm.cells ≤ R.cells) (hs : slots + rm.slots ≤ R.slots) (k : ∀ (T' : State), Sd p l e R s m args below meth c n0 T' h (cells + rm.cells) (slots + rm.slots) → G (T'.setTop (mkF m pc' ls st))) : G (T.setTop (mkF m pc ls sk)) := by
  refine callNV w X av w1 w2 w3 w4 hi hy hM hd pc' hp Wd hfr hlo hlen hst hW hsz hc hs (fun T' h' Y hq => ?_)
  subst hq
  exact k T' Y
theorem callVI (w : Wk p l e R s m args below meth c n0 Z own nm bc ml rt Q G) (X : Sd p l e R s m args below meth c n0 T h cells slots) {y z : MethodName} {ybc : ByteArray} {yml : Nat} {yrt : Option FieldType} {rm : Room} {i : Nat} {sk : List Value} {P : Int32 → Heap → Prop} {a : Addr} {C : String} (av : List Value) (w1 : (Cond.methodLink own i y).before a0 Z = true) (w2 : (Cond.declares y).before a0 Z = true) (hnf : NotFace s y) (w5 : (Cond.selects C y z).before a0 Z = true) (w6 : (Cond.instanceMethod z).before a0 Z = true) (w3 : (Cond.initialized z.cls).before a0 Z = true) (w4 : (Cond.code z ybc yml yrt).before a0 Z = true) (hy : y.cls ≠ "java/lang/invoke/MethodHandle" ∧ y.cls ≠ "java/lang/invoke/VarHandle") (E : Exa Z h a C) (hM : Met l Z z ybc yml yrt [] rm (.ref a :: av).toArray h n0 (RI P)) (hd : decode bc pc = .ok (.invokevirtual i, 3)) (pc' : Nat) (hp : pc + 3 = pc') (Wd : Nat) (hfr : rm.frames + 1 ≤ R.frames) (hlo : Wd + (yml + 11) + rm.locals ≤ R.locals) (hlen : ∀ sig, parseMethodDescriptor y.desc = some sig → av.length = sig.parameters.length) (hst : sk = av.reverse ++ .ref a :: st) (hW : (st.map fun v => v.category).sum ≤ Wd) (hsz : ls.size = ml) (hc : cells + rm.cells ≤ R.cells) (hs : slots + rm.slots ≤ R.slots) (k : ∀ (r : Int32) (T' : State) (h' : Heap), Sd p l e R s m args below meth c n0 T' h' (cells + rm.cells) (slots + rm.slots) → P r h' → G (T'.setTop (mkF m pc' ls (.int r :: st)))) : G (T.setTop (mkF m pc ls sk)) := by
  refine callV w X av w1 w2 hnf w5 w6 w3 w4 hy E hM hd pc' hp Wd hfr hlo hlen hst hW hsz hc hs (fun v T' h' Y hq => ?_)
  obtain ⟨r, rfl, hr⟩ := hq
  exact k r T' h' Y hr
theorem callVPI (w : Wk p l e R s m args below meth c n0 Z own nm bc ml rt Q G) (X : Sd p l e R s m args below meth c n0 T h cells slots) {y z : MethodName} {ybc : ByteArray} {yml : Nat} {yrt : Option FieldType} {rm : Room} {i : Nat} {sk : List Value} {P : Int32 → Prop} {a : Addr} {C : String} (av : List Value) (w1 : (Cond.methodLink own i y).before a0 Z = true) (w2 : (Cond.declares y).before a0 Z = true) (hnf : NotFace s y) (w5 : (Cond.selects C y z).before a0 Z = true) (w6 : (Cond.instanceMethod z).before a0 Z = true) (w3 : (Cond.initialized z.cls).before a0 Z = true) (w4 : (Cond.code z ybc yml yrt).before a0 Z = true) (hy : y.cls ≠ "java/lang/invoke/MethodHandle" ∧ y.cls ≠ "java/lang/invoke/VarHandle") (E : Exa Z h a C) (hM : Met l Z z ybc yml yrt [] rm (.ref a :: av).toArray h n0 (RI fun r h' => h' = h ∧ P r)) (hd : decode bc pc = .ok (.invokevirtual i, 3)) (pc' : Nat) (hp : pc + 3 = pc') (Wd : Nat) (hfr : rm.frames + 1 ≤ R.frames) (hlo : Wd + (yml + 11) + rm.locals ≤ R.locals) (hlen : ∀ sig, parseMethodDescriptor y.desc = some sig → av.length = sig.parameters.length) (hst : sk = av.reverse ++ .ref a :: st) (hW : (st.map fun v => v.category).sum ≤ Wd) (hsz : ls.size = ml) (hc : cells + rm.cells ≤ R.cells) (hs : slots + rm.slots ≤ R.slots) (k : ∀ (r : Int32) (T' : State), Sd p l e R s m args below meth c n0 T' h (cells + rm.cells) (slots + rm.slots) → P r → G (T'.setTop (mkF m pc' ls (.int r :: st)))) : G (T.setTop (mkF m pc ls sk)) := by
  refine callVI w X av w1 w2 hnf w5 w6 w3 w4 hy E hM hd pc' hp Wd hfr hlo hlen hst hW hsz hc hs (fun r T' h' Y hq => ?_)
  obtain ⟨q, hr⟩ := hq
  subst q
  exact k r T' Y hr
theorem callVJ (w : Wk p l e R s m args below meth c n0 Z own nm bc ml rt Q G) (X : Sd p l e R s m args below meth c n0 T h cells slots) {y z : MethodName} {ybc : ByteArray} {yml : Nat} {yrt : Option FieldType} {rm : Room} {i : Nat} {sk : List Value} {P : Int64 → Heap → Prop} {a : Addr} {C : String} (av : List Value) (w1 : (Cond.methodLink own i y).before a0 Z = true) (w2 : (Cond.declares y).before a0 Z = true) (hnf : NotFace s y) (w5 : (Cond.selects C y z).before a0 Z = true) (w6 : (Cond.instanceMethod z).before a0 Z = true) (w3 : (Cond.initialized z.cls).before a0 Z = true) (w4 : (Cond.code z ybc yml yrt).before a0 Z = true) (hy : y.cls ≠ "java/lang/invoke/MethodHandle" ∧ y.cls ≠ "java/lang/invoke/VarHandle") (E : Exa Z h a C) (hM : Met l Z z ybc yml yrt [] rm (.ref a :: av).toArray h n0 (RJ P)) (hd : decode bc pc = .ok (.invokevirtual i, 3)) (pc' : Nat) (hp : pc + 3 = pc') (Wd : Nat) (hfr : rm.frames + 1 ≤ R.frames) (hlo : Wd + (yml + 11) + rm.locals ≤ R.locals) (hlen : ∀ sig, parseMethodDescriptor y.desc = some sig → av.length = sig.parameters.length) (hst : sk = av.reverse ++ .ref a :: st) (hW : (st.map fun v => v.category).sum ≤ Wd) (hsz : ls.size = ml) (hc : cells + rm.cells ≤ R.cells) (hs : slots + rm.slots ≤ R.slots) (k : ∀ (r : Int64) (T' : State) (h' : Heap), Sd p l e R s m args below meth c n0 T' h' (cells + rm.cells) (slots + rm.slots) → P r h' → G (T'.setTop (mkF m pc' ls (.long r :: st)))) : G (T.setTop (mkF m pc ls sk)) := by
  refine callV w X av w1 w2 hnf w5 w6 w3 w4 hy E hM hd pc' hp Wd hfr hlo hlen hst hW hsz hc hs (fun v T' h' Y hq => ?_)
  obtain ⟨r, rfl, hr⟩ := hq
  exact k r T' h' Y hr
theorem callVPJ (w : Wk p l e R s m args below meth c n0 Z own nm bc ml rt Q G) (X : Sd p l e R s m args below meth c n0 T h cells slots) {y z : MethodName} {ybc : ByteArray} {yml : Nat} {yrt : Option FieldType} {rm : Room} {i : Nat} {sk : List Value} {P : Int64 → Prop} {a : Addr} {C : String} (av : List Value) (w1 : (Cond.methodLink own i y).before a0 Z = true) (w2 : (Cond.declares y).before a0 Z = true) (hnf : NotFace s y) (w5 : (Cond.selects C y z).before a0 Z = true) (w6 : (Cond.instanceMethod z).before a0 Z = true) (w3 : (Cond.initialized z.cls).before a0 Z = true) (w4 : (Cond.code z ybc yml yrt).before a0 Z = true) (hy : y.cls ≠ "java/lang/invoke/MethodHandle" ∧ y.cls ≠ "java/lang/invoke/VarHandle") (E : Exa Z h a C) (hM : Met l Z z ybc yml yrt [] rm (.ref a :: av).toArray h n0 (RJ fun r h' => h' = h ∧ P r)) (hd : decode bc pc = .ok (.invokevirtual i, 3)) (pc' : Nat) (hp : pc + 3 = pc') (Wd : Nat) (hfr : rm.frames + 1 ≤ R.frames) (hlo : Wd + (yml + 11) + rm.locals ≤ R.locals) (hlen : ∀ sig, parseMethodDescriptor y.desc = some sig → av.length = sig.parameters.length) (hst : sk = av.reverse ++ .ref a :: st) (hW : (st.map fun v => v.category).sum ≤ Wd) (hsz : ls.size = ml) (hc : cells + rm.cells ≤ R.cells) (hs : slots + rm.slots ≤ R.slots) (k : ∀ (r : Int64) (T' : State), Sd p l e R s m args below meth c n0 T' h (cells + rm.cells) (slots + rm.slots) → P r → G (T'.setTop (mkF m pc' ls (.long r :: st)))) : G (T.setTop (mkF m pc ls sk)) := by
  refine callVJ w X av w1 w2 hnf w5 w6 w3 w4 hy E hM hd pc' hp Wd hfr hlo hlen hst hW hsz hc hs (fun r T' h' Y hq => ?_)
  obtain ⟨q, hr⟩ := hq
  subst q
  exact k r T' Y hr
theorem callVR (w : Wk p l e R s m args below meth c n0 Z own nm bc ml rt Q G) (X : Sd p l e R s m args below meth c n0 T h cells slots) {y z : MethodName} {ybc : ByteArray} {yml : Nat} {yrt : Option FieldType} {rm : Room} {i : Nat} {sk : List Value} {P : Value → Heap → Prop} {a : Addr} {C : String} (av : List Value) (w1 : (Cond.methodLink own i y).before a0 Z = true) (w2 : (Cond.declares y).before a0 Z = true) (hnf : NotFace s y) (w5 : (Cond.selects C y z).before a0 Z = true) (w6 : (Cond.instanceMethod z).before a0 Z = true) (w3 : (Cond.initialized z.cls).before a0 Z = true) (w4 : (Cond.code z ybc yml yrt).before a0 Z = true) (hy : y.cls ≠ "java/lang/invoke/MethodHandle" ∧ y.cls ≠ "java/lang/invoke/VarHandle") (E : Exa Z h a C) (hM : Met l Z z ybc yml yrt [] rm (.ref a :: av).toArray h n0 (RR P)) (hd : decode bc pc = .ok (.invokevirtual i, 3)) (pc' : Nat) (hp : pc + 3 = pc') (Wd : Nat) (hfr : rm.frames + 1 ≤ R.frames) (hlo : Wd + (yml + 11) + rm.locals ≤ R.locals) (hlen : ∀ sig, parseMethodDescriptor y.desc = some sig → av.length = sig.parameters.length) (hst : sk = av.reverse ++ .ref a :: st) (hW : (st.map fun v => v.category).sum ≤ Wd) (hsz : ls.size = ml) (hc : cells + rm.cells ≤ R.cells) (hs : slots + rm.slots ≤ R.slots) (k : ∀ (r : Value) (T' : State) (h' : Heap), Sd p l e R s m args below meth c n0 T' h' (cells + rm.cells) (slots + rm.slots) → P r h' → G (T'.setTop (mkF m pc' ls (r :: st)))) : G (T.setTop (mkF m pc ls sk)) := by
  refine callV w X av w1 w2 hnf w5 w6 w3 w4 hy E hM hd pc' hp Wd hfr hlo hlen hst hW hsz hc hs (fun v T' h' Y hq => ?_)
  obtain ⟨r, rfl, hr⟩ := hq
  exact k r T' h' Y hr
theorem callVPR (w : Wk p l e R s m args below meth c n0 Z own nm bc ml rt Q G) (X : Sd p l e R s m args below meth c n0 T h cells slots) {y z : MethodName} {ybc : ByteArray} {yml : Nat} {yrt : Option FieldType} {rm : Room} {i : Nat} {sk : List Value} {P : Value → Prop} {a : Addr} {C : String} (av : List Value) (w1 : (Cond.methodLink own i y).before a0 Z = true) (w2 : (Cond.declares y).before a0 Z = true) (hnf : NotFace s y) (w5 : (Cond.selects C y z).before a0 Z = true) (w6 : (Cond.instanceMethod z).before a0 Z = true) (w3 : (Cond.initialized z.cls).before a0 Z = true) (w4 : (Cond.code z ybc yml yrt).before a0 Z = true) (hy : y.cls ≠ "java/lang/invoke/MethodHandle" ∧ y.cls ≠ "java/lang/invoke/VarHandle") (E : Exa Z h a C) (hM : Met l Z z ybc yml yrt [] rm (.ref a :: av).toArray h n0 (RR fun r h' => h' = h ∧ P r)) (hd : decode bc pc = .ok (.invokevirtual i, 3)) (pc' : Nat) (hp : pc + 3 = pc') (Wd : Nat) (hfr : rm.frames + 1 ≤ R.frames) (hlo : Wd + (yml + 11) + rm.locals ≤ R.locals) (hlen : ∀ sig, parseMethodDescriptor y.desc = some sig → av.length = sig.parameters.length) (hst : sk = av.reverse ++ .ref a :: st) (hW : (st.map fun v => v.category).sum ≤ Wd) (hsz : ls.size = ml) (hc : cells + rm.cells ≤ R.cells) (hs : slots + rm.slots ≤ R.slots) (k : ∀ (r : Value) (T' : State), Sd p l e R s m args below meth c n0 T' h (cells + rm.cells) (slots + rm.slots) → P r → G (T'.setTop (mkF m pc' ls (r :: st)))) : G (T.setTop (mkF m pc ls sk)) := by
  refine callVR w X av w1 w2 hnf w5 w6 w3 w4 hy E hM hd pc' hp Wd hfr hlo hlen hst hW hsz hc hs (fun r T' h' Y hq => ?_)
  obtain ⟨q, hr⟩ := hq
  subst q
  exact k r T' Y hr
theorem callVV (w : Wk p l e R s m args below meth c n0 Z own nm bc ml rt Q G) (X : Sd p l e R s m args below meth c n0 T h cells slots) {y z : MethodName} {ybc : ByteArray} {yml : Nat} {yrt : Option FieldType} {rm : Room} {i : Nat} {sk : List Value} {P : Heap → Prop} {a : Addr} {C : String} (av : List Value) (w1 : (Cond.methodLink own i y).before a0 Z = true) (w2 : (Cond.declares y).before a0 Z = true) (hnf : NotFace s y) (w5 : (Cond.selects C y z).before a0 Z = true) (w6 : (Cond.instanceMethod z).before a0 Z = true) (w3 : (Cond.initialized z.cls).before a0 Z = true) (w4 : (Cond.code z ybc yml yrt).before a0 Z = true) (hy : y.cls ≠ "java/lang/invoke/MethodHandle" ∧ y.cls ≠ "java/lang/invoke/VarHandle") (E : Exa Z h a C) (hM : Met l Z z ybc yml yrt [] rm (.ref a :: av).toArray h n0 (RV P)) (hd : decode bc pc = .ok (.invokevirtual i, 3)) (pc' : Nat) (hp : pc + 3 = pc') (Wd : Nat) (hfr : rm.frames + 1 ≤ R.frames) (hlo : Wd + (yml + 11) + rm.locals ≤ R.locals) (hlen : ∀ sig, parseMethodDescriptor y.desc = some sig → av.length = sig.parameters.length) (hst : sk = av.reverse ++ .ref a :: st) (hW : (st.map fun v => v.category).sum ≤ Wd) (hsz : ls.size = ml) (hc : cells + rm.cells ≤ R.cells) (hs : slots + rm.slots ≤ R.slots) (k : ∀  (T' : State) (h' : Heap), Sd p l e R s m args below meth c n0 T' h' (cells + rm.cells) (slots + rm.slots) → P h' → G (T'.setTop (mkF m pc' ls (st)))) : G (T.setTop (mkF m pc ls sk)) := by
  refine callV w X av w1 w2 hnf w5 w6 w3 w4 hy E hM hd pc' hp Wd hfr hlo hlen hst hW hsz hc hs (fun v T' h' Y hq => ?_)
  obtain ⟨rfl, hr⟩ := hq
  exact k T' h' Y hr
theorem callVPV (w : Wk p l e R s m args below meth c n0 Z own nm bc ml rt Q G) (X : Sd p l e R s m args below meth c n0 T h cells slots) {y z : MethodName} {ybc : ByteArray} {yml : Nat} {yrt : Option FieldType} {rm : Room} {i : Nat} {sk : List Value} {a : Addr} {C : String} (av : List Value) (w1 : (Cond.methodLink own i y).before a0 Z = true) (w2 : (Cond.declares y).before a0 Z = true) (hnf : NotFace s y) (w5 : (Cond.selects C y z).before a0 Z = true) (w6 : (Cond.instanceMethod z).before a0 Z = true) (w3 : (Cond.initialized z.cls).before a0 Z = true) (w4 : (Cond.code z ybc yml yrt).before a0 Z = true) (hy : y.cls ≠ "java/lang/invoke/MethodHandle" ∧ y.cls ≠ "java/lang/invoke/VarHandle") (E : Exa Z h a C) (hM : Met l Z z ybc yml yrt [] rm (.ref a :: av).toArray h n0 (RV fun h' => h' = h)) (hd : decode bc pc = .ok (.invokevirtual i, 3)) (pc' : Nat) (hp : pc + 3 = pc') (Wd : Nat) (hfr : rm.frames + 1 ≤ R.frames) (hlo : Wd + (yml + 11) + rm.locals ≤ R.locals) (hlen : ∀ sig, parseMethodDescriptor y.desc = some sig → av.length = sig.parameters.length) (hst : sk = av.reverse ++ .ref a :: st) (hW : (st.map fun v => v.category).sum ≤ Wd) (hsz : ls.size = ml) (hc : cells + rm.cells ≤ R.cells) (hs : slots + rm.slots ≤ R.slots) (k : ∀ (T' : State), Sd p l e R s m args below meth c n0 T' h (cells + rm.cells) (slots + rm.slots) → G (T'.setTop (mkF m pc' ls st))) : G (T.setTop (mkF m pc ls sk)) := by
  refine callVV w X av w1 w2 hnf w5 w6 w3 w4 hy E hM hd pc' hp Wd hfr hlo hlen hst hW hsz hc hs (fun T' h' Y hq => ?_)
  subst hq
  exact k T' Y
theorem callPI (w : Wk p l e R s m args below meth c n0 Z own nm bc ml rt Q G) (X : Sd p l e R s m args below meth c n0 T h cells slots) {y : MethodName} {ybc : ByteArray} {yml : Nat} {yrt : Option FieldType} {rm : Room} {i : Nat} {sk : List Value} {P : Int32 → Heap → Prop} {a : Addr} {C : String} (av : List Value) (w1 : (Cond.methodLink own i y).before a0 Z = true) (w6 : (Cond.instanceMethod y).before a0 Z = true) (hnf : NotFace s y) (w7 : (Cond.privateMethod y).before a0 Z = true) (w3 : (Cond.initialized y.cls).before a0 Z = true) (w4 : (Cond.code y ybc yml yrt).before a0 Z = true) (hy : y.cls ≠ "java/lang/invoke/MethodHandle" ∧ y.cls ≠ "java/lang/invoke/VarHandle") (E : Exa Z h a C) (hM : Met l Z y ybc yml yrt [] rm (.ref a :: av).toArray h n0 (RI P)) (hd : decode bc pc = .ok (.invokevirtual i, 3)) (pc' : Nat) (hp : pc + 3 = pc') (Wd : Nat) (hfr : rm.frames + 1 ≤ R.frames) (hlo : Wd + (yml + 11) + rm.locals ≤ R.locals) (hlen : ∀ sig, parseMethodDescriptor y.desc = some sig → av.length = sig.parameters.length) (hst : sk = av.reverse ++ .ref a :: st) (hW : (st.map fun v => v.category).sum ≤ Wd) (hsz : ls.size = ml) (hc : cells + rm.cells ≤ R.cells) (hs : slots + rm.slots ≤ R.slots) (k : ∀ (r : Int32) (T' : State) (h' : Heap), Sd p l e R s m args below meth c n0 T' h' (cells + rm.cells) (slots + rm.slots) → P r h' → G (T'.setTop (mkF m pc' ls (.int r :: st)))) : G (T.setTop (mkF m pc ls sk)) := by
  refine callP w X av w1 w6 hnf w7 w3 w4 hy E hM hd pc' hp Wd hfr hlo hlen hst hW hsz hc hs (fun v T' h' Y hq => ?_)
  obtain ⟨r, rfl, hr⟩ := hq
  exact k r T' h' Y hr
theorem callPPI (w : Wk p l e R s m args below meth c n0 Z own nm bc ml rt Q G) (X : Sd p l e R s m args below meth c n0 T h cells slots) {y : MethodName} {ybc : ByteArray} {yml : Nat} {yrt : Option FieldType} {rm : Room} {i : Nat} {sk : List Value} {P : Int32 → Prop} {a : Addr} {C : String} (av : List Value) (w1 : (Cond.methodLink own i y).before a0 Z = true) (w6 : (Cond.instanceMethod y).before a0 Z = true) (hnf : NotFace s y) (w7 : (Cond.privateMethod y).before a0 Z = true) (w3 : (Cond.initialized y.cls).before a0 Z = true) (w4 : (Cond.code y ybc yml yrt).before a0 Z = true) (hy : y.cls ≠ "java/lang/invoke/MethodHandle" ∧ y.cls ≠ "java/lang/invoke/VarHandle") (E : Exa Z h a C) (hM : Met l Z y ybc yml yrt [] rm (.ref a :: av).toArray h n0 (RI fun r h' => h' = h ∧ P r)) (hd : decode bc pc = .ok (.invokevirtual i, 3)) (pc' : Nat) (hp : pc + 3 = pc') (Wd : Nat) (hfr : rm.frames + 1 ≤ R.frames) (hlo : Wd + (yml + 11) + rm.locals ≤ R.locals) (hlen : ∀ sig, parseMethodDescriptor y.desc = some sig → av.length = sig.parameters.length) (hst : sk = av.reverse ++ .ref a :: st) (hW : (st.map fun v => v.category).sum ≤ Wd) (hsz : ls.size = ml) (hc : cells + rm.cells ≤ R.cells) (hs : slots + rm.slots ≤ R.slots) (k : ∀ (r : Int32) (T' : State), Sd p l e R s m args below meth c n0 T' h (cells + rm.cells) (slots + rm.slots) → P r → G (T'.setTop (mkF m pc' ls (.int r :: st)))) : G (T.setTop (mkF m pc ls sk)) := by
  refine callPI w X av w1 w6 hnf w7 w3 w4 hy E hM hd pc' hp Wd hfr hlo hlen hst hW hsz hc hs (fun r T' h' Y hq => ?_)
  obtain ⟨q, hr⟩ := hq
  subst q
  exact k r T' Y hr
theorem callPJ (w : Wk p l e R s m args below meth c n0 Z own nm bc ml rt Q G) (X : Sd p l e R s m args below meth c n0 T h cells slots) {y : MethodName} {ybc : ByteArray} {yml : Nat} {yrt : Option FieldType} {rm : Room} {i : Nat} {sk : List Value} {P : Int64 → Heap → Prop} {a : Addr} {C : String} (av : List Value) (w1 : (Cond.methodLink own i y).before a0 Z = true) (w6 : (Cond.instanceMethod y).before a0 Z = true) (hnf : NotFace s y) (w7 : (Cond.privateMethod y).before a0 Z = true) (w3 : (Cond.initialized y.cls).before a0 Z = true) (w4 : (Cond.code y ybc yml yrt).before a0 Z = true) (hy : y.cls ≠ "java/lang/invoke/MethodHandle" ∧ y.cls ≠ "java/lang/invoke/VarHandle") (E : Exa Z h a C) (hM : Met l Z y ybc yml yrt [] rm (.ref a :: av).toArray h n0 (RJ P)) (hd : decode bc pc = .ok (.invokevirtual i, 3)) (pc' : Nat) (hp : pc + 3 = pc') (Wd : Nat) (hfr : rm.frames + 1 ≤ R.frames) (hlo : Wd + (yml + 11) + rm.locals ≤ R.locals) (hlen : ∀ sig, parseMethodDescriptor y.desc = some sig → av.length = sig.parameters.length) (hst : sk = av.reverse ++ .ref a :: st) (hW : (st.map fun v => v.category).sum ≤ Wd) (hsz : ls.size = ml) (hc : cells + rm.cells ≤ R.cells) (hs : slots + rm.slots ≤ R.slots) (k : ∀ (r : Int64) (T' : State) (h' : Heap), Sd p l e R s m args below meth c n0 T' h' (cells + rm.cells) (slots + rm.slots) → P r h' → G (T'.setTop (mkF m pc' ls (.long r :: st)))) : G (T.setTop (mkF m pc ls sk)) := by
  refine callP w X av w1 w6 hnf w7 w3 w4 hy E hM hd pc' hp Wd hfr hlo hlen hst hW hsz hc hs (fun v T' h' Y hq => ?_)
  obtain ⟨r, rfl, hr⟩ := hq
  exact k r T' h' Y hr
theorem callPPJ (w : Wk p l e R s m args below meth c n0 Z own nm bc ml rt Q G) (X : Sd p l e R s m args below meth c n0 T h cells slots) {y : MethodName} {ybc : ByteArray} {yml : Nat} {yrt : Option FieldType} {rm : Room} {i : Nat} {sk : List Value} {P : Int64 → Prop} {a : Addr} {C : String} (av : List Value) (w1 : (Cond.methodLink own i y).before a0 Z = true) (w6 : (Cond.instanceMethod y).before a0 Z = true) (hnf : NotFace s y) (w7 : (Cond.privateMethod y).before a0 Z = true) (w3 : (Cond.initialized y.cls).before a0 Z = true) (w4 : (Cond.code y ybc yml yrt).before a0 Z = true) (hy : y.cls ≠ "java/lang/invoke/MethodHandle" ∧ y.cls ≠ "java/lang/invoke/VarHandle") (E : Exa Z h a C) (hM : Met l Z y ybc yml yrt [] rm (.ref a :: av).toArray h n0 (RJ fun r h' => h' = h ∧ P r)) (hd : decode bc pc = .ok (.invokevirtual i, 3)) (pc' : Nat) (hp : pc + 3 = pc') (Wd : Nat) (hfr : rm.frames + 1 ≤ R.frames) (hlo : Wd + (yml + 11) + rm.locals ≤ R.locals) (hlen : ∀ sig, parseMethodDescriptor y.desc = some sig → av.length = sig.parameters.length) (hst : sk = av.reverse ++ .ref a :: st) (hW : (st.map fun v => v.category).sum ≤ Wd) (hsz : ls.size = ml) (hc : cells + rm.cells ≤ R.cells) (hs : slots + rm.slots ≤ R.slots) (k : ∀ (r : Int64) (T' : State), Sd p l e R s m args below meth c n0 T' h (cells + rm.cells) (slots + rm.slots) → P r → G (T'.setTop (mkF m pc' ls (.long r :: st)))) : G (T.setTop (mkF m pc ls sk)) := by
  refine callPJ w X av w1 w6 hnf w7 w3 w4 hy E hM hd pc' hp Wd hfr hlo hlen hst hW hsz hc hs (fun r T' h' Y hq => ?_)
  obtain ⟨q, hr⟩ := hq
  subst q
  exact k r T' Y hr
theorem callPR (w : Wk p l e R s m args below meth c n0 Z own nm bc ml rt Q G) (X : Sd p l e R s m args below meth c n0 T h cells slots) {y : MethodName} {ybc : ByteArray} {yml : Nat} {yrt : Option FieldType} {rm : Room} {i : Nat} {sk : List Value} {P : Value → Heap → Prop} {a : Addr} {C : String} (av : List Value) (w1 : (Cond.methodLink own i y).before a0 Z = true) (w6 : (Cond.instanceMethod y).before a0 Z = true) (hnf : NotFace s y) (w7 : (Cond.privateMethod y).before a0 Z = true) (w3 : (Cond.initialized y.cls).before a0 Z = true) (w4 : (Cond.code y ybc yml yrt).before a0 Z = true) (hy : y.cls ≠ "java/lang/invoke/MethodHandle" ∧ y.cls ≠ "java/lang/invoke/VarHandle") (E : Exa Z h a C) (hM : Met l Z y ybc yml yrt [] rm (.ref a :: av).toArray h n0 (RR P)) (hd : decode bc pc = .ok (.invokevirtual i, 3)) (pc' : Nat) (hp : pc + 3 = pc') (Wd : Nat) (hfr : rm.frames + 1 ≤ R.frames) (hlo : Wd + (yml + 11) + rm.locals ≤ R.locals) (hlen : ∀ sig, parseMethodDescriptor y.desc = some sig → av.length = sig.parameters.length) (hst : sk = av.reverse ++ .ref a :: st) (hW : (st.map fun v => v.category).sum ≤ Wd) (hsz : ls.size = ml) (hc : cells + rm.cells ≤ R.cells) (hs : slots + rm.slots ≤ R.slots) (k : ∀ (r : Value) (T' : State) (h' : Heap), Sd p l e R s m args below meth c n0 T' h' (cells + rm.cells) (slots + rm.slots) → P r h' → G (T'.setTop (mkF m pc' ls (r :: st)))) : G (T.setTop (mkF m pc ls sk)) := by
  refine callP w X av w1 w6 hnf w7 w3 w4 hy E hM hd pc' hp Wd hfr hlo hlen hst hW hsz hc hs (fun v T' h' Y hq => ?_)
  obtain ⟨r, rfl, hr⟩ := hq
  exact k r T' h' Y hr
theorem callPPR (w : Wk p l e R s m args below meth c n0 Z own nm bc ml rt Q G) (X : Sd p l e R s m args below meth c n0 T h cells slots) {y : MethodName} {ybc : ByteArray} {yml : Nat} {yrt : Option FieldType} {rm : Room} {i : Nat} {sk : List Value} {P : Value → Prop} {a : Addr} {C : String} (av : List Value) (w1 : (Cond.methodLink own i y).before a0 Z = true) (w6 : (Cond.instanceMethod y).before a0 Z = true) (hnf : NotFace s y) (w7 : (Cond.privateMethod y).before a0 Z = true) (w3 : (Cond.initialized y.cls).before a0 Z = true) (w4 : (Cond.code y ybc yml yrt).before a0 Z = true) (hy : y.cls ≠ "java/lang/invoke/MethodHandle" ∧ y.cls ≠ "java/lang/invoke/VarHandle") (E : Exa Z h a C) (hM : Met l Z y ybc yml yrt [] rm (.ref a :: av).toArray h n0 (RR fun r h' => h' = h ∧ P r)) (hd : decode bc pc = .ok (.invokevirtual i, 3)) (pc' : Nat) (hp : pc + 3 = pc') (Wd : Nat) (hfr : rm.frames + 1 ≤ R.frames) (hlo : Wd + (yml + 11) + rm.locals ≤ R.locals) (hlen : ∀ sig, parseMethodDescriptor y.desc = some sig → av.length = sig.parameters.length) (hst : sk = av.reverse ++ .ref a :: st) (hW : (st.map fun v => v.category).sum ≤ Wd) (hsz : ls.size = ml) (hc : cells + rm.cells ≤ R.cells) (hs : slots + rm.slots ≤ R.slots) (k : ∀ (r : Value) (T' : State), Sd p l e R s m args below meth c n0 T' h (cells + rm.cells) (slots + rm.slots) → P r → G (T'.setTop (mkF m pc' ls (r :: st)))) : G (T.setTop (mkF m pc ls sk)) := by
  refine callPR w X av w1 w6 hnf w7 w3 w4 hy E hM hd pc' hp Wd hfr hlo hlen hst hW hsz hc hs (fun r T' h' Y hq => ?_)
  obtain ⟨q, hr⟩ := hq
  subst q
  exact k r T' Y hr
theorem callPV (w : Wk p l e R s m args below meth c n0 Z own nm bc ml rt Q G) (X : Sd p l e R s m args below meth c n0 T h cells slots) {y : MethodName} {ybc : ByteArray} {yml : Nat} {yrt : Option FieldType} {rm : Room} {i : Nat} {sk : List Value} {P : Heap → Prop} {a : Addr} {C : String} (av : List Value) (w1 : (Cond.methodLink own i y).before a0 Z = true) (w6 : (Cond.instanceMethod y).before a0 Z = true) (hnf : NotFace s y) (w7 : (Cond.privateMethod y).before a0 Z = true) (w3 : (Cond.initialized y.cls).before a0 Z = true) (w4 : (Cond.code y ybc yml yrt).before a0 Z = true) (hy : y.cls ≠ "java/lang/invoke/MethodHandle" ∧ y.cls ≠ "java/lang/invoke/VarHandle") (E : Exa Z h a C) (hM : Met l Z y ybc yml yrt [] rm (.ref a :: av).toArray h n0 (RV P)) (hd : decode bc pc = .ok (.invokevirtual i, 3)) (pc' : Nat) (hp : pc + 3 = pc') (Wd : Nat) (hfr : rm.frames + 1 ≤ R.frames) (hlo : Wd + (yml + 11) + rm.locals ≤ R.locals) (hlen : ∀ sig, parseMethodDescriptor y.desc = some sig → av.length = sig.parameters.length) (hst : sk = av.reverse ++ .ref a :: st) (hW : (st.map fun v => v.category).sum ≤ Wd) (hsz : ls.size = ml) (hc : cells + rm.cells ≤ R.cells) (hs : slots + rm.slots ≤ R.slots) (k : ∀  (T' : State) (h' : Heap), Sd p l e R s m args below meth c n0 T' h' (cells + rm.cells) (slots + rm.slots) → P h' → G (T'.setTop (mkF m pc' ls (st)))) : G (T.setTop (mkF m pc ls sk)) := by
  refine callP w X av w1 w6 hnf w7 w3 w4 hy E hM hd pc' hp Wd hfr hlo hlen hst hW hsz hc hs (fun v T' h' Y hq => ?_)
  obtain ⟨rfl, hr⟩ := hq
  exact k T' h' Y hr
theorem callPPV (w : Wk p l e R s m args below meth c n0 Z own nm bc ml rt Q G) (X : Sd p l e R s m args below meth c n0 T h cells slots) {y : MethodName} {ybc : ByteArray} {yml : Nat} {yrt : Option FieldType} {rm : Room} {i : Nat} {sk : List Value} {a : Addr} {C : String} (av : List Value) (w1 : (Cond.methodLink own i y).before a0 Z = true) (w6 : (Cond.instanceMethod y).before a0 Z = true) (hnf : NotFace s y) (w7 : (Cond.privateMethod y).before a0 Z = true) (w3 : (Cond.initialized y.cls).before a0 Z = true) (w4 : (Cond.code y ybc yml yrt).before a0 Z = true) (hy : y.cls ≠ "java/lang/invoke/MethodHandle" ∧ y.cls ≠ "java/lang/invoke/VarHandle") (E : Exa Z h a C) (hM : Met l Z y ybc yml yrt [] rm (.ref a :: av).toArray h n0 (RV fun h' => h' = h)) (hd : decode bc pc = .ok (.invokevirtual i, 3)) (pc' : Nat) (hp : pc + 3 = pc') (Wd : Nat) (hfr : rm.frames + 1 ≤ R.frames) (hlo : Wd + (yml + 11) + rm.locals ≤ R.locals) (hlen : ∀ sig, parseMethodDescriptor y.desc = some sig → av.length = sig.parameters.length) (hst : sk = av.reverse ++ .ref a :: st) (hW : (st.map fun v => v.category).sum ≤ Wd) (hsz : ls.size = ml) (hc : cells + rm.cells ≤ R.cells) (hs : slots + rm.slots ≤ R.slots) (k : ∀ (T' : State), Sd p l e R s m args below meth c n0 T' h (cells + rm.cells) (slots + rm.slots) → G (T'.setTop (mkF m pc' ls st))) : G (T.setTop (mkF m pc ls sk)) := by
  refine callPV w X av w1 w6 hnf w7 w3 w4 hy E hM hd pc' hp Wd hfr hlo hlen hst hW hsz hc hs (fun T' h' Y hq => ?_)
  subst hq
  exact k T' Y
end Law
/-! numbers, for omega -/
theorem b32 (x : Int32) : -2147483648 ≤ x.toInt ∧ x.toInt < 2147483648 := ⟨Int32.le_toInt x, Int32.toInt_lt x⟩
theorem b64 (x : Int64) : -9223372036854775808 ≤ x.toInt ∧ x.toInt < 9223372036854775808 := ⟨Int64.le_toInt x, Int64.toInt_lt x⟩
theorem k_mulR (x y : Int32) (d : Int) (hy : y.toInt = d) : ((x * y).toInt - (x.toInt * d)) % 4294967296 = 0 := by have := c_imul x y; rwa [hy] at this
theorem k_mulL (x y : Int32) (d : Int) (hx : x.toInt = d) : ((x * y).toInt - (d * y.toInt)) % 4294967296 = 0 := by have := c_imul x y; rwa [hx] at this
theorem k_mask (x m : Int32) (k : Nat) (P : Int) (hk : k ≤ 31) (hm : m.toBitVec.toNat = 2 ^ k - 1) (hP : ((2 ^ k : Nat) : Int) = P) : (x &&& m).toInt = x.toInt % P := by rw [c_mask x m k hk hm, hP]
theorem k_maskL (m x : Int32) (k : Nat) (P : Int) (hk : k ≤ 31) (hm : m.toBitVec.toNat = 2 ^ k - 1) (hP : ((2 ^ k : Nat) : Int) = P) : (m &&& x).toInt = x.toInt % P := by rw [Int32.and_comm, c_mask x m k hk hm, hP]
theorem k_mask64 (x m : Int64) (k : Nat) (P : Int) (hk : k ≤ 63) (hm : m.toBitVec.toNat = 2 ^ k - 1) (hP : ((2 ^ k : Nat) : Int) = P) : (x &&& m).toInt = x.toInt % P := by rw [c_maskL x m k hk hm, hP]
theorem k_or_and (x p q r : Int32) (h : p ||| q = r) : (x &&& p) ||| (x &&& q) = x &&& r := by
  subst h
  apply Int32.toBitVec_inj.mp
  simp only [Int32.toBitVec_or, Int32.toBitVec_and]
  apply BitVec.eq_of_getLsbD_eq
  intro i hi
  simp only [BitVec.getLsbD_or, BitVec.getLsbD_and]
  cases x.toBitVec.getLsbD i <;> simp
theorem k_field (x p q r : Int32) (k j : Nat) (P J : Int) (hpq : p ||| q = r) (h0 : p &&& q = 0) (hk : k ≤ 31) (hq : q.toBitVec.toNat = 2 ^ k - 1) (hP : ((2 ^ k : Nat) : Int) = P) (hj : j ≤ 31) (hr : r.toBitVec.toNat = 2 ^ j - 1) (hJ : ((2 ^ j : Nat) : Int) = J) (hp0 : 0 ≤ p.toInt) (hJ2 : J ≤ 1073741824) (hP1 : 1 ≤ P) (hPJ : P ≤ J) : (x &&& p).toInt = x.toInt % J - x.toInt % P := by
  have e1 : (x &&& p) &&& q = 0 := by rw [Int32.and_assoc, h0, Int32.and_zero]
  have e2 := k_mask (x &&& p) q k P hk hq hP
  rw [e1] at e2
  have e3 := k_or_and x p q r hpq
  have e4 := k_mask x q k P hk hq hP
  have e5 := k_mask x r j J hj hr hJ
  have e6 := c_or (x &&& p) (x &&& q) k hk P hP.symm
  rw [e3, e4, e5] at e6
  have e7 := c_and x p hp0
  have e8 : (0 : Int32).toInt = 0 := rfl
  rw [e8] at e2
  have m1 := Int.emod_nonneg x.toInt (show P ≠ 0 by omega)
  have m2 := Int.emod_lt_of_pos x.toInt (show (0 : Int) < P by omega)
  have m3 := Int.emod_nonneg x.toInt (show J ≠ 0 by omega)
  have m4 := Int.emod_lt_of_pos x.toInt (show (0 : Int) < J by omega)
  have e9 := e6 e2.symm m1 m2
  have b := b32 (x &&& p)
  omega
theorem k_shr (x q : Int32) (k : Nat) (P : Int) (hk : q.toBitVec.toNat % 32 = k) (hP : ((2 ^ k : Nat) : Int) = P) : (x >>> (q &&& 31)).toInt = x.toInt / P := by rw [c_ishr x q k hk, hP]
theorem k_shl (x q : Int32) (k : Nat) (P : Int) (hk : q.toBitVec.toNat % 32 = k) (hP : ((2 ^ k : Nat) : Int) = P) : ((x <<< (q &&& 31)).toInt - x.toInt * P) % 4294967296 = 0 := by have := c_ishl x q k hk; rwa [hP] at this
theorem k_ushr (x q : Int32) (k : Nat) (P : Int) (hk : q.toBitVec.toNat % 32 = k) (h0 : 0 < k) (hP : ((2 ^ k : Nat) : Int) = P) : ((x.toUInt32 >>> (q &&& 31).toUInt32).toInt32).toInt = (x.toInt % 4294967296) / P := by rw [c_iushr x q k hk h0, hP]

theorem nar_b (x : Int32) : nar .byte x.toInt8.toInt32 = x.toInt8.toInt32 := by simp [nar]
theorem lsw_eq {x v : Int32} {k : Int} (hv : v.toInt = k) (q : k = x.toInt) : x = v := Int32.toInt_inj.mp (by omega)
/-- an array of ints, bytes or chars with these elements -/
def PA (Z : State) (h : Heap) (a : Addr) (ty : FieldType) (bs : List Int32) : Prop :=
  ∃ c : Cell, Arr Z h a c ty ∧ c.slots.size = bs.length ∧ bs.length < 2147483648 ∧ (∀ i, i < bs.length → c.slots[i]? = some (.int (bs.getD i 0))) ∧ ∀ x ∈ bs, fits ty (.int x) = true
section Arrays
variable {p : Program} {l : Launch} {e : Env} {R : Room} {s : State} {m : MethodId} {args : Array Value} {below : List Frame} {meth : Method} {c : Code} {n0 : Nat} {T : State} {h h' : Heap} {cells slots : Nat} {Z : State} {a0 : Array Value} {own nm : String} {bc : ByteArray} {ml : Nat} {rt : Option FieldType} {Q : Option Value → Heap → Prop} {G : State → Prop}
variable {pc : Nat} {ls : Array Slot} {st : List Value} {a b : Addr} {ty : FieldType} {bs : List Int32} {j : Int32} {v : Value} {sl : Nat} {ws : List Addr}
theorem PA.lt (F : PA Z h a ty bs) : a < h.size := by obtain ⟨c, A, -⟩ := F; exact A.lt
theorem PA.ext (F : PA Z h a ty bs) (E : Ext h h') : PA Z h' a ty bs := by obtain ⟨c, A, r⟩ := F; exact ⟨c, A.ext E, r⟩
theorem PA.other (F : PA Z h b ty bs) (W : Wr h h' a sl v) (q : b ≠ a) : PA Z h' b ty bs := by obtain ⟨c, A, r⟩ := F; exact ⟨c, A.other W q, r⟩
theorem PA.keep (F : PA Z h a ty bs) (K : Keep h h' ws) (q : a ∉ ws) : PA Z h' a ty bs := by obtain ⟨c, A, r⟩ := F; exact ⟨c, ⟨K.2.1 a c A.1 q, A.2⟩, r⟩
theorem PA.fit (F : PA Z h a ty bs) : ∀ x ∈ bs, fits ty (.int x) = true := by obtain ⟨c, A, r⟩ := F; exact r.2.2.2
theorem PA.len (F : PA Z h a ty bs) : bs.length < 2147483648 := by obtain ⟨c, A, r⟩ := F; exact r.2.1
theorem clampI {j : Int32} (h : ¬ j < 0) : (j.toNatClampNeg : Int) = j.toInt := by
  rw [Int32.lt_iff_toInt_lt] at h
  have e0 : (0 : Int32).toInt = 0 := rfl
  simp only [Int32.toNatClampNeg]; omega
theorem PA.new {cA : ClassId} {n : Int32} (ty : FieldType) (hty : defaultValue ty = .int 0) (hf : fits ty (.int 0) = true) (k : Nat) (A : Arr Z h a (newA cA ty n) ty) (hn : n.toNatClampNeg = k) : PA Z h a ty (List.replicate k 0) := by
  refine ⟨_, A, by rw [sz_new, hn, List.length_replicate], ?_, fun i hi => ?_, fun x hx => ?_⟩
  · rw [List.length_replicate, ← hn]; have := Int32.toInt_lt n; simp only [Int32.toNatClampNeg]; omega
  · rw [List.length_replicate] at hi
    simp [newA, hn, hi, hty, List.getD_eq_getElem?_getD]
  · rw [List.eq_of_mem_replicate hx]; exact hf
theorem PA.ofL {cl : Cell} {n : Int32} (A : Arr Z h a cl ty) (hs : cl.slots.size < 2 ^ 31) (hn : cl.slots.size.toInt32 = n) (hz : n.toNatClampNeg = bs.length) (hz0 : ¬ n < 0) (H : HasL cl 0 (bs.map Value.int)) (hf : ∀ x ∈ bs, fits ty (.int x) = true) : PA Z h a ty bs := by
  have S : cl.slots.size = n.toNatClampNeg := by rw [← hn]; simp only [Int32.toNatClampNeg, len_toInt hs]; rfl
  refine ⟨cl, A, S.trans hz, by omega, fun i hi => ?_, hf⟩
  have := HasL.at (dv := .int 0) (bs.map Value.int) 0 H i (by rw [List.length_map]; exact hi)
  rw [Nat.zero_add] at this
  rw [this]
  simp [List.getD_eq_getElem?_getD, List.getElem?_map, List.getElem?_eq_getElem hi]
theorem PA.inb {c : Cell} (hlen : c.slots.size = bs.length) (h1 : ¬ j < 0) (h2 : j.toNatClampNeg < bs.length) : ¬ (j < 0 ∨ c.slots.size ≤ j.toNatClampNeg) := fun q => q.elim h1 fun z => absurd h2 (Nat.not_lt.mpr (hlen ▸ z))

theorem iaload (w : Wk p l e R s m args below meth c n0 Z own nm bc ml rt Q G) (X : Sd p l e R s m args below meth c n0 T h cells slots) (F : PA Z h a .int bs) (h1 : ¬ j < 0) (i : Nat) (hi : j.toNatClampNeg = i) (h2 : i < bs.length) (hd : decode bc pc = .ok (.iaload, 1)) (pc' : Nat) (hp : pc + 1 = pc') (z : Int32) (hz : z = bs.getD i 0) (k : G (T.setTop (mkF m pc' ls (.int z :: st)))) : G (T.setTop (mkF m pc ls (.int j :: .ref a :: st))) := by
  obtain ⟨locs, Y, N, eT⟩ := X
  subst hp hz hi
  obtain ⟨cl, A, hl, -, hg, -⟩ := F
  exact w.1 _ _ (fun t q => Y.iaload w.2.1 (j := j) (v := .int (bs.getD j.toNatClampNeg 0)) (by rw [eT]; exact A.1) (State.isArrayOf_alike w.2.2.2.2.1.alike A.2.1) A.2.2 (PA.inb hl h1 h2) (hg _ h2) (g := mkF m pc ls (.int j :: .ref a :: st)) rfl rfl (hb w.2.2.1 hd) t q) k
theorem baload (w : Wk p l e R s m args below meth c n0 Z own nm bc ml rt Q G) (X : Sd p l e R s m args below meth c n0 T h cells slots) (F : PA Z h a .byte bs) (h1 : ¬ j < 0) (i : Nat) (hi : j.toNatClampNeg = i) (h2 : i < bs.length) (hd : decode bc pc = .ok (.baload, 1)) (pc' : Nat) (hp : pc + 1 = pc') (z : Int32) (hz : z = bs.getD i 0) (k : G (T.setTop (mkF m pc' ls (.int z :: st)))) : G (T.setTop (mkF m pc ls (.int j :: .ref a :: st))) := by
  obtain ⟨locs, Y, N, eT⟩ := X
  subst hp hz hi
  obtain ⟨cl, A, hl, -, hg, -⟩ := F
  exact w.1 _ _ (fun t q => Y.baloadBytes w.2.1 (j := j) (v := .int (bs.getD j.toNatClampNeg 0)) (by rw [eT]; exact A.1) (State.isArrayOf_alike w.2.2.2.2.1.alike A.2.1) A.2.2 (PA.inb hl h1 h2) (hg _ h2) (g := mkF m pc ls (.int j :: .ref a :: st)) rfl rfl (hb w.2.2.1 hd) t q) k
theorem caload (w : Wk p l e R s m args below meth c n0 Z own nm bc ml rt Q G) (X : Sd p l e R s m args below meth c n0 T h cells slots) (F : PA Z h a .char bs) (h1 : ¬ j < 0) (i : Nat) (hi : j.toNatClampNeg = i) (h2 : i < bs.length) (hd : decode bc pc = .ok (.caload, 1)) (pc' : Nat) (hp : pc + 1 = pc') (z : Int32) (hz : z = bs.getD i 0) (k : G (T.setTop (mkF m pc' ls (.int z :: st)))) : G (T.setTop (mkF m pc ls (.int j :: .ref a :: st))) := by
  obtain ⟨locs, Y, N, eT⟩ := X
  subst hp hz hi
  obtain ⟨cl, A, hl, -, hg, -⟩ := F
  exact w.1 _ _ (fun t q => Y.caload w.2.1 (j := j) (v := .int (bs.getD j.toNatClampNeg 0)) (by rw [eT]; exact A.1) (State.isArrayOf_alike w.2.2.2.2.1.alike A.2.1) A.2.2 (PA.inb hl h1 h2) (hg _ h2) (g := mkF m pc ls (.int j :: .ref a :: st)) rfl rfl (hb w.2.2.1 hd) t q) k
theorem zaload (w : Wk p l e R s m args below meth c n0 Z own nm bc ml rt Q G) (X : Sd p l e R s m args below meth c n0 T h cells slots) (F : PA Z h a .boolean bs) (h1 : ¬ j < 0) (i : Nat) (hi : j.toNatClampNeg = i) (h2 : i < bs.length) (hd : decode bc pc = .ok (.baload, 1)) (pc' : Nat) (hp : pc + 1 = pc') (z : Int32) (hz : z = bs.getD i 0) (k : G (T.setTop (mkF m pc' ls (.int z :: st)))) : G (T.setTop (mkF m pc ls (.int j :: .ref a :: st))) := by
  obtain ⟨locs, Y, N, eT⟩ := X
  subst hp hz hi
  obtain ⟨cl, A, hl, -, hg, -⟩ := F
  exact w.1 _ _ (fun t q => Y.baloadBooleans w.2.1 (j := j) (v := .int (bs.getD j.toNatClampNeg 0)) (by rw [eT]; exact A.1) (State.isArrayOf_alike w.2.2.2.2.1.alike A.2.1) A.2.2 (PA.inb hl h1 h2) (hg _ h2) (g := mkF m pc ls (.int j :: .ref a :: st)) rfl rfl (hb w.2.2.1 hd) t q) k
theorem iastore (w : Wk p l e R s m args below meth c n0 Z own nm bc ml rt Q G) (X : Sd p l e R s m args below meth c n0 T h cells slots) {x : Int32} (F : PA Z h a .int bs) (h1 : ¬ j < 0) (i : Nat) (hi : j.toNatClampNeg = i) (h2 : i < bs.length) (ha : n0 ≤ a) (hd : decode bc pc = .ok (.iastore, 1)) (pc' : Nat) (hp : pc + 1 = pc') (z : Int32) (hz : z = x)
    (k : ∀ (T' : State) (h' : Heap), Sd p l e R s m args below meth c n0 T' h' cells slots → Wr h h' a i (.int z) → PA Z h' a .int (bs.set i z) → G (T'.setTop (mkF m pc' ls st))) : G (T.setTop (mkF m pc ls (.int x :: .int j :: .ref a :: st))) := by
  obtain ⟨locs, Y, N, eT⟩ := X
  subst hp hz hi
  obtain ⟨cl, A, hl, hl2, hg, hf⟩ := F
  obtain ⟨T', h', Y', e', W', q⟩ := stI Y w.2.1 w.2.2.2.2.1 eT A (j := j) (PA.inb hl h1 h2) (g := mkF m pc ls (.int z :: .int j :: .ref a :: st)) rfl rfl (hb w.2.2.1 hd)
  refine w.1 _ _ q (k T' h' ⟨_, Y', Fr.snoc Y' N ha, e'⟩ W' ⟨_, A.same W', by rw [sz_set, List.length_set]; exact hl, by rw [List.length_set]; exact hl2, fun i hi => ?_, fun y hy => ?_⟩)
  · rw [List.length_set] at hi
    by_cases u : j.toNatClampNeg = i
    · subst u; simp [Cell.setSlot, hl, hi, List.getD_eq_getElem?_getD]
    · have := hg i hi
      simp only [Cell.setSlot, List.getD_eq_getElem?_getD] at this ⊢
      rw [Array.getElem?_setIfInBounds_ne u, List.getElem?_set_ne u]; exact this
  · rcases List.mem_or_eq_of_mem_set hy with y1 | rfl
    · exact hf y y1
    · exact rfl
theorem bastore (w : Wk p l e R s m args below meth c n0 Z own nm bc ml rt Q G) (X : Sd p l e R s m args below meth c n0 T h cells slots) {x : Int32} (F : PA Z h a .byte bs) (h1 : ¬ j < 0) (i : Nat) (hi : j.toNatClampNeg = i) (h2 : i < bs.length) (ha : n0 ≤ a) (hd : decode bc pc = .ok (.bastore, 1)) (pc' : Nat) (hp : pc + 1 = pc') (z : Int32) (hz : z = (nar .byte x))
    (k : ∀ (T' : State) (h' : Heap), Sd p l e R s m args below meth c n0 T' h' cells slots → Wr h h' a i (.int z) → PA Z h' a .byte (bs.set i z) → G (T'.setTop (mkF m pc' ls st))) : G (T.setTop (mkF m pc ls (.int x :: .int j :: .ref a :: st))) := by
  obtain ⟨locs, Y, N, eT⟩ := X
  subst hp hz hi
  obtain ⟨cl, A, hl, hl2, hg, hf⟩ := F
  obtain ⟨T', h', Y', e', W', q⟩ := stB Y w.2.1 w.2.2.2.2.1 eT A (j := j) (PA.inb hl h1 h2) (g := mkF m pc ls (.int x :: .int j :: .ref a :: st)) rfl rfl (hb w.2.2.1 hd)
  refine w.1 _ _ q (k T' h' ⟨_, Y', Fr.snoc Y' N ha, e'⟩ W' ⟨_, A.same W', by rw [sz_set, List.length_set]; exact hl, by rw [List.length_set]; exact hl2, fun i hi => ?_, fun y hy => ?_⟩)
  · rw [List.length_set] at hi
    by_cases u : j.toNatClampNeg = i
    · subst u; simp [Cell.setSlot, hl, hi, List.getD_eq_getElem?_getD]
    · have := hg i hi
      simp only [Cell.setSlot, List.getD_eq_getElem?_getD] at this ⊢
      rw [Array.getElem?_setIfInBounds_ne u, List.getElem?_set_ne u]; exact this
  · rcases List.mem_or_eq_of_mem_set hy with y1 | rfl
    · exact hf y y1
    · exact (fits_nar_byte x)
theorem castore (w : Wk p l e R s m args below meth c n0 Z own nm bc ml rt Q G) (X : Sd p l e R s m args below meth c n0 T h cells slots) {x : Int32} (F : PA Z h a .char bs) (h1 : ¬ j < 0) (i : Nat) (hi : j.toNatClampNeg = i) (h2 : i < bs.length) (ha : n0 ≤ a) (hd : decode bc pc = .ok (.castore, 1)) (pc' : Nat) (hp : pc + 1 = pc') (z : Int32) (hz : z = (nar .char x))
    (k : ∀ (T' : State) (h' : Heap), Sd p l e R s m args below meth c n0 T' h' cells slots → Wr h h' a i (.int z) → PA Z h' a .char (bs.set i z) → G (T'.setTop (mkF m pc' ls st))) : G (T.setTop (mkF m pc ls (.int x :: .int j :: .ref a :: st))) := by
  obtain ⟨locs, Y, N, eT⟩ := X
  subst hp hz hi
  obtain ⟨cl, A, hl, hl2, hg, hf⟩ := F
  obtain ⟨T', h', Y', e', W', q⟩ := stC Y w.2.1 w.2.2.2.2.1 eT A (j := j) (PA.inb hl h1 h2) (g := mkF m pc ls (.int x :: .int j :: .ref a :: st)) rfl rfl (hb w.2.2.1 hd)
  refine w.1 _ _ q (k T' h' ⟨_, Y', Fr.snoc Y' N ha, e'⟩ W' ⟨_, A.same W', by rw [sz_set, List.length_set]; exact hl, by rw [List.length_set]; exact hl2, fun i hi => ?_, fun y hy => ?_⟩)
  · rw [List.length_set] at hi
    by_cases u : j.toNatClampNeg = i
    · subst u; simp [Cell.setSlot, hl, hi, List.getD_eq_getElem?_getD]
    · have := hg i hi
      simp only [Cell.setSlot, List.getD_eq_getElem?_getD] at this ⊢
      rw [Array.getElem?_setIfInBounds_ne u, List.getElem?_set_ne u]; exact this
  · rcases List.mem_or_eq_of_mem_set hy with y1 | rfl
    · exact hf y y1
    · exact (fits_nar_char x)
theorem zastore (w : Wk p l e R s m args below meth c n0 Z own nm bc ml rt Q G) (X : Sd p l e R s m args below meth c n0 T h cells slots) {x : Int32} (F : PA Z h a .boolean bs) (h1 : ¬ j < 0) (i : Nat) (hi : j.toNatClampNeg = i) (h2 : i < bs.length) (ha : n0 ≤ a) (hd : decode bc pc = .ok (.bastore, 1)) (pc' : Nat) (hp : pc + 1 = pc') (z : Int32) (hz : z = (nar .boolean x))
    (k : ∀ (T' : State) (h' : Heap), Sd p l e R s m args below meth c n0 T' h' cells slots → Wr h h' a i (.int z) → PA Z h' a .boolean (bs.set i z) → G (T'.setTop (mkF m pc' ls st))) : G (T.setTop (mkF m pc ls (.int x :: .int j :: .ref a :: st))) := by
  obtain ⟨locs, Y, N, eT⟩ := X
  subst hp hz hi
  obtain ⟨cl, A, hl, hl2, hg, hf⟩ := F
  obtain ⟨T', h', Y', e', W', q⟩ := stZ Y w.2.1 w.2.2.2.2.1 eT A (j := j) (PA.inb hl h1 h2) (g := mkF m pc ls (.int x :: .int j :: .ref a :: st)) rfl rfl (hb w.2.2.1 hd)
  refine w.1 _ _ q (k T' h' ⟨_, Y', Fr.snoc Y' N ha, e'⟩ W' ⟨_, A.same W', by rw [sz_set, List.length_set]; exact hl, by rw [List.length_set]; exact hl2, fun i hi => ?_, fun y hy => ?_⟩)
  · rw [List.length_set] at hi
    by_cases u : j.toNatClampNeg = i
    · subst u; simp [Cell.setSlot, hl, hi, List.getD_eq_getElem?_getD]
    · have := hg i hi
      simp only [Cell.setSlot, List.getD_eq_getElem?_getD] at this ⊢
      rw [Array.getElem?_setIfInBounds_ne u, List.getElem?_set_ne u]; exact this
  · rcases List.mem_or_eq_of_mem_set hy with y1 | rfl
    · exact hf y y1
    · exact (fits_nar_bool x)
theorem arraylength (w : Wk p l e R s m args below meth c n0 Z own nm bc ml rt Q G) (X : Sd p l e R s m args below meth c n0 T h cells slots) (F : PA Z h a ty bs) (hd : decode bc pc = .ok (.arraylength, 1)) (pc' : Nat) (hp : pc + 1 = pc') (z : Int32) (hz : z = Int32.ofNat bs.length) (k : G (T.setTop (mkF m pc' ls (.int z :: st)))) : G (T.setTop (mkF m pc ls (.ref a :: st))) := by
  obtain ⟨locs, Y, N, eT⟩ := X
  subst hp hz
  obtain ⟨cl, A, hl, -, -⟩ := F
  refine w.1 _ _ (fun t q => Y.arraylength w.2.1 (by rw [eT]; exact A.1) (State.isArrayOf_alike w.2.2.2.2.1.alike A.2.1) (g := mkF m pc ls (.ref a :: st)) rfl rfl (hb w.2.2.1 hd) t ?_) k
  rw [hl]; exact q
end Arrays
end Jvm.Own
namespace Jvm.Pilot.@@N@@
open Jvm Jvm.ClassFile Sem Op Lib Jvm.Free Jvm.Stand Jvm.LawKit Jvm.RoadKit Jvm.Own Bundle Jvm.Pilot.@@N@@.Jvm.D
def own_bl (x : Int32) : Int32 := if x = 32 ∨ x = 9 ∨ x = 13 then 1 else 0
def own_at (a b : Int32) : Int32 := if a = b then 1 else 0
def own_nx (bs : List Int32) (n e ch : Int32) : Int32 := if e < n ∧ bs.getD e.toNatClampNeg 0 = ch then 1 else 0
/-- the blanks end at ee -/
def own_sk (bs : List Int32) (nn ee : Nat) : Prop := (∀ j, j < ee → own_bl (bs.getD j 0) = 1) ∧ (ee = nn ∨ (ee < nn ∧ own_bl (bs.getD ee 0) = 0)) ∧ ee ≤ nn ∧ nn ≤ bs.length ∧ bs.length ≤ 5
theorem own_bl01 (x : Int32) : own_bl x = 0 ∨ own_bl x = 1 := by
  unfold own_bl
  split
  · exact Or.inr rfl
  · exact Or.inl rfl
theorem own_ex (bs : List Int32) (hb : bs.length ≤ 5) : ∀ nn, nn ≤ bs.length → ∃ ee, own_sk bs nn ee
  | 0, _ => ⟨0, fun j hj => absurd hj (Nat.not_lt_zero _), Or.inl rfl, Nat.le_refl _, Nat.zero_le _, hb⟩
  | nn + 1, hn => by
    obtain ⟨ee, h1, h2, h3, h4, h5⟩ := own_ex bs hb nn (by omega)
    rcases h2 with rfl | ⟨h2, h2'⟩
    · rcases own_bl01 (bs.getD ee 0) with q | q
      · exact ⟨ee, h1, Or.inr ⟨Nat.lt_succ_self _, q⟩, by omega, hn, hb⟩
      · refine ⟨ee + 1, fun j hj => ?_, Or.inl rfl, Nat.le_refl _, hn, hb⟩
        rcases (by omega : j < ee ∨ j = ee) with r | rfl
        · exact h1 j r
        · exact q
    · exact ⟨ee, h1, Or.inr ⟨by omega, h2'⟩, by omega, hn, hb⟩
theorem own_i (j : Nat) (h : j ≤ 5) : (Int32.ofNat j).toInt = j := Int32.toInt_ofNat_of_lt (by omega)
theorem own_s (j : Nat) : Int32.ofNat j + (1 : Int32) = Int32.ofNat (j + 1) := by rw [Int32.ofNat_add]; rfl
theorem own_old : own_sk [32, 32, 32, 32, 32] 5 5 := ⟨by decide, Or.inl rfl, by decide, by decide, by decide⟩
theorem own_ix {bs : List Int32} {nn ee j : Nat} {n : Int32} (hsk : own_sk bs nn ee) (hj : j ≤ ee) (hn : n = Int32.ofNat nn) (hc : Int32.ofNat j < n) : ¬ Int32.ofNat j < 0 ∧ (Int32.ofNat j).toNatClampNeg = j ∧ j < bs.length ∧ j < nn := by
  obtain ⟨-, -, h3, h4, h5⟩ := hsk
  have e1 := own_i j (by omega)
  have e2 := own_i nn (by omega)
  rw [hn, Int32.lt_iff_toInt_lt, e1, e2] at hc
  refine ⟨?_, ?_, by omega, by omega⟩
  · rw [Int32.lt_iff_toInt_lt, e1]
    have : (0 : Int32).toInt = 0 := rfl
    omega
  · simp only [Int32.toNatClampNeg, e1]; rfl
theorem own_end1 {bs : List Int32} {nn ee j : Nat} {n : Int32} (hsk : own_sk bs nn ee) (hj : j ≤ ee) (hn : n = Int32.ofNat nn) (hc : ¬ Int32.ofNat j < n) : j = ee := by
  obtain ⟨-, -, h3, h4, h5⟩ := hsk
  rw [hn, Int32.lt_iff_toInt_lt, own_i j (by omega), own_i nn (by omega)] at hc
  omega
theorem own_end2 {bs : List Int32} {nn ee j : Nat} {r x : Int32} (hsk : own_sk bs nn ee) (hj : j ≤ ee) (hx : x = bs.getD j 0) (hr : r = own_bl x) (hc : r = 0) : j = ee := by
  rcases (by omega : j < ee ∨ j = ee) with q | q
  · have h := hsk.1 j q
    rw [← hx, ← hr, hc] at h
    exact absurd h (by decide)
  · exact q
theorem own_go {bs : List Int32} {nn ee j : Nat} {r x : Int32} (hsk : own_sk bs nn ee) (hj : j ≤ ee) (hl : j < nn) (hx : x = bs.getD j 0) (hr : r = own_bl x) (hc : ¬ r = 0) : j < ee := by
  rcases (by omega : j < ee ∨ j = ee) with q | rfl
  · exact q
  · rcases hsk.2.1 with rfl | ⟨-, h⟩
    · exact absurd hl (Nat.lt_irrefl _)
    · exact absurd (hr.trans ((congrArg own_bl hx).trans h)) hc
theorem own_sk4 {b0 b1 b2 b3 n eI : Int32} {nn ee : Nat} (hsk : own_sk [b0, b1, b2, b3] nn ee) (hn : n = Int32.ofNat nn) (he : eI = Int32.ofNat ee) : (¬ eI < 0 ∧ ¬ n < eI ∧ ¬ 4 < n) ∧ ((¬ 0 < eI ∨ own_bl b0 = 1) ∧ (¬ 1 < eI ∨ own_bl b1 = 1) ∧ (¬ 2 < eI ∨ own_bl b2 = 1) ∧ (¬ 3 < eI ∨ own_bl b3 = 1)) ∧ (eI = n ∨ (eI = 0 ∧ 0 < n ∧ own_bl b0 = 0) ∨ (eI = 1 ∧ 1 < n ∧ own_bl b1 = 0) ∨ (eI = 2 ∧ 2 < n ∧ own_bl b2 = 0) ∨ (eI = 3 ∧ 3 < n ∧ own_bl b3 = 0)) := by
  obtain ⟨h1, h2, h3, h4, h5⟩ := hsk
  have h4' : nn ≤ 4 := h4
  have e1 : n.toInt = nn := by rw [hn]; exact own_i nn (by omega)
  have e2 : eI.toInt = ee := by rw [he]; exact own_i ee (by omega)
  have k0 : (0 : Int32).toInt = 0 := rfl
  have k1 : (1 : Int32).toInt = 1 := rfl
  have k2 : (2 : Int32).toInt = 2 := rfl
  have k3 : (3 : Int32).toInt = 3 := rfl
  have k4 : (4 : Int32).toInt = 4 := rfl
  simp only [Int32.lt_iff_toInt_lt, e1, e2, k0, k1, k2, k3, k4]
  refine ⟨⟨by omega, by omega, by omega⟩, ⟨?_, ?_, ?_, ?_⟩, ?_⟩
  · by_cases q : 0 < ee
    · exact Or.inr (h1 0 q)
    · exact Or.inl (by omega)
  · by_cases q : 1 < ee
    · exact Or.inr (h1 1 q)
    · exact Or.inl (by omega)
  · by_cases q : 2 < ee
    · exact Or.inr (h1 2 q)
    · exact Or.inl (by omega)
  · by_cases q : 3 < ee
    · exact Or.inr (h1 3 q)
    · exact Or.inl (by omega)
  · rcases h2 with rfl | ⟨q, h⟩
    · exact Or.inl (he.trans hn.symm)
    · refine Or.inr ?_
      rcases (by omega : ee = 0 ∨ ee = 1 ∨ ee = 2 ∨ ee = 3) with rfl | rfl | rfl | rfl
      · exact Or.inl ⟨he, by omega, h⟩
      · exact Or.inr (Or.inl ⟨he, by omega, h⟩)
      · exact Or.inr (Or.inr (Or.inl ⟨he, by omega, h⟩))
      · exact Or.inr (Or.inr (Or.inr ⟨he, by omega, h⟩))
theorem own_nt {bs : List Int32} {n eI ch k r e : Int32} (hk : k = eI) (hr : r = own_nx bs n eI ch) (hl : k < n) (he : e = bs.getD k.toNatClampNeg 0) (hc : e = ch) : r = 1 := by
  subst hk
  rw [hr]
  exact if_pos ⟨hl, by rw [← he]; exact hc⟩
theorem own_nf {bs : List Int32} {n eI ch k r e : Int32} (hk : k = eI) (hr : r = own_nx bs n eI ch) (he : e = bs.getD k.toNatClampNeg 0) (hc : ¬ e = ch) : r = 0 := by
  subst hk
  rw [hr]
  exact if_neg fun q => hc (by rw [he]; exact q.2)
theorem own_nl {bs : List Int32} {n eI ch k r : Int32} (hk : k = eI) (hr : r = own_nx bs n eI ch) (hl : ¬ k < n) : r = 0 := by
  subst hk
  rw [hr]
  exact if_neg fun q => hl q.1
theorem own_ay {n eI k r : Int32} (hk : k = eI) (hr : r = own_at eI n) (h : k = n) : r = 1 := by
  subst hk
  rw [hr]
  exact if_pos h
theorem own_an {n eI k r : Int32} (hk : k = eI) (hr : r = own_at eI n) (h : ¬ k = n) : r = 0 := by
  subst hk
  rw [hr]
  exact if_neg h
theorem own_nn (a : Int32) : ∃ nn : Nat, nn ≤ 4 ∧ ((a &&& (2147483647 : Int32)) % (5 : Int32)) = Int32.ofNat nn := by
  have h := k_mask a 2147483647 31 2147483648 (by decide) (by decide) (by decide)
  have h2 := (c_irem (a &&& 2147483647) 5 5 (by decide)).1 (by omega)
  have h3 : 0 ≤ ((a &&& (2147483647 : Int32)) % (5 : Int32)).toInt ∧ ((a &&& (2147483647 : Int32)) % (5 : Int32)).toInt ≤ 4 := by omega
  refine ⟨((a &&& (2147483647 : Int32)) % (5 : Int32)).toInt.toNat, by omega, ?_⟩
  apply Int32.toInt_inj.mp
  rw [own_i _ (by omega)]
  omega
theorem wd0 {a0 : Array Value} {Z : State} (hw : ∀ d ∈ tables_1, d.before a0 Z = true) : ((Jvm.Cond.arrayClass Jvm.ClassFile.FieldType.byte)).before a0 Z = true := hw _ (List.mem_of_getElem? (i := 0) rfl)
theorem wd1 {a0 : Array Value} {Z : State} (hw : ∀ d ∈ tables_1, d.before a0 Z = true) : ((Jvm.Cond.methodLink "com/example/frugal_kripke/frugalkripke/model/LineCursorResetPinLaw" (13 : Nat) ({ cls := "com/example/frugal_kripke/frugalkripke/model/LineCursorResetPinLaw", name := "pick", desc := "(I)C" } : Jvm.MethodName))).before a0 Z = true := hw _ (List.mem_of_getElem? (i := 1) rfl)
theorem wd2 {a0 : Array Value} {Z : State} (hw : ∀ d ∈ tables_1, d.before a0 Z = true) : ((Jvm.Cond.static ({ cls := "com/example/frugal_kripke/frugalkripke/model/LineCursorResetPinLaw", name := "pick", desc := "(I)C" } : Jvm.MethodName))).before a0 Z = true := hw _ (List.mem_of_getElem? (i := 2) rfl)
theorem wd3 {a0 : Array Value} {Z : State} (hw : ∀ d ∈ tables_1, d.before a0 Z = true) : ((Jvm.Cond.initialized "com/example/frugal_kripke/frugalkripke/model/LineCursorResetPinLaw")).before a0 Z = true := hw _ (List.mem_of_getElem? (i := 3) rfl)
theorem wd4 {a0 : Array Value} {Z : State} (hw : ∀ d ∈ tables_1, d.before a0 Z = true) : ((Jvm.Cond.code ({ cls := "com/example/frugal_kripke/frugalkripke/model/LineCursorResetPinLaw", name := "pick", desc := "(I)C" } : Jvm.MethodName) method_2_code (2 : Nat) (Option.some Jvm.ClassFile.FieldType.char))).before a0 Z = true := hw _ (List.mem_of_getElem? (i := 4) rfl)
theorem wd5 {a0 : Array Value} {Z : State} (hw : ∀ d ∈ tables_1, d.before a0 Z = true) : ((Jvm.Cond.constant "com/example/frugal_kripke/frugalkripke/model/LineCursorResetPinLaw" (17 : Nat) (2147483647 : Int32))).before a0 Z = true := hw _ (List.mem_of_getElem? (i := 5) rfl)
theorem wd6 {a0 : Array Value} {Z : State} (hw : ∀ d ∈ tables_1, d.before a0 Z = true) : ((Jvm.Cond.classLink "com/example/frugal_kripke/frugalkripke/model/LineCursorResetPinLaw" (18 : Nat) "com/example/frugal_kripke/frugalkripke/model/LineCursor")).before a0 Z = true := hw _ (List.mem_of_getElem? (i := 6) rfl)
theorem wd7 {a0 : Array Value} {Z : State} (hw : ∀ d ∈ tables_1, d.before a0 Z = true) : ((Jvm.Cond.instantiable "com/example/frugal_kripke/frugalkripke/model/LineCursor" (6 : Nat))).before a0 Z = true := hw _ (List.mem_of_getElem? (i := 7) rfl)
theorem wd8 {a0 : Array Value} {Z : State} (hw : ∀ d ∈ tables_1, d.before a0 Z = true) : ((Jvm.Cond.initialized "com/example/frugal_kripke/frugalkripke/model/LineCursor")).before a0 Z = true := hw _ (List.mem_of_getElem? (i := 8) rfl)
theorem wd9 {a0 : Array Value} {Z : State} (hw : ∀ d ∈ tables_1, d.before a0 Z = true) : ((Jvm.Cond.methodLink "com/example/frugal_kripke/frugalkripke/model/LineCursorResetPinLaw" (20 : Nat) ({ cls := "com/example/frugal_kripke/frugalkripke/model/LineCursor", name := "<init>", desc := "()V" } : Jvm.MethodName))).before a0 Z = true := hw _ (List.mem_of_getElem? (i := 9) rfl)
theorem wd10 {a0 : Array Value} {Z : State} (hw : ∀ d ∈ tables_1, d.before a0 Z = true) : ((Jvm.Cond.instanceMethod ({ cls := "com/example/frugal_kripke/frugalkripke/model/LineCursor", name := "<init>", desc := "()V" } : Jvm.MethodName))).before a0 Z = true := hw _ (List.mem_of_getElem? (i := 10) rfl)
theorem wd11 {a0 : Array Value} {Z : State} (hw : ∀ d ∈ tables_1, d.before a0 Z = true) : ((Jvm.Cond.code ({ cls := "com/example/frugal_kripke/frugalkripke/model/LineCursor", name := "<init>", desc := "()V" } : Jvm.MethodName) prog_48_method_2_code (1 : Nat) (Option.none : Option Jvm.ClassFile.FieldType))).before a0 Z = true := hw _ (List.mem_of_getElem? (i := 11) rfl)
theorem wd12 {a0 : Array Value} {Z : State} (hw : ∀ d ∈ tables_1, d.before a0 Z = true) : ((Jvm.Cond.methodLink "com/example/frugal_kripke/frugalkripke/model/LineCursor" (1 : Nat) ({ cls := "java/lang/Object", name := "<init>", desc := "()V" } : Jvm.MethodName))).before a0 Z = true := hw _ (List.mem_of_getElem? (i := 12) rfl)
theorem wd13 {a0 : Array Value} {Z : State} (hw : ∀ d ∈ tables_1, d.before a0 Z = true) : ((Jvm.Cond.instanceMethod ({ cls := "java/lang/Object", name := "<init>", desc := "()V" } : Jvm.MethodName))).before a0 Z = true := hw _ (List.mem_of_getElem? (i := 13) rfl)
theorem wd14 {a0 : Array Value} {Z : State} (hw : ∀ d ∈ tables_1, d.before a0 Z = true) : ((Jvm.Cond.code ({ cls := "java/lang/Object", name := "<init>", desc := "()V" } : Jvm.MethodName) object_method_1_code (1 : Nat) (Option.none : Option Jvm.ClassFile.FieldType))).before a0 Z = true := hw _ (List.mem_of_getElem? (i := 14) rfl)
theorem wd15 {a0 : Array Value} {Z : State} (hw : ∀ d ∈ tables_1, d.before a0 Z = true) : ((Jvm.Cond.classLink "com/example/frugal_kripke/frugalkripke/model/LineCursor" (9 : Nat) "[B")).before a0 Z = true := hw _ (List.mem_of_getElem? (i := 15) rfl)
theorem wd16 {a0 : Array Value} {Z : State} (hw : ∀ d ∈ tables_1, d.before a0 Z = true) : ((Jvm.Cond.arrayOver (Jvm.ClassFile.FieldType.array Jvm.ClassFile.FieldType.byte))).before a0 Z = true := hw _ (List.mem_of_getElem? (i := 16) rfl)
theorem wd17 {a0 : Array Value} {Z : State} (hw : ∀ d ∈ tables_1, d.before a0 Z = true) : ((Jvm.Cond.fieldLink "com/example/frugal_kripke/frugalkripke/model/LineCursor" (11 : Nat) "com/example/frugal_kripke/frugalkripke/model/LineCursor" "keptBytes" "[[B")).before a0 Z = true := hw _ (List.mem_of_getElem? (i := 17) rfl)
theorem wd18 {a0 : Array Value} {Z : State} (hw : ∀ d ∈ tables_1, d.before a0 Z = true) : ((Jvm.Cond.laysFinal "com/example/frugal_kripke/frugalkripke/model/LineCursor" "com/example/frugal_kripke/frugalkripke/model/LineCursor" "keptBytes" "[[B")).before a0 Z = true := hw _ (List.mem_of_getElem? (i := 18) rfl)
theorem wd19 {a0 : Array Value} {Z : State} (hw : ∀ d ∈ tables_1, d.before a0 Z = true) : ((Jvm.Cond.classLink "com/example/frugal_kripke/frugalkripke/model/LineCursor" (15 : Nat) "java/lang/String")).before a0 Z = true := hw _ (List.mem_of_getElem? (i := 19) rfl)
theorem wd20 {a0 : Array Value} {Z : State} (hw : ∀ d ∈ tables_1, d.before a0 Z = true) : ((Jvm.Cond.arrayOver (Jvm.ClassFile.FieldType.object "java/lang/String"))).before a0 Z = true := hw _ (List.mem_of_getElem? (i := 20) rfl)
theorem wd21 {a0 : Array Value} {Z : State} (hw : ∀ d ∈ tables_1, d.before a0 Z = true) : ((Jvm.Cond.fieldLink "com/example/frugal_kripke/frugalkripke/model/LineCursor" (17 : Nat) "com/example/frugal_kripke/frugalkripke/model/LineCursor" "keptStrings" "[Ljava/lang/String;")).before a0 Z = true := hw _ (List.mem_of_getElem? (i := 21) rfl)
theorem wd22 {a0 : Array Value} {Z : State} (hw : ∀ d ∈ tables_1, d.before a0 Z = true) : ((Jvm.Cond.laysFinal "com/example/frugal_kripke/frugalkripke/model/LineCursor" "com/example/frugal_kripke/frugalkripke/model/LineCursor" "keptStrings" "[Ljava/lang/String;")).before a0 Z = true := hw _ (List.mem_of_getElem? (i := 22) rfl)
theorem wd23 {a0 : Array Value} {Z : State} (hw : ∀ d ∈ tables_1, d.before a0 Z = true) : ((Jvm.Cond.methodLink "com/example/frugal_kripke/frugalkripke/model/LineCursor" (31 : Nat) ({ cls := "com/example/frugal_kripke/frugalkripke/model/LineCursor", name := "reset", desc := "(I[BI)V" } : Jvm.MethodName))).before a0 Z = true := hw _ (List.mem_of_getElem? (i := 23) rfl)
theorem wd24 {a0 : Array Value} {Z : State} (hw : ∀ d ∈ tables_1, d.before a0 Z = true) : ((Jvm.Cond.declares ({ cls := "com/example/frugal_kripke/frugalkripke/model/LineCursor", name := "reset", desc := "(I[BI)V" } : Jvm.MethodName))).before a0 Z = true := hw _ (List.mem_of_getElem? (i := 24) rfl)
theorem wd25 {a0 : Array Value} {Z : State} (hw : ∀ d ∈ tables_1, d.before a0 Z = true) : ((Jvm.Cond.instanceMethod ({ cls := "com/example/frugal_kripke/frugalkripke/model/LineCursor", name := "reset", desc := "(I[BI)V" } : Jvm.MethodName))).before a0 Z = true := hw _ (List.mem_of_getElem? (i := 25) rfl)
theorem wd26 {a0 : Array Value} {Z : State} (hw : ∀ d ∈ tables_1, d.before a0 Z = true) : ((Jvm.Cond.selects "com/example/frugal_kripke/frugalkripke/model/LineCursor" ({ cls := "com/example/frugal_kripke/frugalkripke/model/LineCursor", name := "reset", desc := "(I[BI)V" } : Jvm.MethodName) ({ cls := "com/example/frugal_kripke/frugalkripke/model/LineCursor", name := "reset", desc := "(I[BI)V" } : Jvm.MethodName))).before a0 Z = true := hw _ (List.mem_of_getElem? (i := 26) rfl)
theorem wd27 {a0 : Array Value} {Z : State} (hw : ∀ d ∈ tables_1, d.before a0 Z = true) : ((Jvm.Cond.code ({ cls := "com/example/frugal_kripke/frugalkripke/model/LineCursor", name := "reset", desc := "(I[BI)V" } : Jvm.MethodName) prog_48_method_3_code (4 : Nat) (Option.none : Option Jvm.ClassFile.FieldType))).before a0 Z = true := hw _ (List.mem_of_getElem? (i := 27) rfl)
theorem wd28 {a0 : Array Value} {Z : State} (hw : ∀ d ∈ tables_1, d.before a0 Z = true) : ((Jvm.Cond.fieldLink "com/example/frugal_kripke/frugalkripke/model/LineCursor" (35 : Nat) "com/example/frugal_kripke/frugalkripke/model/LineCursor" "line" "I")).before a0 Z = true := hw _ (List.mem_of_getElem? (i := 28) rfl)
theorem wd29 {a0 : Array Value} {Z : State} (hw : ∀ d ∈ tables_1, d.before a0 Z = true) : ((Jvm.Cond.lays "com/example/frugal_kripke/frugalkripke/model/LineCursor" "com/example/frugal_kripke/frugalkripke/model/LineCursor" "line" "I")).before a0 Z = true := hw _ (List.mem_of_getElem? (i := 29) rfl)
theorem wd30 {a0 : Array Value} {Z : State} (hw : ∀ d ∈ tables_1, d.before a0 Z = true) : ((Jvm.Cond.fieldLink "com/example/frugal_kripke/frugalkripke/model/LineCursor" (39 : Nat) "com/example/frugal_kripke/frugalkripke/model/LineCursor" "text" "[B")).before a0 Z = true := hw _ (List.mem_of_getElem? (i := 30) rfl)
theorem wd31 {a0 : Array Value} {Z : State} (hw : ∀ d ∈ tables_1, d.before a0 Z = true) : ((Jvm.Cond.lays "com/example/frugal_kripke/frugalkripke/model/LineCursor" "com/example/frugal_kripke/frugalkripke/model/LineCursor" "text" "[B")).before a0 Z = true := hw _ (List.mem_of_getElem? (i := 31) rfl)
theorem wd32 {a0 : Array Value} {Z : State} (hw : ∀ d ∈ tables_1, d.before a0 Z = true) : ((Jvm.Cond.fieldLink "com/example/frugal_kripke/frugalkripke/model/LineCursor" (42 : Nat) "com/example/frugal_kripke/frugalkripke/model/LineCursor" "length" "I")).before a0 Z = true := hw _ (List.mem_of_getElem? (i := 32) rfl)
theorem wd33 {a0 : Array Value} {Z : State} (hw : ∀ d ∈ tables_1, d.before a0 Z = true) : ((Jvm.Cond.lays "com/example/frugal_kripke/frugalkripke/model/LineCursor" "com/example/frugal_kripke/frugalkripke/model/LineCursor" "length" "I")).before a0 Z = true := hw _ (List.mem_of_getElem? (i := 33) rfl)
theorem wd34 {a0 : Array Value} {Z : State} (hw : ∀ d ∈ tables_1, d.before a0 Z = true) : ((Jvm.Cond.fieldLink "com/example/frugal_kripke/frugalkripke/model/LineCursor" (45 : Nat) "com/example/frugal_kripke/frugalkripke/model/LineCursor" "position" "I")).before a0 Z = true := hw _ (List.mem_of_getElem? (i := 34) rfl)
theorem wd35 {a0 : Array Value} {Z : State} (hw : ∀ d ∈ tables_1, d.before a0 Z = true) : ((Jvm.Cond.lays "com/example/frugal_kripke/frugalkripke/model/LineCursor" "com/example/frugal_kripke/frugalkripke/model/LineCursor" "position" "I")).before a0 Z = true := hw _ (List.mem_of_getElem? (i := 35) rfl)
theorem wd36 {a0 : Array Value} {Z : State} (hw : ∀ d ∈ tables_1, d.before a0 Z = true) : ((Jvm.Cond.methodLink "com/example/frugal_kripke/frugalkripke/model/LineCursorResetPinLaw" (21 : Nat) ({ cls := "com/example/frugal_kripke/frugalkripke/model/LineCursor", name := "reset", desc := "(I[BI)V" } : Jvm.MethodName))).before a0 Z = true := hw _ (List.mem_of_getElem? (i := 36) rfl)
theorem wd37 {a0 : Array Value} {Z : State} (hw : ∀ d ∈ tables_1, d.before a0 Z = true) : ((Jvm.Cond.methodLink "com/example/frugal_kripke/frugalkripke/model/LineCursorResetPinLaw" (25 : Nat) ({ cls := "com/example/frugal_kripke/frugalkripke/model/LineCursor", name := "atEnd", desc := "()Z" } : Jvm.MethodName))).before a0 Z = true := hw _ (List.mem_of_getElem? (i := 37) rfl)
theorem wd38 {a0 : Array Value} {Z : State} (hw : ∀ d ∈ tables_1, d.before a0 Z = true) : ((Jvm.Cond.declares ({ cls := "com/example/frugal_kripke/frugalkripke/model/LineCursor", name := "atEnd", desc := "()Z" } : Jvm.MethodName))).before a0 Z = true := hw _ (List.mem_of_getElem? (i := 38) rfl)
theorem wd39 {a0 : Array Value} {Z : State} (hw : ∀ d ∈ tables_1, d.before a0 Z = true) : ((Jvm.Cond.instanceMethod ({ cls := "com/example/frugal_kripke/frugalkripke/model/LineCursor", name := "atEnd", desc := "()Z" } : Jvm.MethodName))).before a0 Z = true := hw _ (List.mem_of_getElem? (i := 39) rfl)
theorem wd40 {a0 : Array Value} {Z : State} (hw : ∀ d ∈ tables_1, d.before a0 Z = true) : ((Jvm.Cond.selects "com/example/frugal_kripke/frugalkripke/model/LineCursor" ({ cls := "com/example/frugal_kripke/frugalkripke/model/LineCursor", name := "atEnd", desc := "()Z" } : Jvm.MethodName) ({ cls := "com/example/frugal_kripke/frugalkripke/model/LineCursor", name := "atEnd", desc := "()Z" } : Jvm.MethodName))).before a0 Z = true := hw _ (List.mem_of_getElem? (i := 40) rfl)
theorem wd41 {a0 : Array Value} {Z : State} (hw : ∀ d ∈ tables_1, d.before a0 Z = true) : ((Jvm.Cond.code ({ cls := "com/example/frugal_kripke/frugalkripke/model/LineCursor", name := "atEnd", desc := "()Z" } : Jvm.MethodName) prog_48_method_13_code (1 : Nat) (Option.some Jvm.ClassFile.FieldType.boolean))).before a0 Z = true := hw _ (List.mem_of_getElem? (i := 41) rfl)
theorem wd42 {a0 : Array Value} {Z : State} (hw : ∀ d ∈ tables_1, d.before a0 Z = true) : ((Jvm.Cond.methodLink "com/example/frugal_kripke/frugalkripke/model/LineCursor" (48 : Nat) ({ cls := "com/example/frugal_kripke/frugalkripke/model/LineCursor", name := "skipBlanks", desc := "()V" } : Jvm.MethodName))).before a0 Z = true := hw _ (List.mem_of_getElem? (i := 42) rfl)
theorem wd43 {a0 : Array Value} {Z : State} (hw : ∀ d ∈ tables_1, d.before a0 Z = true) : ((Jvm.Cond.instanceMethod ({ cls := "com/example/frugal_kripke/frugalkripke/model/LineCursor", name := "skipBlanks", desc := "()V" } : Jvm.MethodName))).before a0 Z = true := hw _ (List.mem_of_getElem? (i := 43) rfl)
theorem wd44 {a0 : Array Value} {Z : State} (hw : ∀ d ∈ tables_1, d.before a0 Z = true) : ((Jvm.Cond.privateMethod ({ cls := "com/example/frugal_kripke/frugalkripke/model/LineCursor", name := "skipBlanks", desc := "()V" } : Jvm.MethodName))).before a0 Z = true := hw _ (List.mem_of_getElem? (i := 44) rfl)
theorem wd45 {a0 : Array Value} {Z : State} (hw : ∀ d ∈ tables_1, d.before a0 Z = true) : ((Jvm.Cond.code ({ cls := "com/example/frugal_kripke/frugalkripke/model/LineCursor", name := "skipBlanks", desc := "()V" } : Jvm.MethodName) prog_48_method_22_code (1 : Nat) (Option.none : Option Jvm.ClassFile.FieldType))).before a0 Z = true := hw _ (List.mem_of_getElem? (i := 45) rfl)
theorem wd46 {a0 : Array Value} {Z : State} (hw : ∀ d ∈ tables_1, d.before a0 Z = true) : ((Jvm.Cond.methodLink "com/example/frugal_kripke/frugalkripke/model/LineCursor" (129 : Nat) ({ cls := "com/example/frugal_kripke/frugalkripke/model/LineCursor", name := "isBlank", desc := "(I)Z" } : Jvm.MethodName))).before a0 Z = true := hw _ (List.mem_of_getElem? (i := 46) rfl)
theorem wd47 {a0 : Array Value} {Z : State} (hw : ∀ d ∈ tables_1, d.before a0 Z = true) : ((Jvm.Cond.static ({ cls := "com/example/frugal_kripke/frugalkripke/model/LineCursor", name := "isBlank", desc := "(I)Z" } : Jvm.MethodName))).before a0 Z = true := hw _ (List.mem_of_getElem? (i := 47) rfl)
theorem wd48 {a0 : Array Value} {Z : State} (hw : ∀ d ∈ tables_1, d.before a0 Z = true) : ((Jvm.Cond.code ({ cls := "com/example/frugal_kripke/frugalkripke/model/LineCursor", name := "isBlank", desc := "(I)Z" } : Jvm.MethodName) prog_48_method_24_code (1 : Nat) (Option.some Jvm.ClassFile.FieldType.boolean))).before a0 Z = true := hw _ (List.mem_of_getElem? (i := 48) rfl)
theorem wd49 {a0 : Array Value} {Z : State} (hw : ∀ d ∈ tables_1, d.before a0 Z = true) : ((Jvm.Cond.methodLink "com/example/frugal_kripke/frugalkripke/model/LineCursorResetPinLaw" (29 : Nat) ({ cls := "com/example/frugal_kripke/frugalkripke/model/LineCursor", name := "line", desc := "()I" } : Jvm.MethodName))).before a0 Z = true := hw _ (List.mem_of_getElem? (i := 49) rfl)
theorem wd50 {a0 : Array Value} {Z : State} (hw : ∀ d ∈ tables_1, d.before a0 Z = true) : ((Jvm.Cond.declares ({ cls := "com/example/frugal_kripke/frugalkripke/model/LineCursor", name := "line", desc := "()I" } : Jvm.MethodName))).before a0 Z = true := hw _ (List.mem_of_getElem? (i := 50) rfl)
theorem wd51 {a0 : Array Value} {Z : State} (hw : ∀ d ∈ tables_1, d.before a0 Z = true) : ((Jvm.Cond.instanceMethod ({ cls := "com/example/frugal_kripke/frugalkripke/model/LineCursor", name := "line", desc := "()I" } : Jvm.MethodName))).before a0 Z = true := hw _ (List.mem_of_getElem? (i := 51) rfl)
theorem wd52 {a0 : Array Value} {Z : State} (hw : ∀ d ∈ tables_1, d.before a0 Z = true) : ((Jvm.Cond.selects "com/example/frugal_kripke/frugalkripke/model/LineCursor" ({ cls := "com/example/frugal_kripke/frugalkripke/model/LineCursor", name := "line", desc := "()I" } : Jvm.MethodName) ({ cls := "com/example/frugal_kripke/frugalkripke/model/LineCursor", name := "line", desc := "()I" } : Jvm.MethodName))).before a0 Z = true := hw _ (List.mem_of_getElem? (i := 52) rfl)
theorem wd53 {a0 : Array Value} {Z : State} (hw : ∀ d ∈ tables_1, d.before a0 Z = true) : ((Jvm.Cond.code ({ cls := "com/example/frugal_kripke/frugalkripke/model/LineCursor", name := "line", desc := "()I" } : Jvm.MethodName) prog_48_method_4_code (1 : Nat) (Option.some Jvm.ClassFile.FieldType.int))).before a0 Z = true := hw _ (List.mem_of_getElem? (i := 53) rfl)
theorem wd54 {a0 : Array Value} {Z : State} (hw : ∀ d ∈ tables_1, d.before a0 Z = true) : ((Jvm.Cond.methodLink "com/example/frugal_kripke/frugalkripke/model/LineCursorResetPinLaw" (33 : Nat) ({ cls := "com/example/frugal_kripke/frugalkripke/model/LineCursorResetPinLaw", name := "firstNonBlank", desc := "([BI)I" } : Jvm.MethodName))).before a0 Z = true := hw _ (List.mem_of_getElem? (i := 54) rfl)
theorem wd55 {a0 : Array Value} {Z : State} (hw : ∀ d ∈ tables_1, d.before a0 Z = true) : ((Jvm.Cond.static ({ cls := "com/example/frugal_kripke/frugalkripke/model/LineCursorResetPinLaw", name := "firstNonBlank", desc := "([BI)I" } : Jvm.MethodName))).before a0 Z = true := hw _ (List.mem_of_getElem? (i := 55) rfl)
theorem wd56 {a0 : Array Value} {Z : State} (hw : ∀ d ∈ tables_1, d.before a0 Z = true) : ((Jvm.Cond.code ({ cls := "com/example/frugal_kripke/frugalkripke/model/LineCursorResetPinLaw", name := "firstNonBlank", desc := "([BI)I" } : Jvm.MethodName) method_4_code (2 : Nat) (Option.some Jvm.ClassFile.FieldType.int))).before a0 Z = true := hw _ (List.mem_of_getElem? (i := 56) rfl)
theorem wd57 {a0 : Array Value} {Z : State} (hw : ∀ d ∈ tables_1, d.before a0 Z = true) : ((Jvm.Cond.methodLink "com/example/frugal_kripke/frugalkripke/model/LineCursorResetPinLaw" (7 : Nat) ({ cls := "com/example/frugal_kripke/frugalkripke/model/LineCursorResetPinLaw", name := "blank", desc := "(B)Z" } : Jvm.MethodName))).before a0 Z = true := hw _ (List.mem_of_getElem? (i := 57) rfl)
theorem wd58 {a0 : Array Value} {Z : State} (hw : ∀ d ∈ tables_1, d.before a0 Z = true) : ((Jvm.Cond.static ({ cls := "com/example/frugal_kripke/frugalkripke/model/LineCursorResetPinLaw", name := "blank", desc := "(B)Z" } : Jvm.MethodName))).before a0 Z = true := hw _ (List.mem_of_getElem? (i := 58) rfl)
theorem wd59 {a0 : Array Value} {Z : State} (hw : ∀ d ∈ tables_1, d.before a0 Z = true) : ((Jvm.Cond.code ({ cls := "com/example/frugal_kripke/frugalkripke/model/LineCursorResetPinLaw", name := "blank", desc := "(B)Z" } : Jvm.MethodName) method_3_code (1 : Nat) (Option.some Jvm.ClassFile.FieldType.boolean))).before a0 Z = true := hw _ (List.mem_of_getElem? (i := 59) rfl)
theorem wd60 {a0 : Array Value} {Z : State} (hw : ∀ d ∈ tables_1, d.before a0 Z = true) : ((Jvm.Cond.methodLink "com/example/frugal_kripke/frugalkripke/model/LineCursorResetPinLaw" (37 : Nat) ({ cls := "com/example/frugal_kripke/frugalkripke/model/LineCursor", name := "nextIs", desc := "(C)Z" } : Jvm.MethodName))).before a0 Z = true := hw _ (List.mem_of_getElem? (i := 60) rfl)
theorem wd61 {a0 : Array Value} {Z : State} (hw : ∀ d ∈ tables_1, d.before a0 Z = true) : ((Jvm.Cond.declares ({ cls := "com/example/frugal_kripke/frugalkripke/model/LineCursor", name := "nextIs", desc := "(C)Z" } : Jvm.MethodName))).before a0 Z = true := hw _ (List.mem_of_getElem? (i := 61) rfl)
theorem wd62 {a0 : Array Value} {Z : State} (hw : ∀ d ∈ tables_1, d.before a0 Z = true) : ((Jvm.Cond.instanceMethod ({ cls := "com/example/frugal_kripke/frugalkripke/model/LineCursor", name := "nextIs", desc := "(C)Z" } : Jvm.MethodName))).before a0 Z = true := hw _ (List.mem_of_getElem? (i := 62) rfl)
theorem wd63 {a0 : Array Value} {Z : State} (hw : ∀ d ∈ tables_1, d.before a0 Z = true) : ((Jvm.Cond.selects "com/example/frugal_kripke/frugalkripke/model/LineCursor" ({ cls := "com/example/frugal_kripke/frugalkripke/model/LineCursor", name := "nextIs", desc := "(C)Z" } : Jvm.MethodName) ({ cls := "com/example/frugal_kripke/frugalkripke/model/LineCursor", name := "nextIs", desc := "(C)Z" } : Jvm.MethodName))).before a0 Z = true := hw _ (List.mem_of_getElem? (i := 63) rfl)
theorem wd64 {a0 : Array Value} {Z : State} (hw : ∀ d ∈ tables_1, d.before a0 Z = true) : ((Jvm.Cond.code ({ cls := "com/example/frugal_kripke/frugalkripke/model/LineCursor", name := "nextIs", desc := "(C)Z" } : Jvm.MethodName) prog_48_method_14_code (2 : Nat) (Option.some Jvm.ClassFile.FieldType.boolean))).before a0 Z = true := hw _ (List.mem_of_getElem? (i := 64) rfl)
theorem pd0 : parseMethodDescriptor "(I[BI)V" = some ⟨[.int, (.array .byte), .int], none⟩ := by decide +kernel
theorem pd1 : parseMethodDescriptor "(I)Z" = some ⟨[.int], some .boolean⟩ := by decide +kernel
theorem pd2 : parseMethodDescriptor "()V" = some ⟨[], none⟩ := by decide +kernel
theorem pd3 : parseMethodDescriptor "(B)Z" = some ⟨[.byte], some .boolean⟩ := by decide +kernel
theorem pd4 : parseMethodDescriptor "(I)C" = some ⟨[.int], some .char⟩ := by decide +kernel
theorem pd5 : parseMethodDescriptor "()Z" = some ⟨[], some .boolean⟩ := by decide +kernel
theorem pd6 : parseMethodDescriptor "()I" = some ⟨[], some .int⟩ := by decide +kernel
theorem pd7 : parseMethodDescriptor "([BI)I" = some ⟨[(.array .byte), .int], some .int⟩ := by decide +kernel
theorem pd8 : parseMethodDescriptor "(C)Z" = some ⟨[.char], some .boolean⟩ := by decide +kernel
theorem d1_0 : decode method_2_code 0 = .ok (.iload_n 0, 1) := by decide +kernel
theorem d1_1 : decode method_2_code 1 = .ok (.bipush 7, 2) := by decide +kernel
theorem d1_3 : decode method_2_code 3 = .ok (.iand, 1) := by decide +kernel
theorem d1_4 : decode method_2_code 4 = .ok (.istore_n 1, 1) := by decide +kernel
theorem d1_5 : decode method_2_code 5 = .ok (.iload_n 1, 1) := by decide +kernel
theorem d1_6 : decode method_2_code 6 = .ok (.ifCond .ne 6, 3) := by decide +kernel
theorem d1_9 : decode method_2_code 9 = .ok (.bipush 32, 2) := by decide +kernel
theorem d1_11 : decode method_2_code 11 = .ok (.ireturn, 1) := by decide +kernel
theorem d1_12 : decode method_2_code 12 = .ok (.iload_n 1, 1) := by decide +kernel
theorem d1_13 : decode method_2_code 13 = .ok (.iconst 1, 1) := by decide +kernel
theorem d1_14 : decode method_2_code 14 = .ok (.if_icmp .ne 6, 3) := by decide +kernel
theorem d1_17 : decode method_2_code 17 = .ok (.bipush 9, 2) := by decide +kernel
theorem d1_19 : decode method_2_code 19 = .ok (.ireturn, 1) := by decide +kernel
theorem d1_20 : decode method_2_code 20 = .ok (.iload_n 1, 1) := by decide +kernel
theorem d1_21 : decode method_2_code 21 = .ok (.iconst 2, 1) := by decide +kernel
theorem d1_22 : decode method_2_code 22 = .ok (.if_icmp .ne 6, 3) := by decide +kernel
theorem d1_25 : decode method_2_code 25 = .ok (.bipush 13, 2) := by decide +kernel
theorem d1_27 : decode method_2_code 27 = .ok (.ireturn, 1) := by decide +kernel
theorem d1_28 : decode method_2_code 28 = .ok (.iload_n 1, 1) := by decide +kernel
theorem d1_29 : decode method_2_code 29 = .ok (.iconst 3, 1) := by decide +kernel
theorem d1_30 : decode method_2_code 30 = .ok (.if_icmp .ne 6, 3) := by decide +kernel
theorem d1_33 : decode method_2_code 33 = .ok (.bipush 97, 2) := by decide +kernel
theorem d1_35 : decode method_2_code 35 = .ok (.ireturn, 1) := by decide +kernel
theorem d1_36 : decode method_2_code 36 = .ok (.iload_n 1, 1) := by decide +kernel
theorem d1_37 : decode method_2_code 37 = .ok (.iconst 4, 1) := by decide +kernel
theorem d1_38 : decode method_2_code 38 = .ok (.if_icmp .ne 6, 3) := by decide +kernel
theorem d1_41 : decode method_2_code 41 = .ok (.bipush 55, 2) := by decide +kernel
theorem d1_43 : decode method_2_code 43 = .ok (.ireturn, 1) := by decide +kernel
theorem d1_44 : decode method_2_code 44 = .ok (.iload_n 1, 1) := by decide +kernel
theorem d1_45 : decode method_2_code 45 = .ok (.iconst 5, 1) := by decide +kernel
theorem d1_46 : decode method_2_code 46 = .ok (.if_icmp .ne 6, 3) := by decide +kernel
theorem d1_49 : decode method_2_code 49 = .ok (.bipush 34, 2) := by decide +kernel
theorem d1_51 : decode method_2_code 51 = .ok (.ireturn, 1) := by decide +kernel
theorem d1_52 : decode method_2_code 52 = .ok (.iload_n 1, 1) := by decide +kernel
theorem d1_53 : decode method_2_code 53 = .ok (.bipush 6, 2) := by decide +kernel
theorem d1_55 : decode method_2_code 55 = .ok (.if_icmp .ne 6, 3) := by decide +kernel
theorem d1_58 : decode method_2_code 58 = .ok (.bipush 90, 2) := by decide +kernel
theorem d1_60 : decode method_2_code 60 = .ok (.ireturn, 1) := by decide +kernel
theorem d1_61 : decode method_2_code 61 = .ok (.bipush 95, 2) := by decide +kernel
theorem d1_63 : decode method_2_code 63 = .ok (.ireturn, 1) := by decide +kernel
theorem pn1 : plainName "com/example/frugal_kripke/frugalkripke/model/LineCursorResetPinLaw" = true := by first | (simp [plainName, overriddenIn]; done) | decide +kernel
set_option maxRecDepth 65536 in
set_option maxHeartbeats 40000000 in
theorem rm_pk {l : Launch} {Z : State} {a0 : Array Value} (hw : ∀ d ∈ tables_1, d.before a0 Z = true) (v : Int32) (h : Heap) (n0 : Nat) (zn : n0 ≤ h.size) :
    Met l Z (⟨"com/example/frugal_kripke/frugalkripke/model/LineCursorResetPinLaw", "pick", "(I)C"⟩ : MethodName) method_2_code 2 (some .char) [] ({ frames := 0, cells := 0, slots := 0, locals := 0 } : Room) #[(.int v)] h n0 (RI fun r h' => h' = h ∧ True) := by
  refine start (ls := #[.val (.int v), .unset]) (plainFor_of_name pn1) (fun m => by first | (simp [entryFrame, mkF, argsToLocals, Value.category]; done) | rfl) ?_
  intro p e s m below meth c T G w X
  refine iloadN w X d1_0 1 rfl rfl ?_
  refine bipush w X (7 : Int32) d1_1 3 rfl rfl ?_
  refine iand w X (v &&& (7 : Int32)) d1_3 4 rfl rfl ?_
  obtain ⟨i1_1, hi1_1⟩ : ∃ z : Int32, z = (v &&& (7 : Int32)) := ⟨_, rfl⟩
  refine istoreN w X i1_1 d1_4 5 rfl hi1_1 #[.val (.int v), .val (.int i1_1)] rfl ?_
  refine iloadN w X d1_5 6 rfl rfl ?_
  refine if_ne w X d1_6 12 9 (by decide) (by decide) rfl (fun hc6_2 => ?_) (fun hc6_2 => ?_)
  ·
    refine iloadN w X d1_12 13 rfl rfl ?_
    refine iconst w X (1 : Int32) d1_13 14 rfl rfl ?_
    refine icmp_ne w X d1_14 20 17 (by decide) (by decide) rfl (fun hc14_3 => ?_) (fun hc14_3 => ?_)
    ·
      refine iloadN w X d1_20 21 rfl rfl ?_
      refine iconst w X (2 : Int32) d1_21 22 rfl rfl ?_
      refine icmp_ne w X d1_22 28 25 (by decide) (by decide) rfl (fun hc22_4 => ?_) (fun hc22_4 => ?_)
      ·
        refine iloadN w X d1_28 29 rfl rfl ?_
        refine iconst w X (3 : Int32) d1_29 30 rfl rfl ?_
        refine icmp_ne w X d1_30 36 33 (by decide) (by decide) rfl (fun hc30_5 => ?_) (fun hc30_5 => ?_)
        ·
          refine iloadN w X d1_36 37 rfl rfl ?_
          refine iconst w X (4 : Int32) d1_37 38 rfl rfl ?_
          refine icmp_ne w X d1_38 44 41 (by decide) (by decide) rfl (fun hc38_6 => ?_) (fun hc38_6 => ?_)
          ·
            refine iloadN w X d1_44 45 rfl rfl ?_
            refine iconst w X (5 : Int32) d1_45 46 rfl rfl ?_
            refine icmp_ne w X d1_46 52 49 (by decide) (by decide) rfl (fun hc46_7 => ?_) (fun hc46_7 => ?_)
            ·
              refine iloadN w X d1_52 53 rfl rfl ?_
              refine bipush w X (6 : Int32) d1_53 55 rfl rfl ?_
              refine icmp_ne w X d1_55 61 58 (by decide) (by decide) rfl (fun hc55_8 => ?_) (fun hc55_8 => ?_)
              ·
                refine bipush w X (95 : Int32) d1_61 63 rfl rfl ?_
                refine retN w X (t := .char) rfl (by simp) d1_63 (by decide) (by decide) ?_
                exact ⟨_, rfl, rfl, trivial⟩
              ·
                refine bipush w X (90 : Int32) d1_58 60 rfl rfl ?_
                refine retN w X (t := .char) rfl (by simp) d1_60 (by decide) (by decide) ?_
                exact ⟨_, rfl, rfl, trivial⟩
            ·
              refine bipush w X (34 : Int32) d1_49 51 rfl rfl ?_
              refine retN w X (t := .char) rfl (by simp) d1_51 (by decide) (by decide) ?_
              exact ⟨_, rfl, rfl, trivial⟩
          ·
            refine bipush w X (55 : Int32) d1_41 43 rfl rfl ?_
            refine retN w X (t := .char) rfl (by simp) d1_43 (by decide) (by decide) ?_
            exact ⟨_, rfl, rfl, trivial⟩
        ·
          refine bipush w X (97 : Int32) d1_33 35 rfl rfl ?_
          refine retN w X (t := .char) rfl (by simp) d1_35 (by decide) (by decide) ?_
          exact ⟨_, rfl, rfl, trivial⟩
      ·
        refine bipush w X (13 : Int32) d1_25 27 rfl rfl ?_
        refine retN w X (t := .char) rfl (by simp) d1_27 (by decide) (by decide) ?_
        exact ⟨_, rfl, rfl, trivial⟩
    ·
      refine bipush w X (9 : Int32) d1_17 19 rfl rfl ?_
      refine retN w X (t := .char) rfl (by simp) d1_19 (by decide) (by decide) ?_
      exact ⟨_, rfl, rfl, trivial⟩
  ·
    refine bipush w X (32 : Int32) d1_9 11 rfl rfl ?_
    refine retN w X (t := .char) rfl (by simp) d1_11 (by decide) (by decide) ?_
    exact ⟨_, rfl, rfl, trivial⟩
set_option maxRecDepth 65536 in
set_option maxHeartbeats 40000000 in
theorem lf7_1 (v : Int32) (hc3_1 : v = (32 : Int32)) : (1 : Int32) = own_bl v := by
  unfold own_bl
  first | (rw [if_pos (Or.inl ‹_›)]; done) | (rw [if_pos (Or.inr (Or.inl ‹_›))]; done) | (rw [if_pos (Or.inr (Or.inr ‹_›))]; done) | (rw [if_neg (not_or.mpr ⟨‹_›, not_or.mpr ⟨‹_›, ‹_›⟩⟩)]; done)
set_option maxRecDepth 65536 in
set_option maxHeartbeats 40000000 in
theorem lf7_2 (v : Int32) (hc3_1 : ¬ (v = (32 : Int32))) (hc9_2 : v = (9 : Int32)) : (1 : Int32) = own_bl v := by
  unfold own_bl
  first | (rw [if_pos (Or.inl ‹_›)]; done) | (rw [if_pos (Or.inr (Or.inl ‹_›))]; done) | (rw [if_pos (Or.inr (Or.inr ‹_›))]; done) | (rw [if_neg (not_or.mpr ⟨‹_›, not_or.mpr ⟨‹_›, ‹_›⟩⟩)]; done)
set_option maxRecDepth 65536 in
set_option maxHeartbeats 40000000 in
theorem lf7_3 (v : Int32) (hc3_1 : ¬ (v = (32 : Int32))) (hc9_2 : ¬ (v = (9 : Int32))) (hc15_3 : ¬ (v = (13 : Int32))) : (0 : Int32) = own_bl v := by
  unfold own_bl
  first | (rw [if_pos (Or.inl ‹_›)]; done) | (rw [if_pos (Or.inr (Or.inl ‹_›))]; done) | (rw [if_pos (Or.inr (Or.inr ‹_›))]; done) | (rw [if_neg (not_or.mpr ⟨‹_›, not_or.mpr ⟨‹_›, ‹_›⟩⟩)]; done)
set_option maxRecDepth 65536 in
set_option maxHeartbeats 40000000 in
theorem lf7_4 (v : Int32) (hc3_1 : ¬ (v = (32 : Int32))) (hc9_2 : ¬ (v = (9 : Int32))) (hc15_3 : v = (13 : Int32)) : (1 : Int32) = own_bl v := by
  unfold own_bl
  first | (rw [if_pos (Or.inl ‹_›)]; done) | (rw [if_pos (Or.inr (Or.inl ‹_›))]; done) | (rw [if_pos (Or.inr (Or.inr ‹_›))]; done) | (rw [if_neg (not_or.mpr ⟨‹_›, not_or.mpr ⟨‹_›, ‹_›⟩⟩)]; done)
theorem d7_0 : decode prog_48_method_24_code 0 = .ok (.iload_n 0, 1) := by decide +kernel
theorem d7_1 : decode prog_48_method_24_code 1 = .ok (.bipush 32, 2) := by decide +kernel
theorem d7_3 : decode prog_48_method_24_code 3 = .ok (.if_icmp .eq 15, 3) := by decide +kernel
theorem d7_6 : decode prog_48_method_24_code 6 = .ok (.iload_n 0, 1) := by decide +kernel
theorem d7_7 : decode prog_48_method_24_code 7 = .ok (.bipush 9, 2) := by decide +kernel
theorem d7_9 : decode prog_48_method_24_code 9 = .ok (.if_icmp .eq 9, 3) := by decide +kernel
theorem d7_12 : decode prog_48_method_24_code 12 = .ok (.iload_n 0, 1) := by decide +kernel
theorem d7_13 : decode prog_48_method_24_code 13 = .ok (.bipush 13, 2) := by decide +kernel
theorem d7_15 : decode prog_48_method_24_code 15 = .ok (.if_icmp .ne 7, 3) := by decide +kernel
theorem d7_18 : decode prog_48_method_24_code 18 = .ok (.iconst 1, 1) := by decide +kernel
theorem d7_19 : decode prog_48_method_24_code 19 = .ok (.goto 4, 3) := by decide +kernel
theorem d7_22 : decode prog_48_method_24_code 22 = .ok (.iconst 0, 1) := by decide +kernel
theorem d7_23 : decode prog_48_method_24_code 23 = .ok (.ireturn, 1) := by decide +kernel
theorem pn7 : plainName "com/example/frugal_kripke/frugalkripke/model/LineCursor" = true := by first | (simp [plainName, overriddenIn]; done) | decide +kernel
set_option maxRecDepth 65536 in
set_option maxHeartbeats 40000000 in
theorem rm_isBlank {l : Launch} {Z : State} {a0 : Array Value} (hw : ∀ d ∈ tables_1, d.before a0 Z = true) (v : Int32) (h : Heap) (n0 : Nat) (zn : n0 ≤ h.size) :
    Met l Z (⟨"com/example/frugal_kripke/frugalkripke/model/LineCursor", "isBlank", "(I)Z"⟩ : MethodName) prog_48_method_24_code 1 (some .boolean) [] ({ frames := 0, cells := 0, slots := 0, locals := 0 } : Room) #[(.int v)] h n0 (RI fun r h' => h' = h ∧ r = own_bl v) := by
  refine start (ls := #[.val (.int v)]) (plainFor_of_name pn7) (fun m => by first | (simp [entryFrame, mkF, argsToLocals, Value.category]; done) | rfl) ?_
  intro p e s m below meth c T G w X
  refine iloadN w X d7_0 1 rfl rfl ?_
  refine bipush w X (32 : Int32) d7_1 3 rfl rfl ?_
  refine icmp_eq w X d7_3 18 6 (by decide) (by decide) rfl (fun hc3_1 => ?_) (fun hc3_1 => ?_)
  ·
    refine iconst w X (1 : Int32) d7_18 19 rfl rfl ?_
    refine goto w X d7_19 23 (by decide) (by decide) ?_
    refine retN w X (t := .boolean) rfl (by simp) d7_23 (by decide) (by decide) ?_
    exact ⟨(1 : Int32), rfl, rfl, lf7_1 v hc3_1⟩
  ·
    refine iloadN w X d7_6 7 rfl rfl ?_
    refine bipush w X (9 : Int32) d7_7 9 rfl rfl ?_
    refine icmp_eq w X d7_9 18 12 (by decide) (by decide) rfl (fun hc9_2 => ?_) (fun hc9_2 => ?_)
    ·
      refine iconst w X (1 : Int32) d7_18 19 rfl rfl ?_
      refine goto w X d7_19 23 (by decide) (by decide) ?_
      refine retN w X (t := .boolean) rfl (by simp) d7_23 (by decide) (by decide) ?_
      exact ⟨(1 : Int32), rfl, rfl, lf7_2 v hc3_1 hc9_2⟩
    ·
      refine iloadN w X d7_12 13 rfl rfl ?_
      refine bipush w X (13 : Int32) d7_13 15 rfl rfl ?_
      refine icmp_ne w X d7_15 22 18 (by decide) (by decide) rfl (fun hc15_3 => ?_) (fun hc15_3 => ?_)
      ·
        refine iconst w X (0 : Int32) d7_22 23 rfl rfl ?_
        refine retN w X (t := .boolean) rfl (by simp) d7_23 (by decide) (by decide) ?_
        exact ⟨(0 : Int32), rfl, rfl, lf7_3 v hc3_1 hc9_2 hc15_3⟩
      ·
        refine iconst w X (1 : Int32) d7_18 19 rfl rfl ?_
        refine goto w X d7_19 23 (by decide) (by decide) ?_
        refine retN w X (t := .boolean) rfl (by simp) d7_23 (by decide) (by decide) ?_
        exact ⟨(1 : Int32), rfl, rfl, lf7_4 v hc3_1 hc9_2 hc15_3⟩
set_option maxRecDepth 65536 in
set_option maxHeartbeats 40000000 in
theorem lf10_1 (v : Int32) (hc3_1 : v = (32 : Int32)) : (1 : Int32) = own_bl v := by
  unfold own_bl
  first | (rw [if_pos (Or.inl ‹_›)]; done) | (rw [if_pos (Or.inr (Or.inl ‹_›))]; done) | (rw [if_pos (Or.inr (Or.inr ‹_›))]; done) | (rw [if_neg (not_or.mpr ⟨‹_›, not_or.mpr ⟨‹_›, ‹_›⟩⟩)]; done)
set_option maxRecDepth 65536 in
set_option maxHeartbeats 40000000 in
theorem lf10_2 (v : Int32) (hc3_1 : ¬ (v = (32 : Int32))) (hc9_2 : v = (9 : Int32)) : (1 : Int32) = own_bl v := by
  unfold own_bl
  first | (rw [if_pos (Or.inl ‹_›)]; done) | (rw [if_pos (Or.inr (Or.inl ‹_›))]; done) | (rw [if_pos (Or.inr (Or.inr ‹_›))]; done) | (rw [if_neg (not_or.mpr ⟨‹_›, not_or.mpr ⟨‹_›, ‹_›⟩⟩)]; done)
set_option maxRecDepth 65536 in
set_option maxHeartbeats 40000000 in
theorem lf10_3 (v : Int32) (hc3_1 : ¬ (v = (32 : Int32))) (hc9_2 : ¬ (v = (9 : Int32))) (hc15_3 : ¬ (v = (13 : Int32))) : (0 : Int32) = own_bl v := by
  unfold own_bl
  first | (rw [if_pos (Or.inl ‹_›)]; done) | (rw [if_pos (Or.inr (Or.inl ‹_›))]; done) | (rw [if_pos (Or.inr (Or.inr ‹_›))]; done) | (rw [if_neg (not_or.mpr ⟨‹_›, not_or.mpr ⟨‹_›, ‹_›⟩⟩)]; done)
set_option maxRecDepth 65536 in
set_option maxHeartbeats 40000000 in
theorem lf10_4 (v : Int32) (hc3_1 : ¬ (v = (32 : Int32))) (hc9_2 : ¬ (v = (9 : Int32))) (hc15_3 : v = (13 : Int32)) : (1 : Int32) = own_bl v := by
  unfold own_bl
  first | (rw [if_pos (Or.inl ‹_›)]; done) | (rw [if_pos (Or.inr (Or.inl ‹_›))]; done) | (rw [if_pos (Or.inr (Or.inr ‹_›))]; done) | (rw [if_neg (not_or.mpr ⟨‹_›, not_or.mpr ⟨‹_›, ‹_›⟩⟩)]; done)
theorem d10_0 : decode method_3_code 0 = .ok (.iload_n 0, 1) := by decide +kernel
theorem d10_1 : decode method_3_code 1 = .ok (.bipush 32, 2) := by decide +kernel
theorem d10_3 : decode method_3_code 3 = .ok (.if_icmp .eq 15, 3) := by decide +kernel
theorem d10_6 : decode method_3_code 6 = .ok (.iload_n 0, 1) := by decide +kernel
theorem d10_7 : decode method_3_code 7 = .ok (.bipush 9, 2) := by decide +kernel
theorem d10_9 : decode method_3_code 9 = .ok (.if_icmp .eq 9, 3) := by decide +kernel
theorem d10_12 : decode method_3_code 12 = .ok (.iload_n 0, 1) := by decide +kernel
theorem d10_13 : decode method_3_code 13 = .ok (.bipush 13, 2) := by decide +kernel
theorem d10_15 : decode method_3_code 15 = .ok (.if_icmp .ne 7, 3) := by decide +kernel
theorem d10_18 : decode method_3_code 18 = .ok (.iconst 1, 1) := by decide +kernel
theorem d10_19 : decode method_3_code 19 = .ok (.goto 4, 3) := by decide +kernel
theorem d10_22 : decode method_3_code 22 = .ok (.iconst 0, 1) := by decide +kernel
theorem d10_23 : decode method_3_code 23 = .ok (.ireturn, 1) := by decide +kernel
set_option maxRecDepth 65536 in
set_option maxHeartbeats 40000000 in
theorem rm_blank {l : Launch} {Z : State} {a0 : Array Value} (hw : ∀ d ∈ tables_1, d.before a0 Z = true) (v : Int32) (h : Heap) (n0 : Nat) (zn : n0 ≤ h.size) :
    Met l Z (⟨"com/example/frugal_kripke/frugalkripke/model/LineCursorResetPinLaw", "blank", "(B)Z"⟩ : MethodName) method_3_code 1 (some .boolean) [] ({ frames := 0, cells := 0, slots := 0, locals := 0 } : Room) #[(.int v)] h n0 (RI fun r h' => h' = h ∧ r = own_bl v) := by
  refine start (ls := #[.val (.int v)]) (plainFor_of_name pn1) (fun m => by first | (simp [entryFrame, mkF, argsToLocals, Value.category]; done) | rfl) ?_
  intro p e s m below meth c T G w X
  refine iloadN w X d10_0 1 rfl rfl ?_
  refine bipush w X (32 : Int32) d10_1 3 rfl rfl ?_
  refine icmp_eq w X d10_3 18 6 (by decide) (by decide) rfl (fun hc3_1 => ?_) (fun hc3_1 => ?_)
  ·
    refine iconst w X (1 : Int32) d10_18 19 rfl rfl ?_
    refine goto w X d10_19 23 (by decide) (by decide) ?_
    refine retN w X (t := .boolean) rfl (by simp) d10_23 (by decide) (by decide) ?_
    exact ⟨(1 : Int32), rfl, rfl, lf10_1 v hc3_1⟩
  ·
    refine iloadN w X d10_6 7 rfl rfl ?_
    refine bipush w X (9 : Int32) d10_7 9 rfl rfl ?_
    refine icmp_eq w X d10_9 18 12 (by decide) (by decide) rfl (fun hc9_2 => ?_) (fun hc9_2 => ?_)
    ·
      refine iconst w X (1 : Int32) d10_18 19 rfl rfl ?_
      refine goto w X d10_19 23 (by decide) (by decide) ?_
      refine retN w X (t := .boolean) rfl (by simp) d10_23 (by decide) (by decide) ?_
      exact ⟨(1 : Int32), rfl, rfl, lf10_2 v hc3_1 hc9_2⟩
    ·
      refine iloadN w X d10_12 13 rfl rfl ?_
      refine bipush w X (13 : Int32) d10_13 15 rfl rfl ?_
      refine icmp_ne w X d10_15 22 18 (by decide) (by decide) rfl (fun hc15_3 => ?_) (fun hc15_3 => ?_)
      ·
        refine iconst w X (0 : Int32) d10_22 23 rfl rfl ?_
        refine retN w X (t := .boolean) rfl (by simp) d10_23 (by decide) (by decide) ?_
        exact ⟨(0 : Int32), rfl, rfl, lf10_3 v hc3_1 hc9_2 hc15_3⟩
      ·
        refine iconst w X (1 : Int32) d10_18 19 rfl rfl ?_
        refine goto w X d10_19 23 (by decide) (by decide) ?_
        refine retN w X (t := .boolean) rfl (by simp) d10_23 (by decide) (by decide) ?_
        exact ⟨(1 : Int32), rfl, rfl, lf10_4 v hc3_1 hc9_2 hc15_3⟩
theorem d4_0 : decode prog_48_method_3_code 0 = .ok (.aload_n 0, 1) := by decide +kernel
theorem d4_1 : decode prog_48_method_3_code 1 = .ok (.iload_n 1, 1) := by decide +kernel
theorem d4_2 : decode prog_48_method_3_code 2 = .ok (.putfield 35, 3) := by decide +kernel
theorem d4_5 : decode prog_48_method_3_code 5 = .ok (.aload_n 0, 1) := by decide +kernel
theorem d4_6 : decode prog_48_method_3_code 6 = .ok (.aload_n 2, 1) := by decide +kernel
theorem d4_7 : decode prog_48_method_3_code 7 = .ok (.putfield 39, 3) := by decide +kernel
theorem d4_10 : decode prog_48_method_3_code 10 = .ok (.aload_n 0, 1) := by decide +kernel
theorem d4_11 : decode prog_48_method_3_code 11 = .ok (.iload_n 3, 1) := by decide +kernel
theorem d4_12 : decode prog_48_method_3_code 12 = .ok (.putfield 42, 3) := by decide +kernel
theorem d4_15 : decode prog_48_method_3_code 15 = .ok (.aload_n 0, 1) := by decide +kernel
theorem d4_16 : decode prog_48_method_3_code 16 = .ok (.iconst 0, 1) := by decide +kernel
theorem d4_17 : decode prog_48_method_3_code 17 = .ok (.putfield 45, 3) := by decide +kernel
theorem d4_20 : decode prog_48_method_3_code 20 = .ok (.return_, 1) := by decide +kernel
set_option maxRecDepth 65536 in
set_option maxHeartbeats 40000000 in
theorem rm_rs {l : Launch} {Z : State} {a0 : Array Value} (hw : ∀ d ∈ tables_1, d.before a0 Z = true) (o arr : Addr) (ln n ln0 le0 po0 : Int32) (tx0 : Value) (h : Heap) (n0 : Nat) (zn : n0 ≤ h.size) (E_o : Exa Z h o "com/example/frugal_kripke/frugalkripke/model/LineCursor") (F_line_o : Fld Z h o "com/example/frugal_kripke/frugalkripke/model/LineCursor" "line" "I" (.int ln0)) (F_text_o : Fld Z h o "com/example/frugal_kripke/frugalkripke/model/LineCursor" "text" "[B" tx0) (F_length_o : Fld Z h o "com/example/frugal_kripke/frugalkripke/model/LineCursor" "length" "I" (.int le0)) (F_position_o : Fld Z h o "com/example/frugal_kripke/frugalkripke/model/LineCursor" "position" "I" (.int po0)) (g_o : n0 ≤ o) :
    Met l Z (⟨"com/example/frugal_kripke/frugalkripke/model/LineCursor", "reset", "(I[BI)V"⟩ : MethodName) prog_48_method_3_code 4 none [] ({ frames := 0, cells := 0, slots := 0, locals := 0 } : Room) #[(.ref o), (.int ln), (.ref arr), (.int n)] h n0 (RV fun h' => Keep h h' [o] ∧ Exa Z h' o "com/example/frugal_kripke/frugalkripke/model/LineCursor" ∧ Fld Z h' o "com/example/frugal_kripke/frugalkripke/model/LineCursor" "line" "I" (.int ln) ∧ Fld Z h' o "com/example/frugal_kripke/frugalkripke/model/LineCursor" "text" "[B" (.ref arr) ∧ Fld Z h' o "com/example/frugal_kripke/frugalkripke/model/LineCursor" "length" "I" (.int n) ∧ Fld Z h' o "com/example/frugal_kripke/frugalkripke/model/LineCursor" "position" "I" (.int (0 : Int32))) := by
  refine start (ls := #[.val (.ref o), .val (.int ln), .val (.ref arr), .val (.int n)]) (plainFor_of_name pn7) (fun m => by first | (simp [entryFrame, mkF, argsToLocals, Value.category]; done) | rfl) ?_
  intro p e s m below meth c T G w X
  have K := Keep.refl h [o]
  refine aloadN w X d4_0 1 rfl rfl rfl ?_
  refine iloadN w X d4_1 2 rfl rfl ?_
  refine putfield w X (wd28 hw) Via.refl F_line_o E_o (Or.inl (wd29 hw)) (wd7 hw) (ty := .int) (by decide) rfl rfl g_o d4_2 5 rfl (fun T h1 X W => ?_)
  have zn : n0 ≤ h1.size := W.size ▸ zn
  have K := K.wr W (Or.inl (List.mem_of_getElem? (i := 0) rfl))
  have E_o := E_o.wr W
  have F_line_o := F_line_o.same W
  have F_text_o := F_text_o.other W (Or.inr (slot_ne (Or.inl (wd31 hw)) (Or.inl (wd29 hw)) (by decide) (t := (.array .byte)) (t' := .int) (by decide) (by decide)))
  have F_length_o := F_length_o.other W (Or.inr (slot_ne (Or.inl (wd33 hw)) (Or.inl (wd29 hw)) (by decide) (t := .int) (t' := .int) (by decide) (by decide)))
  have F_position_o := F_position_o.other W (Or.inr (slot_ne (Or.inl (wd35 hw)) (Or.inl (wd29 hw)) (by decide) (t := .int) (t' := .int) (by decide) (by decide)))
  refine aloadN w X d4_5 6 rfl rfl rfl ?_
  refine aloadN w X d4_6 7 rfl rfl rfl ?_
  refine putfield w X (wd30 hw) Via.refl F_text_o E_o (Or.inl (wd31 hw)) (wd7 hw) (ty := (.array .byte)) (by decide) rfl rfl g_o d4_7 10 rfl (fun T h2 X W => ?_)
  have zn : n0 ≤ h2.size := W.size ▸ zn
  have K := K.wr W (Or.inl (List.mem_of_getElem? (i := 0) rfl))
  have E_o := E_o.wr W
  have F_line_o := F_line_o.other W (Or.inr (slot_ne (Or.inl (wd29 hw)) (Or.inl (wd31 hw)) (by decide) (t := .int) (t' := (.array .byte)) (by decide) (by decide)))
  have F_text_o := F_text_o.same W
  have F_length_o := F_length_o.other W (Or.inr (slot_ne (Or.inl (wd33 hw)) (Or.inl (wd31 hw)) (by decide) (t := .int) (t' := (.array .byte)) (by decide) (by decide)))
  have F_position_o := F_position_o.other W (Or.inr (slot_ne (Or.inl (wd35 hw)) (Or.inl (wd31 hw)) (by decide) (t := .int) (t' := (.array .byte)) (by decide) (by decide)))
  refine aloadN w X d4_10 11 rfl rfl rfl ?_
  refine iloadN w X d4_11 12 rfl rfl ?_
  refine putfield w X (wd32 hw) Via.refl F_length_o E_o (Or.inl (wd33 hw)) (wd7 hw) (ty := .int) (by decide) rfl rfl g_o d4_12 15 rfl (fun T h3 X W => ?_)
  have zn : n0 ≤ h3.size := W.size ▸ zn
  have K := K.wr W (Or.inl (List.mem_of_getElem? (i := 0) rfl))
  have E_o := E_o.wr W
  have F_line_o := F_line_o.other W (Or.inr (slot_ne (Or.inl (wd29 hw)) (Or.inl (wd33 hw)) (by decide) (t := .int) (t' := .int) (by decide) (by decide)))
  have F_text_o := F_text_o.other W (Or.inr (slot_ne (Or.inl (wd31 hw)) (Or.inl (wd33 hw)) (by decide) (t := (.array .byte)) (t' := .int) (by decide) (by decide)))
  have F_length_o := F_length_o.same W
  have F_position_o := F_position_o.other W (Or.inr (slot_ne (Or.inl (wd35 hw)) (Or.inl (wd33 hw)) (by decide) (t := .int) (t' := .int) (by decide) (by decide)))
  refine aloadN w X d4_15 16 rfl rfl rfl ?_
  refine iconst w X (0 : Int32) d4_16 17 rfl rfl ?_
  refine putfield w X (wd34 hw) Via.refl F_position_o E_o (Or.inl (wd35 hw)) (wd7 hw) (ty := .int) (by decide) rfl rfl g_o d4_17 20 rfl (fun T h4 X W => ?_)
  have zn : n0 ≤ h4.size := W.size ▸ zn
  have K := K.wr W (Or.inl (List.mem_of_getElem? (i := 0) rfl))
  have E_o := E_o.wr W
  have F_line_o := F_line_o.other W (Or.inr (slot_ne (Or.inl (wd29 hw)) (Or.inl (wd35 hw)) (by decide) (t := .int) (t' := .int) (by decide) (by decide)))
  have F_text_o := F_text_o.other W (Or.inr (slot_ne (Or.inl (wd31 hw)) (Or.inl (wd35 hw)) (by decide) (t := (.array .byte)) (t' := .int) (by decide) (by decide)))
  have F_length_o := F_length_o.other W (Or.inr (slot_ne (Or.inl (wd33 hw)) (Or.inl (wd35 hw)) (by decide) (t := .int) (t' := .int) (by decide) (by decide)))
  have F_position_o := F_position_o.same W
  refine retV w X rfl d4_20 (by decide) (by decide) ?_
  exact ⟨rfl, K, E_o, F_line_o, F_text_o, F_length_o, F_position_o⟩
theorem d2_0 : decode prog_48_method_2_code 0 = .ok (.aload_n 0, 1) := by decide +kernel
theorem d2_1 : decode prog_48_method_2_code 1 = .ok (.invokespecial 1, 3) := by decide +kernel
theorem d2_4 : decode prog_48_method_2_code 4 = .ok (.aload_n 0, 1) := by decide +kernel
theorem d2_5 : decode prog_48_method_2_code 5 = .ok (.sipush 1024, 3) := by decide +kernel
theorem d2_8 : decode prog_48_method_2_code 8 = .ok (.anewarray 9, 3) := by decide +kernel
theorem d2_11 : decode prog_48_method_2_code 11 = .ok (.putfield 11, 3) := by decide +kernel
theorem d2_14 : decode prog_48_method_2_code 14 = .ok (.aload_n 0, 1) := by decide +kernel
theorem d2_15 : decode prog_48_method_2_code 15 = .ok (.sipush 1024, 3) := by decide +kernel
theorem d2_18 : decode prog_48_method_2_code 18 = .ok (.anewarray 15, 3) := by decide +kernel
theorem d2_21 : decode prog_48_method_2_code 21 = .ok (.putfield 17, 3) := by decide +kernel
theorem d2_24 : decode prog_48_method_2_code 24 = .ok (.aload_n 0, 1) := by decide +kernel
theorem d2_25 : decode prog_48_method_2_code 25 = .ok (.iconst 0, 1) := by decide +kernel
theorem d2_26 : decode prog_48_method_2_code 26 = .ok (.iconst 0, 1) := by decide +kernel
theorem d2_27 : decode prog_48_method_2_code 27 = .ok (.newarray .byte, 2) := by decide +kernel
theorem d2_29 : decode prog_48_method_2_code 29 = .ok (.iconst 0, 1) := by decide +kernel
theorem d2_30 : decode prog_48_method_2_code 30 = .ok (.invokevirtual 31, 3) := by decide +kernel
theorem d2_33 : decode prog_48_method_2_code 33 = .ok (.return_, 1) := by decide +kernel
set_option maxRecDepth 65536 in
set_option maxHeartbeats 40000000 in
theorem rm_in {l : Launch} {Z : State} {a0 : Array Value} (hw : ∀ d ∈ tables_1, d.before a0 Z = true) (o : Addr) (h : Heap) (n0 : Nat) (zn : n0 ≤ h.size) (E_o : Exa Z h o "com/example/frugal_kripke/frugalkripke/model/LineCursor") (F_line_o : Fld Z h o "com/example/frugal_kripke/frugalkripke/model/LineCursor" "line" "I" (.int (0 : Int32))) (F_text_o : Fld Z h o "com/example/frugal_kripke/frugalkripke/model/LineCursor" "text" "[B" .null) (F_length_o : Fld Z h o "com/example/frugal_kripke/frugalkripke/model/LineCursor" "length" "I" (.int (0 : Int32))) (F_position_o : Fld Z h o "com/example/frugal_kripke/frugalkripke/model/LineCursor" "position" "I" (.int (0 : Int32))) (g_o : n0 ≤ o) (F_keptBytes_o : Fld Z h o "com/example/frugal_kripke/frugalkripke/model/LineCursor" "keptBytes" "[[B" .null) (F_keptStrings_o : Fld Z h o "com/example/frugal_kripke/frugalkripke/model/LineCursor" "keptStrings" "[Ljava/lang/String;" .null) :
    Met l Z (⟨"com/example/frugal_kripke/frugalkripke/model/LineCursor", "<init>", "()V"⟩ : MethodName) prog_48_method_2_code 1 none [] ({ frames := 1, cells := 3, slots := 2048, locals := 15 } : Room) #[(.ref o)] h n0 (RV fun h' => Keep h h' [o] ∧ ∃ tx : Addr, Exa Z h' o "com/example/frugal_kripke/frugalkripke/model/LineCursor" ∧ Fld Z h' o "com/example/frugal_kripke/frugalkripke/model/LineCursor" "line" "I" (.int (0 : Int32)) ∧ Fld Z h' o "com/example/frugal_kripke/frugalkripke/model/LineCursor" "text" "[B" (.ref tx) ∧ Fld Z h' o "com/example/frugal_kripke/frugalkripke/model/LineCursor" "length" "I" (.int (0 : Int32)) ∧ Fld Z h' o "com/example/frugal_kripke/frugalkripke/model/LineCursor" "position" "I" (.int (0 : Int32))) := by
  refine start (ls := #[.val (.ref o)]) (plainFor_of_name pn7) (fun m => by first | (simp [entryFrame, mkF, argsToLocals, Value.category]; done) | rfl) ?_
  intro p e s m below meth c T G w X
  have K := Keep.refl h [o]
  refine aloadN w X d2_0 1 rfl rfl rfl ?_
  refine initObj w X (wd12 hw) (wd13 hw) (wd14 hw) d2_1 4 rfl rfl (by decide) 0 (Nat.le_of_eq rfl) (by decide) (fun T X => ?_)
  refine aloadN w X d2_4 5 rfl rfl rfl ?_
  refine sipush w X (1024 : Int32) d2_5 8 rfl rfl ?_
  refine anewA w X (by decide) (wd15 hw) (wd16 hw) d2_8 11 rfl (by decide) 1024 (by decide) (by decide) (by decide) (by decide) (fun T h1 b2 cA X hnb2 E A => ?_)
  have ne_o_b2 : o ≠ b2 := fun q => absurd (q ▸ E_o.lt) (by rw [hnb2]; exact Nat.lt_irrefl _)
  have g_b2 : n0 ≤ b2 := by rw [hnb2]; exact zn
  have sz_b2 : h.size ≤ b2 := by rw [hnb2]; exact K.1
  have zn : n0 ≤ h1.size := Nat.le_trans zn E.1
  have K := K.ext E
  have E_o := E_o.ext E
  have F_line_o := F_line_o.ext E
  have F_text_o := F_text_o.ext E
  have F_length_o := F_length_o.ext E
  have F_position_o := F_position_o.ext E
  have F_keptBytes_o := F_keptBytes_o.ext E
  have F_keptStrings_o := F_keptStrings_o.ext E
  refine putfield w X (wd17 hw) Via.refl F_keptBytes_o E_o (Or.inr ⟨(wd18 hw), rfl, rfl⟩) (wd7 hw) (ty := (.array (.array .byte))) (by decide) rfl rfl g_o d2_11 14 rfl (fun T h3 X W => ?_)
  have zn : n0 ≤ h3.size := W.size ▸ zn
  have K := K.wr W (Or.inl (List.mem_of_getElem? (i := 0) rfl))
  have E_o := E_o.wr W
  have F_line_o := F_line_o.other W (Or.inr (slot_ne (Or.inl (wd29 hw)) (Or.inr (wd18 hw)) (by decide) (t := .int) (t' := (.array (.array .byte))) (by decide) (by decide)))
  have F_text_o := F_text_o.other W (Or.inr (slot_ne (Or.inl (wd31 hw)) (Or.inr (wd18 hw)) (by decide) (t := (.array .byte)) (t' := (.array (.array .byte))) (by decide) (by decide)))
  have F_length_o := F_length_o.other W (Or.inr (slot_ne (Or.inl (wd33 hw)) (Or.inr (wd18 hw)) (by decide) (t := .int) (t' := (.array (.array .byte))) (by decide) (by decide)))
  have F_position_o := F_position_o.other W (Or.inr (slot_ne (Or.inl (wd35 hw)) (Or.inr (wd18 hw)) (by decide) (t := .int) (t' := (.array (.array .byte))) (by decide) (by decide)))
  have F_keptBytes_o := F_keptBytes_o.same W
  have F_keptStrings_o := F_keptStrings_o.other W (Or.inr (slot_ne (Or.inr (wd22 hw)) (Or.inr (wd18 hw)) (by decide) (t := (.array (.object "java/lang/String"))) (t' := (.array (.array .byte))) (by decide) (by decide)))
  refine aloadN w X d2_14 15 rfl rfl rfl ?_
  refine sipush w X (1024 : Int32) d2_15 18 rfl rfl ?_
  refine anewO w X (wd19 hw) (wd20 hw) d2_18 21 rfl (by decide) 1024 (by decide) (by decide) (by decide) (by decide) (fun T h4 b5 cA X hnb5 E A => ?_)
  have ne_o_b5 : o ≠ b5 := fun q => absurd (q ▸ E_o.lt) (by rw [hnb5]; exact Nat.lt_irrefl _)
  have g_b5 : n0 ≤ b5 := by rw [hnb5]; exact zn
  have sz_b5 : h.size ≤ b5 := by rw [hnb5]; exact K.1
  have zn : n0 ≤ h4.size := Nat.le_trans zn E.1
  have K := K.ext E
  have E_o := E_o.ext E
  have F_line_o := F_line_o.ext E
  have F_text_o := F_text_o.ext E
  have F_length_o := F_length_o.ext E
  have F_position_o := F_position_o.ext E
  have F_keptBytes_o := F_keptBytes_o.ext E
  have F_keptStrings_o := F_keptStrings_o.ext E
  refine putfield w X (wd21 hw) Via.refl F_keptStrings_o E_o (Or.inr ⟨(wd22 hw), rfl, rfl⟩) (wd7 hw) (ty := (.array (.object "java/lang/String"))) (by decide) rfl rfl g_o d2_21 24 rfl (fun T h6 X W => ?_)
  have zn : n0 ≤ h6.size := W.size ▸ zn
  have K := K.wr W (Or.inl (List.mem_of_getElem? (i := 0) rfl))
  have E_o := E_o.wr W
  have F_line_o := F_line_o.other W (Or.inr (slot_ne (Or.inl (wd29 hw)) (Or.inr (wd22 hw)) (by decide) (t := .int) (t' := (.array (.object "java/lang/String"))) (by decide) (by decide)))
  have F_text_o := F_text_o.other W (Or.inr (slot_ne (Or.inl (wd31 hw)) (Or.inr (wd22 hw)) (by decide) (t := (.array .byte)) (t' := (.array (.object "java/lang/String"))) (by decide) (by decide)))
  have F_length_o := F_length_o.other W (Or.inr (slot_ne (Or.inl (wd33 hw)) (Or.inr (wd22 hw)) (by decide) (t := .int) (t' := (.array (.object "java/lang/String"))) (by decide) (by decide)))
  have F_position_o := F_position_o.other W (Or.inr (slot_ne (Or.inl (wd35 hw)) (Or.inr (wd22 hw)) (by decide) (t := .int) (t' := (.array (.object "java/lang/String"))) (by decide) (by decide)))
  have F_keptBytes_o := F_keptBytes_o.other W (Or.inr (slot_ne (Or.inr (wd18 hw)) (Or.inr (wd22 hw)) (by decide) (t := (.array (.array .byte))) (t' := (.array (.object "java/lang/String"))) (by decide) (by decide)))
  have F_keptStrings_o := F_keptStrings_o.same W
  refine aloadN w X d2_24 25 rfl rfl rfl ?_
  refine iconst w X (0 : Int32) d2_25 26 rfl rfl ?_
  refine iconst w X (0 : Int32) d2_26 27 rfl rfl ?_
  refine newarr (aty := .byte) w X (wd0 hw) d2_27 29 rfl (by decide) 0 (by decide) (by decide) (by decide) (by decide) (fun T h7 b8 cA X hnb8 E A => ?_)
  have ne_o_b8 : o ≠ b8 := fun q => absurd (q ▸ E_o.lt) (by rw [hnb8]; exact Nat.lt_irrefl _)
  have g_b8 : n0 ≤ b8 := by rw [hnb8]; exact zn
  have sz_b8 : h.size ≤ b8 := by rw [hnb8]; exact K.1
  have zn : n0 ≤ h7.size := Nat.le_trans zn E.1
  have K := K.ext E
  have E_o := E_o.ext E
  have F_line_o := F_line_o.ext E
  have F_text_o := F_text_o.ext E
  have F_length_o := F_length_o.ext E
  have F_position_o := F_position_o.ext E
  have F_keptBytes_o := F_keptBytes_o.ext E
  have F_keptStrings_o := F_keptStrings_o.ext E
  have V_b8 : PA Z h7 b8 .byte [] := PA.new .byte rfl rfl 0 A (by decide)
  refine iconst w X (0 : Int32) d2_29 30 rfl rfl ?_
  refine callVV w X [(.int (0 : Int32)), (.ref b8), (.int (0 : Int32))] (wd23 hw) (wd24 hw) (notFace_of_selects (args := #[]) (mvT w.2.2.2.2.1 (wd26 hw))) (wd26 hw) (wd25 hw) (wd8 hw) (wd27 hw) (by decide) E_o (rm_rs hw o b8 (0 : Int32) (0 : Int32) (0 : Int32) (0 : Int32) (0 : Int32) .null h7 n0 zn E_o F_line_o F_text_o F_length_o F_position_o g_o) d2_30 33 rfl 0 (by decide) (by decide) (lenOf pd0 rfl) rfl (Nat.le_of_eq rfl) rfl (by decide) (by decide) (fun T h9 X hq => ?_)
  obtain ⟨Kq, E_o, F_line_o, F_text_o, F_length_o, F_position_o⟩ := hq
  have zn : n0 ≤ h9.size := Nat.le_trans zn Kq.1
  have K := K.trans Kq (allS (Or.inl (List.mem_of_getElem? (i := 0) rfl)) all0)
  have V_b8 := V_b8.keep Kq (ninS (Ne.symm ne_o_b8) nin0)
  refine retV w X rfl d2_33 (by decide) (by decide) ?_
  exact ⟨rfl, K, b8, E_o, F_line_o, F_text_o, F_length_o, F_position_o⟩
theorem d6_0 : decode prog_48_method_22_code 0 = .ok (.aload_n 0, 1) := by decide +kernel
theorem d6_1 : decode prog_48_method_22_code 1 = .ok (.getfield 45, 3) := by decide +kernel
theorem d6_4 : decode prog_48_method_22_code 4 = .ok (.aload_n 0, 1) := by decide +kernel
theorem d6_5 : decode prog_48_method_22_code 5 = .ok (.getfield 42, 3) := by decide +kernel
theorem d6_8 : decode prog_48_method_22_code 8 = .ok (.if_icmp .ge 31, 3) := by decide +kernel
theorem d6_11 : decode prog_48_method_22_code 11 = .ok (.aload_n 0, 1) := by decide +kernel
theorem d6_12 : decode prog_48_method_22_code 12 = .ok (.getfield 39, 3) := by decide +kernel
theorem d6_15 : decode prog_48_method_22_code 15 = .ok (.aload_n 0, 1) := by decide +kernel
theorem d6_16 : decode prog_48_method_22_code 16 = .ok (.getfield 45, 3) := by decide +kernel
theorem d6_19 : decode prog_48_method_22_code 19 = .ok (.baload, 1) := by decide +kernel
theorem d6_20 : decode prog_48_method_22_code 20 = .ok (.invokestatic 129, 3) := by decide +kernel
theorem d6_23 : decode prog_48_method_22_code 23 = .ok (.ifCond .eq 16, 3) := by decide +kernel
theorem d6_26 : decode prog_48_method_22_code 26 = .ok (.aload_n 0, 1) := by decide +kernel
theorem d6_27 : decode prog_48_method_22_code 27 = .ok (.dup, 1) := by decide +kernel
theorem d6_28 : decode prog_48_method_22_code 28 = .ok (.getfield 45, 3) := by decide +kernel
theorem d6_31 : decode prog_48_method_22_code 31 = .ok (.iconst 1, 1) := by decide +kernel
theorem d6_32 : decode prog_48_method_22_code 32 = .ok (.iadd, 1) := by decide +kernel
theorem d6_33 : decode prog_48_method_22_code 33 = .ok (.putfield 45, 3) := by decide +kernel
theorem d6_36 : decode prog_48_method_22_code 36 = .ok (.goto (-36), 3) := by decide +kernel
theorem d6_39 : decode prog_48_method_22_code 39 = .ok (.return_, 1) := by decide +kernel
set_option maxRecDepth 65536 in
set_option maxHeartbeats 40000000 in
theorem rm_sk {l : Launch} {Z : State} {a0 : Array Value} (hw : ∀ d ∈ tables_1, d.before a0 Z = true) (o arr : Addr) (ln n po eI : Int32) (bs : List Int32) (nn ee j0 : Nat) (h : Heap) (n0 : Nat) (zn : n0 ≤ h.size) (E_o : Exa Z h o "com/example/frugal_kripke/frugalkripke/model/LineCursor") (F_line_o : Fld Z h o "com/example/frugal_kripke/frugalkripke/model/LineCursor" "line" "I" (.int ln)) (F_text_o : Fld Z h o "com/example/frugal_kripke/frugalkripke/model/LineCursor" "text" "[B" (.ref arr)) (F_length_o : Fld Z h o "com/example/frugal_kripke/frugalkripke/model/LineCursor" "length" "I" (.int n)) (F_position_o : Fld Z h o "com/example/frugal_kripke/frugalkripke/model/LineCursor" "position" "I" (.int po)) (g_o : n0 ≤ o) (V_arr : PA Z h arr .byte bs) (ne_arr_o : arr ≠ o) (hn : n = Int32.ofNat nn) (hpo : po = Int32.ofNat j0) (heI : eI = Int32.ofNat ee) (hsk : own_sk bs nn ee) (hj : j0 ≤ ee) :
    Met l Z (⟨"com/example/frugal_kripke/frugalkripke/model/LineCursor", "skipBlanks", "()V"⟩ : MethodName) prog_48_method_22_code 1 none [] ({ frames := 1, cells := 0, slots := 0, locals := 12 } : Room) #[(.ref o)] h n0 (RV fun h' => Keep h h' [o] ∧ Exa Z h' o "com/example/frugal_kripke/frugalkripke/model/LineCursor" ∧ Fld Z h' o "com/example/frugal_kripke/frugalkripke/model/LineCursor" "line" "I" (.int ln) ∧ Fld Z h' o "com/example/frugal_kripke/frugalkripke/model/LineCursor" "text" "[B" (.ref arr) ∧ Fld Z h' o "com/example/frugal_kripke/frugalkripke/model/LineCursor" "length" "I" (.int n) ∧ Fld Z h' o "com/example/frugal_kripke/frugalkripke/model/LineCursor" "position" "I" (.int eI)) := by
  refine start (ls := #[.val (.ref o)]) (plainFor_of_name pn7) (fun m => by first | (simp [entryFrame, mkF, argsToLocals, Value.category]; done) | rfl) ?_
  intro p e s m below meth c T G w X
  subst hpo heI
  have K := Keep.refl h [o]
  have Lp0 : ∀ (fuel : Nat) (T : State) (hL1 : Heap) (j : Nat), Sd p l e ({ frames := 1, cells := 0, slots := 0, locals := 12 } : Room) s m #[(.ref o)] below meth c n0 T hL1 0 0 → ∀ (zn : n0 ≤ hL1.size) (K : Keep h hL1 [o]) (E_o : Exa Z hL1 o "com/example/frugal_kripke/frugalkripke/model/LineCursor") (F_line_o : Fld Z hL1 o "com/example/frugal_kripke/frugalkripke/model/LineCursor" "line" "I" (.int ln)) (F_text_o : Fld Z hL1 o "com/example/frugal_kripke/frugalkripke/model/LineCursor" "text" "[B" (.ref arr)) (F_length_o : Fld Z hL1 o "com/example/frugal_kripke/frugalkripke/model/LineCursor" "length" "I" (.int n)) (F_position_o : Fld Z hL1 o "com/example/frugal_kripke/frugalkripke/model/LineCursor" "position" "I" (.int (Int32.ofNat j))) (V_arr : PA Z hL1 arr .byte bs), (j ≤ ee) → ee - j < fuel → G (T.setTop (mkF m 0 #[.val (.ref o)] [])) := by
    intro fuel
    induction fuel with
    | zero => exact fun T _ _ _ _ _ _ _ _ _ _ _ _ q => absurd q (Nat.not_lt_zero _)
    | succ fuel ih =>
      intro T hL1 j X zn K E_o F_line_o F_text_o F_length_o F_position_o V_arr hinv hfuel
      refine aloadN w X d6_0 1 rfl rfl rfl ?_
      refine getfield w X (wd34 hw) Via.refl F_position_o d6_1 4 rfl (fun T X => ?_)
      refine aloadN w X d6_4 5 rfl rfl rfl ?_
      refine getfield w X (wd32 hw) Via.refl F_length_o d6_5 8 rfl (fun T X => ?_)
      refine icmp_ge w X d6_8 39 11 (by decide) (by decide) rfl (fun hc8_2 => ?_) (fun hc8_2 => ?_)
      ·
        refine retV w X rfl d6_39 (by decide) (by decide) ?_
        obtain rfl : j = ee := own_end1 hsk hinv hn hc8_2
        exact ⟨rfl, K, E_o, F_line_o, F_text_o, F_length_o, F_position_o⟩
      ·
        refine aloadN w X d6_11 12 rfl rfl rfl ?_
        refine getfield w X (wd30 hw) Via.refl F_text_o d6_12 15 rfl (fun T X => ?_)
        refine aloadN w X d6_15 16 rfl rfl rfl ?_
        refine getfield w X (wd34 hw) Via.refl F_position_o d6_16 19 rfl (fun T X => ?_)
        have hx := own_ix hsk hinv hn hc8_2
        obtain ⟨r3, hr3⟩ : ∃ z : Int32, z = (bs.getD j 0) := ⟨_, rfl⟩
        refine baload w X V_arr hx.1 j hx.2.1 hx.2.2.1 d6_19 20 rfl r3 hr3 ?_
        refine callSPI w X [(.int r3)] (wd46 hw) (wd47 hw) (wd8 hw) (wd48 hw) (by decide) (rm_isBlank hw r3 hL1 n0 zn) d6_20 23 rfl 0 (by decide) (by decide) (lenOf pd1 rfl) rfl (Nat.le_of_eq rfl) rfl (by decide) (by decide) (fun r4 T X hq => ?_)
        have hr4 := hq
        refine if_eq w X d6_23 39 26 (by decide) (by decide) rfl (fun hc23_5 => ?_) (fun hc23_5 => ?_)
        ·
          refine retV w X rfl d6_39 (by decide) (by decide) ?_
          obtain rfl : j = ee := own_end2 hsk hinv hr3 hr4 hc23_5
          exact ⟨rfl, K, E_o, F_line_o, F_text_o, F_length_o, F_position_o⟩
        ·
          have hlt := own_go hsk hinv hx.2.2.2 hr3 hr4 hc23_5
          refine aloadN w X d6_26 27 rfl rfl rfl ?_
          refine dup w X d6_27 28 rfl rfl ?_
          refine getfield w X (wd34 hw) Via.refl F_position_o d6_28 31 rfl (fun T X => ?_)
          refine iconst w X (1 : Int32) d6_31 32 rfl rfl ?_
          refine iadd w X ((Int32.ofNat j) + (1 : Int32)) d6_32 33 rfl rfl ?_
          refine putfield w X (wd34 hw) Via.refl F_position_o E_o (Or.inl (wd35 hw)) (wd7 hw) (ty := .int) (by decide) rfl rfl g_o d6_33 36 rfl (fun T h6 X W => ?_)
          have zn : n0 ≤ h6.size := W.size ▸ zn
          have K := K.wr W (Or.inl (List.mem_of_getElem? (i := 0) rfl))
          have E_o := E_o.wr W
          have F_line_o := F_line_o.other W (Or.inr (slot_ne (Or.inl (wd29 hw)) (Or.inl (wd35 hw)) (by decide) (t := .int) (t' := .int) (by decide) (by decide)))
          have F_text_o := F_text_o.other W (Or.inr (slot_ne (Or.inl (wd31 hw)) (Or.inl (wd35 hw)) (by decide) (t := (.array .byte)) (t' := .int) (by decide) (by decide)))
          have F_length_o := F_length_o.other W (Or.inr (slot_ne (Or.inl (wd33 hw)) (Or.inl (wd35 hw)) (by decide) (t := .int) (t' := .int) (by decide) (by decide)))
          have F_position_o := F_position_o.same W
          have V_arr := V_arr.other W ne_arr_o
          refine goto w X d6_36 0 (by decide) (by decide) ?_
          rw [own_s j] at F_position_o
          exact ih T h6 (j + 1) X zn K E_o F_line_o F_text_o F_length_o F_position_o V_arr (hlt) (by omega)
  exact Lp0 _ T h j0 X zn K E_o F_line_o F_text_o F_length_o F_position_o V_arr (hj) (Nat.lt_succ_self _)
theorem d5_0 : decode prog_48_method_13_code 0 = .ok (.aload_n 0, 1) := by decide +kernel
theorem d5_1 : decode prog_48_method_13_code 1 = .ok (.invokevirtual 48, 3) := by decide +kernel
theorem d5_4 : decode prog_48_method_13_code 4 = .ok (.aload_n 0, 1) := by decide +kernel
theorem d5_5 : decode prog_48_method_13_code 5 = .ok (.getfield 45, 3) := by decide +kernel
theorem d5_8 : decode prog_48_method_13_code 8 = .ok (.aload_n 0, 1) := by decide +kernel
theorem d5_9 : decode prog_48_method_13_code 9 = .ok (.getfield 42, 3) := by decide +kernel
theorem d5_12 : decode prog_48_method_13_code 12 = .ok (.if_icmp .ne 7, 3) := by decide +kernel
theorem d5_15 : decode prog_48_method_13_code 15 = .ok (.iconst 1, 1) := by decide +kernel
theorem d5_16 : decode prog_48_method_13_code 16 = .ok (.goto 4, 3) := by decide +kernel
theorem d5_19 : decode prog_48_method_13_code 19 = .ok (.iconst 0, 1) := by decide +kernel
theorem d5_20 : decode prog_48_method_13_code 20 = .ok (.ireturn, 1) := by decide +kernel
set_option maxRecDepth 65536 in
set_option maxHeartbeats 40000000 in
theorem rm_ae {l : Launch} {Z : State} {a0 : Array Value} (hw : ∀ d ∈ tables_1, d.before a0 Z = true) (o arr : Addr) (ln n po eI : Int32) (bs : List Int32) (nn ee j0 : Nat) (h : Heap) (n0 : Nat) (zn : n0 ≤ h.size) (E_o : Exa Z h o "com/example/frugal_kripke/frugalkripke/model/LineCursor") (F_line_o : Fld Z h o "com/example/frugal_kripke/frugalkripke/model/LineCursor" "line" "I" (.int ln)) (F_text_o : Fld Z h o "com/example/frugal_kripke/frugalkripke/model/LineCursor" "text" "[B" (.ref arr)) (F_length_o : Fld Z h o "com/example/frugal_kripke/frugalkripke/model/LineCursor" "length" "I" (.int n)) (F_position_o : Fld Z h o "com/example/frugal_kripke/frugalkripke/model/LineCursor" "position" "I" (.int po)) (g_o : n0 ≤ o) (V_arr : PA Z h arr .byte bs) (ne_arr_o : arr ≠ o) (hn : n = Int32.ofNat nn) (hpo : po = Int32.ofNat j0) (heI : eI = Int32.ofNat ee) (hsk : own_sk bs nn ee) (hj : j0 ≤ ee) :
    Met l Z (⟨"com/example/frugal_kripke/frugalkripke/model/LineCursor", "atEnd", "()Z"⟩ : MethodName) prog_48_method_13_code 1 (some .boolean) [] ({ frames := 2, cells := 0, slots := 0, locals := 24 } : Room) #[(.ref o)] h n0 (RI fun r h' => r = own_at eI n ∧ Keep h h' [o] ∧ Exa Z h' o "com/example/frugal_kripke/frugalkripke/model/LineCursor" ∧ Fld Z h' o "com/example/frugal_kripke/frugalkripke/model/LineCursor" "line" "I" (.int ln) ∧ Fld Z h' o "com/example/frugal_kripke/frugalkripke/model/LineCursor" "text" "[B" (.ref arr) ∧ Fld Z h' o "com/example/frugal_kripke/frugalkripke/model/LineCursor" "length" "I" (.int n) ∧ Fld Z h' o "com/example/frugal_kripke/frugalkripke/model/LineCursor" "position" "I" (.int eI)) := by
  refine start (ls := #[.val (.ref o)]) (plainFor_of_name pn7) (fun m => by first | (simp [entryFrame, mkF, argsToLocals, Value.category]; done) | rfl) ?_
  intro p e s m below meth c T G w X
  subst heI
  have K := Keep.refl h [o]
  refine aloadN w X d5_0 1 rfl rfl rfl ?_
  refine callPV w X [] (wd42 hw) (wd43 hw) (nf_same (a := #[]) (mvT w.2.2.2.2.1 (wd26 hw)) (mvT w.2.2.2.2.1 (wd25 hw)) rfl) (wd44 hw) (wd8 hw) (wd45 hw) (by decide) E_o (rm_sk hw o arr ln n po (Int32.ofNat ee) bs nn ee j0 h n0 zn E_o F_line_o F_text_o F_length_o F_position_o g_o V_arr ne_arr_o hn hpo rfl hsk hj) d5_1 4 rfl 0 (by decide) (by decide) (lenOf pd2 rfl) rfl (Nat.le_of_eq rfl) rfl (by decide) (by decide) (fun T h1 X hq => ?_)
  obtain ⟨Kq, E_o, F_line_o, F_text_o, F_length_o, F_position_o⟩ := hq
  have zn : n0 ≤ h1.size := Nat.le_trans zn Kq.1
  have K := K.trans Kq (allS (Or.inl (List.mem_of_getElem? (i := 0) rfl)) all0)
  have V_arr := V_arr.keep Kq (ninS ne_arr_o nin0)
  refine aloadN w X d5_4 5 rfl rfl rfl ?_
  refine getfield w X (wd34 hw) Via.refl F_position_o d5_5 8 rfl (fun T X => ?_)
  refine aloadN w X d5_8 9 rfl rfl rfl ?_
  refine getfield w X (wd32 hw) Via.refl F_length_o d5_9 12 rfl (fun T X => ?_)
  refine icmp_ne w X d5_12 19 15 (by decide) (by decide) rfl (fun hc12_2 => ?_) (fun hc12_2 => ?_)
  ·
    refine iconst w X (0 : Int32) d5_19 20 rfl rfl ?_
    refine retN w X (t := .boolean) rfl (by simp) d5_20 (by decide) (by decide) ?_
    exact ⟨(0 : Int32), rfl, by unfold own_at; first | (rw [if_pos ‹_›]; done) | (rw [if_neg ‹_›]; done), K, E_o, F_line_o, F_text_o, F_length_o, F_position_o⟩
  ·
    refine iconst w X (1 : Int32) d5_15 16 rfl rfl ?_
    refine goto w X d5_16 20 (by decide) (by decide) ?_
    refine retN w X (t := .boolean) rfl (by simp) d5_20 (by decide) (by decide) ?_
    exact ⟨(1 : Int32), rfl, by unfold own_at; first | (rw [if_pos ‹_›]; done) | (rw [if_neg ‹_›]; done), K, E_o, F_line_o, F_text_o, F_length_o, F_position_o⟩
theorem d11_0 : decode prog_48_method_14_code 0 = .ok (.aload_n 0, 1) := by decide +kernel
theorem d11_1 : decode prog_48_method_14_code 1 = .ok (.invokevirtual 48, 3) := by decide +kernel
theorem d11_4 : decode prog_48_method_14_code 4 = .ok (.aload_n 0, 1) := by decide +kernel
theorem d11_5 : decode prog_48_method_14_code 5 = .ok (.getfield 45, 3) := by decide +kernel
theorem d11_8 : decode prog_48_method_14_code 8 = .ok (.aload_n 0, 1) := by decide +kernel
theorem d11_9 : decode prog_48_method_14_code 9 = .ok (.getfield 42, 3) := by decide +kernel
theorem d11_12 : decode prog_48_method_14_code 12 = .ok (.if_icmp .ge 20, 3) := by decide +kernel
theorem d11_15 : decode prog_48_method_14_code 15 = .ok (.aload_n 0, 1) := by decide +kernel
theorem d11_16 : decode prog_48_method_14_code 16 = .ok (.getfield 39, 3) := by decide +kernel
theorem d11_19 : decode prog_48_method_14_code 19 = .ok (.aload_n 0, 1) := by decide +kernel
theorem d11_20 : decode prog_48_method_14_code 20 = .ok (.getfield 45, 3) := by decide +kernel
theorem d11_23 : decode prog_48_method_14_code 23 = .ok (.baload, 1) := by decide +kernel
theorem d11_24 : decode prog_48_method_14_code 24 = .ok (.iload_n 1, 1) := by decide +kernel
theorem d11_25 : decode prog_48_method_14_code 25 = .ok (.if_icmp .ne 7, 3) := by decide +kernel
theorem d11_28 : decode prog_48_method_14_code 28 = .ok (.iconst 1, 1) := by decide +kernel
theorem d11_29 : decode prog_48_method_14_code 29 = .ok (.goto 4, 3) := by decide +kernel
theorem d11_32 : decode prog_48_method_14_code 32 = .ok (.iconst 0, 1) := by decide +kernel
theorem d11_33 : decode prog_48_method_14_code 33 = .ok (.ireturn, 1) := by decide +kernel
set_option maxRecDepth 65536 in
set_option maxHeartbeats 40000000 in
theorem rm_ni {l : Launch} {Z : State} {a0 : Array Value} (hw : ∀ d ∈ tables_1, d.before a0 Z = true) (o arr : Addr) (ln n po eI : Int32) (bs : List Int32) (nn ee j0 : Nat) (ch : Int32) (h : Heap) (n0 : Nat) (zn : n0 ≤ h.size) (E_o : Exa Z h o "com/example/frugal_kripke/frugalkripke/model/LineCursor") (F_line_o : Fld Z h o "com/example/frugal_kripke/frugalkripke/model/LineCursor" "line" "I" (.int ln)) (F_text_o : Fld Z h o "com/example/frugal_kripke/frugalkripke/model/LineCursor" "text" "[B" (.ref arr)) (F_length_o : Fld Z h o "com/example/frugal_kripke/frugalkripke/model/LineCursor" "length" "I" (.int n)) (F_position_o : Fld Z h o "com/example/frugal_kripke/frugalkripke/model/LineCursor" "position" "I" (.int po)) (g_o : n0 ≤ o) (V_arr : PA Z h arr .byte bs) (ne_arr_o : arr ≠ o) (hn : n = Int32.ofNat nn) (hpo : po = Int32.ofNat j0) (heI : eI = Int32.ofNat ee) (hsk : own_sk bs nn ee) (hj : j0 ≤ ee) :
    Met l Z (⟨"com/example/frugal_kripke/frugalkripke/model/LineCursor", "nextIs", "(C)Z"⟩ : MethodName) prog_48_method_14_code 2 (some .boolean) [] ({ frames := 2, cells := 0, slots := 0, locals := 24 } : Room) #[(.ref o), (.int ch)] h n0 (RI fun r h' => r = own_nx bs n eI ch ∧ Keep h h' [o] ∧ Exa Z h' o "com/example/frugal_kripke/frugalkripke/model/LineCursor" ∧ Fld Z h' o "com/example/frugal_kripke/frugalkripke/model/LineCursor" "line" "I" (.int ln) ∧ Fld Z h' o "com/example/frugal_kripke/frugalkripke/model/LineCursor" "text" "[B" (.ref arr) ∧ Fld Z h' o "com/example/frugal_kripke/frugalkripke/model/LineCursor" "length" "I" (.int n) ∧ Fld Z h' o "com/example/frugal_kripke/frugalkripke/model/LineCursor" "position" "I" (.int eI)) := by
  refine start (ls := #[.val (.ref o), .val (.int ch)]) (plainFor_of_name pn7) (fun m => by first | (simp [entryFrame, mkF, argsToLocals, Value.category]; done) | rfl) ?_
  intro p e s m below meth c T G w X
  subst heI
  have K := Keep.refl h [o]
  refine aloadN w X d11_0 1 rfl rfl rfl ?_
  refine callPV w X [] (wd42 hw) (wd43 hw) (nf_same (a := #[]) (mvT w.2.2.2.2.1 (wd26 hw)) (mvT w.2.2.2.2.1 (wd25 hw)) rfl) (wd44 hw) (wd8 hw) (wd45 hw) (by decide) E_o (rm_sk hw o arr ln n po (Int32.ofNat ee) bs nn ee j0 h n0 zn E_o F_line_o F_text_o F_length_o F_position_o g_o V_arr ne_arr_o hn hpo rfl hsk hj) d11_1 4 rfl 0 (by decide) (by decide) (lenOf pd2 rfl) rfl (Nat.le_of_eq rfl) rfl (by decide) (by decide) (fun T h1 X hq => ?_)
  obtain ⟨Kq, E_o, F_line_o, F_text_o, F_length_o, F_position_o⟩ := hq
  have zn : n0 ≤ h1.size := Nat.le_trans zn Kq.1
  have K := K.trans Kq (allS (Or.inl (List.mem_of_getElem? (i := 0) rfl)) all0)
  have V_arr := V_arr.keep Kq (ninS ne_arr_o nin0)
  refine aloadN w X d11_4 5 rfl rfl rfl ?_
  refine getfield w X (wd34 hw) Via.refl F_position_o d11_5 8 rfl (fun T X => ?_)
  refine aloadN w X d11_8 9 rfl rfl rfl ?_
  refine getfield w X (wd32 hw) Via.refl F_length_o d11_9 12 rfl (fun T X => ?_)
  refine icmp_ge w X d11_12 32 15 (by decide) (by decide) rfl (fun hc12_2 => ?_) (fun hc12_2 => ?_)
  ·
    refine iconst w X (0 : Int32) d11_32 33 rfl rfl ?_
    refine retN w X (t := .boolean) rfl (by simp) d11_33 (by decide) (by decide) ?_
    exact ⟨(0 : Int32), rfl, (if_neg (fun q => hc12_2 q.1)).symm, K, E_o, F_line_o, F_text_o, F_length_o, F_position_o⟩
  ·
    refine aloadN w X d11_15 16 rfl rfl rfl ?_
    refine getfield w X (wd30 hw) Via.refl F_text_o d11_16 19 rfl (fun T X => ?_)
    refine aloadN w X d11_19 20 rfl rfl rfl ?_
    refine getfield w X (wd34 hw) Via.refl F_position_o d11_20 23 rfl (fun T X => ?_)
    have hx := own_ix hsk (Nat.le_refl _) hn hc12_2
    obtain ⟨r3, hr3⟩ : ∃ z : Int32, z = (bs.getD ee 0) := ⟨_, rfl⟩
    refine baload w X V_arr hx.1 ee hx.2.1 hx.2.2.1 d11_23 24 rfl r3 hr3 ?_
    refine iloadN w X d11_24 25 rfl rfl ?_
    refine icmp_ne w X d11_25 32 28 (by decide) (by decide) rfl (fun hc25_4 => ?_) (fun hc25_4 => ?_)
    ·
      refine iconst w X (0 : Int32) d11_32 33 rfl rfl ?_
      refine retN w X (t := .boolean) rfl (by simp) d11_33 (by decide) (by decide) ?_
      exact ⟨(0 : Int32), rfl, (if_neg (fun q => hc25_4 (by rw [hr3, ← hx.2.1]; exact q.2))).symm, K, E_o, F_line_o, F_text_o, F_length_o, F_position_o⟩
    ·
      refine iconst w X (1 : Int32) d11_28 29 rfl rfl ?_
      refine goto w X d11_29 33 (by decide) (by decide) ?_
      refine retN w X (t := .boolean) rfl (by simp) d11_33 (by decide) (by decide) ?_
      exact ⟨(1 : Int32), rfl, (if_pos ⟨hc12_2, by rw [hx.2.1, ← hr3]; exact hc25_4⟩).symm, K, E_o, F_line_o, F_text_o, F_length_o, F_position_o⟩
theorem d8_0 : decode prog_48_method_4_code 0 = .ok (.aload_n 0, 1) := by decide +kernel
theorem d8_1 : decode prog_48_method_4_code 1 = .ok (.getfield 35, 3) := by decide +kernel
theorem d8_4 : decode prog_48_method_4_code 4 = .ok (.ireturn, 1) := by decide +kernel
set_option maxRecDepth 65536 in
set_option maxHeartbeats 40000000 in
theorem rm_li {l : Launch} {Z : State} {a0 : Array Value} (hw : ∀ d ∈ tables_1, d.before a0 Z = true) (o : Addr) (ln : Int32) (h : Heap) (n0 : Nat) (zn : n0 ≤ h.size) (F_line_o : Fld Z h o "com/example/frugal_kripke/frugalkripke/model/LineCursor" "line" "I" (.int ln)) :
    Met l Z (⟨"com/example/frugal_kripke/frugalkripke/model/LineCursor", "line", "()I"⟩ : MethodName) prog_48_method_4_code 1 (some .int) [] ({ frames := 0, cells := 0, slots := 0, locals := 0 } : Room) #[(.ref o)] h n0 (RI fun r h' => h' = h ∧ r = ln) := by
  refine start (ls := #[.val (.ref o)]) (plainFor_of_name pn7) (fun m => by first | (simp [entryFrame, mkF, argsToLocals, Value.category]; done) | rfl) ?_
  intro p e s m below meth c T G w X
  refine aloadN w X d8_0 1 rfl rfl rfl ?_
  refine getfield w X (wd28 hw) Via.refl F_line_o d8_1 4 rfl (fun T X => ?_)
  refine retI w X rfl d8_4 (by decide) (by decide) ?_
  exact ⟨_, rfl, rfl, rfl⟩
set_option maxRecDepth 65536 in
set_option maxHeartbeats 40000000 in
theorem lf9_1 (n : Int32) (eI : Int32) (b0 : Int32) (b1 : Int32) (b2 : Int32) (b3 : Int32) (hc1_1 : ¬ ((0 : Int32) < n)) (hc17_2 : ¬ ((1 : Int32) < n)) (hc33_3 : ¬ ((2 : Int32) < n)) (hc49_4 : ¬ ((3 : Int32) < n)) (H1 : (¬ eI < 0 ∧ ¬ n < eI ∧ ¬ 4 < n)) (H2 : ((¬ 0 < eI ∨ own_bl b0 = 1) ∧ (¬ 1 < eI ∨ own_bl b1 = 1) ∧ (¬ 2 < eI ∨ own_bl b2 = 1) ∧ (¬ 3 < eI ∨ own_bl b3 = 1))) (H3 : (eI = n ∨ (eI = 0 ∧ 0 < n ∧ own_bl b0 = 0) ∨ (eI = 1 ∧ 1 < n ∧ own_bl b1 = 0) ∨ (eI = 2 ∧ 2 < n ∧ own_bl b2 = 0) ∨ (eI = 3 ∧ 3 < n ∧ own_bl b3 = 0))) : n = eI := by
  have := b32 n
  have := b32 eI
  have := b32 b0
  have := b32 b1
  have := b32 b2
  have := b32 b3
  try simp only [Int32.lt_iff_toInt_lt, ← Int32.toInt_inj, Int32.reduceToInt, Int64.lt_iff_toInt_lt, ← Int64.toInt_inj, Int64.reduceToInt, true_and, and_true, true_or, or_true, false_or, or_false, false_and, and_false, not_true_eq_false, not_false_eq_true] at *
  omega
set_option maxRecDepth 65536 in
set_option maxHeartbeats 40000000 in
theorem lf9_2 (n : Int32) (eI : Int32) (b0 : Int32) (b1 : Int32) (b2 : Int32) (b3 : Int32) (r5 : Int32) (hc1_1 : ¬ ((0 : Int32) < n)) (hc17_2 : ¬ ((1 : Int32) < n)) (hc33_3 : ¬ ((2 : Int32) < n)) (hc49_4 : (3 : Int32) < n) (hr5 : r5 = own_bl b3) (hc58_6 : ¬ (r5 = 0)) (H1 : (¬ eI < 0 ∧ ¬ n < eI ∧ ¬ 4 < n)) (H2 : ((¬ 0 < eI ∨ own_bl b0 = 1) ∧ (¬ 1 < eI ∨ own_bl b1 = 1) ∧ (¬ 2 < eI ∨ own_bl b2 = 1) ∧ (¬ 3 < eI ∨ own_bl b3 = 1))) (H3 : (eI = n ∨ (eI = 0 ∧ 0 < n ∧ own_bl b0 = 0) ∨ (eI = 1 ∧ 1 < n ∧ own_bl b1 = 0) ∨ (eI = 2 ∧ 2 < n ∧ own_bl b2 = 0) ∨ (eI = 3 ∧ 3 < n ∧ own_bl b3 = 0))) : n = eI := by
  have := b32 n
  have := b32 eI
  have := b32 b0
  have := b32 b1
  have := b32 b2
  have := b32 b3
  have := b32 r5
  try simp only [Int32.lt_iff_toInt_lt, ← Int32.toInt_inj, Int32.reduceToInt, Int64.lt_iff_toInt_lt, ← Int64.toInt_inj, Int64.reduceToInt, true_and, and_true, true_or, or_true, false_or, or_false, false_and, and_false, not_true_eq_false, not_false_eq_true] at *
  omega
set_option maxRecDepth 65536 in
set_option maxHeartbeats 40000000 in
theorem lf9_3 (n : Int32) (eI : Int32) (b0 : Int32) (b1 : Int32) (b2 : Int32) (b3 : Int32) (r5 : Int32) (hc1_1 : ¬ ((0 : Int32) < n)) (hc17_2 : ¬ ((1 : Int32) < n)) (hc33_3 : ¬ ((2 : Int32) < n)) (hc49_4 : (3 : Int32) < n) (hr5 : r5 = own_bl b3) (hc58_6 : r5 = 0) (H1 : (¬ eI < 0 ∧ ¬ n < eI ∧ ¬ 4 < n)) (H2 : ((¬ 0 < eI ∨ own_bl b0 = 1) ∧ (¬ 1 < eI ∨ own_bl b1 = 1) ∧ (¬ 2 < eI ∨ own_bl b2 = 1) ∧ (¬ 3 < eI ∨ own_bl b3 = 1))) (H3 : (eI = n ∨ (eI = 0 ∧ 0 < n ∧ own_bl b0 = 0) ∨ (eI = 1 ∧ 1 < n ∧ own_bl b1 = 0) ∨ (eI = 2 ∧ 2 < n ∧ own_bl b2 = 0) ∨ (eI = 3 ∧ 3 < n ∧ own_bl b3 = 0))) : (3 : Int32) = eI := by
  have := b32 n
  have := b32 eI
  have := b32 b0
  have := b32 b1
  have := b32 b2
  have := b32 b3
  have := b32 r5
  try simp only [Int32.lt_iff_toInt_lt, ← Int32.toInt_inj, Int32.reduceToInt, Int64.lt_iff_toInt_lt, ← Int64.toInt_inj, Int64.reduceToInt, true_and, and_true, true_or, or_true, false_or, or_false, false_and, and_false, not_true_eq_false, not_false_eq_true] at *
  omega
set_option maxRecDepth 65536 in
set_option maxHeartbeats 40000000 in
theorem lf9_4 (n : Int32) (eI : Int32) (b0 : Int32) (b1 : Int32) (b2 : Int32) (b3 : Int32) (r7 : Int32) (hc1_1 : ¬ ((0 : Int32) < n)) (hc17_2 : ¬ ((1 : Int32) < n)) (hc33_3 : (2 : Int32) < n) (hr7 : r7 = own_bl b2) (hc42_8 : ¬ (r7 = 0)) (hc49_9 : ¬ ((3 : Int32) < n)) (H1 : (¬ eI < 0 ∧ ¬ n < eI ∧ ¬ 4 < n)) (H2 : ((¬ 0 < eI ∨ own_bl b0 = 1) ∧ (¬ 1 < eI ∨ own_bl b1 = 1) ∧ (¬ 2 < eI ∨ own_bl b2 = 1) ∧ (¬ 3 < eI ∨ own_bl b3 = 1))) (H3 : (eI = n ∨ (eI = 0 ∧ 0 < n ∧ own_bl b0 = 0) ∨ (eI = 1 ∧ 1 < n ∧ own_bl b1 = 0) ∨ (eI = 2 ∧ 2 < n ∧ own_bl b2 = 0) ∨ (eI = 3 ∧ 3 < n ∧ own_bl b3 = 0))) : n = eI := by
  have := b32 n
  have := b32 eI
  have := b32 b0
  have := b32 b1
  have := b32 b2
  have := b32 b3
  have := b32 r7
  try simp only [Int32.lt_iff_toInt_lt, ← Int32.toInt_inj, Int32.reduceToInt, Int64.lt_iff_toInt_lt, ← Int64.toInt_inj, Int64.reduceToInt, true_and, and_true, true_or, or_true, false_or, or_false, false_and, and_false, not_true_eq_false, not_false_eq_true] at *
  omega
set_option maxRecDepth 65536 in
set_option maxHeartbeats 40000000 in
theorem lf9_5 (n : Int32) (eI : Int32) (b0 : Int32) (b1 : Int32) (b2 : Int32) (b3 : Int32) (r7 : Int32) (r10 : Int32) (hc1_1 : ¬ ((0 : Int32) < n)) (hc17_2 : ¬ ((1 : Int32) < n)) (hc33_3 : (2 : Int32) < n) (hr7 : r7 = own_bl b2) (hc42_8 : ¬ (r7 = 0)) (hc49_9 : (3 : Int32) < n) (hr10 : r10 = own_bl b3) (hc58_11 : ¬ (r10 = 0)) (H1 : (¬ eI < 0 ∧ ¬ n < eI ∧ ¬ 4 < n)) (H2 : ((¬ 0 < eI ∨ own_bl b0 = 1) ∧ (¬ 1 < eI ∨ own_bl b1 = 1) ∧ (¬ 2 < eI ∨ own_bl b2 = 1) ∧ (¬ 3 < eI ∨ own_bl b3 = 1))) (H3 : (eI = n ∨ (eI = 0 ∧ 0 < n ∧ own_bl b0 = 0) ∨ (eI = 1 ∧ 1 < n ∧ own_bl b1 = 0) ∨ (eI = 2 ∧ 2 < n ∧ own_bl b2 = 0) ∨ (eI = 3 ∧ 3 < n ∧ own_bl b3 = 0))) : n = eI := by
  have := b32 n
  have := b32 eI
  have := b32 b0
  have := b32 b1
  have := b32 b2
  have := b32 b3
  have := b32 r7
  have := b32 r10
  try simp only [Int32.lt_iff_toInt_lt, ← Int32.toInt_inj, Int32.reduceToInt, Int64.lt_iff_toInt_lt, ← Int64.toInt_inj, Int64.reduceToInt, true_and, and_true, true_or, or_true, false_or, or_false, false_and, and_false, not_true_eq_false, not_false_eq_true] at *
  omega
set_option maxRecDepth 65536 in
set_option maxHeartbeats 40000000 in
theorem lf9_6 (n : Int32) (eI : Int32) (b0 : Int32) (b1 : Int32) (b2 : Int32) (b3 : Int32) (r7 : Int32) (r10 : Int32) (hc1_1 : ¬ ((0 : Int32) < n)) (hc17_2 : ¬ ((1 : Int32) < n)) (hc33_3 : (2 : Int32) < n) (hr7 : r7 = own_bl b2) (hc42_8 : ¬ (r7 = 0)) (hc49_9 : (3 : Int32) < n) (hr10 : r10 = own_bl b3) (hc58_11 : r10 = 0) (H1 : (¬ eI < 0 ∧ ¬ n < eI ∧ ¬ 4 < n)) (H2 : ((¬ 0 < eI ∨ own_bl b0 = 1) ∧ (¬ 1 < eI ∨ own_bl b1 = 1) ∧ (¬ 2 < eI ∨ own_bl b2 = 1) ∧ (¬ 3 < eI ∨ own_bl b3 = 1))) (H3 : (eI = n ∨ (eI = 0 ∧ 0 < n ∧ own_bl b0 = 0) ∨ (eI = 1 ∧ 1 < n ∧ own_bl b1 = 0) ∨ (eI = 2 ∧ 2 < n ∧ own_bl b2 = 0) ∨ (eI = 3 ∧ 3 < n ∧ own_bl b3 = 0))) : (3 : Int32) = eI := by
  have := b32 n
  have := b32 eI
  have := b32 b0
  have := b32 b1
  have := b32 b2
  have := b32 b3
  have := b32 r7
  have := b32 r10
  try simp only [Int32.lt_iff_toInt_lt, ← Int32.toInt_inj, Int32.reduceToInt, Int64.lt_iff_toInt_lt, ← Int64.toInt_inj, Int64.reduceToInt, true_and, and_true, true_or, or_true, false_or, or_false, false_and, and_false, not_true_eq_false, not_false_eq_true] at *
  omega
set_option maxRecDepth 65536 in
set_option maxHeartbeats 40000000 in
theorem lf9_7 (n : Int32) (eI : Int32) (b0 : Int32) (b1 : Int32) (b2 : Int32) (b3 : Int32) (r7 : Int32) (hc1_1 : ¬ ((0 : Int32) < n)) (hc17_2 : ¬ ((1 : Int32) < n)) (hc33_3 : (2 : Int32) < n) (hr7 : r7 = own_bl b2) (hc42_8 : r7 = 0) (H1 : (¬ eI < 0 ∧ ¬ n < eI ∧ ¬ 4 < n)) (H2 : ((¬ 0 < eI ∨ own_bl b0 = 1) ∧ (¬ 1 < eI ∨ own_bl b1 = 1) ∧ (¬ 2 < eI ∨ own_bl b2 = 1) ∧ (¬ 3 < eI ∨ own_bl b3 = 1))) (H3 : (eI = n ∨ (eI = 0 ∧ 0 < n ∧ own_bl b0 = 0) ∨ (eI = 1 ∧ 1 < n ∧ own_bl b1 = 0) ∨ (eI = 2 ∧ 2 < n ∧ own_bl b2 = 0) ∨ (eI = 3 ∧ 3 < n ∧ own_bl b3 = 0))) : (2 : Int32) = eI := by
  have := b32 n
  have := b32 eI
  have := b32 b0
  have := b32 b1
  have := b32 b2
  have := b32 b3
  have := b32 r7
  try simp only [Int32.lt_iff_toInt_lt, ← Int32.toInt_inj, Int32.reduceToInt, Int64.lt_iff_toInt_lt, ← Int64.toInt_inj, Int64.reduceToInt, true_and, and_true, true_or, or_true, false_or, or_false, false_and, and_false, not_true_eq_false, not_false_eq_true] at *
  omega
set_option maxRecDepth 65536 in
set_option maxHeartbeats 40000000 in
theorem lf9_8 (n : Int32) (eI : Int32) (b0 : Int32) (b1 : Int32) (b2 : Int32) (b3 : Int32) (r12 : Int32) (hc1_1 : ¬ ((0 : Int32) < n)) (hc17_2 : (1 : Int32) < n) (hr12 : r12 = own_bl b1) (hc26_13 : ¬ (r12 = 0)) (hc33_14 : ¬ ((2 : Int32) < n)) (hc49_15 : ¬ ((3 : Int32) < n)) (H1 : (¬ eI < 0 ∧ ¬ n < eI ∧ ¬ 4 < n)) (H2 : ((¬ 0 < eI ∨ own_bl b0 = 1) ∧ (¬ 1 < eI ∨ own_bl b1 = 1) ∧ (¬ 2 < eI ∨ own_bl b2 = 1) ∧ (¬ 3 < eI ∨ own_bl b3 = 1))) (H3 : (eI = n ∨ (eI = 0 ∧ 0 < n ∧ own_bl b0 = 0) ∨ (eI = 1 ∧ 1 < n ∧ own_bl b1 = 0) ∨ (eI = 2 ∧ 2 < n ∧ own_bl b2 = 0) ∨ (eI = 3 ∧ 3 < n ∧ own_bl b3 = 0))) : n = eI := by
  have := b32 n
  have := b32 eI
  have := b32 b0
  have := b32 b1
  have := b32 b2
  have := b32 b3
  have := b32 r12
  try simp only [Int32.lt_iff_toInt_lt, ← Int32.toInt_inj, Int32.reduceToInt, Int64.lt_iff_toInt_lt, ← Int64.toInt_inj, Int64.reduceToInt, true_and, and_true, true_or, or_true, false_or, or_false, false_and, and_false, not_true_eq_false, not_false_eq_true] at *
  omega
set_option maxRecDepth 65536 in
set_option maxHeartbeats 40000000 in
theorem lf9_9 (n : Int32) (eI : Int32) (b0 : Int32) (b1 : Int32) (b2 : Int32) (b3 : Int32) (r12 : Int32) (r16 : Int32) (hc1_1 : ¬ ((0 : Int32) < n)) (hc17_2 : (1 : Int32) < n) (hr12 : r12 = own_bl b1) (hc26_13 : ¬ (r12 = 0)) (hc33_14 : ¬ ((2 : Int32) < n)) (hc49_15 : (3 : Int32) < n) (hr16 : r16 = own_bl b3) (hc58_17 : ¬ (r16 = 0)) (H1 : (¬ eI < 0 ∧ ¬ n < eI ∧ ¬ 4 < n)) (H2 : ((¬ 0 < eI ∨ own_bl b0 = 1) ∧ (¬ 1 < eI ∨ own_bl b1 = 1) ∧ (¬ 2 < eI ∨ own_bl b2 = 1) ∧ (¬ 3 < eI ∨ own_bl b3 = 1))) (H3 : (eI = n ∨ (eI = 0 ∧ 0 < n ∧ own_bl b0 = 0) ∨ (eI = 1 ∧ 1 < n ∧ own_bl b1 = 0) ∨ (eI = 2 ∧ 2 < n ∧ own_bl b2 = 0) ∨ (eI = 3 ∧ 3 < n ∧ own_bl b3 = 0))) : n = eI := by
  have := b32 n
  have := b32 eI
  have := b32 b0
  have := b32 b1
  have := b32 b2
  have := b32 b3
  have := b32 r12
  have := b32 r16
  try simp only [Int32.lt_iff_toInt_lt, ← Int32.toInt_inj, Int32.reduceToInt, Int64.lt_iff_toInt_lt, ← Int64.toInt_inj, Int64.reduceToInt, true_and, and_true, true_or, or_true, false_or, or_false, false_and, and_false, not_true_eq_false, not_false_eq_true] at *
  omega
set_option maxRecDepth 65536 in
set_option maxHeartbeats 40000000 in
theorem lf9_10 (n : Int32) (eI : Int32) (b0 : Int32) (b1 : Int32) (b2 : Int32) (b3 : Int32) (r12 : Int32) (r16 : Int32) (hc1_1 : ¬ ((0 : Int32) < n)) (hc17_2 : (1 : Int32) < n) (hr12 : r12 = own_bl b1) (hc26_13 : ¬ (r12 = 0)) (hc33_14 : ¬ ((2 : Int32) < n)) (hc49_15 : (3 : Int32) < n) (hr16 : r16 = own_bl b3) (hc58_17 : r16 = 0) (H1 : (¬ eI < 0 ∧ ¬ n < eI ∧ ¬ 4 < n)) (H2 : ((¬ 0 < eI ∨ own_bl b0 = 1) ∧ (¬ 1 < eI ∨ own_bl b1 = 1) ∧ (¬ 2 < eI ∨ own_bl b2 = 1) ∧ (¬ 3 < eI ∨ own_bl b3 = 1))) (H3 : (eI = n ∨ (eI = 0 ∧ 0 < n ∧ own_bl b0 = 0) ∨ (eI = 1 ∧ 1 < n ∧ own_bl b1 = 0) ∨ (eI = 2 ∧ 2 < n ∧ own_bl b2 = 0) ∨ (eI = 3 ∧ 3 < n ∧ own_bl b3 = 0))) : (3 : Int32) = eI := by
  have := b32 n
  have := b32 eI
  have := b32 b0
  have := b32 b1
  have := b32 b2
  have := b32 b3
  have := b32 r12
  have := b32 r16
  try simp only [Int32.lt_iff_toInt_lt, ← Int32.toInt_inj, Int32.reduceToInt, Int64.lt_iff_toInt_lt, ← Int64.toInt_inj, Int64.reduceToInt, true_and, and_true, true_or, or_true, false_or, or_false, false_and, and_false, not_true_eq_false, not_false_eq_true] at *
  omega
set_option maxRecDepth 65536 in
set_option maxHeartbeats 40000000 in
theorem lf9_11 (n : Int32) (eI : Int32) (b0 : Int32) (b1 : Int32) (b2 : Int32) (b3 : Int32) (r12 : Int32) (r18 : Int32) (hc1_1 : ¬ ((0 : Int32) < n)) (hc17_2 : (1 : Int32) < n) (hr12 : r12 = own_bl b1) (hc26_13 : ¬ (r12 = 0)) (hc33_14 : (2 : Int32) < n) (hr18 : r18 = own_bl b2) (hc42_19 : ¬ (r18 = 0)) (hc49_20 : ¬ ((3 : Int32) < n)) (H1 : (¬ eI < 0 ∧ ¬ n < eI ∧ ¬ 4 < n)) (H2 : ((¬ 0 < eI ∨ own_bl b0 = 1) ∧ (¬ 1 < eI ∨ own_bl b1 = 1) ∧ (¬ 2 < eI ∨ own_bl b2 = 1) ∧ (¬ 3 < eI ∨ own_bl b3 = 1))) (H3 : (eI = n ∨ (eI = 0 ∧ 0 < n ∧ own_bl b0 = 0) ∨ (eI = 1 ∧ 1 < n ∧ own_bl b1 = 0) ∨ (eI = 2 ∧ 2 < n ∧ own_bl b2 = 0) ∨ (eI = 3 ∧ 3 < n ∧ own_bl b3 = 0))) : n = eI := by
  have := b32 n
  have := b32 eI
  have := b32 b0
  have := b32 b1
  have := b32 b2
  have := b32 b3
  have := b32 r12
  have := b32 r18
  try simp only [Int32.lt_iff_toInt_lt, ← Int32.toInt_inj, Int32.reduceToInt, Int64.lt_iff_toInt_lt, ← Int64.toInt_inj, Int64.reduceToInt, true_and, and_true, true_or, or_true, false_or, or_false, false_and, and_false, not_true_eq_false, not_false_eq_true] at *
  omega
set_option maxRecDepth 65536 in
set_option maxHeartbeats 40000000 in
theorem lf9_12 (n : Int32) (eI : Int32) (b0 : Int32) (b1 : Int32) (b2 : Int32) (b3 : Int32) (r12 : Int32) (r18 : Int32) (r21 : Int32) (hc1_1 : ¬ ((0 : Int32) < n)) (hc17_2 : (1 : Int32) < n) (hr12 : r12 = own_bl b1) (hc26_13 : ¬ (r12 = 0)) (hc33_14 : (2 : Int32) < n) (hr18 : r18 = own_bl b2) (hc42_19 : ¬ (r18 = 0)) (hc49_20 : (3 : Int32) < n) (hr21 : r21 = own_bl b3) (hc58_22 : ¬ (r21 = 0)) (H1 : (¬ eI < 0 ∧ ¬ n < eI ∧ ¬ 4 < n)) (H2 : ((¬ 0 < eI ∨ own_bl b0 = 1) ∧ (¬ 1 < eI ∨ own_bl b1 = 1) ∧ (¬ 2 < eI ∨ own_bl b2 = 1) ∧ (¬ 3 < eI ∨ own_bl b3 = 1))) (H3 : (eI = n ∨ (eI = 0 ∧ 0 < n ∧ own_bl b0 = 0) ∨ (eI = 1 ∧ 1 < n ∧ own_bl b1 = 0) ∨ (eI = 2 ∧ 2 < n ∧ own_bl b2 = 0) ∨ (eI = 3 ∧ 3 < n ∧ own_bl b3 = 0))) : n = eI := by
  have := b32 n
  have := b32 eI
  have := b32 b0
  have := b32 b1
  have := b32 b2
  have := b32 b3
  have := b32 r12
  have := b32 r18
  have := b32 r21
  try simp only [Int32.lt_iff_toInt_lt, ← Int32.toInt_inj, Int32.reduceToInt, Int64.lt_iff_toInt_lt, ← Int64.toInt_inj, Int64.reduceToInt, true_and, and_true, true_or, or_true, false_or, or_false, false_and, and_false, not_true_eq_false, not_false_eq_true] at *
  omega
set_option maxRecDepth 65536 in
set_option maxHeartbeats 40000000 in
theorem lf9_13 (n : Int32) (eI : Int32) (b0 : Int32) (b1 : Int32) (b2 : Int32) (b3 : Int32) (r12 : Int32) (r18 : Int32) (r21 : Int32) (hc1_1 : ¬ ((0 : Int32) < n)) (hc17_2 : (1 : Int32) < n) (hr12 : r12 = own_bl b1) (hc26_13 : ¬ (r12 = 0)) (hc33_14 : (2 : Int32) < n) (hr18 : r18 = own_bl b2) (hc42_19 : ¬ (r18 = 0)) (hc49_20 : (3 : Int32) < n) (hr21 : r21 = own_bl b3) (hc58_22 : r21 = 0) (H1 : (¬ eI < 0 ∧ ¬ n < eI ∧ ¬ 4 < n)) (H2 : ((¬ 0 < eI ∨ own_bl b0 = 1) ∧ (¬ 1 < eI ∨ own_bl b1 = 1) ∧ (¬ 2 < eI ∨ own_bl b2 = 1) ∧ (¬ 3 < eI ∨ own_bl b3 = 1))) (H3 : (eI = n ∨ (eI = 0 ∧ 0 < n ∧ own_bl b0 = 0) ∨ (eI = 1 ∧ 1 < n ∧ own_bl b1 = 0) ∨ (eI = 2 ∧ 2 < n ∧ own_bl b2 = 0) ∨ (eI = 3 ∧ 3 < n ∧ own_bl b3 = 0))) : (3 : Int32) = eI := by
  have := b32 n
  have := b32 eI
  have := b32 b0
  have := b32 b1
  have := b32 b2
  have := b32 b3
  have := b32 r12
  have := b32 r18
  have := b32 r21
  try simp only [Int32.lt_iff_toInt_lt, ← Int32.toInt_inj, Int32.reduceToInt, Int64.lt_iff_toInt_lt, ← Int64.toInt_inj, Int64.reduceToInt, true_and, and_true, true_or, or_true, false_or, or_false, false_and, and_false, not_true_eq_false, not_false_eq_true] at *
  omega
set_option maxRecDepth 65536 in
set_option maxHeartbeats 40000000 in
theorem lf9_14 (n : Int32) (eI : Int32) (b0 : Int32) (b1 : Int32) (b2 : Int32) (b3 : Int32) (r12 : Int32) (r18 : Int32) (hc1_1 : ¬ ((0 : Int32) < n)) (hc17_2 : (1 : Int32) < n) (hr12 : r12 = own_bl b1) (hc26_13 : ¬ (r12 = 0)) (hc33_14 : (2 : Int32) < n) (hr18 : r18 = own_bl b2) (hc42_19 : r18 = 0) (H1 : (¬ eI < 0 ∧ ¬ n < eI ∧ ¬ 4 < n)) (H2 : ((¬ 0 < eI ∨ own_bl b0 = 1) ∧ (¬ 1 < eI ∨ own_bl b1 = 1) ∧ (¬ 2 < eI ∨ own_bl b2 = 1) ∧ (¬ 3 < eI ∨ own_bl b3 = 1))) (H3 : (eI = n ∨ (eI = 0 ∧ 0 < n ∧ own_bl b0 = 0) ∨ (eI = 1 ∧ 1 < n ∧ own_bl b1 = 0) ∨ (eI = 2 ∧ 2 < n ∧ own_bl b2 = 0) ∨ (eI = 3 ∧ 3 < n ∧ own_bl b3 = 0))) : (2 : Int32) = eI := by
  have := b32 n
  have := b32 eI
  have := b32 b0
  have := b32 b1
  have := b32 b2
  have := b32 b3
  have := b32 r12
  have := b32 r18
  try simp only [Int32.lt_iff_toInt_lt, ← Int32.toInt_inj, Int32.reduceToInt, Int64.lt_iff_toInt_lt, ← Int64.toInt_inj, Int64.reduceToInt, true_and, and_true, true_or, or_true, false_or, or_false, false_and, and_false, not_true_eq_false, not_false_eq_true] at *
  omega
set_option maxRecDepth 65536 in
set_option maxHeartbeats 40000000 in
theorem lf9_15 (n : Int32) (eI : Int32) (b0 : Int32) (b1 : Int32) (b2 : Int32) (b3 : Int32) (r12 : Int32) (hc1_1 : ¬ ((0 : Int32) < n)) (hc17_2 : (1 : Int32) < n) (hr12 : r12 = own_bl b1) (hc26_13 : r12 = 0) (H1 : (¬ eI < 0 ∧ ¬ n < eI ∧ ¬ 4 < n)) (H2 : ((¬ 0 < eI ∨ own_bl b0 = 1) ∧ (¬ 1 < eI ∨ own_bl b1 = 1) ∧ (¬ 2 < eI ∨ own_bl b2 = 1) ∧ (¬ 3 < eI ∨ own_bl b3 = 1))) (H3 : (eI = n ∨ (eI = 0 ∧ 0 < n ∧ own_bl b0 = 0) ∨ (eI = 1 ∧ 1 < n ∧ own_bl b1 = 0) ∨ (eI = 2 ∧ 2 < n ∧ own_bl b2 = 0) ∨ (eI = 3 ∧ 3 < n ∧ own_bl b3 = 0))) : (1 : Int32) = eI := by
  have := b32 n
  have := b32 eI
  have := b32 b0
  have := b32 b1
  have := b32 b2
  have := b32 b3
  have := b32 r12
  try simp only [Int32.lt_iff_toInt_lt, ← Int32.toInt_inj, Int32.reduceToInt, Int64.lt_iff_toInt_lt, ← Int64.toInt_inj, Int64.reduceToInt, true_and, and_true, true_or, or_true, false_or, or_false, false_and, and_false, not_true_eq_false, not_false_eq_true] at *
  omega
set_option maxRecDepth 65536 in
set_option maxHeartbeats 40000000 in
theorem lf9_16 (n : Int32) (eI : Int32) (b0 : Int32) (b1 : Int32) (b2 : Int32) (b3 : Int32) (r23 : Int32) (hc1_1 : (0 : Int32) < n) (hr23 : r23 = own_bl b0) (hc10_24 : ¬ (r23 = 0)) (hc17_25 : ¬ ((1 : Int32) < n)) (hc33_26 : ¬ ((2 : Int32) < n)) (hc49_27 : ¬ ((3 : Int32) < n)) (H1 : (¬ eI < 0 ∧ ¬ n < eI ∧ ¬ 4 < n)) (H2 : ((¬ 0 < eI ∨ own_bl b0 = 1) ∧ (¬ 1 < eI ∨ own_bl b1 = 1) ∧ (¬ 2 < eI ∨ own_bl b2 = 1) ∧ (¬ 3 < eI ∨ own_bl b3 = 1))) (H3 : (eI = n ∨ (eI = 0 ∧ 0 < n ∧ own_bl b0 = 0) ∨ (eI = 1 ∧ 1 < n ∧ own_bl b1 = 0) ∨ (eI = 2 ∧ 2 < n ∧ own_bl b2 = 0) ∨ (eI = 3 ∧ 3 < n ∧ own_bl b3 = 0))) : n = eI := by
  have := b32 n
  have := b32 eI
  have := b32 b0
  have := b32 b1
  have := b32 b2
  have := b32 b3
  have := b32 r23
  try simp only [Int32.lt_iff_toInt_lt, ← Int32.toInt_inj, Int32.reduceToInt, Int64.lt_iff_toInt_lt, ← Int64.toInt_inj, Int64.reduceToInt, true_and, and_true, true_or, or_true, false_or, or_false, false_and, and_false, not_true_eq_false, not_false_eq_true] at *
  omega
set_option maxRecDepth 65536 in
set_option maxHeartbeats 40000000 in
theorem lf9_17 (n : Int32) (eI : Int32) (b0 : Int32) (b1 : Int32) (b2 : Int32) (b3 : Int32) (r23 : Int32) (r28 : Int32) (hc1_1 : (0 : Int32) < n) (hr23 : r23 = own_bl b0) (hc10_24 : ¬ (r23 = 0)) (hc17_25 : ¬ ((1 : Int32) < n)) (hc33_26 : ¬ ((2 : Int32) < n)) (hc49_27 : (3 : Int32) < n) (hr28 : r28 = own_bl b3) (hc58_29 : ¬ (r28 = 0)) (H1 : (¬ eI < 0 ∧ ¬ n < eI ∧ ¬ 4 < n)) (H2 : ((¬ 0 < eI ∨ own_bl b0 = 1) ∧ (¬ 1 < eI ∨ own_bl b1 = 1) ∧ (¬ 2 < eI ∨ own_bl b2 = 1) ∧ (¬ 3 < eI ∨ own_bl b3 = 1))) (H3 : (eI = n ∨ (eI = 0 ∧ 0 < n ∧ own_bl b0 = 0) ∨ (eI = 1 ∧ 1 < n ∧ own_bl b1 = 0) ∨ (eI = 2 ∧ 2 < n ∧ own_bl b2 = 0) ∨ (eI = 3 ∧ 3 < n ∧ own_bl b3 = 0))) : n = eI := by
  have := b32 n
  have := b32 eI
  have := b32 b0
  have := b32 b1
  have := b32 b2
  have := b32 b3
  have := b32 r23
  have := b32 r28
  try simp only [Int32.lt_iff_toInt_lt, ← Int32.toInt_inj, Int32.reduceToInt, Int64.lt_iff_toInt_lt, ← Int64.toInt_inj, Int64.reduceToInt, true_and, and_true, true_or, or_true, false_or, or_false, false_and, and_false, not_true_eq_false, not_false_eq_true] at *
  omega
set_option maxRecDepth 65536 in
set_option maxHeartbeats 40000000 in
theorem lf9_18 (n : Int32) (eI : Int32) (b0 : Int32) (b1 : Int32) (b2 : Int32) (b3 : Int32) (r23 : Int32) (r28 : Int32) (hc1_1 : (0 : Int32) < n) (hr23 : r23 = own_bl b0) (hc10_24 : ¬ (r23 = 0)) (hc17_25 : ¬ ((1 : Int32) < n)) (hc33_26 : ¬ ((2 : Int32) < n)) (hc49_27 : (3 : Int32) < n) (hr28 : r28 = own_bl b3) (hc58_29 : r28 = 0) (H1 : (¬ eI < 0 ∧ ¬ n < eI ∧ ¬ 4 < n)) (H2 : ((¬ 0 < eI ∨ own_bl b0 = 1) ∧ (¬ 1 < eI ∨ own_bl b1 = 1) ∧ (¬ 2 < eI ∨ own_bl b2 = 1) ∧ (¬ 3 < eI ∨ own_bl b3 = 1))) (H3 : (eI = n ∨ (eI = 0 ∧ 0 < n ∧ own_bl b0 = 0) ∨ (eI = 1 ∧ 1 < n ∧ own_bl b1 = 0) ∨ (eI = 2 ∧ 2 < n ∧ own_bl b2 = 0) ∨ (eI = 3 ∧ 3 < n ∧ own_bl b3 = 0))) : (3 : Int32) = eI := by
  have := b32 n
  have := b32 eI
  have := b32 b0
  have := b32 b1
  have := b32 b2
  have := b32 b3
  have := b32 r23
  have := b32 r28
  try simp only [Int32.lt_iff_toInt_lt, ← Int32.toInt_inj, Int32.reduceToInt, Int64.lt_iff_toInt_lt, ← Int64.toInt_inj, Int64.reduceToInt, true_and, and_true, true_or, or_true, false_or, or_false, false_and, and_false, not_true_eq_false, not_false_eq_true] at *
  omega
set_option maxRecDepth 65536 in
set_option maxHeartbeats 40000000 in
theorem lf9_19 (n : Int32) (eI : Int32) (b0 : Int32) (b1 : Int32) (b2 : Int32) (b3 : Int32) (r23 : Int32) (r30 : Int32) (hc1_1 : (0 : Int32) < n) (hr23 : r23 = own_bl b0) (hc10_24 : ¬ (r23 = 0)) (hc17_25 : ¬ ((1 : Int32) < n)) (hc33_26 : (2 : Int32) < n) (hr30 : r30 = own_bl b2) (hc42_31 : ¬ (r30 = 0)) (hc49_32 : ¬ ((3 : Int32) < n)) (H1 : (¬ eI < 0 ∧ ¬ n < eI ∧ ¬ 4 < n)) (H2 : ((¬ 0 < eI ∨ own_bl b0 = 1) ∧ (¬ 1 < eI ∨ own_bl b1 = 1) ∧ (¬ 2 < eI ∨ own_bl b2 = 1) ∧ (¬ 3 < eI ∨ own_bl b3 = 1))) (H3 : (eI = n ∨ (eI = 0 ∧ 0 < n ∧ own_bl b0 = 0) ∨ (eI = 1 ∧ 1 < n ∧ own_bl b1 = 0) ∨ (eI = 2 ∧ 2 < n ∧ own_bl b2 = 0) ∨ (eI = 3 ∧ 3 < n ∧ own_bl b3 = 0))) : n = eI := by
  have := b32 n
  have := b32 eI
  have := b32 b0
  have := b32 b1
  have := b32 b2
  have := b32 b3
  have := b32 r23
  have := b32 r30
  try simp only [Int32.lt_iff_toInt_lt, ← Int32.toInt_inj, Int32.reduceToInt, Int64.lt_iff_toInt_lt, ← Int64.toInt_inj, Int64.reduceToInt, true_and, and_true, true_or, or_true, false_or, or_false, false_and, and_false, not_true_eq_false, not_false_eq_true] at *
  omega
set_option maxRecDepth 65536 in
set_option maxHeartbeats 40000000 in
theorem lf9_20 (n : Int32) (eI : Int32) (b0 : Int32) (b1 : Int32) (b2 : Int32) (b3 : Int32) (r23 : Int32) (r30 : Int32) (r33 : Int32) (hc1_1 : (0 : Int32) < n) (hr23 : r23 = own_bl b0) (hc10_24 : ¬ (r23 = 0)) (hc17_25 : ¬ ((1 : Int32) < n)) (hc33_26 : (2 : Int32) < n) (hr30 : r30 = own_bl b2) (hc42_31 : ¬ (r30 = 0)) (hc49_32 : (3 : Int32) < n) (hr33 : r33 = own_bl b3) (hc58_34 : ¬ (r33 = 0)) (H1 : (¬ eI < 0 ∧ ¬ n < eI ∧ ¬ 4 < n)) (H2 : ((¬ 0 < eI ∨ own_bl b0 = 1) ∧ (¬ 1 < eI ∨ own_bl b1 = 1) ∧ (¬ 2 < eI ∨ own_bl b2 = 1) ∧ (¬ 3 < eI ∨ own_bl b3 = 1))) (H3 : (eI = n ∨ (eI = 0 ∧ 0 < n ∧ own_bl b0 = 0) ∨ (eI = 1 ∧ 1 < n ∧ own_bl b1 = 0) ∨ (eI = 2 ∧ 2 < n ∧ own_bl b2 = 0) ∨ (eI = 3 ∧ 3 < n ∧ own_bl b3 = 0))) : n = eI := by
  have := b32 n
  have := b32 eI
  have := b32 b0
  have := b32 b1
  have := b32 b2
  have := b32 b3
  have := b32 r23
  have := b32 r30
  have := b32 r33
  try simp only [Int32.lt_iff_toInt_lt, ← Int32.toInt_inj, Int32.reduceToInt, Int64.lt_iff_toInt_lt, ← Int64.toInt_inj, Int64.reduceToInt, true_and, and_true, true_or, or_true, false_or, or_false, false_and, and_false, not_true_eq_false, not_false_eq_true] at *
  omega
set_option maxRecDepth 65536 in
set_option maxHeartbeats 40000000 in
theorem lf9_21 (n : Int32) (eI : Int32) (b0 : Int32) (b1 : Int32) (b2 : Int32) (b3 : Int32) (r23 : Int32) (r30 : Int32) (r33 : Int32) (hc1_1 : (0 : Int32) < n) (hr23 : r23 = own_bl b0) (hc10_24 : ¬ (r23 = 0)) (hc17_25 : ¬ ((1 : Int32) < n)) (hc33_26 : (2 : Int32) < n) (hr30 : r30 = own_bl b2) (hc42_31 : ¬ (r30 = 0)) (hc49_32 : (3 : Int32) < n) (hr33 : r33 = own_bl b3) (hc58_34 : r33 = 0) (H1 : (¬ eI < 0 ∧ ¬ n < eI ∧ ¬ 4 < n)) (H2 : ((¬ 0 < eI ∨ own_bl b0 = 1) ∧ (¬ 1 < eI ∨ own_bl b1 = 1) ∧ (¬ 2 < eI ∨ own_bl b2 = 1) ∧ (¬ 3 < eI ∨ own_bl b3 = 1))) (H3 : (eI = n ∨ (eI = 0 ∧ 0 < n ∧ own_bl b0 = 0) ∨ (eI = 1 ∧ 1 < n ∧ own_bl b1 = 0) ∨ (eI = 2 ∧ 2 < n ∧ own_bl b2 = 0) ∨ (eI = 3 ∧ 3 < n ∧ own_bl b3 = 0))) : (3 : Int32) = eI := by
  have := b32 n
  have := b32 eI
  have := b32 b0
  have := b32 b1
  have := b32 b2
  have := b32 b3
  have := b32 r23
  have := b32 r30
  have := b32 r33
  try simp only [Int32.lt_iff_toInt_lt, ← Int32.toInt_inj, Int32.reduceToInt, Int64.lt_iff_toInt_lt, ← Int64.toInt_inj, Int64.reduceToInt, true_and, and_true, true_or, or_true, false_or, or_false, false_and, and_false, not_true_eq_false, not_false_eq_true] at *
  omega
set_option maxRecDepth 65536 in
set_option maxHeartbeats 40000000 in
theorem lf9_22 (n : Int32) (eI : Int32) (b0 : Int32) (b1 : Int32) (b2 : Int32) (b3 : Int32) (r23 : Int32) (r30 : Int32) (hc1_1 : (0 : Int32) < n) (hr23 : r23 = own_bl b0) (hc10_24 : ¬ (r23 = 0)) (hc17_25 : ¬ ((1 : Int32) < n)) (hc33_26 : (2 : Int32) < n) (hr30 : r30 = own_bl b2) (hc42_31 : r30 = 0) (H1 : (¬ eI < 0 ∧ ¬ n < eI ∧ ¬ 4 < n)) (H2 : ((¬ 0 < eI ∨ own_bl b0 = 1) ∧ (¬ 1 < eI ∨ own_bl b1 = 1) ∧ (¬ 2 < eI ∨ own_bl b2 = 1) ∧ (¬ 3 < eI ∨ own_bl b3 = 1))) (H3 : (eI = n ∨ (eI = 0 ∧ 0 < n ∧ own_bl b0 = 0) ∨ (eI = 1 ∧ 1 < n ∧ own_bl b1 = 0) ∨ (eI = 2 ∧ 2 < n ∧ own_bl b2 = 0) ∨ (eI = 3 ∧ 3 < n ∧ own_bl b3 = 0))) : (2 : Int32) = eI := by
  have := b32 n
  have := b32 eI
  have := b32 b0
  have := b32 b1
  have := b32 b2
  have := b32 b3
  have := b32 r23
  have := b32 r30
  try simp only [Int32.lt_iff_toInt_lt, ← Int32.toInt_inj, Int32.reduceToInt, Int64.lt_iff_toInt_lt, ← Int64.toInt_inj, Int64.reduceToInt, true_and, and_true, true_or, or_true, false_or, or_false, false_and, and_false, not_true_eq_false, not_false_eq_true] at *
  omega
set_option maxRecDepth 65536 in
set_option maxHeartbeats 40000000 in
theorem lf9_23 (n : Int32) (eI : Int32) (b0 : Int32) (b1 : Int32) (b2 : Int32) (b3 : Int32) (r23 : Int32) (r35 : Int32) (hc1_1 : (0 : Int32) < n) (hr23 : r23 = own_bl b0) (hc10_24 : ¬ (r23 = 0)) (hc17_25 : (1 : Int32) < n) (hr35 : r35 = own_bl b1) (hc26_36 : ¬ (r35 = 0)) (hc33_37 : ¬ ((2 : Int32) < n)) (hc49_38 : ¬ ((3 : Int32) < n)) (H1 : (¬ eI < 0 ∧ ¬ n < eI ∧ ¬ 4 < n)) (H2 : ((¬ 0 < eI ∨ own_bl b0 = 1) ∧ (¬ 1 < eI ∨ own_bl b1 = 1) ∧ (¬ 2 < eI ∨ own_bl b2 = 1) ∧ (¬ 3 < eI ∨ own_bl b3 = 1))) (H3 : (eI = n ∨ (eI = 0 ∧ 0 < n ∧ own_bl b0 = 0) ∨ (eI = 1 ∧ 1 < n ∧ own_bl b1 = 0) ∨ (eI = 2 ∧ 2 < n ∧ own_bl b2 = 0) ∨ (eI = 3 ∧ 3 < n ∧ own_bl b3 = 0))) : n = eI := by
  have := b32 n
  have := b32 eI
  have := b32 b0
  have := b32 b1
  have := b32 b2
  have := b32 b3
  have := b32 r23
  have := b32 r35
  try simp only [Int32.lt_iff_toInt_lt, ← Int32.toInt_inj, Int32.reduceToInt, Int64.lt_iff_toInt_lt, ← Int64.toInt_inj, Int64.reduceToInt, true_and, and_true, true_or, or_true, false_or, or_false, false_and, and_false, not_true_eq_false, not_false_eq_true] at *
  omega
set_option maxRecDepth 65536 in
set_option maxHeartbeats 40000000 in
theorem lf9_24 (n : Int32) (eI : Int32) (b0 : Int32) (b1 : Int32) (b2 : Int32) (b3 : Int32) (r23 : Int32) (r35 : Int32) (r39 : Int32) (hc1_1 : (0 : Int32) < n) (hr23 : r23 = own_bl b0) (hc10_24 : ¬ (r23 = 0)) (hc17_25 : (1 : Int32) < n) (hr35 : r35 = own_bl b1) (hc26_36 : ¬ (r35 = 0)) (hc33_37 : ¬ ((2 : Int32) < n)) (hc49_38 : (3 : Int32) < n) (hr39 : r39 = own_bl b3) (hc58_40 : ¬ (r39 = 0)) (H1 : (¬ eI < 0 ∧ ¬ n < eI ∧ ¬ 4 < n)) (H2 : ((¬ 0 < eI ∨ own_bl b0 = 1) ∧ (¬ 1 < eI ∨ own_bl b1 = 1) ∧ (¬ 2 < eI ∨ own_bl b2 = 1) ∧ (¬ 3 < eI ∨ own_bl b3 = 1))) (H3 : (eI = n ∨ (eI = 0 ∧ 0 < n ∧ own_bl b0 = 0) ∨ (eI = 1 ∧ 1 < n ∧ own_bl b1 = 0) ∨ (eI = 2 ∧ 2 < n ∧ own_bl b2 = 0) ∨ (eI = 3 ∧ 3 < n ∧ own_bl b3 = 0))) : n = eI := by
  have := b32 n
  have := b32 eI
  have := b32 b0
  have := b32 b1
  have := b32 b2
  have := b32 b3
  have := b32 r23
  have := b32 r35
  have := b32 r39
  try simp only [Int32.lt_iff_toInt_lt, ← Int32.toInt_inj, Int32.reduceToInt, Int64.lt_iff_toInt_lt, ← Int64.toInt_inj, Int64.reduceToInt, true_and, and_true, true_or, or_true, false_or, or_false, false_and, and_false, not_true_eq_false, not_false_eq_true] at *
  omega
set_option maxRecDepth 65536 in
set_option maxHeartbeats 40000000 in
theorem lf9_25 (n : Int32) (eI : Int32) (b0 : Int32) (b1 : Int32) (b2 : Int32) (b3 : Int32) (r23 : Int32) (r35 : Int32) (r39 : Int32) (hc1_1 : (0 : Int32) < n) (hr23 : r23 = own_bl b0) (hc10_24 : ¬ (r23 = 0)) (hc17_25 : (1 : Int32) < n) (hr35 : r35 = own_bl b1) (hc26_36 : ¬ (r35 = 0)) (hc33_37 : ¬ ((2 : Int32) < n)) (hc49_38 : (3 : Int32) < n) (hr39 : r39 = own_bl b3) (hc58_40 : r39 = 0) (H1 : (¬ eI < 0 ∧ ¬ n < eI ∧ ¬ 4 < n)) (H2 : ((¬ 0 < eI ∨ own_bl b0 = 1) ∧ (¬ 1 < eI ∨ own_bl b1 = 1) ∧ (¬ 2 < eI ∨ own_bl b2 = 1) ∧ (¬ 3 < eI ∨ own_bl b3 = 1))) (H3 : (eI = n ∨ (eI = 0 ∧ 0 < n ∧ own_bl b0 = 0) ∨ (eI = 1 ∧ 1 < n ∧ own_bl b1 = 0) ∨ (eI = 2 ∧ 2 < n ∧ own_bl b2 = 0) ∨ (eI = 3 ∧ 3 < n ∧ own_bl b3 = 0))) : (3 : Int32) = eI := by
  have := b32 n
  have := b32 eI
  have := b32 b0
  have := b32 b1
  have := b32 b2
  have := b32 b3
  have := b32 r23
  have := b32 r35
  have := b32 r39
  try simp only [Int32.lt_iff_toInt_lt, ← Int32.toInt_inj, Int32.reduceToInt, Int64.lt_iff_toInt_lt, ← Int64.toInt_inj, Int64.reduceToInt, true_and, and_true, true_or, or_true, false_or, or_false, false_and, and_false, not_true_eq_false, not_false_eq_true] at *
  omega
set_option maxRecDepth 65536 in
set_option maxHeartbeats 40000000 in
theorem lf9_26 (n : Int32) (eI : Int32) (b0 : Int32) (b1 : Int32) (b2 : Int32) (b3 : Int32) (r23 : Int32) (r35 : Int32) (r41 : Int32) (hc1_1 : (0 : Int32) < n) (hr23 : r23 = own_bl b0) (hc10_24 : ¬ (r23 = 0)) (hc17_25 : (1 : Int32) < n) (hr35 : r35 = own_bl b1) (hc26_36 : ¬ (r35 = 0)) (hc33_37 : (2 : Int32) < n) (hr41 : r41 = own_bl b2) (hc42_42 : ¬ (r41 = 0)) (hc49_43 : ¬ ((3 : Int32) < n)) (H1 : (¬ eI < 0 ∧ ¬ n < eI ∧ ¬ 4 < n)) (H2 : ((¬ 0 < eI ∨ own_bl b0 = 1) ∧ (¬ 1 < eI ∨ own_bl b1 = 1) ∧ (¬ 2 < eI ∨ own_bl b2 = 1) ∧ (¬ 3 < eI ∨ own_bl b3 = 1))) (H3 : (eI = n ∨ (eI = 0 ∧ 0 < n ∧ own_bl b0 = 0) ∨ (eI = 1 ∧ 1 < n ∧ own_bl b1 = 0) ∨ (eI = 2 ∧ 2 < n ∧ own_bl b2 = 0) ∨ (eI = 3 ∧ 3 < n ∧ own_bl b3 = 0))) : n = eI := by
  have := b32 n
  have := b32 eI
  have := b32 b0
  have := b32 b1
  have := b32 b2
  have := b32 b3
  have := b32 r23
  have := b32 r35
  have := b32 r41
  try simp only [Int32.lt_iff_toInt_lt, ← Int32.toInt_inj, Int32.reduceToInt, Int64.lt_iff_toInt_lt, ← Int64.toInt_inj, Int64.reduceToInt, true_and, and_true, true_or, or_true, false_or, or_false, false_and, and_false, not_true_eq_false, not_false_eq_true] at *
  omega
set_option maxRecDepth 65536 in
set_option maxHeartbeats 40000000 in
theorem lf9_27 (n : Int32) (eI : Int32) (b0 : Int32) (b1 : Int32) (b2 : Int32) (b3 : Int32) (r23 : Int32) (r35 : Int32) (r41 : Int32) (r44 : Int32) (hc1_1 : (0 : Int32) < n) (hr23 : r23 = own_bl b0) (hc10_24 : ¬ (r23 = 0)) (hc17_25 : (1 : Int32) < n) (hr35 : r35 = own_bl b1) (hc26_36 : ¬ (r35 = 0)) (hc33_37 : (2 : Int32) < n) (hr41 : r41 = own_bl b2) (hc42_42 : ¬ (r41 = 0)) (hc49_43 : (3 : Int32) < n) (hr44 : r44 = own_bl b3) (hc58_45 : ¬ (r44 = 0)) (H1 : (¬ eI < 0 ∧ ¬ n < eI ∧ ¬ 4 < n)) (H2 : ((¬ 0 < eI ∨ own_bl b0 = 1) ∧ (¬ 1 < eI ∨ own_bl b1 = 1) ∧ (¬ 2 < eI ∨ own_bl b2 = 1) ∧ (¬ 3 < eI ∨ own_bl b3 = 1))) (H3 : (eI = n ∨ (eI = 0 ∧ 0 < n ∧ own_bl b0 = 0) ∨ (eI = 1 ∧ 1 < n ∧ own_bl b1 = 0) ∨ (eI = 2 ∧ 2 < n ∧ own_bl b2 = 0) ∨ (eI = 3 ∧ 3 < n ∧ own_bl b3 = 0))) : n = eI := by
  have := b32 n
  have := b32 eI
  have := b32 b0
  have := b32 b1
  have := b32 b2
  have := b32 b3
  have := b32 r23
  have := b32 r35
  have := b32 r41
  have := b32 r44
  try simp only [Int32.lt_iff_toInt_lt, ← Int32.toInt_inj, Int32.reduceToInt, Int64.lt_iff_toInt_lt, ← Int64.toInt_inj, Int64.reduceToInt, true_and, and_true, true_or, or_true, false_or, or_false, false_and, and_false, not_true_eq_false, not_false_eq_true] at *
  omega
set_option maxRecDepth 65536 in
set_option maxHeartbeats 40000000 in
theorem lf9_28 (n : Int32) (eI : Int32) (b0 : Int32) (b1 : Int32) (b2 : Int32) (b3 : Int32) (r23 : Int32) (r35 : Int32) (r41 : Int32) (r44 : Int32) (hc1_1 : (0 : Int32) < n) (hr23 : r23 = own_bl b0) (hc10_24 : ¬ (r23 = 0)) (hc17_25 : (1 : Int32) < n) (hr35 : r35 = own_bl b1) (hc26_36 : ¬ (r35 = 0)) (hc33_37 : (2 : Int32) < n) (hr41 : r41 = own_bl b2) (hc42_42 : ¬ (r41 = 0)) (hc49_43 : (3 : Int32) < n) (hr44 : r44 = own_bl b3) (hc58_45 : r44 = 0) (H1 : (¬ eI < 0 ∧ ¬ n < eI ∧ ¬ 4 < n)) (H2 : ((¬ 0 < eI ∨ own_bl b0 = 1) ∧ (¬ 1 < eI ∨ own_bl b1 = 1) ∧ (¬ 2 < eI ∨ own_bl b2 = 1) ∧ (¬ 3 < eI ∨ own_bl b3 = 1))) (H3 : (eI = n ∨ (eI = 0 ∧ 0 < n ∧ own_bl b0 = 0) ∨ (eI = 1 ∧ 1 < n ∧ own_bl b1 = 0) ∨ (eI = 2 ∧ 2 < n ∧ own_bl b2 = 0) ∨ (eI = 3 ∧ 3 < n ∧ own_bl b3 = 0))) : (3 : Int32) = eI := by
  have := b32 n
  have := b32 eI
  have := b32 b0
  have := b32 b1
  have := b32 b2
  have := b32 b3
  have := b32 r23
  have := b32 r35
  have := b32 r41
  have := b32 r44
  try simp only [Int32.lt_iff_toInt_lt, ← Int32.toInt_inj, Int32.reduceToInt, Int64.lt_iff_toInt_lt, ← Int64.toInt_inj, Int64.reduceToInt, true_and, and_true, true_or, or_true, false_or, or_false, false_and, and_false, not_true_eq_false, not_false_eq_true] at *
  omega
set_option maxRecDepth 65536 in
set_option maxHeartbeats 40000000 in
theorem lf9_29 (n : Int32) (eI : Int32) (b0 : Int32) (b1 : Int32) (b2 : Int32) (b3 : Int32) (r23 : Int32) (r35 : Int32) (r41 : Int32) (hc1_1 : (0 : Int32) < n) (hr23 : r23 = own_bl b0) (hc10_24 : ¬ (r23 = 0)) (hc17_25 : (1 : Int32) < n) (hr35 : r35 = own_bl b1) (hc26_36 : ¬ (r35 = 0)) (hc33_37 : (2 : Int32) < n) (hr41 : r41 = own_bl b2) (hc42_42 : r41 = 0) (H1 : (¬ eI < 0 ∧ ¬ n < eI ∧ ¬ 4 < n)) (H2 : ((¬ 0 < eI ∨ own_bl b0 = 1) ∧ (¬ 1 < eI ∨ own_bl b1 = 1) ∧ (¬ 2 < eI ∨ own_bl b2 = 1) ∧ (¬ 3 < eI ∨ own_bl b3 = 1))) (H3 : (eI = n ∨ (eI = 0 ∧ 0 < n ∧ own_bl b0 = 0) ∨ (eI = 1 ∧ 1 < n ∧ own_bl b1 = 0) ∨ (eI = 2 ∧ 2 < n ∧ own_bl b2 = 0) ∨ (eI = 3 ∧ 3 < n ∧ own_bl b3 = 0))) : (2 : Int32) = eI := by
  have := b32 n
  have := b32 eI
  have := b32 b0
  have := b32 b1
  have := b32 b2
  have := b32 b3
  have := b32 r23
  have := b32 r35
  have := b32 r41
  try simp only [Int32.lt_iff_toInt_lt, ← Int32.toInt_inj, Int32.reduceToInt, Int64.lt_iff_toInt_lt, ← Int64.toInt_inj, Int64.reduceToInt, true_and, and_true, true_or, or_true, false_or, or_false, false_and, and_false, not_true_eq_false, not_false_eq_true] at *
  omega
set_option maxRecDepth 65536 in
set_option maxHeartbeats 40000000 in
theorem lf9_30 (n : Int32) (eI : Int32) (b0 : Int32) (b1 : Int32) (b2 : Int32) (b3 : Int32) (r23 : Int32) (r35 : Int32) (hc1_1 : (0 : Int32) < n) (hr23 : r23 = own_bl b0) (hc10_24 : ¬ (r23 = 0)) (hc17_25 : (1 : Int32) < n) (hr35 : r35 = own_bl b1) (hc26_36 : r35 = 0) (H1 : (¬ eI < 0 ∧ ¬ n < eI ∧ ¬ 4 < n)) (H2 : ((¬ 0 < eI ∨ own_bl b0 = 1) ∧ (¬ 1 < eI ∨ own_bl b1 = 1) ∧ (¬ 2 < eI ∨ own_bl b2 = 1) ∧ (¬ 3 < eI ∨ own_bl b3 = 1))) (H3 : (eI = n ∨ (eI = 0 ∧ 0 < n ∧ own_bl b0 = 0) ∨ (eI = 1 ∧ 1 < n ∧ own_bl b1 = 0) ∨ (eI = 2 ∧ 2 < n ∧ own_bl b2 = 0) ∨ (eI = 3 ∧ 3 < n ∧ own_bl b3 = 0))) : (1 : Int32) = eI := by
  have := b32 n
  have := b32 eI
  have := b32 b0
  have := b32 b1
  have := b32 b2
  have := b32 b3
  have := b32 r23
  have := b32 r35
  try simp only [Int32.lt_iff_toInt_lt, ← Int32.toInt_inj, Int32.reduceToInt, Int64.lt_iff_toInt_lt, ← Int64.toInt_inj, Int64.reduceToInt, true_and, and_true, true_or, or_true, false_or, or_false, false_and, and_false, not_true_eq_false, not_false_eq_true] at *
  omega
set_option maxRecDepth 65536 in
set_option maxHeartbeats 40000000 in
theorem lf9_31 (n : Int32) (eI : Int32) (b0 : Int32) (b1 : Int32) (b2 : Int32) (b3 : Int32) (r23 : Int32) (hc1_1 : (0 : Int32) < n) (hr23 : r23 = own_bl b0) (hc10_24 : r23 = 0) (H1 : (¬ eI < 0 ∧ ¬ n < eI ∧ ¬ 4 < n)) (H2 : ((¬ 0 < eI ∨ own_bl b0 = 1) ∧ (¬ 1 < eI ∨ own_bl b1 = 1) ∧ (¬ 2 < eI ∨ own_bl b2 = 1) ∧ (¬ 3 < eI ∨ own_bl b3 = 1))) (H3 : (eI = n ∨ (eI = 0 ∧ 0 < n ∧ own_bl b0 = 0) ∨ (eI = 1 ∧ 1 < n ∧ own_bl b1 = 0) ∨ (eI = 2 ∧ 2 < n ∧ own_bl b2 = 0) ∨ (eI = 3 ∧ 3 < n ∧ own_bl b3 = 0))) : (0 : Int32) = eI := by
  have := b32 n
  have := b32 eI
  have := b32 b0
  have := b32 b1
  have := b32 b2
  have := b32 b3
  have := b32 r23
  try simp only [Int32.lt_iff_toInt_lt, ← Int32.toInt_inj, Int32.reduceToInt, Int64.lt_iff_toInt_lt, ← Int64.toInt_inj, Int64.reduceToInt, true_and, and_true, true_or, or_true, false_or, or_false, false_and, and_false, not_true_eq_false, not_false_eq_true] at *
  omega
theorem d9_0 : decode method_4_code 0 = .ok (.iload_n 1, 1) := by decide +kernel
theorem d9_1 : decode method_4_code 1 = .ok (.ifCond .le 14, 3) := by decide +kernel
theorem d9_4 : decode method_4_code 4 = .ok (.aload_n 0, 1) := by decide +kernel
theorem d9_5 : decode method_4_code 5 = .ok (.iconst 0, 1) := by decide +kernel
theorem d9_6 : decode method_4_code 6 = .ok (.baload, 1) := by decide +kernel
theorem d9_7 : decode method_4_code 7 = .ok (.invokestatic 7, 3) := by decide +kernel
theorem d9_10 : decode method_4_code 10 = .ok (.ifCond .ne 5, 3) := by decide +kernel
theorem d9_13 : decode method_4_code 13 = .ok (.iconst 0, 1) := by decide +kernel
theorem d9_14 : decode method_4_code 14 = .ok (.ireturn, 1) := by decide +kernel
theorem d9_15 : decode method_4_code 15 = .ok (.iload_n 1, 1) := by decide +kernel
theorem d9_16 : decode method_4_code 16 = .ok (.iconst 1, 1) := by decide +kernel
theorem d9_17 : decode method_4_code 17 = .ok (.if_icmp .le 14, 3) := by decide +kernel
theorem d9_20 : decode method_4_code 20 = .ok (.aload_n 0, 1) := by decide +kernel
theorem d9_21 : decode method_4_code 21 = .ok (.iconst 1, 1) := by decide +kernel
theorem d9_22 : decode method_4_code 22 = .ok (.baload, 1) := by decide +kernel
theorem d9_23 : decode method_4_code 23 = .ok (.invokestatic 7, 3) := by decide +kernel
theorem d9_26 : decode method_4_code 26 = .ok (.ifCond .ne 5, 3) := by decide +kernel
theorem d9_29 : decode method_4_code 29 = .ok (.iconst 1, 1) := by decide +kernel
theorem d9_30 : decode method_4_code 30 = .ok (.ireturn, 1) := by decide +kernel
theorem d9_31 : decode method_4_code 31 = .ok (.iload_n 1, 1) := by decide +kernel
theorem d9_32 : decode method_4_code 32 = .ok (.iconst 2, 1) := by decide +kernel
theorem d9_33 : decode method_4_code 33 = .ok (.if_icmp .le 14, 3) := by decide +kernel
theorem d9_36 : decode method_4_code 36 = .ok (.aload_n 0, 1) := by decide +kernel
theorem d9_37 : decode method_4_code 37 = .ok (.iconst 2, 1) := by decide +kernel
theorem d9_38 : decode method_4_code 38 = .ok (.baload, 1) := by decide +kernel
theorem d9_39 : decode method_4_code 39 = .ok (.invokestatic 7, 3) := by decide +kernel
theorem d9_42 : decode method_4_code 42 = .ok (.ifCond .ne 5, 3) := by decide +kernel
theorem d9_45 : decode method_4_code 45 = .ok (.iconst 2, 1) := by decide +kernel
theorem d9_46 : decode method_4_code 46 = .ok (.ireturn, 1) := by decide +kernel
theorem d9_47 : decode method_4_code 47 = .ok (.iload_n 1, 1) := by decide +kernel
theorem d9_48 : decode method_4_code 48 = .ok (.iconst 3, 1) := by decide +kernel
theorem d9_49 : decode method_4_code 49 = .ok (.if_icmp .le 14, 3) := by decide +kernel
theorem d9_52 : decode method_4_code 52 = .ok (.aload_n 0, 1) := by decide +kernel
theorem d9_53 : decode method_4_code 53 = .ok (.iconst 3, 1) := by decide +kernel
theorem d9_54 : decode method_4_code 54 = .ok (.baload, 1) := by decide +kernel
theorem d9_55 : decode method_4_code 55 = .ok (.invokestatic 7, 3) := by decide +kernel
theorem d9_58 : decode method_4_code 58 = .ok (.ifCond .ne 5, 3) := by decide +kernel
theorem d9_61 : decode method_4_code 61 = .ok (.iconst 3, 1) := by decide +kernel
theorem d9_62 : decode method_4_code 62 = .ok (.ireturn, 1) := by decide +kernel
theorem d9_63 : decode method_4_code 63 = .ok (.iload_n 1, 1) := by decide +kernel
theorem d9_64 : decode method_4_code 64 = .ok (.ireturn, 1) := by decide +kernel
set_option maxRecDepth 65536 in
set_option maxHeartbeats 40000000 in
theorem rm_fn {l : Launch} {Z : State} {a0 : Array Value} (hw : ∀ d ∈ tables_1, d.before a0 Z = true) (arr : Addr) (n eI b0 b1 b2 b3 : Int32) (nn ee : Nat) (h : Heap) (n0 : Nat) (zn : n0 ≤ h.size) (V_arr : PA Z h arr .byte [b0, b1, b2, b3]) (hn : n = Int32.ofNat nn) (heI : eI = Int32.ofNat ee) (hsk : own_sk [b0, b1, b2, b3] nn ee) :
    Met l Z (⟨"com/example/frugal_kripke/frugalkripke/model/LineCursorResetPinLaw", "firstNonBlank", "([BI)I"⟩ : MethodName) method_4_code 2 (some .int) [] ({ frames := 1, cells := 0, slots := 0, locals := 12 } : Room) #[(.ref arr), (.int n)] h n0 (RI fun r h' => h' = h ∧ r = eI) := by
  refine start (ls := #[.val (.ref arr), .val (.int n)]) (plainFor_of_name pn1) (fun m => by first | (simp [entryFrame, mkF, argsToLocals, Value.category]; done) | rfl) ?_
  intro p e s m below meth c T G w X
  obtain ⟨H1, H2, H3⟩ := own_sk4 hsk hn heI
  refine iloadN w X d9_0 1 rfl rfl ?_
  refine if_le w X d9_1 15 4 (by decide) (by decide) rfl (fun hc1_1 => ?_) (fun hc1_1 => ?_)
  ·
    refine iloadN w X d9_15 16 rfl rfl ?_
    refine iconst w X (1 : Int32) d9_16 17 rfl rfl ?_
    refine icmp_le w X d9_17 31 20 (by decide) (by decide) rfl (fun hc17_2 => ?_) (fun hc17_2 => ?_)
    ·
      refine iloadN w X d9_31 32 rfl rfl ?_
      refine iconst w X (2 : Int32) d9_32 33 rfl rfl ?_
      refine icmp_le w X d9_33 47 36 (by decide) (by decide) rfl (fun hc33_3 => ?_) (fun hc33_3 => ?_)
      ·
        refine iloadN w X d9_47 48 rfl rfl ?_
        refine iconst w X (3 : Int32) d9_48 49 rfl rfl ?_
        refine icmp_le w X d9_49 63 52 (by decide) (by decide) rfl (fun hc49_4 => ?_) (fun hc49_4 => ?_)
        ·
          refine iloadN w X d9_63 64 rfl rfl ?_
          refine retI w X rfl d9_64 (by decide) (by decide) ?_
          exact ⟨n, rfl, rfl, lf9_1 n eI b0 b1 b2 b3 hc1_1 hc17_2 hc33_3 hc49_4 H1 H2 H3⟩
        ·
          refine aloadN w X d9_52 53 rfl rfl rfl ?_
          refine iconst w X (3 : Int32) d9_53 54 rfl rfl ?_
          refine baload w X V_arr (by decide) 3 rfl (Nat.le_of_ble_eq_true rfl) d9_54 55 rfl b3 rfl ?_
          refine callSPI w X [(.int b3)] (wd57 hw) (wd58 hw) (wd3 hw) (wd59 hw) (by decide) (rm_blank hw b3 h n0 zn) d9_55 58 rfl 0 (by decide) (by decide) (lenOf pd3 rfl) rfl (Nat.le_of_eq rfl) rfl (by decide) (by decide) (fun r5 T X hq => ?_)
          have hr5 := hq
          refine if_ne w X d9_58 63 61 (by decide) (by decide) rfl (fun hc58_6 => ?_) (fun hc58_6 => ?_)
          ·
            refine iloadN w X d9_63 64 rfl rfl ?_
            refine retI w X rfl d9_64 (by decide) (by decide) ?_
            exact ⟨n, rfl, rfl, lf9_2 n eI b0 b1 b2 b3 r5 hc1_1 hc17_2 hc33_3 hc49_4 hr5 hc58_6 H1 H2 H3⟩
          ·
            refine iconst w X (3 : Int32) d9_61 62 rfl rfl ?_
            refine retI w X rfl d9_62 (by decide) (by decide) ?_
            exact ⟨(3 : Int32), rfl, rfl, lf9_3 n eI b0 b1 b2 b3 r5 hc1_1 hc17_2 hc33_3 hc49_4 hr5 hc58_6 H1 H2 H3⟩
      ·
        refine aloadN w X d9_36 37 rfl rfl rfl ?_
        refine iconst w X (2 : Int32) d9_37 38 rfl rfl ?_
        refine baload w X V_arr (by decide) 2 rfl (Nat.le_of_ble_eq_true rfl) d9_38 39 rfl b2 rfl ?_
        refine callSPI w X [(.int b2)] (wd57 hw) (wd58 hw) (wd3 hw) (wd59 hw) (by decide) (rm_blank hw b2 h n0 zn) d9_39 42 rfl 0 (by decide) (by decide) (lenOf pd3 rfl) rfl (Nat.le_of_eq rfl) rfl (by decide) (by decide) (fun r7 T X hq => ?_)
        have hr7 := hq
        refine if_ne w X d9_42 47 45 (by decide) (by decide) rfl (fun hc42_8 => ?_) (fun hc42_8 => ?_)
        ·
          refine iloadN w X d9_47 48 rfl rfl ?_
          refine iconst w X (3 : Int32) d9_48 49 rfl rfl ?_
          refine icmp_le w X d9_49 63 52 (by decide) (by decide) rfl (fun hc49_9 => ?_) (fun hc49_9 => ?_)
          ·
            refine iloadN w X d9_63 64 rfl rfl ?_
            refine retI w X rfl d9_64 (by decide) (by decide) ?_
            exact ⟨n, rfl, rfl, lf9_4 n eI b0 b1 b2 b3 r7 hc1_1 hc17_2 hc33_3 hr7 hc42_8 hc49_9 H1 H2 H3⟩
          ·
            refine aloadN w X d9_52 53 rfl rfl rfl ?_
            refine iconst w X (3 : Int32) d9_53 54 rfl rfl ?_
            refine baload w X V_arr (by decide) 3 rfl (Nat.le_of_ble_eq_true rfl) d9_54 55 rfl b3 rfl ?_
            refine callSPI w X [(.int b3)] (wd57 hw) (wd58 hw) (wd3 hw) (wd59 hw) (by decide) (rm_blank hw b3 h n0 zn) d9_55 58 rfl 0 (by decide) (by decide) (lenOf pd3 rfl) rfl (Nat.le_of_eq rfl) rfl (by decide) (by decide) (fun r10 T X hq => ?_)
            have hr10 := hq
            refine if_ne w X d9_58 63 61 (by decide) (by decide) rfl (fun hc58_11 => ?_) (fun hc58_11 => ?_)
            ·
              refine iloadN w X d9_63 64 rfl rfl ?_
              refine retI w X rfl d9_64 (by decide) (by decide) ?_
              exact ⟨n, rfl, rfl, lf9_5 n eI b0 b1 b2 b3 r7 r10 hc1_1 hc17_2 hc33_3 hr7 hc42_8 hc49_9 hr10 hc58_11 H1 H2 H3⟩
            ·
              refine iconst w X (3 : Int32) d9_61 62 rfl rfl ?_
              refine retI w X rfl d9_62 (by decide) (by decide) ?_
              exact ⟨(3 : Int32), rfl, rfl, lf9_6 n eI b0 b1 b2 b3 r7 r10 hc1_1 hc17_2 hc33_3 hr7 hc42_8 hc49_9 hr10 hc58_11 H1 H2 H3⟩
        ·
          refine iconst w X (2 : Int32) d9_45 46 rfl rfl ?_
          refine retI w X rfl d9_46 (by decide) (by decide) ?_
          exact ⟨(2 : Int32), rfl, rfl, lf9_7 n eI b0 b1 b2 b3 r7 hc1_1 hc17_2 hc33_3 hr7 hc42_8 H1 H2 H3⟩
    ·
      refine aloadN w X d9_20 21 rfl rfl rfl ?_
      refine iconst w X (1 : Int32) d9_21 22 rfl rfl ?_
      refine baload w X V_arr (by decide) 1 rfl (Nat.le_of_ble_eq_true rfl) d9_22 23 rfl b1 rfl ?_
      refine callSPI w X [(.int b1)] (wd57 hw) (wd58 hw) (wd3 hw) (wd59 hw) (by decide) (rm_blank hw b1 h n0 zn) d9_23 26 rfl 0 (by decide) (by decide) (lenOf pd3 rfl) rfl (Nat.le_of_eq rfl) rfl (by decide) (by decide) (fun r12 T X hq => ?_)
      have hr12 := hq
      refine if_ne w X d9_26 31 29 (by decide) (by decide) rfl (fun hc26_13 => ?_) (fun hc26_13 => ?_)
      ·
        refine iloadN w X d9_31 32 rfl rfl ?_
        refine iconst w X (2 : Int32) d9_32 33 rfl rfl ?_
        refine icmp_le w X d9_33 47 36 (by decide) (by decide) rfl (fun hc33_14 => ?_) (fun hc33_14 => ?_)
        ·
          refine iloadN w X d9_47 48 rfl rfl ?_
          refine iconst w X (3 : Int32) d9_48 49 rfl rfl ?_
          refine icmp_le w X d9_49 63 52 (by decide) (by decide) rfl (fun hc49_15 => ?_) (fun hc49_15 => ?_)
          ·
            refine iloadN w X d9_63 64 rfl rfl ?_
            refine retI w X rfl d9_64 (by decide) (by decide) ?_
            exact ⟨n, rfl, rfl, lf9_8 n eI b0 b1 b2 b3 r12 hc1_1 hc17_2 hr12 hc26_13 hc33_14 hc49_15 H1 H2 H3⟩
          ·
            refine aloadN w X d9_52 53 rfl rfl rfl ?_
            refine iconst w X (3 : Int32) d9_53 54 rfl rfl ?_
            refine baload w X V_arr (by decide) 3 rfl (Nat.le_of_ble_eq_true rfl) d9_54 55 rfl b3 rfl ?_
            refine callSPI w X [(.int b3)] (wd57 hw) (wd58 hw) (wd3 hw) (wd59 hw) (by decide) (rm_blank hw b3 h n0 zn) d9_55 58 rfl 0 (by decide) (by decide) (lenOf pd3 rfl) rfl (Nat.le_of_eq rfl) rfl (by decide) (by decide) (fun r16 T X hq => ?_)
            have hr16 := hq
            refine if_ne w X d9_58 63 61 (by decide) (by decide) rfl (fun hc58_17 => ?_) (fun hc58_17 => ?_)
            ·
              refine iloadN w X d9_63 64 rfl rfl ?_
              refine retI w X rfl d9_64 (by decide) (by decide) ?_
              exact ⟨n, rfl, rfl, lf9_9 n eI b0 b1 b2 b3 r12 r16 hc1_1 hc17_2 hr12 hc26_13 hc33_14 hc49_15 hr16 hc58_17 H1 H2 H3⟩
            ·
              refine iconst w X (3 : Int32) d9_61 62 rfl rfl ?_
              refine retI w X rfl d9_62 (by decide) (by decide) ?_
              exact ⟨(3 : Int32), rfl, rfl, lf9_10 n eI b0 b1 b2 b3 r12 r16 hc1_1 hc17_2 hr12 hc26_13 hc33_14 hc49_15 hr16 hc58_17 H1 H2 H3⟩
        ·
          refine aloadN w X d9_36 37 rfl rfl rfl ?_
          refine iconst w X (2 : Int32) d9_37 38 rfl rfl ?_
          refine baload w X V_arr (by decide) 2 rfl (Nat.le_of_ble_eq_true rfl) d9_38 39 rfl b2 rfl ?_
          refine callSPI w X [(.int b2)] (wd57 hw) (wd58 hw) (wd3 hw) (wd59 hw) (by decide) (rm_blank hw b2 h n0 zn) d9_39 42 rfl 0 (by decide) (by decide) (lenOf pd3 rfl) rfl (Nat.le_of_eq rfl) rfl (by decide) (by decide) (fun r18 T X hq => ?_)
          have hr18 := hq
          refine if_ne w X d9_42 47 45 (by decide) (by decide) rfl (fun hc42_19 => ?_) (fun hc42_19 => ?_)
          ·
            refine iloadN w X d9_47 48 rfl rfl ?_
            refine iconst w X (3 : Int32) d9_48 49 rfl rfl ?_
            refine icmp_le w X d9_49 63 52 (by decide) (by decide) rfl (fun hc49_20 => ?_) (fun hc49_20 => ?_)
            ·
              refine iloadN w X d9_63 64 rfl rfl ?_
              refine retI w X rfl d9_64 (by decide) (by decide) ?_
              exact ⟨n, rfl, rfl, lf9_11 n eI b0 b1 b2 b3 r12 r18 hc1_1 hc17_2 hr12 hc26_13 hc33_14 hr18 hc42_19 hc49_20 H1 H2 H3⟩
            ·
              refine aloadN w X d9_52 53 rfl rfl rfl ?_
              refine iconst w X (3 : Int32) d9_53 54 rfl rfl ?_
              refine baload w X V_arr (by decide) 3 rfl (Nat.le_of_ble_eq_true rfl) d9_54 55 rfl b3 rfl ?_
              refine callSPI w X [(.int b3)] (wd57 hw) (wd58 hw) (wd3 hw) (wd59 hw) (by decide) (rm_blank hw b3 h n0 zn) d9_55 58 rfl 0 (by decide) (by decide) (lenOf pd3 rfl) rfl (Nat.le_of_eq rfl) rfl (by decide) (by decide) (fun r21 T X hq => ?_)
              have hr21 := hq
              refine if_ne w X d9_58 63 61 (by decide) (by decide) rfl (fun hc58_22 => ?_) (fun hc58_22 => ?_)
              ·
                refine iloadN w X d9_63 64 rfl rfl ?_
                refine retI w X rfl d9_64 (by decide) (by decide) ?_
                exact ⟨n, rfl, rfl, lf9_12 n eI b0 b1 b2 b3 r12 r18 r21 hc1_1 hc17_2 hr12 hc26_13 hc33_14 hr18 hc42_19 hc49_20 hr21 hc58_22 H1 H2 H3⟩
              ·
                refine iconst w X (3 : Int32) d9_61 62 rfl rfl ?_
                refine retI w X rfl d9_62 (by decide) (by decide) ?_
                exact ⟨(3 : Int32), rfl, rfl, lf9_13 n eI b0 b1 b2 b3 r12 r18 r21 hc1_1 hc17_2 hr12 hc26_13 hc33_14 hr18 hc42_19 hc49_20 hr21 hc58_22 H1 H2 H3⟩
          ·
            refine iconst w X (2 : Int32) d9_45 46 rfl rfl ?_
            refine retI w X rfl d9_46 (by decide) (by decide) ?_
            exact ⟨(2 : Int32), rfl, rfl, lf9_14 n eI b0 b1 b2 b3 r12 r18 hc1_1 hc17_2 hr12 hc26_13 hc33_14 hr18 hc42_19 H1 H2 H3⟩
      ·
        refine iconst w X (1 : Int32) d9_29 30 rfl rfl ?_
        refine retI w X rfl d9_30 (by decide) (by decide) ?_
        exact ⟨(1 : Int32), rfl, rfl, lf9_15 n eI b0 b1 b2 b3 r12 hc1_1 hc17_2 hr12 hc26_13 H1 H2 H3⟩
  ·
    refine aloadN w X d9_4 5 rfl rfl rfl ?_
    refine iconst w X (0 : Int32) d9_5 6 rfl rfl ?_
    refine baload w X V_arr (by decide) 0 rfl (Nat.le_of_ble_eq_true rfl) d9_6 7 rfl b0 rfl ?_
    refine callSPI w X [(.int b0)] (wd57 hw) (wd58 hw) (wd3 hw) (wd59 hw) (by decide) (rm_blank hw b0 h n0 zn) d9_7 10 rfl 0 (by decide) (by decide) (lenOf pd3 rfl) rfl (Nat.le_of_eq rfl) rfl (by decide) (by decide) (fun r23 T X hq => ?_)
    have hr23 := hq
    refine if_ne w X d9_10 15 13 (by decide) (by decide) rfl (fun hc10_24 => ?_) (fun hc10_24 => ?_)
    ·
      refine iloadN w X d9_15 16 rfl rfl ?_
      refine iconst w X (1 : Int32) d9_16 17 rfl rfl ?_
      refine icmp_le w X d9_17 31 20 (by decide) (by decide) rfl (fun hc17_25 => ?_) (fun hc17_25 => ?_)
      ·
        refine iloadN w X d9_31 32 rfl rfl ?_
        refine iconst w X (2 : Int32) d9_32 33 rfl rfl ?_
        refine icmp_le w X d9_33 47 36 (by decide) (by decide) rfl (fun hc33_26 => ?_) (fun hc33_26 => ?_)
        ·
          refine iloadN w X d9_47 48 rfl rfl ?_
          refine iconst w X (3 : Int32) d9_48 49 rfl rfl ?_
          refine icmp_le w X d9_49 63 52 (by decide) (by decide) rfl (fun hc49_27 => ?_) (fun hc49_27 => ?_)
          ·
            refine iloadN w X d9_63 64 rfl rfl ?_
            refine retI w X rfl d9_64 (by decide) (by decide) ?_
            exact ⟨n, rfl, rfl, lf9_16 n eI b0 b1 b2 b3 r23 hc1_1 hr23 hc10_24 hc17_25 hc33_26 hc49_27 H1 H2 H3⟩
          ·
            refine aloadN w X d9_52 53 rfl rfl rfl ?_
            refine iconst w X (3 : Int32) d9_53 54 rfl rfl ?_
            refine baload w X V_arr (by decide) 3 rfl (Nat.le_of_ble_eq_true rfl) d9_54 55 rfl b3 rfl ?_
            refine callSPI w X [(.int b3)] (wd57 hw) (wd58 hw) (wd3 hw) (wd59 hw) (by decide) (rm_blank hw b3 h n0 zn) d9_55 58 rfl 0 (by decide) (by decide) (lenOf pd3 rfl) rfl (Nat.le_of_eq rfl) rfl (by decide) (by decide) (fun r28 T X hq => ?_)
            have hr28 := hq
            refine if_ne w X d9_58 63 61 (by decide) (by decide) rfl (fun hc58_29 => ?_) (fun hc58_29 => ?_)
            ·
              refine iloadN w X d9_63 64 rfl rfl ?_
              refine retI w X rfl d9_64 (by decide) (by decide) ?_
              exact ⟨n, rfl, rfl, lf9_17 n eI b0 b1 b2 b3 r23 r28 hc1_1 hr23 hc10_24 hc17_25 hc33_26 hc49_27 hr28 hc58_29 H1 H2 H3⟩
            ·
              refine iconst w X (3 : Int32) d9_61 62 rfl rfl ?_
              refine retI w X rfl d9_62 (by decide) (by decide) ?_
              exact ⟨(3 : Int32), rfl, rfl, lf9_18 n eI b0 b1 b2 b3 r23 r28 hc1_1 hr23 hc10_24 hc17_25 hc33_26 hc49_27 hr28 hc58_29 H1 H2 H3⟩
        ·
          refine aloadN w X d9_36 37 rfl rfl rfl ?_
          refine iconst w X (2 : Int32) d9_37 38 rfl rfl ?_
          refine baload w X V_arr (by decide) 2 rfl (Nat.le_of_ble_eq_true rfl) d9_38 39 rfl b2 rfl ?_
          refine callSPI w X [(.int b2)] (wd57 hw) (wd58 hw) (wd3 hw) (wd59 hw) (by decide) (rm_blank hw b2 h n0 zn) d9_39 42 rfl 0 (by decide) (by decide) (lenOf pd3 rfl) rfl (Nat.le_of_eq rfl) rfl (by decide) (by decide) (fun r30 T X hq => ?_)
          have hr30 := hq
          refine if_ne w X d9_42 47 45 (by decide) (by decide) rfl (fun hc42_31 => ?_) (fun hc42_31 => ?_)
          ·
            refine iloadN w X d9_47 48 rfl rfl ?_
            refine iconst w X (3 : Int32) d9_48 49 rfl rfl ?_
            refine icmp_le w X d9_49 63 52 (by decide) (by decide) rfl (fun hc49_32 => ?_) (fun hc49_32 => ?_)
            ·
              refine iloadN w X d9_63 64 rfl rfl ?_
              refine retI w X rfl d9_64 (by decide) (by decide) ?_
              exact ⟨n, rfl, rfl, lf9_19 n eI b0 b1 b2 b3 r23 r30 hc1_1 hr23 hc10_24 hc17_25 hc33_26 hr30 hc42_31 hc49_32 H1 H2 H3⟩
            ·
              refine aloadN w X d9_52 53 rfl rfl rfl ?_
              refine iconst w X (3 : Int32) d9_53 54 rfl rfl ?_
              refine baload w X V_arr (by decide) 3 rfl (Nat.le_of_ble_eq_true rfl) d9_54 55 rfl b3 rfl ?_
              refine callSPI w X [(.int b3)] (wd57 hw) (wd58 hw) (wd3 hw) (wd59 hw) (by decide) (rm_blank hw b3 h n0 zn) d9_55 58 rfl 0 (by decide) (by decide) (lenOf pd3 rfl) rfl (Nat.le_of_eq rfl) rfl (by decide) (by decide) (fun r33 T X hq => ?_)
              have hr33 := hq
              refine if_ne w X d9_58 63 61 (by decide) (by decide) rfl (fun hc58_34 => ?_) (fun hc58_34 => ?_)
              ·
                refine iloadN w X d9_63 64 rfl rfl ?_
                refine retI w X rfl d9_64 (by decide) (by decide) ?_
                exact ⟨n, rfl, rfl, lf9_20 n eI b0 b1 b2 b3 r23 r30 r33 hc1_1 hr23 hc10_24 hc17_25 hc33_26 hr30 hc42_31 hc49_32 hr33 hc58_34 H1 H2 H3⟩
              ·
                refine iconst w X (3 : Int32) d9_61 62 rfl rfl ?_
                refine retI w X rfl d9_62 (by decide) (by decide) ?_
                exact ⟨(3 : Int32), rfl, rfl, lf9_21 n eI b0 b1 b2 b3 r23 r30 r33 hc1_1 hr23 hc10_24 hc17_25 hc33_26 hr30 hc42_31 hc49_32 hr33 hc58_34 H1 H2 H3⟩
          ·
            refine iconst w X (2 : Int32) d9_45 46 rfl rfl ?_
            refine retI w X rfl d9_46 (by decide) (by decide) ?_
            exact ⟨(2 : Int32), rfl, rfl, lf9_22 n eI b0 b1 b2 b3 r23 r30 hc1_1 hr23 hc10_24 hc17_25 hc33_26 hr30 hc42_31 H1 H2 H3⟩
      ·
        refine aloadN w X d9_20 21 rfl rfl rfl ?_
        refine iconst w X (1 : Int32) d9_21 22 rfl rfl ?_
        refine baload w X V_arr (by decide) 1 rfl (Nat.le_of_ble_eq_true rfl) d9_22 23 rfl b1 rfl ?_
        refine callSPI w X [(.int b1)] (wd57 hw) (wd58 hw) (wd3 hw) (wd59 hw) (by decide) (rm_blank hw b1 h n0 zn) d9_23 26 rfl 0 (by decide) (by decide) (lenOf pd3 rfl) rfl (Nat.le_of_eq rfl) rfl (by decide) (by decide) (fun r35 T X hq => ?_)
        have hr35 := hq
        refine if_ne w X d9_26 31 29 (by decide) (by decide) rfl (fun hc26_36 => ?_) (fun hc26_36 => ?_)
        ·
          refine iloadN w X d9_31 32 rfl rfl ?_
          refine iconst w X (2 : Int32) d9_32 33 rfl rfl ?_
          refine icmp_le w X d9_33 47 36 (by decide) (by decide) rfl (fun hc33_37 => ?_) (fun hc33_37 => ?_)
          ·
            refine iloadN w X d9_47 48 rfl rfl ?_
            refine iconst w X (3 : Int32) d9_48 49 rfl rfl ?_
            refine icmp_le w X d9_49 63 52 (by decide) (by decide) rfl (fun hc49_38 => ?_) (fun hc49_38 => ?_)
            ·
              refine iloadN w X d9_63 64 rfl rfl ?_
              refine retI w X rfl d9_64 (by decide) (by decide) ?_
              exact ⟨n, rfl, rfl, lf9_23 n eI b0 b1 b2 b3 r23 r35 hc1_1 hr23 hc10_24 hc17_25 hr35 hc26_36 hc33_37 hc49_38 H1 H2 H3⟩
            ·
              refine aloadN w X d9_52 53 rfl rfl rfl ?_
              refine iconst w X (3 : Int32) d9_53 54 rfl rfl ?_
              refine baload w X V_arr (by decide) 3 rfl (Nat.le_of_ble_eq_true rfl) d9_54 55 rfl b3 rfl ?_
              refine callSPI w X [(.int b3)] (wd57 hw) (wd58 hw) (wd3 hw) (wd59 hw) (by decide) (rm_blank hw b3 h n0 zn) d9_55 58 rfl 0 (by decide) (by decide) (lenOf pd3 rfl) rfl (Nat.le_of_eq rfl) rfl (by decide) (by decide) (fun r39 T X hq => ?_)
              have hr39 := hq
              refine if_ne w X d9_58 63 61 (by decide) (by decide) rfl (fun hc58_40 => ?_) (fun hc58_40 => ?_)
              ·
                refine iloadN w X d9_63 64 rfl rfl ?_
                refine retI w X rfl d9_64 (by decide) (by decide) ?_
                exact ⟨n, rfl, rfl, lf9_24 n eI b0 b1 b2 b3 r23 r35 r39 hc1_1 hr23 hc10_24 hc17_25 hr35 hc26_36 hc33_37 hc49_38 hr39 hc58_40 H1 H2 H3⟩
              ·
                refine iconst w X (3 : Int32) d9_61 62 rfl rfl ?_
                refine retI w X rfl d9_62 (by decide) (by decide) ?_
                exact ⟨(3 : Int32), rfl, rfl, lf9_25 n eI b0 b1 b2 b3 r23 r35 r39 hc1_1 hr23 hc10_24 hc17_25 hr35 hc26_36 hc33_37 hc49_38 hr39 hc58_40 H1 H2 H3⟩
          ·
            refine aloadN w X d9_36 37 rfl rfl rfl ?_
            refine iconst w X (2 : Int32) d9_37 38 rfl rfl ?_
            refine baload w X V_arr (by decide) 2 rfl (Nat.le_of_ble_eq_true rfl) d9_38 39 rfl b2 rfl ?_
            refine callSPI w X [(.int b2)] (wd57 hw) (wd58 hw) (wd3 hw) (wd59 hw) (by decide) (rm_blank hw b2 h n0 zn) d9_39 42 rfl 0 (by decide) (by decide) (lenOf pd3 rfl) rfl (Nat.le_of_eq rfl) rfl (by decide) (by decide) (fun r41 T X hq => ?_)
            have hr41 := hq
            refine if_ne w X d9_42 47 45 (by decide) (by decide) rfl (fun hc42_42 => ?_) (fun hc42_42 => ?_)
            ·
              refine iloadN w X d9_47 48 rfl rfl ?_
              refine iconst w X (3 : Int32) d9_48 49 rfl rfl ?_
              refine icmp_le w X d9_49 63 52 (by decide) (by decide) rfl (fun hc49_43 => ?_) (fun hc49_43 => ?_)
              ·
                refine iloadN w X d9_63 64 rfl rfl ?_
                refine retI w X rfl d9_64 (by decide) (by decide) ?_
                exact ⟨n, rfl, rfl, lf9_26 n eI b0 b1 b2 b3 r23 r35 r41 hc1_1 hr23 hc10_24 hc17_25 hr35 hc26_36 hc33_37 hr41 hc42_42 hc49_43 H1 H2 H3⟩
              ·
                refine aloadN w X d9_52 53 rfl rfl rfl ?_
                refine iconst w X (3 : Int32) d9_53 54 rfl rfl ?_
                refine baload w X V_arr (by decide) 3 rfl (Nat.le_of_ble_eq_true rfl) d9_54 55 rfl b3 rfl ?_
                refine callSPI w X [(.int b3)] (wd57 hw) (wd58 hw) (wd3 hw) (wd59 hw) (by decide) (rm_blank hw b3 h n0 zn) d9_55 58 rfl 0 (by decide) (by decide) (lenOf pd3 rfl) rfl (Nat.le_of_eq rfl) rfl (by decide) (by decide) (fun r44 T X hq => ?_)
                have hr44 := hq
                refine if_ne w X d9_58 63 61 (by decide) (by decide) rfl (fun hc58_45 => ?_) (fun hc58_45 => ?_)
                ·
                  refine iloadN w X d9_63 64 rfl rfl ?_
                  refine retI w X rfl d9_64 (by decide) (by decide) ?_
                  exact ⟨n, rfl, rfl, lf9_27 n eI b0 b1 b2 b3 r23 r35 r41 r44 hc1_1 hr23 hc10_24 hc17_25 hr35 hc26_36 hc33_37 hr41 hc42_42 hc49_43 hr44 hc58_45 H1 H2 H3⟩
                ·
                  refine iconst w X (3 : Int32) d9_61 62 rfl rfl ?_
                  refine retI w X rfl d9_62 (by decide) (by decide) ?_
                  exact ⟨(3 : Int32), rfl, rfl, lf9_28 n eI b0 b1 b2 b3 r23 r35 r41 r44 hc1_1 hr23 hc10_24 hc17_25 hr35 hc26_36 hc33_37 hr41 hc42_42 hc49_43 hr44 hc58_45 H1 H2 H3⟩
            ·
              refine iconst w X (2 : Int32) d9_45 46 rfl rfl ?_
              refine retI w X rfl d9_46 (by decide) (by decide) ?_
              exact ⟨(2 : Int32), rfl, rfl, lf9_29 n eI b0 b1 b2 b3 r23 r35 r41 hc1_1 hr23 hc10_24 hc17_25 hr35 hc26_36 hc33_37 hr41 hc42_42 H1 H2 H3⟩
        ·
          refine iconst w X (1 : Int32) d9_29 30 rfl rfl ?_
          refine retI w X rfl d9_30 (by decide) (by decide) ?_
          exact ⟨(1 : Int32), rfl, rfl, lf9_30 n eI b0 b1 b2 b3 r23 r35 hc1_1 hr23 hc10_24 hc17_25 hr35 hc26_36 H1 H2 H3⟩
    ·
      refine iconst w X (0 : Int32) d9_13 14 rfl rfl ?_
      refine retI w X rfl d9_14 (by decide) (by decide) ?_
      exact ⟨(0 : Int32), rfl, rfl, lf9_31 n eI b0 b1 b2 b3 r23 hc1_1 hr23 hc10_24 H1 H2 H3⟩
set_option maxRecDepth 65536 in
set_option maxHeartbeats 40000000 in
theorem rm_law {l : Launch} {Z : State} {a0 : Array Value} (hw : ∀ d ∈ tables_1, d.before a0 Z = true) (ln oln bts len c0 : Int32) (h : Heap) (n0 : Nat) (zn : n0 ≤ h.size) :
    Met l Z x code maxLocals ret tables_1 room_1 #[(.int ln), (.int oln), (.int bts), (.int len), (.int c0)] h n0 (RI fun r _ => r = 1) := by
  refine start (ls := #[.val (.int ln), .val (.int oln), .val (.int bts), .val (.int len), .val (.int c0), .unset, .unset, .unset, .unset, .unset, .unset, .unset, .unset, .unset, .unset]) (plainFor_of_name pn1) (fun m => by first | (simp [entryFrame, mkF, argsToLocals, Value.category, maxLocals]; done) | rfl) ?_
  intro p e s m below meth c T G w X
  refine iconst w X (5 : Int32) at_0 1 rfl rfl ?_
  refine newarr (aty := .byte) w X (wd0 hw) at_1 3 rfl (by decide) 5 (by decide) (by decide) (by decide) (by decide) (fun T h1 b2 cA X hnb2 E A => ?_)
  have g_b2 : n0 ≤ b2 := by rw [hnb2]; exact zn
  have zn : n0 ≤ h1.size := Nat.le_trans zn E.1
  have V_b2 : PA Z h1 b2 .byte [(0 : Int32), (0 : Int32), (0 : Int32), (0 : Int32), (0 : Int32)] := PA.new .byte rfl rfl 5 A (by decide)
  refine dup w X at_3 4 rfl rfl ?_
  refine iconst w X (0 : Int32) at_4 5 rfl rfl ?_
  refine bipush w X (32 : Int32) at_5 7 rfl rfl ?_
  refine bastore w X V_b2 (by decide) 0 rfl (Nat.le_of_ble_eq_true rfl) g_b2 at_7 8 rfl (32 : Int32) rfl (fun T h3 X W V_b2 => ?_)
  have V_b2 : PA Z h3 b2 .byte [(32 : Int32), (0 : Int32), (0 : Int32), (0 : Int32), (0 : Int32)] := V_b2
  have zn : n0 ≤ h3.size := W.size ▸ zn
  refine dup w X at_8 9 rfl rfl ?_
  refine iconst w X (1 : Int32) at_9 10 rfl rfl ?_
  refine bipush w X (32 : Int32) at_10 12 rfl rfl ?_
  refine bastore w X V_b2 (by decide) 1 rfl (Nat.le_of_ble_eq_true rfl) g_b2 at_12 13 rfl (32 : Int32) rfl (fun T h4 X W V_b2 => ?_)
  have V_b2 : PA Z h4 b2 .byte [(32 : Int32), (32 : Int32), (0 : Int32), (0 : Int32), (0 : Int32)] := V_b2
  have zn : n0 ≤ h4.size := W.size ▸ zn
  refine dup w X at_13 14 rfl rfl ?_
  refine iconst w X (2 : Int32) at_14 15 rfl rfl ?_
  refine bipush w X (32 : Int32) at_15 17 rfl rfl ?_
  refine bastore w X V_b2 (by decide) 2 rfl (Nat.le_of_ble_eq_true rfl) g_b2 at_17 18 rfl (32 : Int32) rfl (fun T h5 X W V_b2 => ?_)
  have V_b2 : PA Z h5 b2 .byte [(32 : Int32), (32 : Int32), (32 : Int32), (0 : Int32), (0 : Int32)] := V_b2
  have zn : n0 ≤ h5.size := W.size ▸ zn
  refine dup w X at_18 19 rfl rfl ?_
  refine iconst w X (3 : Int32) at_19 20 rfl rfl ?_
  refine bipush w X (32 : Int32) at_20 22 rfl rfl ?_
  refine bastore w X V_b2 (by decide) 3 rfl (Nat.le_of_ble_eq_true rfl) g_b2 at_22 23 rfl (32 : Int32) rfl (fun T h6 X W V_b2 => ?_)
  have V_b2 : PA Z h6 b2 .byte [(32 : Int32), (32 : Int32), (32 : Int32), (32 : Int32), (0 : Int32)] := V_b2
  have zn : n0 ≤ h6.size := W.size ▸ zn
  refine dup w X at_23 24 rfl rfl ?_
  refine iconst w X (4 : Int32) at_24 25 rfl rfl ?_
  refine bipush w X (32 : Int32) at_25 27 rfl rfl ?_
  refine bastore w X V_b2 (by decide) 4 rfl (Nat.le_of_ble_eq_true rfl) g_b2 at_27 28 rfl (32 : Int32) rfl (fun T h7 X W V_b2 => ?_)
  have V_b2 : PA Z h7 b2 .byte [(32 : Int32), (32 : Int32), (32 : Int32), (32 : Int32), (32 : Int32)] := V_b2
  have zn : n0 ≤ h7.size := W.size ▸ zn
  refine astore w X at_28 30 rfl rfl #[.val (.int ln), .val (.int oln), .val (.int bts), .val (.int len), .val (.int c0), .val (.ref b2), .unset, .unset, .unset, .unset, .unset, .unset, .unset, .unset, .unset] rfl ?_
  refine iconst w X (4 : Int32) at_30 31 rfl rfl ?_
  refine newarr (aty := .byte) w X (wd0 hw) at_31 33 rfl (by decide) 4 (by decide) (by decide) (by decide) (by decide) (fun T h8 b9 cA X hnb9 E A => ?_)
  have ne_b2_b9 : b2 ≠ b9 := fun q => absurd (q ▸ V_b2.lt) (by rw [hnb9]; exact Nat.lt_irrefl _)
  have g_b9 : n0 ≤ b9 := by rw [hnb9]; exact zn
  have zn : n0 ≤ h8.size := Nat.le_trans zn E.1
  have V_b2 := V_b2.ext E
  have V_b9 : PA Z h8 b9 .byte [(0 : Int32), (0 : Int32), (0 : Int32), (0 : Int32)] := PA.new .byte rfl rfl 4 A (by decide)
  refine astore w X at_33 35 rfl rfl #[.val (.int ln), .val (.int oln), .val (.int bts), .val (.int len), .val (.int c0), .val (.ref b2), .val (.ref b9), .unset, .unset, .unset, .unset, .unset, .unset, .unset, .unset] rfl ?_
  refine aload w X at_35 37 rfl rfl rfl ?_
  refine iconst w X (0 : Int32) at_37 38 rfl rfl ?_
  refine iloadN w X at_38 39 rfl rfl ?_
  refine callSPI w X [(.int bts)] (wd1 hw) (wd2 hw) (wd3 hw) (wd4 hw) (by decide) (rm_pk hw bts h8 n0 zn) at_39 42 rfl 2 (by decide) (by decide) (lenOf pd4 rfl) rfl (Nat.le_of_eq rfl) rfl (by decide) (by decide) (fun r10 T X hq => ?_)
  have hr10 := hq
  refine i2b w X (r10.toInt8.toInt32) at_42 43 rfl rfl ?_
  obtain ⟨e12, he12⟩ : ∃ z : Int32, z = (r10.toInt8.toInt32) := ⟨_, rfl⟩
  refine bastore w X V_b9 (by decide) 0 rfl (Nat.le_of_ble_eq_true rfl) g_b9 at_43 44 rfl e12 (by rw [he12]; exact (nar_b _).symm) (fun T h11 X W V_b9 => ?_)
  have V_b9 : PA Z h11 b9 .byte [e12, (0 : Int32), (0 : Int32), (0 : Int32)] := V_b9
  have zn : n0 ≤ h11.size := W.size ▸ zn
  have V_b2 := V_b2.other W ne_b2_b9
  refine aload w X at_44 46 rfl rfl rfl ?_
  refine iconst w X (1 : Int32) at_46 47 rfl rfl ?_
  refine iloadN w X at_47 48 rfl rfl ?_
  refine iconst w X (3 : Int32) at_48 49 rfl rfl ?_
  refine iushr w X ((bts.toUInt32 >>> ((3 : Int32) &&& 31).toUInt32).toInt32) at_49 50 rfl rfl ?_
  refine callSPI w X [(.int ((bts.toUInt32 >>> ((3 : Int32) &&& 31).toUInt32).toInt32))] (wd1 hw) (wd2 hw) (wd3 hw) (wd4 hw) (by decide) (rm_pk hw ((bts.toUInt32 >>> ((3 : Int32) &&& 31).toUInt32).toInt32) h11 n0 zn) at_50 53 rfl 2 (by decide) (by decide) (lenOf pd4 rfl) rfl (Nat.le_of_eq rfl) rfl (by decide) (by decide) (fun r13 T X hq => ?_)
  have hr13 := hq
  refine i2b w X (r13.toInt8.toInt32) at_53 54 rfl rfl ?_
  obtain ⟨e15, he15⟩ : ∃ z : Int32, z = (r13.toInt8.toInt32) := ⟨_, rfl⟩
  refine bastore w X V_b9 (by decide) 1 rfl (Nat.le_of_ble_eq_true rfl) g_b9 at_54 55 rfl e15 (by rw [he15]; exact (nar_b _).symm) (fun T h14 X W V_b9 => ?_)
  have V_b9 : PA Z h14 b9 .byte [e12, e15, (0 : Int32), (0 : Int32)] := V_b9
  have zn : n0 ≤ h14.size := W.size ▸ zn
  have V_b2 := V_b2.other W ne_b2_b9
  refine aload w X at_55 57 rfl rfl rfl ?_
  refine iconst w X (2 : Int32) at_57 58 rfl rfl ?_
  refine iloadN w X at_58 59 rfl rfl ?_
  refine bipush w X (6 : Int32) at_59 61 rfl rfl ?_
  refine iushr w X ((bts.toUInt32 >>> ((6 : Int32) &&& 31).toUInt32).toInt32) at_61 62 rfl rfl ?_
  refine callSPI w X [(.int ((bts.toUInt32 >>> ((6 : Int32) &&& 31).toUInt32).toInt32))] (wd1 hw) (wd2 hw) (wd3 hw) (wd4 hw) (by decide) (rm_pk hw ((bts.toUInt32 >>> ((6 : Int32) &&& 31).toUInt32).toInt32) h14 n0 zn) at_62 65 rfl 2 (by decide) (by decide) (lenOf pd4 rfl) rfl (Nat.le_of_eq rfl) rfl (by decide) (by decide) (fun r16 T X hq => ?_)
  have hr16 := hq
  refine i2b w X (r16.toInt8.toInt32) at_65 66 rfl rfl ?_
  obtain ⟨e18, he18⟩ : ∃ z : Int32, z = (r16.toInt8.toInt32) := ⟨_, rfl⟩
  refine bastore w X V_b9 (by decide) 2 rfl (Nat.le_of_ble_eq_true rfl) g_b9 at_66 67 rfl e18 (by rw [he18]; exact (nar_b _).symm) (fun T h17 X W V_b9 => ?_)
  have V_b9 : PA Z h17 b9 .byte [e12, e15, e18, (0 : Int32)] := V_b9
  have zn : n0 ≤ h17.size := W.size ▸ zn
  have V_b2 := V_b2.other W ne_b2_b9
  refine aload w X at_67 69 rfl rfl rfl ?_
  refine iconst w X (3 : Int32) at_69 70 rfl rfl ?_
  refine iloadN w X at_70 71 rfl rfl ?_
  refine bipush w X (9 : Int32) at_71 73 rfl rfl ?_
  refine iushr w X ((bts.toUInt32 >>> ((9 : Int32) &&& 31).toUInt32).toInt32) at_73 74 rfl rfl ?_
  refine callSPI w X [(.int ((bts.toUInt32 >>> ((9 : Int32) &&& 31).toUInt32).toInt32))] (wd1 hw) (wd2 hw) (wd3 hw) (wd4 hw) (by decide) (rm_pk hw ((bts.toUInt32 >>> ((9 : Int32) &&& 31).toUInt32).toInt32) h17 n0 zn) at_74 77 rfl 2 (by decide) (by decide) (lenOf pd4 rfl) rfl (Nat.le_of_eq rfl) rfl (by decide) (by decide) (fun r19 T X hq => ?_)
  have hr19 := hq
  refine i2b w X (r19.toInt8.toInt32) at_77 78 rfl rfl ?_
  obtain ⟨e21, he21⟩ : ∃ z : Int32, z = (r19.toInt8.toInt32) := ⟨_, rfl⟩
  refine bastore w X V_b9 (by decide) 3 rfl (Nat.le_of_ble_eq_true rfl) g_b9 at_78 79 rfl e21 (by rw [he21]; exact (nar_b _).symm) (fun T h20 X W V_b9 => ?_)
  have V_b9 : PA Z h20 b9 .byte [e12, e15, e18, e21] := V_b9
  have zn : n0 ≤ h20.size := W.size ▸ zn
  have V_b2 := V_b2.other W ne_b2_b9
  refine iloadN w X at_79 80 rfl rfl ?_
  refine ldcI w X (wd5 hw) at_80 82 rfl ?_
  refine iand w X (len &&& (2147483647 : Int32)) at_82 83 rfl rfl ?_
  refine iconst w X (5 : Int32) at_83 84 rfl rfl ?_
  refine irem w X ((len &&& (2147483647 : Int32)) % (5 : Int32)) at_84 85 rfl rfl (by decide) ?_
  obtain ⟨i7_22, hi7_22⟩ : ∃ z : Int32, z = ((len &&& (2147483647 : Int32)) % (5 : Int32)) := ⟨_, rfl⟩
  refine istore w X i7_22 at_85 87 rfl hi7_22 #[.val (.int ln), .val (.int oln), .val (.int bts), .val (.int len), .val (.int c0), .val (.ref b2), .val (.ref b9), .val (.int i7_22), .unset, .unset, .unset, .unset, .unset, .unset, .unset] rfl ?_
  refine iload w X at_87 89 rfl rfl ?_
  refine callSPI w X [(.int c0)] (wd1 hw) (wd2 hw) (wd3 hw) (wd4 hw) (by decide) (rm_pk hw c0 h20 n0 zn) at_89 92 rfl 0 (by decide) (by decide) (lenOf pd4 rfl) rfl (Nat.le_of_eq rfl) rfl (by decide) (by decide) (fun r23 T X hq => ?_)
  have hr23 := hq
  refine istore w X r23 at_92 94 rfl rfl #[.val (.int ln), .val (.int oln), .val (.int bts), .val (.int len), .val (.int c0), .val (.ref b2), .val (.ref b9), .val (.int i7_22), .val (.int r23), .unset, .unset, .unset, .unset, .unset, .unset] rfl ?_
  refine new w X (wd6 hw) (wd7 hw) (wd8 hw) at_94 97 rfl (by decide) (by decide) (fun T h24 b25 X hnb25 E A D => ?_)
  have ne_b2_b25 : b2 ≠ b25 := fun q => absurd (q ▸ V_b2.lt) (by rw [hnb25]; exact Nat.lt_irrefl _)
  have ne_b9_b25 : b9 ≠ b25 := fun q => absurd (q ▸ V_b9.lt) (by rw [hnb25]; exact Nat.lt_irrefl _)
  have g_b25 : n0 ≤ b25 := by rw [hnb25]; exact zn
  have zn : n0 ≤ h24.size := Nat.le_trans zn E.1
  have V_b2 := V_b2.ext E
  have V_b9 := V_b9.ext E
  have E_b25 := A
  have F_keptBytes_b25 : Fld Z h24 b25 "com/example/frugal_kripke/frugalkripke/model/LineCursor" "keptBytes" "[[B" .null := D (Or.inr (wd18 hw)) (ty := (.array (.array .byte))) (by decide)
  have F_keptStrings_b25 : Fld Z h24 b25 "com/example/frugal_kripke/frugalkripke/model/LineCursor" "keptStrings" "[Ljava/lang/String;" .null := D (Or.inr (wd22 hw)) (ty := (.array (.object "java/lang/String"))) (by decide)
  have F_line_b25 : Fld Z h24 b25 "com/example/frugal_kripke/frugalkripke/model/LineCursor" "line" "I" (.int (0 : Int32)) := D (Or.inl (wd29 hw)) (ty := .int) (by decide)
  have F_text_b25 : Fld Z h24 b25 "com/example/frugal_kripke/frugalkripke/model/LineCursor" "text" "[B" .null := D (Or.inl (wd31 hw)) (ty := (.array .byte)) (by decide)
  have F_length_b25 : Fld Z h24 b25 "com/example/frugal_kripke/frugalkripke/model/LineCursor" "length" "I" (.int (0 : Int32)) := D (Or.inl (wd33 hw)) (ty := .int) (by decide)
  have F_position_b25 : Fld Z h24 b25 "com/example/frugal_kripke/frugalkripke/model/LineCursor" "position" "I" (.int (0 : Int32)) := D (Or.inl (wd35 hw)) (ty := .int) (by decide)
  refine dup w X at_97 98 rfl rfl ?_
  refine callNV w X [] (wd9 hw) (wd10 hw) (wd8 hw) (wd11 hw) rfl (by decide) (rm_in hw b25 h24 n0 zn E_b25 F_line_b25 F_text_b25 F_length_b25 F_position_b25 g_b25 F_keptBytes_b25 F_keptStrings_b25) at_98 101 rfl 1 (by decide) (by decide) (lenOf pd2 rfl) rfl (Nat.le_of_eq rfl) rfl (by decide) (by decide) (fun T h26 X hq => ?_)
  obtain ⟨Kq, tx27, E_b25, F_line_b25, F_text_b25, F_length_b25, F_position_b25⟩ := hq
  have zn : n0 ≤ h26.size := Nat.le_trans zn Kq.1
  have V_b2 := V_b2.keep Kq (ninS ne_b2_b25 nin0)
  have V_b9 := V_b9.keep Kq (ninS ne_b9_b25 nin0)
  refine astore w X at_101 103 rfl rfl #[.val (.int ln), .val (.int oln), .val (.int bts), .val (.int len), .val (.int c0), .val (.ref b2), .val (.ref b9), .val (.int i7_22), .val (.int r23), .val (.ref b25), .unset, .unset, .unset, .unset, .unset] rfl ?_
  refine aload w X at_103 105 rfl rfl rfl ?_
  refine iloadN w X at_105 106 rfl rfl ?_
  refine aload w X at_106 108 rfl rfl rfl ?_
  refine iconst w X (5 : Int32) at_108 109 rfl rfl ?_
  refine callVV w X [(.int oln), (.ref b2), (.int (5 : Int32))] (wd36 hw) (wd24 hw) (notFace_of_selects (args := #[]) (mvT w.2.2.2.2.1 (wd26 hw))) (wd26 hw) (wd25 hw) (wd8 hw) (wd27 hw) (by decide) E_b25 (rm_rs hw b25 b2 oln (5 : Int32) (0 : Int32) (0 : Int32) (0 : Int32) (.ref tx27) h26 n0 zn E_b25 F_line_b25 F_text_b25 F_length_b25 F_position_b25 g_b25) at_109 112 rfl 0 (by decide) (by decide) (lenOf pd0 rfl) rfl (Nat.le_of_eq rfl) rfl (by decide) (by decide) (fun T h28 X hq => ?_)
  obtain ⟨Kq, E_b25, F_line_b25, F_text_b25, F_length_b25, F_position_b25⟩ := hq
  have zn : n0 ≤ h28.size := Nat.le_trans zn Kq.1
  have V_b2 := V_b2.keep Kq (ninS ne_b2_b25 nin0)
  have V_b9 := V_b9.keep Kq (ninS ne_b9_b25 nin0)
  refine aload w X at_112 114 rfl rfl rfl ?_
  refine callVI w X [] (wd37 hw) (wd38 hw) (notFace_of_selects (args := #[]) (mvT w.2.2.2.2.1 (wd40 hw))) (wd40 hw) (wd39 hw) (wd8 hw) (wd41 hw) (by decide) E_b25 (rm_ae hw b25 b2 oln (5 : Int32) (0 : Int32) (5 : Int32) [(32 : Int32), (32 : Int32), (32 : Int32), (32 : Int32), (32 : Int32)] 5 5 0 h28 n0 zn E_b25 F_line_b25 F_text_b25 F_length_b25 F_position_b25 g_b25 V_b2 ne_b2_b25 rfl rfl rfl own_old (Nat.zero_le _)) at_114 117 rfl 0 (by decide) (by decide) (lenOf pd5 rfl) rfl (Nat.le_of_eq rfl) rfl (by decide) (by decide) (fun r29 T h30 X hq => ?_)
  obtain ⟨hr29, Kq, E_b25, F_line_b25, F_text_b25, F_length_b25, F_position_b25⟩ := hq
  have zn : n0 ≤ h30.size := Nat.le_trans zn Kq.1
  have V_b2 := V_b2.keep Kq (ninS ne_b2_b25 nin0)
  have V_b9 := V_b9.keep Kq (ninS ne_b9_b25 nin0)
  refine istore w X r29 at_117 119 rfl rfl #[.val (.int ln), .val (.int oln), .val (.int bts), .val (.int len), .val (.int c0), .val (.ref b2), .val (.ref b9), .val (.int i7_22), .val (.int r23), .val (.ref b25), .val (.int r29), .unset, .unset, .unset, .unset] rfl ?_
  refine aload w X at_119 121 rfl rfl rfl ?_
  refine iloadN w X at_121 122 rfl rfl ?_
  refine aload w X at_122 124 rfl rfl rfl ?_
  refine iload w X at_124 126 rfl rfl ?_
  refine callVV w X [(.int ln), (.ref b9), (.int i7_22)] (wd36 hw) (wd24 hw) (notFace_of_selects (args := #[]) (mvT w.2.2.2.2.1 (wd26 hw))) (wd26 hw) (wd25 hw) (wd8 hw) (wd27 hw) (by decide) E_b25 (rm_rs hw b25 b9 ln i7_22 oln (5 : Int32) (5 : Int32) (.ref b2) h30 n0 zn E_b25 F_line_b25 F_text_b25 F_length_b25 F_position_b25 g_b25) at_126 129 rfl 0 (by decide) (by decide) (lenOf pd0 rfl) rfl (Nat.le_of_eq rfl) rfl (by decide) (by decide) (fun T h31 X hq => ?_)
  obtain ⟨Kq, E_b25, F_line_b25, F_text_b25, F_length_b25, F_position_b25⟩ := hq
  have zn : n0 ≤ h31.size := Nat.le_trans zn Kq.1
  have V_b2 := V_b2.keep Kq (ninS ne_b2_b25 nin0)
  have V_b9 := V_b9.keep Kq (ninS ne_b9_b25 nin0)
  refine aload w X at_129 131 rfl rfl rfl ?_
  refine callVPI w X [] (wd49 hw) (wd50 hw) (notFace_of_selects (args := #[]) (mvT w.2.2.2.2.1 (wd52 hw))) (wd52 hw) (wd51 hw) (wd8 hw) (wd53 hw) (by decide) E_b25 (rm_li hw b25 ln h31 n0 zn F_line_b25) at_131 134 rfl 0 (by decide) (by decide) (lenOf pd6 rfl) rfl (Nat.le_of_eq rfl) rfl (by decide) (by decide) (fun r32 T X hq => ?_)
  have hr32 := hq
  refine iloadN w X at_134 135 rfl rfl ?_
  refine icmp_ne w X at_135 142 138 (by decide) (by decide) rfl (fun q => False.elim (by exact q hr32)) (fun hc135_33 => ?_)
  refine iconst w X (1 : Int32) at_138 139 rfl rfl ?_
  refine goto w X at_139 143 (by decide) (by decide) ?_
  refine istore w X (1 : Int32) at_143 145 rfl rfl #[.val (.int ln), .val (.int oln), .val (.int bts), .val (.int len), .val (.int c0), .val (.ref b2), .val (.ref b9), .val (.int i7_22), .val (.int r23), .val (.ref b25), .val (.int r29), .val (.int (1 : Int32)), .unset, .unset, .unset] rfl ?_
  obtain ⟨nn, hnn, hn⟩ := own_nn len
  rw [← hi7_22] at hn
  obtain ⟨ee, hsk⟩ := own_ex [e12, e15, e18, e21] (Nat.le_of_ble_eq_true rfl) nn (by exact hnn)
  obtain ⟨eI, heI⟩ : ∃ z : Int32, z = Int32.ofNat ee := ⟨_, rfl⟩
  refine aload w X at_145 147 rfl rfl rfl ?_
  refine iload w X at_147 149 rfl rfl ?_
  refine callSPI w X [(.ref b9), (.int i7_22)] (wd54 hw) (wd55 hw) (wd3 hw) (wd56 hw) (by decide) (rm_fn hw b9 i7_22 eI e12 e15 e18 e21 nn ee h31 n0 zn V_b9 hn heI hsk) at_149 152 rfl 0 (by decide) (by decide) (lenOf pd7 rfl) rfl (Nat.le_of_eq rfl) rfl (by decide) (by decide) (fun r34 T X hq => ?_)
  have hr34 := hq
  refine istore w X r34 at_152 154 rfl rfl #[.val (.int ln), .val (.int oln), .val (.int bts), .val (.int len), .val (.int c0), .val (.ref b2), .val (.ref b9), .val (.int i7_22), .val (.int r23), .val (.ref b25), .val (.int r29), .val (.int (1 : Int32)), .val (.int r34), .unset, .unset] rfl ?_
  refine aload w X at_154 156 rfl rfl rfl ?_
  refine iload w X at_156 158 rfl rfl ?_
  refine callVI w X [(.int r23)] (wd60 hw) (wd61 hw) (notFace_of_selects (args := #[]) (mvT w.2.2.2.2.1 (wd63 hw))) (wd63 hw) (wd62 hw) (wd8 hw) (wd64 hw) (by decide) E_b25 (rm_ni hw b25 b9 ln i7_22 (0 : Int32) eI [e12, e15, e18, e21] nn ee 0 r23 h31 n0 zn E_b25 F_line_b25 F_text_b25 F_length_b25 F_position_b25 g_b25 V_b9 ne_b9_b25 hn rfl heI hsk (Nat.zero_le _)) at_158 161 rfl 0 (by decide) (by decide) (lenOf pd8 rfl) rfl (Nat.le_of_eq rfl) rfl (by decide) (by decide) (fun r35 T h36 X hq => ?_)
  obtain ⟨hr35, Kq, E_b25, F_line_b25, F_text_b25, F_length_b25, F_position_b25⟩ := hq
  have zn : n0 ≤ h36.size := Nat.le_trans zn Kq.1
  have V_b2 := V_b2.keep Kq (ninS ne_b2_b25 nin0)
  have V_b9 := V_b9.keep Kq (ninS ne_b9_b25 nin0)
  refine istore w X r35 at_161 163 rfl rfl #[.val (.int ln), .val (.int oln), .val (.int bts), .val (.int len), .val (.int c0), .val (.ref b2), .val (.ref b9), .val (.int i7_22), .val (.int r23), .val (.ref b25), .val (.int r29), .val (.int (1 : Int32)), .val (.int r34), .val (.int r35), .unset] rfl ?_
  refine aload w X at_163 165 rfl rfl rfl ?_
  refine callVI w X [] (wd37 hw) (wd38 hw) (notFace_of_selects (args := #[]) (mvT w.2.2.2.2.1 (wd40 hw))) (wd40 hw) (wd39 hw) (wd8 hw) (wd41 hw) (by decide) E_b25 (rm_ae hw b25 b9 ln i7_22 eI eI [e12, e15, e18, e21] nn ee ee  h36 n0 zn E_b25 F_line_b25 F_text_b25 F_length_b25 F_position_b25 g_b25 V_b9 ne_b9_b25 hn heI heI hsk (Nat.le_refl _)) at_165 168 rfl 0 (by decide) (by decide) (lenOf pd5 rfl) rfl (Nat.le_of_eq rfl) rfl (by decide) (by decide) (fun r37 T h38 X hq => ?_)
  obtain ⟨hr37, Kq, E_b25, F_line_b25, F_text_b25, F_length_b25, F_position_b25⟩ := hq
  have zn : n0 ≤ h38.size := Nat.le_trans zn Kq.1
  have V_b2 := V_b2.keep Kq (ninS ne_b2_b25 nin0)
  have V_b9 := V_b9.keep Kq (ninS ne_b9_b25 nin0)
  refine istore w X r37 at_168 170 rfl rfl #[.val (.int ln), .val (.int oln), .val (.int bts), .val (.int len), .val (.int c0), .val (.ref b2), .val (.ref b9), .val (.int i7_22), .val (.int r23), .val (.ref b25), .val (.int r29), .val (.int (1 : Int32)), .val (.int r34), .val (.int r35), .val (.int r37)] rfl ?_
  refine iload w X at_170 172 rfl rfl ?_
  refine if_eq w X at_172 228 175 (by decide) (by decide) rfl (fun q => False.elim (by rw [hr29] at q; exact absurd q (by decide))) (fun hc172_39 => ?_)
  refine iload w X at_175 177 rfl rfl ?_
  refine if_eq w X at_177 228 180 (by decide) (by decide) rfl (fun q => absurd q (by decide)) (fun hc177_40 => ?_)
  refine iload w X at_180 182 rfl rfl ?_
  refine iload w X at_182 184 rfl rfl ?_
  refine iload w X at_184 186 rfl rfl ?_
  refine icmp_ge w X at_186 203 189 (by decide) (by decide) rfl (fun hc186_41 => ?_) (fun hc186_41 => ?_)
  ·
    refine iconst w X (0 : Int32) at_203 204 rfl rfl ?_
    refine icmp_ne w X at_204 228 207 (by decide) (by decide) rfl (fun q => False.elim (by exact q (own_nl hr34 hr35 hc186_41))) (fun hc204_42 => ?_)
    refine iload w X at_207 209 rfl rfl ?_
    refine iload w X at_209 211 rfl rfl ?_
    refine iload w X at_211 213 rfl rfl ?_
    refine icmp_ne w X at_213 220 216 (by decide) (by decide) rfl (fun hc213_43 => ?_) (fun hc213_43 => ?_)
    ·
      refine iconst w X (0 : Int32) at_220 221 rfl rfl ?_
      refine icmp_ne w X at_221 228 224 (by decide) (by decide) rfl (fun q => False.elim (by exact q (own_an hr34 hr37 hc213_43))) (fun hc221_44 => ?_)
      refine iconst w X (1 : Int32) at_224 225 rfl rfl ?_
      refine goto w X at_225 229 (by decide) (by decide) ?_
      refine retN w X (t := .boolean) rfl (by simp) at_229 (by decide) (by decide) ?_
      exact ⟨_, rfl, rfl⟩
    ·
      refine iconst w X (1 : Int32) at_216 217 rfl rfl ?_
      refine goto w X at_217 221 (by decide) (by decide) ?_
      refine icmp_ne w X at_221 228 224 (by decide) (by decide) rfl (fun q => False.elim (by exact q (own_ay hr34 hr37 hc213_43))) (fun hc221_45 => ?_)
      refine iconst w X (1 : Int32) at_224 225 rfl rfl ?_
      refine goto w X at_225 229 (by decide) (by decide) ?_
      refine retN w X (t := .boolean) rfl (by simp) at_229 (by decide) (by decide) ?_
      exact ⟨_, rfl, rfl⟩
  ·
    refine aload w X at_189 191 rfl rfl rfl ?_
    refine iload w X at_191 193 rfl rfl ?_
    have hx := own_ix hsk (Nat.le_refl _) hn (by rw [← heI, ← hr34]; exact hc186_41)
    rw [← heI, ← hr34] at hx
    obtain ⟨r46, hr46⟩ : ∃ z : Int32, z = ([e12, e15, e18, e21].getD r34.toNatClampNeg 0) := ⟨_, rfl⟩
    refine baload w X V_b9 hx.1 r34.toNatClampNeg rfl (by rw [hx.2.1]; exact hx.2.2.1) at_193 194 rfl r46 hr46 ?_
    refine iload w X at_194 196 rfl rfl ?_
    refine icmp_ne w X at_196 203 199 (by decide) (by decide) rfl (fun hc196_47 => ?_) (fun hc196_47 => ?_)
    ·
      refine iconst w X (0 : Int32) at_203 204 rfl rfl ?_
      refine icmp_ne w X at_204 228 207 (by decide) (by decide) rfl (fun q => False.elim (by exact q (own_nf hr34 hr35 hr46 hc196_47))) (fun hc204_48 => ?_)
      refine iload w X at_207 209 rfl rfl ?_
      refine iload w X at_209 211 rfl rfl ?_
      refine iload w X at_211 213 rfl rfl ?_
      refine icmp_ne w X at_213 220 216 (by decide) (by decide) rfl (fun hc213_49 => ?_) (fun hc213_49 => ?_)
      ·
        refine iconst w X (0 : Int32) at_220 221 rfl rfl ?_
        refine icmp_ne w X at_221 228 224 (by decide) (by decide) rfl (fun q => False.elim (by exact q (own_an hr34 hr37 hc213_49))) (fun hc221_50 => ?_)
        refine iconst w X (1 : Int32) at_224 225 rfl rfl ?_
        refine goto w X at_225 229 (by decide) (by decide) ?_
        refine retN w X (t := .boolean) rfl (by simp) at_229 (by decide) (by decide) ?_
        exact ⟨_, rfl, rfl⟩
      ·
        refine iconst w X (1 : Int32) at_216 217 rfl rfl ?_
        refine goto w X at_217 221 (by decide) (by decide) ?_
        refine icmp_ne w X at_221 228 224 (by decide) (by decide) rfl (fun q => False.elim (by exact q (own_ay hr34 hr37 hc213_49))) (fun hc221_51 => ?_)
        refine iconst w X (1 : Int32) at_224 225 rfl rfl ?_
        refine goto w X at_225 229 (by decide) (by decide) ?_
        refine retN w X (t := .boolean) rfl (by simp) at_229 (by decide) (by decide) ?_
        exact ⟨_, rfl, rfl⟩
    ·
      refine iconst w X (1 : Int32) at_199 200 rfl rfl ?_
      refine goto w X at_200 204 (by decide) (by decide) ?_
      refine icmp_ne w X at_204 228 207 (by decide) (by decide) rfl (fun q => False.elim (by exact q (own_nt hr34 hr35 hc186_41 hr46 hc196_47))) (fun hc204_52 => ?_)
      refine iload w X at_207 209 rfl rfl ?_
      refine iload w X at_209 211 rfl rfl ?_
      refine iload w X at_211 213 rfl rfl ?_
      refine icmp_ne w X at_213 220 216 (by decide) (by decide) rfl (fun hc213_53 => ?_) (fun hc213_53 => ?_)
      ·
        refine iconst w X (0 : Int32) at_220 221 rfl rfl ?_
        refine icmp_ne w X at_221 228 224 (by decide) (by decide) rfl (fun q => False.elim (by exact q (own_an hr34 hr37 hc213_53))) (fun hc221_54 => ?_)
        refine iconst w X (1 : Int32) at_224 225 rfl rfl ?_
        refine goto w X at_225 229 (by decide) (by decide) ?_
        refine retN w X (t := .boolean) rfl (by simp) at_229 (by decide) (by decide) ?_
        exact ⟨_, rfl, rfl⟩
      ·
        refine iconst w X (1 : Int32) at_216 217 rfl rfl ?_
        refine goto w X at_217 221 (by decide) (by decide) ?_
        refine icmp_ne w X at_221 228 224 (by decide) (by decide) rfl (fun q => False.elim (by exact q (own_ay hr34 hr37 hc213_53))) (fun hc221_55 => ?_)
        refine iconst w X (1 : Int32) at_224 225 rfl rfl ?_
        refine goto w X at_225 229 (by decide) (by decide) ?_
        refine retN w X (t := .boolean) rfl (by simp) at_229 (by decide) (by decide) ?_
        exact ⟨_, rfl, rfl⟩
set_option maxRecDepth 65536 in
set_option maxHeartbeats 40000000 in
theorem comes_1 {Post : Tables → Env → Array Value → State → Outcome → State → Prop} (hpost : ∀ tb e args s v u, (limb_1_1.after args s (.returned v) u = true ∧ limb_1_2.after args s (.returned v) u = true ∧ True) → FrameEnd s (.returned v) u (Jvm.fieldLocs frame_1_writes args s ++ Jvm.arrayLocs frame_1_arrays args s ++ Jvm.staticLocs frame_1_statics s) 24 4224 → Post tb e args s (.returned v) u) :
    ArmFor flags0 classFile x code maxLocals ret World_1 tables_1 room_1 Calls_1 rest_1 Pre_1 Post := by
  intro l hfl _ _ p e ha hc hk s m args below hf hA hF happ hP
  obtain ⟨hcalls, hrest, hpre⟩ := hP
  obtain ⟨-, -, -, hnamed, -, -, -, hat⟩ := (Spec.applies_iff hf).mp happ
  obtain ⟨hg, hn⟩ := and_e (Cond.before_iff.mp (show (Jvm.Cond.and given_1 narrow_1).before args s = true from hpre))
  obtain ⟨g1, g2⟩ := and_e hg
  obtain ⟨g3, g4⟩ := and_e g2
  obtain ⟨g5, g6⟩ := and_e g4
  obtain ⟨g7, g8⟩ := and_e g6
  obtain ⟨g9, g10⟩ := and_e g8
  obtain ⟨w0, w1, w2, w3, w4, rfl⟩ : ∃ w0 w1 w2 w3 w4 : Value, args = #[w0, w1, w2, w3, w4] := by
    have hs : args.size = 5 := by simpa [Cond.value, given_1] using g1
    obtain ⟨L⟩ := args
    match L, hs with
    | [w0, w1, w2, w3, w4], _ => exact ⟨w0, w1, w2, w3, w4, rfl⟩
  have hw := fun d (hd : d ∈ tables_1) => atoms_spec (ws := Jvm.Cond.code x code maxLocals ret :: tables_1) hat d (List.mem_cons_of_mem _ hd)
  obtain ⟨i0, ei0⟩ := is_v g3
  obtain rfl : w0 = (.int i0) := Option.some.inj ei0
  obtain ⟨i1, ei1⟩ := is_v g5
  obtain rfl : w1 = (.int i1) := Option.some.inj ei1
  obtain ⟨i2, ei2⟩ := is_v g7
  obtain rfl : w2 = (.int i2) := Option.some.inj ei2
  obtain ⟨i3, ei3⟩ := is_v g9
  obtain rfl : w3 = (.int i3) := Option.some.inj ei3
  obtain ⟨i4, ei4⟩ := is_v g10
  obtain rfl : w4 = (.int i4) := Option.some.inj ei4
  obtain ⟨n, o, h1, h2, h3, _, L, rfl, ⟨⟨_, rfl, rfl⟩, N⟩, hq⟩ := rm_law (l := l) hw i0 i1 i2 i3 i4 s.heap s.heap.size (Nat.le_refl _) p e ha hc hk s m _ below hf ((Spec.applies_iff_loose hf).mp happ).1 ⟨rfl, State.Warmed39.refl s, rfl⟩ trivial
  refine ⟨n, _, h1, h2, h3, hpost _ _ _ _ _ _ ⟨Cond.after_iff.mpr rfl, Cond.after_iff.mpr (eq_i res_at (Term.int_eval (1)) rfl), trivial⟩ ⟨hq.1, hq.2.1, (hq.2.2.sift fun y hy => Or.inr (N y hy)).mono (by decide) (by decide)⟩⟩
theorem main_1_1 : Claimed_1_1 := comes_1 fun _ _ _ _ _ _ h hF => ⟨h.1, hF⟩
theorem main_1_2 : Claimed_1_2 := comes_1 fun _ _ _ _ _ _ h hF => ⟨h.2.1, hF⟩
end Jvm.Pilot.@@N@@
namespace Jvm.Pilot.@@N@@
open Jvm Jvm.ClassFile Sem Op Lib Jvm.Free Jvm.Stand Jvm.Pilot.@@N@@.Jvm.D
/-! MADE BY PROGRAM (witnessworld.py) out of the Statement's table words and the real class files: 15 classes; the members and pool entries that the words name. The judged class is class 1, her method 4. -/
namespace start1
open Jvm.ClassFile
def u (s : String) : CpInfo := .utf8 (stringToUtf16 s)
/-- a pool by its gaps: so many unusable entries, then the entry; so many at the end -/
def gap : Nat → List CpInfo → List CpInfo
  | 0, r => r
  | n + 1, r => .unusable :: gap n r
def poolList (es : List (Nat × CpInfo)) (last : Nat) : List CpInfo := es.foldr (fun e r => gap e.1 (e.2 :: r)) (gap last [])
def pool (es : List (Nat × CpInfo)) (last : Nat) : Array CpInfo := ⟨poolList es last⟩
def fileOf (pool : Array CpInfo) (this : Nat) (attrs : Array Attribute := #[]) (ms : Array MethodInfo := #[]) (fl : Nat := 33) (sup : Nat := 0) (ifs : Array Nat := #[]) (fds : Array FieldInfo := #[]) : ClassFile where
  minorVersion := 0
  majorVersion := 65
  constantPool := pool
  accessFlags := fl
  thisClass := this
  superClass := sup
  interfaces := ifs
  fields := fds
  methods := ms
  attributes := attrs
def plain (name : String) (sup : Option ClassId) : Class where
  name := name
  kind := .ordinary
  loader := none
  accessFlags := 33
  super := sup
  interfaces := #[]
  cf := none
  fields := #[]
  methods := #[]
  instanceTypes := #[]
  staticTypes := #[]
  resolved := #[]
  callSites := []
  init := .initialized
  statics := none
  mirror := none

def pool0 : Array CpInfo := pool [(5, u "<init>"), (0, u "()V"), (1, .class_ 10), (1, u "java/lang/Object")] 113

def k0c0 : Code := { maxStack := 0, maxLocals := 1, code := object_method_1_code, exceptionTable := #[], attributes := #[] }
def k0m0 : Method := { name := "<init>", desc := "()V", sig := { parameters := [], returnType := none }, accessFlags := 1, code := some k0c0 }
/-- java/lang/Object -/
def k0 : Class := { plain "java/lang/Object" none with
  accessFlags := 33
  interfaces := #[]
  cf := some (fileOf pool0 8 #[] #[{ accessFlags := 1, nameIndex := 5, descriptorIndex := 6, attributes := #[] }] 33 0 #[] #[])
  fields := #[]
  methods := #[k0m0]
  instanceTypes := #[]
  staticTypes := #[]
  resolved := Array.replicate 124 none
  statics := none }

def pool1 : Array CpInfo := pool [(2, .class_ 4), (0, .nameAndType 5 6), (0, u "java/lang/Object"), (0, u "<init>"), (0, u "()V"), (0, .methodref 8 9), (0, .class_ 10), (0, .nameAndType 11 12), (0, u "com/example/frugal_kripke/frugalkripke/model/LineCursorResetPinLaw"), (0, u "blank"), (0, u "(B)Z"), (0, .methodref 8 14), (0, .nameAndType 15 16), (0, u "pick"), (0, u "(I)C"), (0, .integer 2147483647), (0, .class_ 19), (0, u "com/example/frugal_kripke/frugalkripke/model/LineCursor"), (0, .methodref 18 3), (0, .methodref 18 22), (0, .nameAndType 23 24), (0, u "reset"), (0, u "(I[BI)V"), (0, .methodref 18 26), (0, .nameAndType 27 28), (0, u "atEnd"), (0, u "()Z"), (0, .methodref 18 30), (0, .nameAndType 31 32), (0, u "line"), (0, u "()I"), (0, .methodref 8 34), (0, .nameAndType 35 36), (0, u "firstNonBlank"), (0, u "([BI)I"), (0, .methodref 18 38), (0, .nameAndType 39 40), (0, u "nextIs"), (0, u "(C)Z"), (3, u "law"), (0, u "(IIIII)Z")] 4

def k1m0 : Method := { name := "<init>", desc := "()V", sig := { parameters := [], returnType := none }, accessFlags := 1, code := none }
def k1c1 : Code := { maxStack := 2, maxLocals := 2, code := method_2_code, exceptionTable := #[], attributes := #[] }
def k1m1 : Method := { name := "pick", desc := "(I)C", sig := { parameters := [.int], returnType := some .char }, accessFlags := 10, code := some k1c1 }
def k1c2 : Code := { maxStack := 2, maxLocals := 1, code := method_3_code, exceptionTable := #[], attributes := #[] }
def k1m2 : Method := { name := "blank", desc := "(B)Z", sig := { parameters := [.byte], returnType := some .boolean }, accessFlags := 10, code := some k1c2 }
def k1c3 : Code := { maxStack := 2, maxLocals := 2, code := method_4_code, exceptionTable := #[], attributes := #[] }
def k1m3 : Method := { name := "firstNonBlank", desc := "([BI)I", sig := { parameters := [(.array .byte), .int], returnType := some .int }, accessFlags := 10, code := some k1c3 }
def k1c4 : Code := { maxStack := 4, maxLocals := 15, code := code, exceptionTable := #[], attributes := #[] }
def k1m4 : Method := { name := "law", desc := "(IIIII)Z", sig := { parameters := [.int, .int, .int, .int, .int], returnType := some .boolean }, accessFlags := 9, code := some k1c4 }
/-- com/example/frugal_kripke/frugalkripke/model/LineCursorResetPinLaw -/
def k1 : Class := { plain "com/example/frugal_kripke/frugalkripke/model/LineCursorResetPinLaw" (some 0) with
  accessFlags := 49
  interfaces := #[]
  cf := some (fileOf pool1 8 #[] #[{ accessFlags := 1, nameIndex := 5, descriptorIndex := 6, attributes := #[] }, { accessFlags := 10, nameIndex := 15, descriptorIndex := 16, attributes := #[] }, { accessFlags := 10, nameIndex := 11, descriptorIndex := 12, attributes := #[] }, { accessFlags := 10, nameIndex := 35, descriptorIndex := 36, attributes := #[] }, { accessFlags := 9, nameIndex := 44, descriptorIndex := 45, attributes := #[] }] 49 2 #[] #[])
  fields := #[]
  methods := #[k1m0, k1m1, k1m2, k1m3, k1m4]
  instanceTypes := #[]
  staticTypes := #[]
  resolved := Array.replicate 50 none
  statics := none }

def pool2 : Array CpInfo := pool [(1, .methodref 2 3), (0, .class_ 4), (0, .nameAndType 5 6), (0, u "java/lang/Object"), (0, u "<init>"), (0, u "()V"), (0, .class_ 8), (0, u "com/example/frugal_kripke/frugalkripke/model/LineCursor"), (0, .class_ 10), (0, u "[B"), (0, .fieldref 7 12), (0, .nameAndType 13 14), (0, u "keptBytes"), (0, u "[[B"), (0, .class_ 16), (0, u "java/lang/String"), (0, .fieldref 7 18), (0, .nameAndType 19 20), (0, u "keptStrings"), (0, u "[Ljava/lang/String;"), (10, .methodref 7 32), (0, .nameAndType 33 34), (0, u "reset"), (0, u "(I[BI)V"), (0, .fieldref 7 36), (0, .nameAndType 37 38), (0, u "line"), (0, u "I"), (0, .fieldref 7 40), (0, .nameAndType 41 10), (0, u "text"), (0, .fieldref 7 43), (0, .nameAndType 44 38), (0, u "length"), (0, .fieldref 7 46), (0, .nameAndType 47 38), (0, u "position"), (0, .methodref 7 49), (0, .nameAndType 50 6), (0, u "skipBlanks"), (10, u "()I"), (56, u "(I)Z"), (6, u "nextIs"), (0, u "(C)Z"), (2, .methodref 7 130), (0, .nameAndType 131 118), (0, u "isBlank"), (21, u "KEPT_TOKENS"), (17, u "atEnd"), (0, u "()Z")] 43

def k2c0 : Code := { maxStack := 4, maxLocals := 1, code := prog_48_method_2_code, exceptionTable := #[], attributes := #[] }
def k2m0 : Method := { name := "<init>", desc := "()V", sig := { parameters := [], returnType := none }, accessFlags := 0, code := some k2c0 }
def k2c1 : Code := { maxStack := 2, maxLocals := 4, code := prog_48_method_3_code, exceptionTable := #[], attributes := #[] }
def k2m1 : Method := { name := "reset", desc := "(I[BI)V", sig := { parameters := [.int, (.array .byte), .int], returnType := none }, accessFlags := 0, code := some k2c1 }
def k2c2 : Code := { maxStack := 1, maxLocals := 1, code := prog_48_method_4_code, exceptionTable := #[], attributes := #[] }
def k2m2 : Method := { name := "line", desc := "()I", sig := { parameters := [], returnType := some .int }, accessFlags := 0, code := some k2c2 }
def k2c3 : Code := { maxStack := 2, maxLocals := 1, code := prog_48_method_13_code, exceptionTable := #[], attributes := #[] }
def k2m3 : Method := { name := "atEnd", desc := "()Z", sig := { parameters := [], returnType := some .boolean }, accessFlags := 0, code := some k2c3 }
def k2c4 : Code := { maxStack := 2, maxLocals := 2, code := prog_48_method_14_code, exceptionTable := #[], attributes := #[] }
def k2m4 : Method := { name := "nextIs", desc := "(C)Z", sig := { parameters := [.char], returnType := some .boolean }, accessFlags := 0, code := some k2c4 }
def k2c5 : Code := { maxStack := 3, maxLocals := 1, code := prog_48_method_22_code, exceptionTable := #[], attributes := #[] }
def k2m5 : Method := { name := "skipBlanks", desc := "()V", sig := { parameters := [], returnType := none }, accessFlags := 2, code := some k2c5 }
def k2c6 : Code := { maxStack := 2, maxLocals := 1, code := prog_48_method_24_code, exceptionTable := #[], attributes := #[] }
def k2m6 : Method := { name := "isBlank", desc := "(I)Z", sig := { parameters := [.int], returnType := some .boolean }, accessFlags := 8, code := some k2c6 }
/-- com/example/frugal_kripke/frugalkripke/model/LineCursor -/
def k2 : Class := { plain "com/example/frugal_kripke/frugalkripke/model/LineCursor" (some 0) with
  accessFlags := 48
  interfaces := #[]
  cf := some (fileOf pool2 7 #[] #[{ accessFlags := 0, nameIndex := 5, descriptorIndex := 6, attributes := #[] }, { accessFlags := 0, nameIndex := 33, descriptorIndex := 34, attributes := #[] }, { accessFlags := 0, nameIndex := 37, descriptorIndex := 61, attributes := #[] }, { accessFlags := 0, nameIndex := 171, descriptorIndex := 172, attributes := #[] }, { accessFlags := 0, nameIndex := 125, descriptorIndex := 126, attributes := #[] }, { accessFlags := 2, nameIndex := 50, descriptorIndex := 6, attributes := #[] }, { accessFlags := 8, nameIndex := 131, descriptorIndex := 118, attributes := #[] }] 48 2 #[] #[{ accessFlags := 26, nameIndex := 153, descriptorIndex := 38, attributes := #[] }, { accessFlags := 18, nameIndex := 13, descriptorIndex := 14, attributes := #[] }, { accessFlags := 18, nameIndex := 19, descriptorIndex := 20, attributes := #[] }, { accessFlags := 2, nameIndex := 37, descriptorIndex := 38, attributes := #[] }, { accessFlags := 2, nameIndex := 41, descriptorIndex := 10, attributes := #[] }, { accessFlags := 2, nameIndex := 44, descriptorIndex := 38, attributes := #[] }, { accessFlags := 2, nameIndex := 47, descriptorIndex := 38, attributes := #[] }])
  fields := #[{ name := "KEPT_TOKENS", type := .int, accessFlags := 26, slot := 0, constantValue := 0 }, { name := "keptBytes", type := (.array (.array .byte)), accessFlags := 18, slot := 0, constantValue := 0 }, { name := "keptStrings", type := (.array (.object "java/lang/String")), accessFlags := 18, slot := 1, constantValue := 0 }, { name := "line", type := .int, accessFlags := 2, slot := 2, constantValue := 0 }, { name := "text", type := (.array .byte), accessFlags := 2, slot := 3, constantValue := 0 }, { name := "length", type := .int, accessFlags := 2, slot := 4, constantValue := 0 }, { name := "position", type := .int, accessFlags := 2, slot := 5, constantValue := 0 }]
  methods := #[k2m0, k2m1, k2m2, k2m3, k2m4, k2m5, k2m6]
  instanceTypes := #[(.array (.array .byte)), (.array (.object "java/lang/String")), .int, (.array .byte), .int, .int]
  staticTypes := #[.int]
  resolved := Array.replicate 216 none
  statics := none }

def pool3 : Array CpInfo := pool [(1, .class_ 2), (0, u "java/io/Serializable"), (0, .class_ 4), (0, u "java/lang/Object")] 2

/-- java/io/Serializable -/
def k3 : Class := { plain "java/io/Serializable" (some 0) with
  accessFlags := 1537
  interfaces := #[]
  cf := some (fileOf pool3 1 #[] #[] 1537 3 #[] #[])
  fields := #[]
  methods := #[]
  instanceTypes := #[]
  staticTypes := #[]
  resolved := Array.replicate 7 none
  statics := none }

def pool4 : Array CpInfo := pool [(1, .class_ 2), (0, u "java/lang/Comparable"), (0, .class_ 4), (0, u "java/lang/Object")] 7

/-- java/lang/Comparable -/
def k4 : Class := { plain "java/lang/Comparable" (some 0) with
  accessFlags := 1537
  interfaces := #[]
  cf := some (fileOf pool4 1 #[] #[] 1537 3 #[] #[])
  fields := #[]
  methods := #[]
  instanceTypes := #[]
  staticTypes := #[]
  resolved := Array.replicate 12 none
  statics := none }

def pool5 : Array CpInfo := pool [(2, .class_ 4), (1, u "java/lang/CharSequence"), (42, .class_ 48), (0, u "java/lang/CharSequence$1CodePointIterator"), (10, .class_ 60), (0, u "java/lang/CharSequence$1CharIterator"), (5, .class_ 67), (0, u "java/lang/Object")] 63

/-- java/lang/CharSequence -/
def k5 : Class := { plain "java/lang/CharSequence" (some 0) with
  accessFlags := 1537
  interfaces := #[]
  cf := some (fileOf pool5 2 #[.nestMembers #[47, 59]] #[] 1537 66 #[] #[])
  fields := #[]
  methods := #[]
  instanceTypes := #[]
  staticTypes := #[]
  resolved := Array.replicate 131 none
  statics := none }

def pool6 : Array CpInfo := pool [(1, .class_ 2), (0, u "java/lang/constant/Constable"), (0, .class_ 4), (0, u "java/lang/Object")] 6

/-- java/lang/constant/Constable -/
def k6 : Class := { plain "java/lang/constant/Constable" (some 0) with
  accessFlags := 1537
  interfaces := #[]
  cf := some (fileOf pool6 1 #[] #[] 1537 3 #[] #[])
  fields := #[]
  methods := #[]
  instanceTypes := #[]
  staticTypes := #[]
  resolved := Array.replicate 11 none
  statics := none }

def pool7 : Array CpInfo := pool [(1, .class_ 2), (0, u "java/lang/constant/ConstantDesc"), (0, .class_ 4), (0, u "java/lang/Object")] 32

/-- java/lang/constant/ConstantDesc -/
def k7 : Class := { plain "java/lang/constant/ConstantDesc" (some 0) with
  accessFlags := 1537
  interfaces := #[]
  cf := some (fileOf pool7 1 #[] #[] 1537 3 #[] #[])
  fields := #[]
  methods := #[]
  instanceTypes := #[]
  staticTypes := #[]
  resolved := Array.replicate 37 none
  statics := none }

def pool8 : Array CpInfo := pool [(2, .class_ 4), (1, u "java/lang/Object"), (0, u "<init>"), (0, u "()V"), (3, .class_ 12), (1, u "java/lang/String"), (0, u "value"), (0, u "[B"), (2, u "coder"), (0, u "B"), (2, u "hash"), (0, u "I"), (2, u "hashIsZero"), (0, u "Z"), (13, u "COMPACT_STRINGS"), (534, .class_ 576), (0, u "java/lang/CharSequence"), (22, u "CASE_INSENSITIVE_ORDER"), (0, u "Ljava/util/Comparator;"), (500, u "serialPersistentFields"), (0, u "[Ljava/io/ObjectStreamField;"), (0, .class_ 1104), (0, u "java/lang/String$CaseInsensitiveComparator"), (1, .class_ 1107), (0, u "java/io/Serializable"), (0, .class_ 1109), (0, u "java/lang/Comparable"), (0, .class_ 1111), (0, u "java/lang/constant/Constable"), (0, .class_ 1113), (0, u "java/lang/constant/ConstantDesc"), (2, u "serialVersionUID"), (0, u "J"), (3, u "REPL"), (0, u "C"), (2, u "LATIN1"), (1, u "UTF16")] 323

def k8m0 : Method := { name := "<init>", desc := "()V", sig := { parameters := [], returnType := none }, accessFlags := 1, code := none }
/-- java/lang/String -/
def k8 : Class := { plain "java/lang/String" (some 0) with
  accessFlags := 49
  interfaces := #[3, 4, 5, 6, 7]
  cf := some (fileOf pool8 10 #[.nestMembers #[1103]] #[{ accessFlags := 1, nameIndex := 5, descriptorIndex := 6, attributes := #[] }] 49 2 #[1106, 1108, 575, 1110, 1112] #[{ accessFlags := 18, nameIndex := 13, descriptorIndex := 14, attributes := #[] }, { accessFlags := 18, nameIndex := 17, descriptorIndex := 18, attributes := #[] }, { accessFlags := 2, nameIndex := 21, descriptorIndex := 22, attributes := #[] }, { accessFlags := 2, nameIndex := 25, descriptorIndex := 26, attributes := #[] }, { accessFlags := 26, nameIndex := 1116, descriptorIndex := 1117, attributes := #[] }, { accessFlags := 24, nameIndex := 40, descriptorIndex := 26, attributes := #[] }, { accessFlags := 26, nameIndex := 1101, descriptorIndex := 1102, attributes := #[] }, { accessFlags := 26, nameIndex := 1121, descriptorIndex := 1122, attributes := #[] }, { accessFlags := 25, nameIndex := 599, descriptorIndex := 600, attributes := #[] }, { accessFlags := 24, nameIndex := 1125, descriptorIndex := 18, attributes := #[] }, { accessFlags := 24, nameIndex := 1127, descriptorIndex := 18, attributes := #[] }])
  fields := #[{ name := "value", type := (.array .byte), accessFlags := 18, slot := 0, constantValue := 0 }, { name := "coder", type := .byte, accessFlags := 18, slot := 1, constantValue := 0 }, { name := "hash", type := .int, accessFlags := 2, slot := 2, constantValue := 0 }, { name := "hashIsZero", type := .boolean, accessFlags := 2, slot := 3, constantValue := 0 }, { name := "serialVersionUID", type := .long, accessFlags := 26, slot := 0, constantValue := 0 }, { name := "COMPACT_STRINGS", type := .boolean, accessFlags := 24, slot := 1, constantValue := 0 }, { name := "serialPersistentFields", type := (.array (.object "java/io/ObjectStreamField")), accessFlags := 26, slot := 2, constantValue := 0 }, { name := "REPL", type := .char, accessFlags := 26, slot := 3, constantValue := 0 }, { name := "CASE_INSENSITIVE_ORDER", type := (.object "java/util/Comparator"), accessFlags := 25, slot := 4, constantValue := 0 }, { name := "LATIN1", type := .byte, accessFlags := 24, slot := 5, constantValue := 0 }, { name := "UTF16", type := .byte, accessFlags := 24, slot := 6, constantValue := 0 }]
  methods := #[k8m0]
  instanceTypes := #[(.array .byte), .byte, .int, .boolean]
  staticTypes := #[.long, .boolean, (.array (.object "java/io/ObjectStreamField")), .char, (.object "java/util/Comparator"), .byte, .byte]
  resolved := Array.replicate 1451 none
  statics := none }

def pool9 : Array CpInfo := pool [(1, u "java/lang/Cloneable"), (0, .class_ 1), (0, u "java/lang/Object"), (0, .class_ 3)] 3

/-- java/lang/Cloneable -/
def k9 : Class := { plain "java/lang/Cloneable" (some 0) with
  accessFlags := 1537
  interfaces := #[]
  cf := some (fileOf pool9 2 #[] #[] 1537 4 #[] #[])
  fields := #[]
  methods := #[]
  instanceTypes := #[]
  staticTypes := #[]
  resolved := Array.replicate 8 none
  statics := none }

/-- the primitive byte -/
def k10 : Class := { plain "byte" none with kind := .primitive 'B', accessFlags := 0x411 }
/-- [B -/
def k11 : Class := { plain "[B" (some 0) with kind := .array 10 .byte, interfaces := #[9, 3], accessFlags := 1041 }

/-- the primitive int -/
def k12 : Class := { plain "int" none with kind := .primitive 'I', accessFlags := 0x411 }
/-- [I -/
def k13 : Class := { plain "[I" (some 0) with kind := .array 12 .int, interfaces := #[9, 3], accessFlags := 1041 }

/-- [Ljava/lang/String; -/
def k14 : Class := { plain "[Ljava/lang/String;" (some 0) with kind := .array 8 (.object "java/lang/String"), interfaces := #[9, 3], accessFlags := 1041 }

/-- [[B -/
def k15 : Class := { plain "[[B" (some 0) with kind := .array 11 (.array .byte), interfaces := #[9, 3], accessFlags := 1041 }

def heap : Heap := #[]
def classes : Array Class := #[k0, k1, k2, k3, k4, k5, k6, k7, k8, k9, k10, k11, k12, k13, k14, k15]
def interned : List (Array UInt16 × Addr) := []
def slotsUsed : Nat := 0
def theMethod : MethodId := ⟨1, 4⟩
def args0 : Array Value := #[.int 5, .int 6, .int 7, .int 8, .int 9]
def aboutOver (below : List Frame) : State where
  vm := { classes := classes, interned := interned.toArray }
  heap := heap
  slotsUsed := slotsUsed
  threads := #[{ frames := .invoking theMethod args0 :: below }]
def below0 : List Frame := [.native { method := ⟨0, 0⟩, args := #[] }]
def about1 : State := aboutOver below0
def p0 : Program := .bare "" "" ""
def e0 : Env := launch0.env 0 0 0
theorem w_frames : about1.frames = Frame.invoking theMethod args0 :: below0 := rfl
set_option maxRecDepth 65536 in
theorem w_args : argsFit about1.vm theMethod args0 = true := by decide +kernel
set_option maxRecDepth 65536 in
theorem w_heap : heapFits about1 = true := by decide +kernel
set_option maxRecDepth 65536 in
theorem w_runnable : about1.curStatus? = some .runnable := by decide +kernel
set_option maxRecDepth 65536 in
theorem w_alone : about1.alone = true := by decide +kernel
set_option maxRecDepth 65536 in
theorem w_named : about1.methodNamed? x = some theMethod := by decide +kernel
set_option maxRecDepth 65536 in
theorem w_hears : about1.hears theMethod below0 = true := by decide +kernel
set_option maxRecDepth 65536 in
theorem w_ripe : about1.ripe theMethod args0 below0 = true := by decide +kernel
theorem w_running : about1.status = .running := rfl
set_option maxRecDepth 65536 in
theorem w_room : about1.hasRoom e0.platform room_1 = true :=
  launch0.hasRoom_least _ room_1 (by decide +kernel) (by decide +kernel) (by decide +kernel) (by decide +kernel) (by decide +kernel) (by decide +kernel)
theorem allAtoms_all (ts : List Jvm.Cond) (a : Array Jvm.Value) (st : Jvm.State) : (allAtoms ts).before a st = ts.all (fun c => c.before a st) := by
  induction ts with
  | nil => rfl
  | cons c t ih =>
    show (Jvm.Cond.and c (allAtoms t)).before a st = _
    rw [Jvm.Cond.before_and, ih, List.all_cons]
def words1 : List Jvm.Cond := Jvm.Cond.code x code maxLocals ret :: tables_1
/-- a 'code' word, met by the world's own term for the bytes: nothing is compared byte by byte -/
theorem code_word {y : MethodName} {bytes : ByteArray} {mx : Nat} {rt : Option FieldType} {a : Array Value} {s : State} {m : MethodId} {meth : Method} {c : Code} (h1 : s.methodNamed? y = some m) (h2 : s.vm.method? m = some meth) (h3 : meth.code = some c) (h4 : c.code = bytes)
    (h5 : (c.maxLocals == mx && c.exceptionTable.isEmpty && decide (c.maxStack ≤ mostOperands) && decide (meth.sig.returnType = rt) && !meth.locks && decide (parseMethodDescriptor y.desc = some meth.sig)) = true) : (Jvm.Cond.code y bytes mx rt).before a s = true := by
  simp only [Bool.and_eq_true, beq_iff_eq, Bool.not_eq_true', decide_eq_true_eq] at h5
  obtain ⟨⟨⟨⟨⟨g1, g2⟩, g3⟩, g4⟩, g5⟩, g6⟩ := h5
  simp [Cond.before, Cond.holds, Cond.value, h1, h2, h3, h4, g1, g2, g3, g4, g5, g6]
def isCode : Jvm.Cond → Bool
  | .code _ _ _ _ => true
  | _ => false
theorem all_split {L : List Jvm.Cond} {P : Jvm.Cond → Bool} (h1 : L.all (fun c => isCode c || P c) = true) (h2 : ∀ c ∈ L.filter isCode, P c = true) : L.all P = true := by
  refine List.all_eq_true.mpr fun c hc => ?_
  have h := List.all_eq_true.mp h1 c hc
  rcases Bool.eq_false_or_eq_true (isCode c) with hi | hi
  · exact h2 c (List.mem_filter.mpr ⟨hc, hi⟩)
  · simpa [hi] using h
set_option maxRecDepth 65536 in
theorem w_c0 : (Jvm.Cond.code x code maxLocals ret).before args0 about1 = true := code_word (m := ⟨1, 4⟩) (meth := k1m4) (c := k1c4) (by decide +kernel) rfl rfl rfl (by decide +kernel)
set_option maxRecDepth 65536 in
theorem w_c1 : (Jvm.Cond.code ({ cls := "com/example/frugal_kripke/frugalkripke/model/LineCursorResetPinLaw", name := "pick", desc := "(I)C" } : Jvm.MethodName) method_2_code (2 : Nat) (Option.some Jvm.ClassFile.FieldType.char)).before args0 about1 = true := code_word (m := ⟨1, 1⟩) (meth := k1m1) (c := k1c1) (by decide +kernel) rfl rfl rfl (by decide +kernel)
set_option maxRecDepth 65536 in
theorem w_c2 : (Jvm.Cond.code ({ cls := "com/example/frugal_kripke/frugalkripke/model/LineCursor", name := "<init>", desc := "()V" } : Jvm.MethodName) prog_48_method_2_code (1 : Nat) (Option.none : Option Jvm.ClassFile.FieldType)).before args0 about1 = true := code_word (m := ⟨2, 0⟩) (meth := k2m0) (c := k2c0) (by decide +kernel) rfl rfl rfl (by decide +kernel)
set_option maxRecDepth 65536 in
theorem w_c3 : (Jvm.Cond.code ({ cls := "java/lang/Object", name := "<init>", desc := "()V" } : Jvm.MethodName) object_method_1_code (1 : Nat) (Option.none : Option Jvm.ClassFile.FieldType)).before args0 about1 = true := code_word (m := ⟨0, 0⟩) (meth := k0m0) (c := k0c0) (by decide +kernel) rfl rfl rfl (by decide +kernel)
set_option maxRecDepth 65536 in
theorem w_c4 : (Jvm.Cond.code ({ cls := "com/example/frugal_kripke/frugalkripke/model/LineCursor", name := "reset", desc := "(I[BI)V" } : Jvm.MethodName) prog_48_method_3_code (4 : Nat) (Option.none : Option Jvm.ClassFile.FieldType)).before args0 about1 = true := code_word (m := ⟨2, 1⟩) (meth := k2m1) (c := k2c1) (by decide +kernel) rfl rfl rfl (by decide +kernel)
set_option maxRecDepth 65536 in
theorem w_c5 : (Jvm.Cond.code ({ cls := "com/example/frugal_kripke/frugalkripke/model/LineCursor", name := "atEnd", desc := "()Z" } : Jvm.MethodName) prog_48_method_13_code (1 : Nat) (Option.some Jvm.ClassFile.FieldType.boolean)).before args0 about1 = true := code_word (m := ⟨2, 3⟩) (meth := k2m3) (c := k2c3) (by decide +kernel) rfl rfl rfl (by decide +kernel)
set_option maxRecDepth 65536 in
theorem w_c6 : (Jvm.Cond.code ({ cls := "com/example/frugal_kripke/frugalkripke/model/LineCursor", name := "skipBlanks", desc := "()V" } : Jvm.MethodName) prog_48_method_22_code (1 : Nat) (Option.none : Option Jvm.ClassFile.FieldType)).before args0 about1 = true := code_word (m := ⟨2, 5⟩) (meth := k2m5) (c := k2c5) (by decide +kernel) rfl rfl rfl (by decide +kernel)
set_option maxRecDepth 65536 in
theorem w_c7 : (Jvm.Cond.code ({ cls := "com/example/frugal_kripke/frugalkripke/model/LineCursor", name := "isBlank", desc := "(I)Z" } : Jvm.MethodName) prog_48_method_24_code (1 : Nat) (Option.some Jvm.ClassFile.FieldType.boolean)).before args0 about1 = true := code_word (m := ⟨2, 6⟩) (meth := k2m6) (c := k2c6) (by decide +kernel) rfl rfl rfl (by decide +kernel)
set_option maxRecDepth 65536 in
theorem w_c8 : (Jvm.Cond.code ({ cls := "com/example/frugal_kripke/frugalkripke/model/LineCursor", name := "line", desc := "()I" } : Jvm.MethodName) prog_48_method_4_code (1 : Nat) (Option.some Jvm.ClassFile.FieldType.int)).before args0 about1 = true := code_word (m := ⟨2, 2⟩) (meth := k2m2) (c := k2c2) (by decide +kernel) rfl rfl rfl (by decide +kernel)
set_option maxRecDepth 65536 in
theorem w_c9 : (Jvm.Cond.code ({ cls := "com/example/frugal_kripke/frugalkripke/model/LineCursorResetPinLaw", name := "firstNonBlank", desc := "([BI)I" } : Jvm.MethodName) method_4_code (2 : Nat) (Option.some Jvm.ClassFile.FieldType.int)).before args0 about1 = true := code_word (m := ⟨1, 3⟩) (meth := k1m3) (c := k1c3) (by decide +kernel) rfl rfl rfl (by decide +kernel)
set_option maxRecDepth 65536 in
theorem w_c10 : (Jvm.Cond.code ({ cls := "com/example/frugal_kripke/frugalkripke/model/LineCursorResetPinLaw", name := "blank", desc := "(B)Z" } : Jvm.MethodName) method_3_code (1 : Nat) (Option.some Jvm.ClassFile.FieldType.boolean)).before args0 about1 = true := code_word (m := ⟨1, 2⟩) (meth := k1m2) (c := k1c2) (by decide +kernel) rfl rfl rfl (by decide +kernel)
set_option maxRecDepth 65536 in
theorem w_c11 : (Jvm.Cond.code ({ cls := "com/example/frugal_kripke/frugalkripke/model/LineCursor", name := "nextIs", desc := "(C)Z" } : Jvm.MethodName) prog_48_method_14_code (2 : Nat) (Option.some Jvm.ClassFile.FieldType.boolean)).before args0 about1 = true := code_word (m := ⟨2, 4⟩) (meth := k2m4) (c := k2c4) (by decide +kernel) rfl rfl rfl (by decide +kernel)
def codes1 : List Jvm.Cond := [Jvm.Cond.code x code maxLocals ret, Jvm.Cond.code ({ cls := "com/example/frugal_kripke/frugalkripke/model/LineCursorResetPinLaw", name := "pick", desc := "(I)C" } : Jvm.MethodName) method_2_code (2 : Nat) (Option.some Jvm.ClassFile.FieldType.char), Jvm.Cond.code ({ cls := "com/example/frugal_kripke/frugalkripke/model/LineCursor", name := "<init>", desc := "()V" } : Jvm.MethodName) prog_48_method_2_code (1 : Nat) (Option.none : Option Jvm.ClassFile.FieldType), Jvm.Cond.code ({ cls := "java/lang/Object", name := "<init>", desc := "()V" } : Jvm.MethodName) object_method_1_code (1 : Nat) (Option.none : Option Jvm.ClassFile.FieldType), Jvm.Cond.code ({ cls := "com/example/frugal_kripke/frugalkripke/model/LineCursor", name := "reset", desc := "(I[BI)V" } : Jvm.MethodName) prog_48_method_3_code (4 : Nat) (Option.none : Option Jvm.ClassFile.FieldType), Jvm.Cond.code ({ cls := "com/example/frugal_kripke/frugalkripke/model/LineCursor", name := "atEnd", desc := "()Z" } : Jvm.MethodName) prog_48_method_13_code (1 : Nat) (Option.some Jvm.ClassFile.FieldType.boolean), Jvm.Cond.code ({ cls := "com/example/frugal_kripke/frugalkripke/model/LineCursor", name := "skipBlanks", desc := "()V" } : Jvm.MethodName) prog_48_method_22_code (1 : Nat) (Option.none : Option Jvm.ClassFile.FieldType), Jvm.Cond.code ({ cls := "com/example/frugal_kripke/frugalkripke/model/LineCursor", name := "isBlank", desc := "(I)Z" } : Jvm.MethodName) prog_48_method_24_code (1 : Nat) (Option.some Jvm.ClassFile.FieldType.boolean), Jvm.Cond.code ({ cls := "com/example/frugal_kripke/frugalkripke/model/LineCursor", name := "line", desc := "()I" } : Jvm.MethodName) prog_48_method_4_code (1 : Nat) (Option.some Jvm.ClassFile.FieldType.int), Jvm.Cond.code ({ cls := "com/example/frugal_kripke/frugalkripke/model/LineCursorResetPinLaw", name := "firstNonBlank", desc := "([BI)I" } : Jvm.MethodName) method_4_code (2 : Nat) (Option.some Jvm.ClassFile.FieldType.int), Jvm.Cond.code ({ cls := "com/example/frugal_kripke/frugalkripke/model/LineCursorResetPinLaw", name := "blank", desc := "(B)Z" } : Jvm.MethodName) method_3_code (1 : Nat) (Option.some Jvm.ClassFile.FieldType.boolean), Jvm.Cond.code ({ cls := "com/example/frugal_kripke/frugalkripke/model/LineCursor", name := "nextIs", desc := "(C)Z" } : Jvm.MethodName) prog_48_method_14_code (2 : Nat) (Option.some Jvm.ClassFile.FieldType.boolean)]
set_option maxRecDepth 65536 in
theorem codes_eq : words1.filter isCode = codes1 := rfl
theorem w_codes : ∀ c ∈ words1.filter isCode, c.before args0 about1 = true := by
  rw [codes_eq]
  intro c hc
  simp only [codes1, List.mem_cons, List.not_mem_nil, or_false] at hc
  rcases hc with rfl | rfl | rfl | rfl | rfl | rfl | rfl | rfl | rfl | rfl | rfl | rfl
  · exact w_c0
  · exact w_c1
  · exact w_c2
  · exact w_c3
  · exact w_c4
  · exact w_c5
  · exact w_c6
  · exact w_c7
  · exact w_c8
  · exact w_c9
  · exact w_c10
  · exact w_c11
set_option maxRecDepth 65536 in
theorem w_t1 : (words1.take 24).all (fun c => isCode c || c.before args0 about1) = true := by decide +kernel
set_option maxRecDepth 65536 in
theorem w_t2 : ((words1.drop 24).take 24).all (fun c => isCode c || c.before args0 about1) = true := by decide +kernel
set_option maxRecDepth 65536 in
theorem w_t3 : ((words1.drop 24).drop 24).all (fun c => isCode c || c.before args0 about1) = true := by decide +kernel
theorem w_tables : (allAtoms (Jvm.Cond.code x code maxLocals ret :: tables_1)).before args0 about1 = true := by
  rw [allAtoms_all]
  show words1.all (fun c => c.before args0 about1) = true
  refine all_split ?_ w_codes
  rw [← List.take_append_drop 24 words1, List.all_append, w_t1, ← List.take_append_drop 24 (words1.drop 24), List.all_append, w_t2, w_t3]
  rfl
set_option maxRecDepth 65536 in
theorem w_case : (Jvm.Cond.and given_1 narrow_1).before args0 about1 = true := by decide +kernel
theorem w_applies : (headSpec (Jvm.Cond.code x code maxLocals ret :: tables_1) room_1).applies x e0.platform about1 = true :=
  (Spec.applies_iff w_frames).mpr ⟨w_running, w_runnable, w_alone, w_named, w_hears, w_ripe, w_room, w_tables⟩
theorem atStart : AtStart classFile x code maxLocals ret World_1 tables_1 room_1 Calls_1 rest_1 Pre_1 launch0 p0 e0 about1 theMethod args0 below0 :=
  ⟨lists_1, trivial, launch0.admits_env _ _ _, launch0.least_env, fairChoices_fair.cas, fairChoices_fair.clock, w_frames, w_args, w_heap, w_applies, trivial, trivial, w_case⟩
end start1
theorem witness_1 : WitnessClaimed_1 := ⟨start1.p0, start1.e0, start1.about1, start1.theMethod, start1.args0, start1.below0, start1.atStart⟩
end Jvm.Pilot.@@N@@
