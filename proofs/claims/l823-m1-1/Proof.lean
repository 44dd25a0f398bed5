import JvmDerived
import JvmDerived.Pilot.@@N@@Statement
import JvmDerived.Pilot.@@N@@Code
set_option linter.unusedVariables false
set_option linter.unusedSimpArgs false
namespace Jvm.Own
open Sem ClassFile Op Lib Jvm.Stand Jvm.Free Jvm.LawKit Jvm.RoadKit Bundle
section K
variable {p : Program} {l : Launch} {e : Env} {R : Room} {s : State} {m : MethodId} {args : Array Value} {below : List Frame} {meth : Method} {c : Code} {Z : State} {a0 : Array Value} {EL : List (String × Nat)} {pr : Bool} {y : MethodName} {bs : ByteArray} {ml : Nat} {rt : Option FieldType} {T : State} {vm0 : Vm} {h : Heap} {k n : Nat} {Φ : Outcome → State → Prop} {Ls : Array Slot} {st : List Value} {pc q : Nat}
/-- from U the run comes to its end, and Φ holds there -/
def Go (p : Program) (e : Env) (below : List Frame) (Φ : Outcome → State → Prop) (U : State) : Prop := ∃ s₂ o, Steps p.tables e below U s₂ ∧ s₂.status = .running ∧ Ended s₂ below o ∧ Φ o s₂
theorem Go.pre {U U' : State} (hr : Go p e below Φ U') (g : ∀ t, Steps p.tables e below U' t → Steps p.tables e below U t) : Go p e below Φ U := by
  obtain ⟨s2, o, h1, r⟩ := hr; exact ⟨s2, o, g _ h1, r⟩
theorem Go.pre' {U U' : State} (hr : Go p e below Φ U') (g : Steps p.tables e below U U') : Go p e below Φ U := hr.pre fun _ r => g.trans r
/-- where a walk stands: the tables vm0 since the last step that may have interned; only new places were written; what the start's heap held stands -/
def Wk (p : Program) (l : Launch) (e : Env) (R : Room) (s : State) (m : MethodId) (args : Array Value) (below : List Frame) (meth : Method) (c : Code) (Z : State) (a0 : Array Value) (EL : List (String × Nat)) (pr : Bool) (y : MethodName) (bs : ByteArray) (ml : Nat) (rt : Option FieldType) (T : State) (vm0 : Vm) (h : Heap) (k n : Nat) : Prop :=
  (p.tables.exec = Jvm.exec ∧ c.code = bs ∧ c.maxLocals = ml ∧ meth.sig.returnType = rt ∧ meth.locks = false ∧ meth.name = y.name ∧ EW Z a0 EL) ∧
  ∃ (k0 : Nat) (locs : List Loc), Stand p l e R (s.setVm vm0) m args below meth c T locs k n ∧ T.heap = h ∧ Z.Warmed39 vm0 ∧ vm0.findClass y.cls = some m.cls ∧ s.Since vm0 k0 ∧ k0 ≤ h.size ∧ Fr Z.heap.size locs ∧ CHr Z EL s.vm s.heap vm0 h ∧ Ext Z.heap h ∧ (pr = true → s.WarmedH vm0)
abbrev WkT (p : Program) (l : Launch) (e : Env) (R : Room) (s : State) (m : MethodId) (args : Array Value) (below : List Frame) (meth : Method) (c : Code) (Z : State) (a0 : Array Value) (EL : List (String × Nat)) (pr : Bool) (y : MethodName) (bs : ByteArray) (ml : Nat) (rt : Option FieldType) := Wk p l e R s m args below meth c Z a0 EL pr y bs ml rt
theorem Wk.here (w : Wk p l e R s m args below meth c Z a0 EL pr y bs ml rt T vm0 h k n) : At T m c below := by obtain ⟨-, _, _, X, -⟩ := w; exact X.here
theorem Wk.hx (w : Wk p l e R s m args below meth c Z a0 EL pr y bs ml rt T vm0 h k n) : p.tables.exec = Jvm.exec := w.1.1
theorem Wk.b (w : Wk p l e R s m args below meth c Z a0 EL pr y bs ml rt T vm0 h k n) {r : Except DecodeError (Instr × Nat)} (hd : decode bs pc = r) : decode c.code pc = r := hb w.1.2.1 hd
theorem Wk.old (w : Wk p l e R s m args below meth c Z a0 EL pr y bs ml rt T vm0 h k n) : Ext Z.heap h := by obtain ⟨-, _, _, -, -, -, -, -, -, -, -, O, -⟩ := w; exact O
theorem Wk.wz (w : Wk p l e R s m args below meth c Z a0 EL pr y bs ml rt T vm0 h k n) : Z.Warmed39 vm0 := by obtain ⟨-, _, _, -, -, hZ, -⟩ := w; exact hZ
theorem Wk.chv (w : Wk p l e R s m args below meth c Z a0 EL pr y bs ml rt T vm0 h k n) : CHv Z EL vm0 h := by obtain ⟨-, _, _, -, -, -, -, -, -, -, C, -⟩ := w; exact C.1
theorem Wk.safe (w : Wk p l e R s m args below meth c Z a0 EL pr y bs ml rt T vm0 h k n) {a : Addr} {C : String} (E : Exa Z h a C) (h1 : C ≠ "java/lang/String") (h2 : C ≠ "[B") : Safe Z EL vm0 h a := Safe.exa w.wz.alike E h1 h2
/-- how a body ends: it returned v, Q holds of v and the heap -/
def Fini (Z : State) (EL : List (String × Nat)) (pr : Bool) (kc ks : Nat) (Q : Option Value → Heap → Prop) (s : State) (o : Outcome) (t : State) : Prop :=
  ∃ v L, o = .returned v ∧ Q v t.heap ∧ Ext Z.heap t.heap ∧ Fr Z.heap.size L ∧ CHr Z EL s.vm s.heap t.vm t.heap ∧ (pr = true → s.WarmedH t.vm) ∧ ReturnedEndW s o t L kc ks
/-- a body's contract: called with these arguments at the heap h it returns, and Q holds -/
def Con (l : Launch) (Z : State) (EL : List (String × Nat)) (pr : Bool) (y : MethodName) (bs : ByteArray) (ml : Nat) (rt : Option FieldType) (ws : List Cond) (rm : Room) (as' : Array Value) (sf : List Addr) (h : Heap) (Q : Option Value → Heap → Prop) : Prop :=
  MetFree l y (head1 (Cond.code y bs ml rt :: ws) rm) (fun a U => a = as' ∧ Z.Warmed39 U.vm ∧ U.heap = h ∧ CHv Z EL U.vm h ∧ ∀ x ∈ sf, Safe Z EL U.vm h x) (fun _ _ _ _ _ => True) (fun _ U o U' => Fini Z EL pr rm.cells rm.slots Q U o U')
theorem Con.intro {ws : List Cond} {rm : Room} {as' : Array Value} {sf : List Addr} {Q : Option Value → Heap → Prop} (hpl : plainFor y = true) (hEL : EW Z a0 EL) (hO : Ext Z.heap h) (hef : ∀ m, entryFrame m as' ml = mkF m 0 Ls [])
    (body : ∀ (p : Program) (e : Env) (s : State) (m : MethodId) (below : List Frame) (meth : Method) (c : Code) (T : State), Wk p l e rm s m as' below meth c Z a0 EL pr y bs ml rt T s.vm h 0 0 → (∀ x ∈ sf, Safe Z EL s.vm h x) → Go p e below (Fini Z EL pr rm.cells rm.slots Q s) (T.setTop (mkF m 0 Ls []))) :
    Con l Z EL pr y bs ml rt ws rm as' sf h Q := by
  refine MetFree.of_bodySF hpl hisR ?_
  intro p e s m args below meth c s₁ Bd hml0 hP hK
  obtain ⟨rfl, hZ, hh, hC, hsf⟩ := hP
  have X0 : Stand p l e rm s m args below meth c s₁ [] 0 0 := Stand.of_body Bd
  have e0 : s₁.heap = h := by rw [← hh, Bd.state]; rfl
  have hown : s.vm.findClass y.cls = some m.cls := findClass_of_methodNamed Bd.named
  have hnm := (name_of_methodNamed Bd.named Bd.method).1
  have w : Wk p l e rm s m args below meth c Z a0 EL pr y bs ml rt s₁ s.vm h 0 0 :=
    ⟨⟨Bd.exec, Bd.bytes, hml0, Bd.returns, Bd.notSynchronized, hnm, hEL⟩, h.size, [], X0, e0, hZ, hown, (State.WarmedH.refl s).since _, Nat.le_refl _, Fr.nil _, by subst hh; exact CHr.refl hC, hO, fun _ => State.WarmedH.refl s⟩
  have q := body p e s m below meth c s₁ w hsf
  rw [← hef] at q
  exact q
/-- the two ends of a walk joined -/
theorem Wk.fin (w : Wk p l e R s m args below meth c Z a0 EL pr y bs ml rt T vm0 h k n) {Q : Option Value → Heap → Prop} {v : Option Value} (hv : rt = none → v = none) (hk : k ≤ R.cells) (hn : n ≤ R.slots) (hQ : Q v h) :
    ∃ fs, (∀ (f : JFrame) (acts : List Action), f.method = m → f.locked = none → f.entered = [] → (doReturn e (T.setTop f) acts v).1 = T.setFrames fs) ∧ (T.setFrames fs).status = .running ∧ Ended (T.setFrames fs) below (.returned v) ∧ Fini Z EL pr R.cells R.slots Q s (.returned v) (T.setFrames fs) := by
  obtain ⟨⟨hx, hb1, hml, hrt, hlk, hnm, hEL⟩, k0, locs, X, rfl, hZ, hown, hS, hk0, N, C, O, hpr⟩ := w
  obtain ⟨fs, hr, hrun, hended, e1, e2, e3, e4⟩ := X.leaveW hS hk0 (v := v) (fun q => hv (hrt.symm.trans q)) hlk
  exact ⟨fs, hr, hrun, hended, v, locs, rfl, hQ, O, N, C.trans (show CHr Z EL vm0 T.heap T.vm T.heap from CHv.at X hZ hEL C.1), fun q => State.WarmedH.trans (t := s.setVm vm0) (hpr q) X.warmed, e1, e2, e3, e4.mono hk hn⟩
/-- a value is returned -/
theorem g_ret (w : Wk p l e R s m args below meth c Z a0 EL pr y bs ml rt T vm0 h k n) {Q : Option Value → Heap → Prop} {t : FieldType} {i : Instr} {v : Value} (hd : decode bs pc = .ok (i, 1)) (ht : rt = some t) (hn : narrow t v = v)
    (hi : (i = .ireturn ∧ (t = .int ∨ t = .boolean ∨ t = .byte ∨ t = .char ∨ t = .short) ∧ ∃ z, v = .int z) ∨ (i = .lreturn ∧ t = .long ∧ ∃ z, v = .long z) ∨ (i = .dreturn ∧ t = .double ∧ ∃ z, v = .double z) ∨ (i = .freturn ∧ t = .float ∧ ∃ z, v = .float z) ∨ (i = .areturn ∧ t.isReference = true ∧ v.isRef = true))
    (hk : k ≤ R.cells) (hn' : n ≤ R.slots) (hQ : Q (some v) h) : Go p e below (Fini Z EL pr R.cells R.slots Q s) (T.setTop (mkF m pc Ls (v :: st))) := by
  obtain ⟨fs, hr, hrun, hended, hf⟩ := w.fin (v := some v) (fun q => by rw [ht] at q; cases q) hk hn' hQ
  obtain ⟨⟨hx, hb1, hml, hrt, -⟩, _, _, X, -⟩ := w
  exact ⟨_, _, retOut X hx (hrt.trans ht) hn hi (hb hb1 hd) hr, hrun, hended, hf⟩
theorem g_reti (w : Wk p l e R s m args below meth c Z a0 EL pr y bs ml rt T vm0 h k n) {Q : Option Value → Heap → Prop} {z : Int32} (hd : decode bs pc = .ok (.ireturn, 1)) (ht : rt = some .int) (hk : k ≤ R.cells) (hn : n ≤ R.slots) (hQ : Q (some (.int z)) h) : Go p e below (Fini Z EL pr R.cells R.slots Q s) (T.setTop (mkF m pc Ls (.int z :: st))) :=
  g_ret w hd ht rfl (Or.inl ⟨rfl, Or.inl rfl, _, rfl⟩) hk hn hQ
theorem g_retl (w : Wk p l e R s m args below meth c Z a0 EL pr y bs ml rt T vm0 h k n) {Q : Option Value → Heap → Prop} {z : Int64} (hd : decode bs pc = .ok (.lreturn, 1)) (ht : rt = some .long) (hk : k ≤ R.cells) (hn : n ≤ R.slots) (hQ : Q (some (.long z)) h) : Go p e below (Fini Z EL pr R.cells R.slots Q s) (T.setTop (mkF m pc Ls (.long z :: st))) :=
  g_ret w hd ht rfl (Or.inr (Or.inl ⟨rfl, rfl, _, rfl⟩)) hk hn hQ
/-- a boolean, byte, char or short is returned: it is narrowed -/
theorem g_retn (w : Wk p l e R s m args below meth c Z a0 EL pr y bs ml rt T vm0 h k n) {Q : Option Value → Heap → Prop} {t : FieldType} {z z' : Int32} (hd : decode bs pc = .ok (.ireturn, 1)) (ht : rt = some t) (hs : t = .boolean ∨ t = .byte ∨ t = .char ∨ t = .short) (hz : nar t z = z') (hk : k ≤ R.cells) (hn : n ≤ R.slots) (hQ : Q (some (.int z')) h) :
    Go p e below (Fini Z EL pr R.cells R.slots Q s) (T.setTop (mkF m pc Ls (.int z :: st))) := by
  subst hz
  obtain ⟨fs, hr, hrun, hended, hf⟩ := w.fin (v := some (.int (nar t z))) (fun q => by rw [ht] at q; cases q) hk hn hQ
  obtain ⟨⟨hx, hb1, hml, hrt, -⟩, _, _, X, -⟩ := w
  exact ⟨_, _, retN X hx (hrt.trans ht) hs (hb hb1 hd) hr, hrun, hended, hf⟩
theorem g_reta (w : Wk p l e R s m args below meth c Z a0 EL pr y bs ml rt T vm0 h k n) {Q : Option Value → Heap → Prop} {t : FieldType} {v : Value} (hd : decode bs pc = .ok (.areturn, 1)) (ht : rt = some t) (hr : t.isReference = true) (hv : v.isRef = true) (hk : k ≤ R.cells) (hn : n ≤ R.slots) (hQ : Q (some v) h) : Go p e below (Fini Z EL pr R.cells R.slots Q s) (T.setTop (mkF m pc Ls (v :: st))) :=
  g_ret w hd ht (by cases t <;> simp [FieldType.isReference] at hr <;> cases v <;> simp [Value.isRef] at hv <;> rfl) (Or.inr (Or.inr (Or.inr (Or.inr ⟨rfl, hr, hv⟩)))) hk hn hQ
theorem g_return (w : Wk p l e R s m args below meth c Z a0 EL pr y bs ml rt T vm0 h k n) {Q : Option Value → Heap → Prop} (hd : decode bs pc = .ok (.return_, 1)) (ht : rt = none) (hk : k ≤ R.cells) (hn : n ≤ R.slots) (hQ : Q none h) : Go p e below (Fini Z EL pr R.cells R.slots Q s) (T.setTop (mkF m pc Ls [])) := by
  obtain ⟨fs, hr, hrun, hended, hf⟩ := w.fin (v := none) (fun _ => rfl) hk hn hQ
  obtain ⟨⟨hx, hb1, hml, hrt, -⟩, _, _, X, -⟩ := w
  exact ⟨_, _, X.returnOut hx (hrt.trans ht) (hb hb1 hd) hr, hrun, hended, hf⟩
theorem g_iloadN (w : Wk p l e R s m args below meth c Z a0 EL pr y bs ml rt T vm0 h k n) {kk : Fin 4} {v : Int32} (hd : decode bs pc = .ok (.iload_n kk, 1)) (hq : pc + 1 = q) (hl : Ls[kk.val]? = some (.val (.int v))) (hr : Go p e below Φ (T.setTop (mkF m q Ls (.int v :: st)))) : Go p e below Φ (T.setTop (mkF m pc Ls st)) := by
  subst hq; exact hr.pre fun t r => Jvm.Free.XS.iloadN w.here w.hx rfl (w.b hd) hl r
theorem g_iload (w : Wk p l e R s m args below meth c Z a0 EL pr y bs ml rt T vm0 h k n) {kk : Nat} {v : Int32} (hd : decode bs pc = .ok (.iload kk, 2)) (hq : pc + 2 = q) (hl : Ls[kk]? = some (.val (.int v))) (hr : Go p e below Φ (T.setTop (mkF m q Ls (.int v :: st)))) : Go p e below Φ (T.setTop (mkF m pc Ls st)) := by
  subst hq; exact hr.pre fun t r => Jvm.Free.XS.iload w.here w.hx rfl (w.b hd) hl r
theorem g_lloadN (w : Wk p l e R s m args below meth c Z a0 EL pr y bs ml rt T vm0 h k n) {kk : Fin 4} {v : Int64} (hd : decode bs pc = .ok (.lload_n kk, 1)) (hq : pc + 1 = q) (hl : Ls[kk.val]? = some (.val (.long v))) (hr : Go p e below Φ (T.setTop (mkF m q Ls (.long v :: st)))) : Go p e below Φ (T.setTop (mkF m pc Ls st)) := by
  subst hq; exact hr.pre fun t r => Jvm.Free.XT.lloadN w.here w.hx rfl (w.b hd) hl r
theorem g_lload (w : Wk p l e R s m args below meth c Z a0 EL pr y bs ml rt T vm0 h k n) {kk : Nat} {v : Int64} (hd : decode bs pc = .ok (.lload kk, 2)) (hq : pc + 2 = q) (hl : Ls[kk]? = some (.val (.long v))) (hr : Go p e below Φ (T.setTop (mkF m q Ls (.long v :: st)))) : Go p e below Φ (T.setTop (mkF m pc Ls st)) := by
  subst hq; exact hr.pre fun t r => Jvm.Free.XT.lload w.here w.hx rfl (w.b hd) hl r
theorem g_aloadN (w : Wk p l e R s m args below meth c Z a0 EL pr y bs ml rt T vm0 h k n) {kk : Fin 4} {v : Value} (hd : decode bs pc = .ok (.aload_n kk, 1)) (hq : pc + 1 = q) (hl : Ls[kk.val]? = some (.val v)) (hv : v.isRef = true) (hr : Go p e below Φ (T.setTop (mkF m q Ls (v :: st)))) : Go p e below Φ (T.setTop (mkF m pc Ls st)) := by
  subst hq; exact hr.pre fun t r => Jvm.Free.XS.aloadN w.here w.hx rfl (w.b hd) hl hv r
theorem g_aload (w : Wk p l e R s m args below meth c Z a0 EL pr y bs ml rt T vm0 h k n) {kk : Nat} {v : Value} (hd : decode bs pc = .ok (.aload kk, 2)) (hq : pc + 2 = q) (hl : Ls[kk]? = some (.val v)) (hv : v.isRef = true) (hr : Go p e below Φ (T.setTop (mkF m q Ls (v :: st)))) : Go p e below Φ (T.setTop (mkF m pc Ls st)) := by
  subst hq; exact hr.pre fun t r => Jvm.Free.XS.aload w.here w.hx rfl (w.b hd) hl hv r
theorem g_istoreN (w : Wk p l e R s m args below meth c Z a0 EL pr y bs ml rt T vm0 h k n) {kk : Fin 4} {v : Int32} {Ls' : Array Slot} (hd : decode bs pc = .ok (.istore_n kk, 1)) (hq : pc + 1 = q) (hl : storeLocals Ls kk.val (.int v) = some Ls') (hr : Go p e below Φ (T.setTop (mkF m q Ls' st))) : Go p e below Φ (T.setTop (mkF m pc Ls (.int v :: st))) := by
  subst hq; exact hr.pre fun t r => Jvm.Free.XS.istoreN w.here w.hx rfl (w.b hd) rfl hl r
theorem g_istore (w : Wk p l e R s m args below meth c Z a0 EL pr y bs ml rt T vm0 h k n) {kk : Nat} {v : Int32} {Ls' : Array Slot} (hd : decode bs pc = .ok (.istore kk, 2)) (hq : pc + 2 = q) (hl : storeLocals Ls kk (.int v) = some Ls') (hr : Go p e below Φ (T.setTop (mkF m q Ls' st))) : Go p e below Φ (T.setTop (mkF m pc Ls (.int v :: st))) := by
  subst hq; exact hr.pre fun t r => Jvm.Free.XS.istore w.here w.hx rfl (w.b hd) rfl hl r
theorem g_lstoreN (w : Wk p l e R s m args below meth c Z a0 EL pr y bs ml rt T vm0 h k n) {kk : Fin 4} {v : Int64} {Ls' : Array Slot} (hd : decode bs pc = .ok (.lstore_n kk, 1)) (hq : pc + 1 = q) (hl : storeLocals Ls kk.val (.long v) = some Ls') (hr : Go p e below Φ (T.setTop (mkF m q Ls' st))) : Go p e below Φ (T.setTop (mkF m pc Ls (.long v :: st))) := by
  subst hq; exact hr.pre fun t r => Jvm.Free.XT.lstoreN w.here w.hx rfl (w.b hd) rfl hl r
theorem g_lstore (w : Wk p l e R s m args below meth c Z a0 EL pr y bs ml rt T vm0 h k n) {kk : Nat} {v : Int64} {Ls' : Array Slot} (hd : decode bs pc = .ok (.lstore kk, 2)) (hq : pc + 2 = q) (hl : storeLocals Ls kk (.long v) = some Ls') (hr : Go p e below Φ (T.setTop (mkF m q Ls' st))) : Go p e below Φ (T.setTop (mkF m pc Ls (.long v :: st))) := by
  subst hq; exact hr.pre fun t r => Jvm.Free.XT.lstore w.here w.hx rfl (w.b hd) rfl hl r
theorem g_astoreN (w : Wk p l e R s m args below meth c Z a0 EL pr y bs ml rt T vm0 h k n) {kk : Fin 4} {v : Value} {Ls' : Array Slot} (hd : decode bs pc = .ok (.astore_n kk, 1)) (hq : pc + 1 = q) (hv : v.isRef = true) (hl : storeLocals Ls kk.val v = some Ls') (hr : Go p e below Φ (T.setTop (mkF m q Ls' st))) : Go p e below Φ (T.setTop (mkF m pc Ls (v :: st))) := by
  subst hq; exact hr.pre fun t r => Jvm.Free.XS.astoreN w.here w.hx rfl (w.b hd) rfl hv hl r
theorem g_astore (w : Wk p l e R s m args below meth c Z a0 EL pr y bs ml rt T vm0 h k n) {kk : Nat} {v : Value} {Ls' : Array Slot} (hd : decode bs pc = .ok (.astore kk, 2)) (hq : pc + 2 = q) (hv : v.isRef = true) (hl : storeLocals Ls kk v = some Ls') (hr : Go p e below Φ (T.setTop (mkF m q Ls' st))) : Go p e below Φ (T.setTop (mkF m pc Ls (v :: st))) := by
  subst hq; exact hr.pre fun t r => Jvm.Free.XS.astore w.here w.hx rfl (w.b hd) rfl hv hl r
theorem g_iconst (w : Wk p l e R s m args below meth c Z a0 EL pr y bs ml rt T vm0 h k n) {i : Int} {v : Int32} (hd : decode bs pc = .ok (.iconst i, 1)) (hq : pc + 1 = q) (hv : Int32.ofInt i = v) (hr : Go p e below Φ (T.setTop (mkF m q Ls (.int v :: st)))) : Go p e below Φ (T.setTop (mkF m pc Ls st)) := by
  subst hq; exact hr.pre fun t r => Jvm.Free.XT.iconstV w.here w.hx rfl v (w.b hd) hv r
theorem g_bipush (w : Wk p l e R s m args below meth c Z a0 EL pr y bs ml rt T vm0 h k n) {i : Int} {v : Int32} (hd : decode bs pc = .ok (.bipush i, 2)) (hq : pc + 2 = q) (hv : (Int8.ofInt i).toInt32 = v) (hr : Go p e below Φ (T.setTop (mkF m q Ls (.int v :: st)))) : Go p e below Φ (T.setTop (mkF m pc Ls st)) := by
  subst hq; exact hr.pre fun t r => Jvm.Free.XT.bipushV w.here w.hx rfl v (w.b hd) hv r
theorem g_sipush (w : Wk p l e R s m args below meth c Z a0 EL pr y bs ml rt T vm0 h k n) {i : Int} {v : Int32} (hd : decode bs pc = .ok (.sipush i, 3)) (hq : pc + 3 = q) (hv : (Int16.ofInt i).toInt32 = v) (hr : Go p e below Φ (T.setTop (mkF m q Ls (.int v :: st)))) : Go p e below Φ (T.setTop (mkF m pc Ls st)) := by
  subst hq; exact hr.pre fun t r => Jvm.Free.XT.sipushV w.here w.hx rfl v (w.b hd) hv r
theorem g_lconst (w : Wk p l e R s m args below meth c Z a0 EL pr y bs ml rt T vm0 h k n) {i : Fin 2} {v : Int64} (hd : decode bs pc = .ok (.lconst i, 1)) (hq : pc + 1 = q) (hv : Int64.ofNat i = v) (hr : Go p e below Φ (T.setTop (mkF m q Ls (.long v :: st)))) : Go p e below Φ (T.setTop (mkF m pc Ls st)) := by
  subst hq; exact hr.pre fun t r => Jvm.Free.XT.lconstV w.here w.hx rfl v (w.b hd) hv r
theorem g_anull (w : Wk p l e R s m args below meth c Z a0 EL pr y bs ml rt T vm0 h k n) (hd : decode bs pc = .ok (.aconst_null, 1)) (hq : pc + 1 = q) (hr : Go p e below Φ (T.setTop (mkF m q Ls (.null :: st)))) : Go p e below Φ (T.setTop (mkF m pc Ls st)) := by
  subst hq; exact hr.pre fun t r => Jvm.Free.XS.aconstNull w.here w.hx rfl (w.b hd) r
theorem g_dup (w : Wk p l e R s m args below meth c Z a0 EL pr y bs ml rt T vm0 h k n) {v : Value} (hd : decode bs pc = .ok (.dup, 1)) (hq : pc + 1 = q) (hc : v.category = 1) (hr : Go p e below Φ (T.setTop (mkF m q Ls (v :: v :: st)))) : Go p e below Φ (T.setTop (mkF m pc Ls (v :: st))) := by
  subst hq; exact hr.pre fun t r => Jvm.Free.XS.dup w.here w.hx rfl (w.b hd) rfl hc r
theorem g_pop (w : Wk p l e R s m args below meth c Z a0 EL pr y bs ml rt T vm0 h k n) {v : Value} (hd : decode bs pc = .ok (.pop, 1)) (hq : pc + 1 = q) (hc : v.category = 1) (hr : Go p e below Φ (T.setTop (mkF m q Ls st))) : Go p e below Φ (T.setTop (mkF m pc Ls (v :: st))) := by
  subst hq; exact hr.pre fun t r => Jvm.Free.XT.pop w.here w.hx rfl (w.b hd) rfl hc r
theorem g_dupX1 (w : Wk p l e R s m args below meth c Z a0 EL pr y bs ml rt T vm0 h k n) {v u : Value} (hd : decode bs pc = .ok (.dup_x1, 1)) (hq : pc + 1 = q) (hc : v.category = 1) (hc' : u.category = 1) (hr : Go p e below Φ (T.setTop (mkF m q Ls (v :: u :: v :: st)))) : Go p e below Φ (T.setTop (mkF m pc Ls (v :: u :: st))) := by
  subst hq; exact hr.pre fun t r => Jvm.Free.XT.dupX1 w.here w.hx rfl (w.b hd) rfl hc hc' r
theorem g_dup2 (w : Wk p l e R s m args below meth c Z a0 EL pr y bs ml rt T vm0 h k n) {v u : Value} (hd : decode bs pc = .ok (.dup2, 1)) (hq : pc + 1 = q) (hc : v.category = 1) (hc' : u.category = 1) (hr : Go p e below Φ (T.setTop (mkF m q Ls (v :: u :: v :: u :: st)))) : Go p e below Φ (T.setTop (mkF m pc Ls (v :: u :: st))) := by
  subst hq; exact hr.pre fun t r => Jvm.Free.XT.dup2 w.here w.hx rfl (w.b hd) rfl hc hc' r
theorem g_dup2L (w : Wk p l e R s m args below meth c Z a0 EL pr y bs ml rt T vm0 h k n) {x : Int64} (hd : decode bs pc = .ok (.dup2, 1)) (hq : pc + 1 = q) (hr : Go p e below Φ (T.setTop (mkF m q Ls (.long x :: .long x :: st)))) : Go p e below Φ (T.setTop (mkF m pc Ls (.long x :: st))) := by
  subst hq; exact hr.pre fun t r => Jvm.Free.XT.dup2L w.here w.hx rfl (w.b hd) rfl r
theorem g_iadd (w : Wk p l e R s m args below meth c Z a0 EL pr y bs ml rt T vm0 h k n) {x z : Int32} (hd : decode bs pc = .ok (.iadd, 1)) (hq : pc + 1 = q) (hr : Go p e below Φ (T.setTop (mkF m q Ls (.int (x + z) :: st)))) : Go p e below Φ (T.setTop (mkF m pc Ls (.int z :: .int x :: st))) := by
  subst hq; exact hr.pre fun t r => Jvm.Free.XS.iadd w.here w.hx rfl (w.b hd) rfl r
theorem g_isub (w : Wk p l e R s m args below meth c Z a0 EL pr y bs ml rt T vm0 h k n) {x z : Int32} (hd : decode bs pc = .ok (.isub, 1)) (hq : pc + 1 = q) (hr : Go p e below Φ (T.setTop (mkF m q Ls (.int (x - z) :: st)))) : Go p e below Φ (T.setTop (mkF m pc Ls (.int z :: .int x :: st))) := by
  subst hq; exact hr.pre fun t r => Jvm.Free.XS.isub w.here w.hx rfl (w.b hd) rfl r
theorem g_imul (w : Wk p l e R s m args below meth c Z a0 EL pr y bs ml rt T vm0 h k n) {x z : Int32} (hd : decode bs pc = .ok (.imul, 1)) (hq : pc + 1 = q) (hr : Go p e below Φ (T.setTop (mkF m q Ls (.int (x * z) :: st)))) : Go p e below Φ (T.setTop (mkF m pc Ls (.int z :: .int x :: st))) := by
  subst hq; exact hr.pre fun t r => Jvm.Free.XS.imul w.here w.hx rfl (w.b hd) rfl r
theorem g_iand (w : Wk p l e R s m args below meth c Z a0 EL pr y bs ml rt T vm0 h k n) {x z : Int32} (hd : decode bs pc = .ok (.iand, 1)) (hq : pc + 1 = q) (hr : Go p e below Φ (T.setTop (mkF m q Ls (.int (x &&& z) :: st)))) : Go p e below Φ (T.setTop (mkF m pc Ls (.int z :: .int x :: st))) := by
  subst hq; exact hr.pre fun t r => Jvm.Free.XS.iand w.here w.hx rfl (w.b hd) rfl r
theorem g_ior (w : Wk p l e R s m args below meth c Z a0 EL pr y bs ml rt T vm0 h k n) {x z : Int32} (hd : decode bs pc = .ok (.ior, 1)) (hq : pc + 1 = q) (hr : Go p e below Φ (T.setTop (mkF m q Ls (.int (x ||| z) :: st)))) : Go p e below Φ (T.setTop (mkF m pc Ls (.int z :: .int x :: st))) := by
  subst hq; exact hr.pre fun t r => Jvm.Free.XT.ior w.here w.hx rfl (w.b hd) rfl r
theorem g_ixor (w : Wk p l e R s m args below meth c Z a0 EL pr y bs ml rt T vm0 h k n) {x z : Int32} (hd : decode bs pc = .ok (.ixor, 1)) (hq : pc + 1 = q) (hr : Go p e below Φ (T.setTop (mkF m q Ls (.int (x ^^^ z) :: st)))) : Go p e below Φ (T.setTop (mkF m pc Ls (.int z :: .int x :: st))) := by
  subst hq; exact hr.pre fun t r => Jvm.Free.XT.ixor w.here w.hx rfl (w.b hd) rfl r
theorem g_ishl (w : Wk p l e R s m args below meth c Z a0 EL pr y bs ml rt T vm0 h k n) {x z : Int32} (hd : decode bs pc = .ok (.ishl, 1)) (hq : pc + 1 = q) (hr : Go p e below Φ (T.setTop (mkF m q Ls (.int (x <<< (z &&& 31)) :: st)))) : Go p e below Φ (T.setTop (mkF m pc Ls (.int z :: .int x :: st))) := by
  subst hq; exact hr.pre fun t r => Jvm.Free.XT.ishl w.here w.hx rfl (w.b hd) rfl r
theorem g_ishr (w : Wk p l e R s m args below meth c Z a0 EL pr y bs ml rt T vm0 h k n) {x z : Int32} (hd : decode bs pc = .ok (.ishr, 1)) (hq : pc + 1 = q) (hr : Go p e below Φ (T.setTop (mkF m q Ls (.int (x >>> (z &&& 31)) :: st)))) : Go p e below Φ (T.setTop (mkF m pc Ls (.int z :: .int x :: st))) := by
  subst hq; exact hr.pre fun t r => Jvm.Free.XT.ishr w.here w.hx rfl (w.b hd) rfl r
theorem g_iushr (w : Wk p l e R s m args below meth c Z a0 EL pr y bs ml rt T vm0 h k n) {x z : Int32} (hd : decode bs pc = .ok (.iushr, 1)) (hq : pc + 1 = q) (hr : Go p e below Φ (T.setTop (mkF m q Ls (.int (Jvm.Free.XT.ushr x z) :: st)))) : Go p e below Φ (T.setTop (mkF m pc Ls (.int z :: .int x :: st))) := by
  subst hq; exact hr.pre fun t r => Jvm.Free.XT.iushr w.here w.hx rfl (w.b hd) rfl r
theorem g_idiv (w : Wk p l e R s m args below meth c Z a0 EL pr y bs ml rt T vm0 h k n) {x z : Int32} (hd : decode bs pc = .ok (.idiv, 1)) (hq : pc + 1 = q) (hz : z ≠ 0) (hr : Go p e below Φ (T.setTop (mkF m q Ls (.int (x / z) :: st)))) : Go p e below Φ (T.setTop (mkF m pc Ls (.int z :: .int x :: st))) := by
  subst hq; exact hr.pre fun t r => Jvm.Free.XS.idiv w.here w.hx rfl (w.b hd) rfl hz r
theorem g_irem (w : Wk p l e R s m args below meth c Z a0 EL pr y bs ml rt T vm0 h k n) {x z : Int32} (hd : decode bs pc = .ok (.irem, 1)) (hq : pc + 1 = q) (hz : z ≠ 0) (hr : Go p e below Φ (T.setTop (mkF m q Ls (.int (x % z) :: st)))) : Go p e below Φ (T.setTop (mkF m pc Ls (.int z :: .int x :: st))) := by
  subst hq; obtain ⟨⟨hx, hb1, -⟩, _, _, X, -⟩ := w; exact hr.pre fun t r => iremM X hx rfl (hb hb1 hd) rfl hz r
theorem g_ladd (w : Wk p l e R s m args below meth c Z a0 EL pr y bs ml rt T vm0 h k n) {x z : Int64} (hd : decode bs pc = .ok (.ladd, 1)) (hq : pc + 1 = q) (hr : Go p e below Φ (T.setTop (mkF m q Ls (.long (x + z) :: st)))) : Go p e below Φ (T.setTop (mkF m pc Ls (.long z :: .long x :: st))) := by
  subst hq; exact hr.pre fun t r => Jvm.Free.XT.ladd w.here w.hx rfl (w.b hd) rfl r
theorem g_lsub (w : Wk p l e R s m args below meth c Z a0 EL pr y bs ml rt T vm0 h k n) {x z : Int64} (hd : decode bs pc = .ok (.lsub, 1)) (hq : pc + 1 = q) (hr : Go p e below Φ (T.setTop (mkF m q Ls (.long (x - z) :: st)))) : Go p e below Φ (T.setTop (mkF m pc Ls (.long z :: .long x :: st))) := by
  subst hq; exact hr.pre fun t r => Jvm.Free.XT.lsub w.here w.hx rfl (w.b hd) rfl r
theorem g_lmul (w : Wk p l e R s m args below meth c Z a0 EL pr y bs ml rt T vm0 h k n) {x z : Int64} (hd : decode bs pc = .ok (.lmul, 1)) (hq : pc + 1 = q) (hr : Go p e below Φ (T.setTop (mkF m q Ls (.long (x * z) :: st)))) : Go p e below Φ (T.setTop (mkF m pc Ls (.long z :: .long x :: st))) := by
  subst hq; exact hr.pre fun t r => Jvm.Free.XT.lmul w.here w.hx rfl (w.b hd) rfl r
theorem g_land (w : Wk p l e R s m args below meth c Z a0 EL pr y bs ml rt T vm0 h k n) {x z : Int64} (hd : decode bs pc = .ok (.land, 1)) (hq : pc + 1 = q) (hr : Go p e below Φ (T.setTop (mkF m q Ls (.long (x &&& z) :: st)))) : Go p e below Φ (T.setTop (mkF m pc Ls (.long z :: .long x :: st))) := by
  subst hq; exact hr.pre fun t r => Jvm.Free.XT.land w.here w.hx rfl (w.b hd) rfl r
theorem g_lor (w : Wk p l e R s m args below meth c Z a0 EL pr y bs ml rt T vm0 h k n) {x z : Int64} (hd : decode bs pc = .ok (.lor, 1)) (hq : pc + 1 = q) (hr : Go p e below Φ (T.setTop (mkF m q Ls (.long (x ||| z) :: st)))) : Go p e below Φ (T.setTop (mkF m pc Ls (.long z :: .long x :: st))) := by
  subst hq; exact hr.pre fun t r => Jvm.Free.XT.lor w.here w.hx rfl (w.b hd) rfl r
theorem g_lxor (w : Wk p l e R s m args below meth c Z a0 EL pr y bs ml rt T vm0 h k n) {x z : Int64} (hd : decode bs pc = .ok (.lxor, 1)) (hq : pc + 1 = q) (hr : Go p e below Φ (T.setTop (mkF m q Ls (.long (x ^^^ z) :: st)))) : Go p e below Φ (T.setTop (mkF m pc Ls (.long z :: .long x :: st))) := by
  subst hq; exact hr.pre fun t r => Jvm.Free.XT.lxor w.here w.hx rfl (w.b hd) rfl r
theorem g_ldiv (w : Wk p l e R s m args below meth c Z a0 EL pr y bs ml rt T vm0 h k n) {x z : Int64} (hd : decode bs pc = .ok (.ldiv, 1)) (hq : pc + 1 = q) (hz : z ≠ 0) (hr : Go p e below Φ (T.setTop (mkF m q Ls (.long (x / z) :: st)))) : Go p e below Φ (T.setTop (mkF m pc Ls (.long z :: .long x :: st))) := by
  subst hq; exact hr.pre fun t r => Jvm.Free.XT.ldiv w.here w.hx rfl (w.b hd) rfl hz r
theorem g_lrem (w : Wk p l e R s m args below meth c Z a0 EL pr y bs ml rt T vm0 h k n) {x z : Int64} (hd : decode bs pc = .ok (.lrem, 1)) (hq : pc + 1 = q) (hz : z ≠ 0) (hr : Go p e below Φ (T.setTop (mkF m q Ls (.long (x - (x / z) * z) :: st)))) : Go p e below Φ (T.setTop (mkF m pc Ls (.long z :: .long x :: st))) := by
  subst hq; exact hr.pre fun t r => Jvm.Free.XT.lrem w.here w.hx rfl (w.b hd) rfl hz r
theorem g_lneg (w : Wk p l e R s m args below meth c Z a0 EL pr y bs ml rt T vm0 h k n) {x : Int64} (hd : decode bs pc = .ok (.lneg, 1)) (hq : pc + 1 = q) (hr : Go p e below Φ (T.setTop (mkF m q Ls (.long (-x) :: st)))) : Go p e below Φ (T.setTop (mkF m pc Ls (.long x :: st))) := by
  subst hq; exact hr.pre fun t r => Jvm.Free.XT.lneg w.here w.hx rfl (w.b hd) rfl r
theorem g_ineg (w : Wk p l e R s m args below meth c Z a0 EL pr y bs ml rt T vm0 h k n) {x : Int32} (hd : decode bs pc = .ok (.ineg, 1)) (hq : pc + 1 = q) (hr : Go p e below Φ (T.setTop (mkF m q Ls (.int (-x) :: st)))) : Go p e below Φ (T.setTop (mkF m pc Ls (.int x :: st))) := by
  subst hq; exact hr.pre fun t r => Jvm.Free.XS.ineg w.here w.hx rfl (w.b hd) rfl r
theorem g_i2l (w : Wk p l e R s m args below meth c Z a0 EL pr y bs ml rt T vm0 h k n) {x : Int32} (hd : decode bs pc = .ok (.i2l, 1)) (hq : pc + 1 = q) (hr : Go p e below Φ (T.setTop (mkF m q Ls (.long (x.toInt64) :: st)))) : Go p e below Φ (T.setTop (mkF m pc Ls (.int x :: st))) := by
  subst hq; exact hr.pre fun t r => Jvm.Free.XT.i2l w.here w.hx rfl (w.b hd) rfl r
theorem g_i2b (w : Wk p l e R s m args below meth c Z a0 EL pr y bs ml rt T vm0 h k n) {x : Int32} (hd : decode bs pc = .ok (.i2b, 1)) (hq : pc + 1 = q) (hr : Go p e below Φ (T.setTop (mkF m q Ls (.int (x.toInt8.toInt32) :: st)))) : Go p e below Φ (T.setTop (mkF m pc Ls (.int x :: st))) := by
  subst hq; exact hr.pre fun t r => Jvm.Free.XT.i2b w.here w.hx rfl (w.b hd) rfl r
theorem g_i2c (w : Wk p l e R s m args below meth c Z a0 EL pr y bs ml rt T vm0 h k n) {x : Int32} (hd : decode bs pc = .ok (.i2c, 1)) (hq : pc + 1 = q) (hr : Go p e below Φ (T.setTop (mkF m q Ls (.int (x.toUInt32.toUInt16.toUInt32.toInt32) :: st)))) : Go p e below Φ (T.setTop (mkF m pc Ls (.int x :: st))) := by
  subst hq; exact hr.pre fun t r => Jvm.Free.XT.i2c w.here w.hx rfl (w.b hd) rfl r
theorem g_l2i (w : Wk p l e R s m args below meth c Z a0 EL pr y bs ml rt T vm0 h k n) {x : Int64} (hd : decode bs pc = .ok (.l2i, 1)) (hq : pc + 1 = q) (hr : Go p e below Φ (T.setTop (mkF m q Ls (.int (x.toInt32) :: st)))) : Go p e below Φ (T.setTop (mkF m pc Ls (.long x :: st))) := by
  subst hq; exact hr.pre fun t r => Jvm.Free.XT.l2i w.here w.hx rfl (w.b hd) rfl r
theorem g_lcmp (w : Wk p l e R s m args below meth c Z a0 EL pr y bs ml rt T vm0 h k n) {x z : Int64} (hd : decode bs pc = .ok (.lcmp, 1)) (hq : pc + 1 = q) (hr : Go p e below Φ (T.setTop (mkF m q Ls (.int (Jvm.Free.XT.cmpL x z) :: st)))) : Go p e below Φ (T.setTop (mkF m pc Ls (.long z :: .long x :: st))) := by
  subst hq; exact hr.pre fun t r => Jvm.Free.XT.lcmp w.here w.hx rfl (w.b hd) rfl r
theorem g_iinc (w : Wk p l e R s m args below meth c Z a0 EL pr y bs ml rt T vm0 h k n) {kk : Nat} {cst : Int} {x v : Int32} {Ls' : Array Slot} (hd : decode bs pc = .ok (.iinc kk cst, 3)) (hq : pc + 3 = q) (hv : Int32.ofInt cst = v) (hl : Ls[kk]? = some (.val (.int x))) (hl' : storeLocals Ls kk (.int (x + v)) = some Ls') (hr : Go p e below Φ (T.setTop (mkF m q Ls' st))) : Go p e below Φ (T.setTop (mkF m pc Ls st)) := by
  subst hq; exact hr.pre fun t r => Jvm.Free.XS.iinc w.here w.hx rfl (w.b hd) hl (by rw [hv]; exact hl') r
theorem g_goto (w : Wk p l e R s m args below meth c Z a0 EL pr y bs ml rt T vm0 h k n) {o : Int} (hd : decode bs pc = .ok (.goto o, 3)) (ho : 0 ≤ (pc : Int) + o) (hq : ((pc : Int) + o).toNat = q) (hr : Go p e below Φ (T.setTop (mkF m q Ls st))) : Go p e below Φ (T.setTop (mkF m pc Ls st)) := by
  exact hr.pre fun t r => Jvm.Free.XS.goto w.here w.hx rfl rfl (w.b hd) ho hq r
theorem g_ifY (w : Wk p l e R s m args below meth c Z a0 EL pr y bs ml rt T vm0 h k n) {cd : ClassFile.Cond} {x : Int32} {o : Int} (hd : decode bs pc = .ok (.ifCond cd o, 3)) (ho : 0 ≤ (pc : Int) + o) (hq : ((pc : Int) + o).toNat = q) (hc : ifCond.holds cd x = true) (hr : Go p e below Φ (T.setTop (mkF m q Ls st))) : Go p e below Φ (T.setTop (mkF m pc Ls (.int x :: st))) := by
  exact hr.pre fun t r => Jvm.Free.XS.ifYes w.here w.hx rfl rfl (w.b hd) rfl hc ho hq r
theorem g_ifN (w : Wk p l e R s m args below meth c Z a0 EL pr y bs ml rt T vm0 h k n) {cd : ClassFile.Cond} {x : Int32} {o : Int} (hd : decode bs pc = .ok (.ifCond cd o, 3)) (hq : pc + 3 = q) (hc : ifCond.holds cd x = false) (hr : Go p e below Φ (T.setTop (mkF m q Ls st))) : Go p e below Φ (T.setTop (mkF m pc Ls (.int x :: st))) := by
  subst hq; exact hr.pre fun t r => Jvm.Free.XS.ifNo w.here w.hx rfl (w.b hd) rfl hc r
theorem g_icY (w : Wk p l e R s m args below meth c Z a0 EL pr y bs ml rt T vm0 h k n) {cd : ClassFile.Cond} {x z : Int32} {o : Int} (hd : decode bs pc = .ok (.if_icmp cd o, 3)) (ho : 0 ≤ (pc : Int) + o) (hq : ((pc : Int) + o).toNat = q) (hc : if_icmp.holds cd x z = true) (hr : Go p e below Φ (T.setTop (mkF m q Ls st))) : Go p e below Φ (T.setTop (mkF m pc Ls (.int z :: .int x :: st))) := by
  exact hr.pre fun t r => Jvm.Free.XS.icmpYes w.here w.hx rfl rfl (w.b hd) rfl hc ho hq r
theorem g_icN (w : Wk p l e R s m args below meth c Z a0 EL pr y bs ml rt T vm0 h k n) {cd : ClassFile.Cond} {x z : Int32} {o : Int} (hd : decode bs pc = .ok (.if_icmp cd o, 3)) (hq : pc + 3 = q) (hc : if_icmp.holds cd x z = false) (hr : Go p e below Φ (T.setTop (mkF m q Ls st))) : Go p e below Φ (T.setTop (mkF m pc Ls (.int z :: .int x :: st))) := by
  subst hq; exact hr.pre fun t r => Jvm.Free.XS.icmpNo w.here w.hx rfl (w.b hd) rfl hc r
theorem g_acY (w : Wk p l e R s m args below meth c Z a0 EL pr y bs ml rt T vm0 h k n) {cd : ClassFile.ACond} {x z : Value} {o : Int} (hd : decode bs pc = .ok (.if_acmp cd o, 3)) (ho : 0 ≤ (pc : Int) + o) (hq : ((pc : Int) + o).toNat = q) (h1 : x.isRef = true) (h2 : z.isRef = true) (hc : Jvm.Free.XT.acmp cd x z = true) (hr : Go p e below Φ (T.setTop (mkF m q Ls st))) : Go p e below Φ (T.setTop (mkF m pc Ls (z :: x :: st))) := by
  exact hr.pre fun t r => Jvm.Free.XT.acmpYes w.here w.hx rfl rfl (w.b hd) rfl h1 h2 hc ho hq r
theorem g_acN (w : Wk p l e R s m args below meth c Z a0 EL pr y bs ml rt T vm0 h k n) {cd : ClassFile.ACond} {x z : Value} {o : Int} (hd : decode bs pc = .ok (.if_acmp cd o, 3)) (hq : pc + 3 = q) (h1 : x.isRef = true) (h2 : z.isRef = true) (hc : Jvm.Free.XT.acmp cd x z = false) (hr : Go p e below Φ (T.setTop (mkF m q Ls st))) : Go p e below Φ (T.setTop (mkF m pc Ls (z :: x :: st))) := by
  subst hq; exact hr.pre fun t r => Jvm.Free.XT.acmpNo w.here w.hx rfl (w.b hd) rfl h1 h2 hc r
theorem g_nullY (w : Wk p l e R s m args below meth c Z a0 EL pr y bs ml rt T vm0 h k n) {o : Int} (hd : decode bs pc = .ok (.ifnull o, 3)) (ho : 0 ≤ (pc : Int) + o) (hq : ((pc : Int) + o).toNat = q) (hr : Go p e below Φ (T.setTop (mkF m q Ls st))) : Go p e below Φ (T.setTop (mkF m pc Ls (.null :: st))) := by
  exact hr.pre fun t r => Jvm.Free.XS.ifnullYes w.here w.hx rfl rfl (w.b hd) rfl ho hq r
theorem g_nullN (w : Wk p l e R s m args below meth c Z a0 EL pr y bs ml rt T vm0 h k n) {o : Int} {b : Addr} (hd : decode bs pc = .ok (.ifnull o, 3)) (hq : pc + 3 = q) (hr : Go p e below Φ (T.setTop (mkF m q Ls st))) : Go p e below Φ (T.setTop (mkF m pc Ls (.ref b :: st))) := by
  subst hq; exact hr.pre fun t r => Jvm.Free.XS.ifnullNo w.here w.hx rfl (w.b hd) rfl r
theorem g_nonnullY (w : Wk p l e R s m args below meth c Z a0 EL pr y bs ml rt T vm0 h k n) {o : Int} {b : Addr} (hd : decode bs pc = .ok (.ifnonnull o, 3)) (ho : 0 ≤ (pc : Int) + o) (hq : ((pc : Int) + o).toNat = q) (hr : Go p e below Φ (T.setTop (mkF m q Ls st))) : Go p e below Φ (T.setTop (mkF m pc Ls (.ref b :: st))) := by
  exact hr.pre fun t r => Jvm.Free.XT.ifnonnullYes w.here w.hx rfl rfl (w.b hd) rfl ho hq r
theorem g_nonnullN (w : Wk p l e R s m args below meth c Z a0 EL pr y bs ml rt T vm0 h k n) {o : Int} (hd : decode bs pc = .ok (.ifnonnull o, 3)) (hq : pc + 3 = q) (hr : Go p e below Φ (T.setTop (mkF m q Ls st))) : Go p e below Φ (T.setTop (mkF m pc Ls (.null :: st))) := by
  subst hq; exact hr.pre fun t r => Jvm.Free.XT.ifnonnullNo w.here w.hx rfl (w.b hd) rfl r
theorem g_if_eq (w : Wk p l e R s m args below meth c Z a0 EL pr y bs ml rt T vm0 h k n) {x : Int32} {o : Int} {q' : Nat} (hd : decode bs pc = .ok (.ifCond .eq o, 3)) (ho : 0 ≤ (pc : Int) + o) (hq : ((pc : Int) + o).toNat = q) (hq' : pc + 3 = q') (hY : x = 0 → Go p e below Φ (T.setTop (mkF m q Ls st))) (hN : ¬ x = 0 → Go p e below Φ (T.setTop (mkF m q' Ls st))) : Go p e below Φ (T.setTop (mkF m pc Ls (.int x :: st))) := by
  by_cases hc : x = 0
  · exact g_ifY w hd ho hq (Jvm.Free.XT.i0_eq_t hc) (hY hc)
  · exact g_ifN w hd hq' (Jvm.Free.XT.i0_eq_f hc) (hN hc)
theorem g_ic_eq (w : Wk p l e R s m args below meth c Z a0 EL pr y bs ml rt T vm0 h k n) {x z : Int32} {o : Int} {q' : Nat} (hd : decode bs pc = .ok (.if_icmp .eq o, 3)) (ho : 0 ≤ (pc : Int) + o) (hq : ((pc : Int) + o).toNat = q) (hq' : pc + 3 = q') (hY : x = z → Go p e below Φ (T.setTop (mkF m q Ls st))) (hN : ¬ x = z → Go p e below Φ (T.setTop (mkF m q' Ls st))) : Go p e below Φ (T.setTop (mkF m pc Ls (.int z :: .int x :: st))) := by
  by_cases hc : x = z
  · exact g_icY w hd ho hq (Jvm.Free.XT.ii_eq_t hc) (hY hc)
  · exact g_icN w hd hq' (Jvm.Free.XT.ii_eq_f hc) (hN hc)
theorem g_lc_eq (w : Wk p l e R s m args below meth c Z a0 EL pr y bs ml rt T vm0 h k n) {x z : Int64} {o : Int} {q' : Nat} (hd : decode bs pc = .ok (.ifCond .eq o, 3)) (ho : 0 ≤ (pc : Int) + o) (hq : ((pc : Int) + o).toNat = q) (hq' : pc + 3 = q') (hY : x = z → Go p e below Φ (T.setTop (mkF m q Ls st))) (hN : ¬ x = z → Go p e below Φ (T.setTop (mkF m q' Ls st))) : Go p e below Φ (T.setTop (mkF m pc Ls (.int (Jvm.Free.XT.cmpL x z) :: st))) := by
  by_cases hc : x = z
  · exact g_ifY w hd ho hq (Jvm.Free.XT.ll_eq_t hc) (hY hc)
  · exact g_ifN w hd hq' (Jvm.Free.XT.ll_eq_f hc) (hN hc)
theorem g_if_ne (w : Wk p l e R s m args below meth c Z a0 EL pr y bs ml rt T vm0 h k n) {x : Int32} {o : Int} {q' : Nat} (hd : decode bs pc = .ok (.ifCond .ne o, 3)) (ho : 0 ≤ (pc : Int) + o) (hq : ((pc : Int) + o).toNat = q) (hq' : pc + 3 = q') (hY : ¬ x = 0 → Go p e below Φ (T.setTop (mkF m q Ls st))) (hN : x = 0 → Go p e below Φ (T.setTop (mkF m q' Ls st))) : Go p e below Φ (T.setTop (mkF m pc Ls (.int x :: st))) := by
  by_cases hc : ¬ x = 0
  · exact g_ifY w hd ho hq (Jvm.Free.XT.i0_ne_t hc) (hY hc)
  · exact g_ifN w hd hq' (Jvm.Free.XT.i0_ne_f (Classical.not_not.mp hc)) (hN (Classical.not_not.mp hc))
theorem g_ic_ne (w : Wk p l e R s m args below meth c Z a0 EL pr y bs ml rt T vm0 h k n) {x z : Int32} {o : Int} {q' : Nat} (hd : decode bs pc = .ok (.if_icmp .ne o, 3)) (ho : 0 ≤ (pc : Int) + o) (hq : ((pc : Int) + o).toNat = q) (hq' : pc + 3 = q') (hY : ¬ x = z → Go p e below Φ (T.setTop (mkF m q Ls st))) (hN : x = z → Go p e below Φ (T.setTop (mkF m q' Ls st))) : Go p e below Φ (T.setTop (mkF m pc Ls (.int z :: .int x :: st))) := by
  by_cases hc : ¬ x = z
  · exact g_icY w hd ho hq (Jvm.Free.XT.ii_ne_t hc) (hY hc)
  · exact g_icN w hd hq' (Jvm.Free.XT.ii_ne_f (Classical.not_not.mp hc)) (hN (Classical.not_not.mp hc))
theorem g_lc_ne (w : Wk p l e R s m args below meth c Z a0 EL pr y bs ml rt T vm0 h k n) {x z : Int64} {o : Int} {q' : Nat} (hd : decode bs pc = .ok (.ifCond .ne o, 3)) (ho : 0 ≤ (pc : Int) + o) (hq : ((pc : Int) + o).toNat = q) (hq' : pc + 3 = q') (hY : ¬ x = z → Go p e below Φ (T.setTop (mkF m q Ls st))) (hN : x = z → Go p e below Φ (T.setTop (mkF m q' Ls st))) : Go p e below Φ (T.setTop (mkF m pc Ls (.int (Jvm.Free.XT.cmpL x z) :: st))) := by
  by_cases hc : ¬ x = z
  · exact g_ifY w hd ho hq (Jvm.Free.XT.ll_ne_t hc) (hY hc)
  · exact g_ifN w hd hq' (Jvm.Free.XT.ll_ne_f (Classical.not_not.mp hc)) (hN (Classical.not_not.mp hc))
theorem g_if_lt (w : Wk p l e R s m args below meth c Z a0 EL pr y bs ml rt T vm0 h k n) {x : Int32} {o : Int} {q' : Nat} (hd : decode bs pc = .ok (.ifCond .lt o, 3)) (ho : 0 ≤ (pc : Int) + o) (hq : ((pc : Int) + o).toNat = q) (hq' : pc + 3 = q') (hY : x < 0 → Go p e below Φ (T.setTop (mkF m q Ls st))) (hN : ¬ x < 0 → Go p e below Φ (T.setTop (mkF m q' Ls st))) : Go p e below Φ (T.setTop (mkF m pc Ls (.int x :: st))) := by
  by_cases hc : x < 0
  · exact g_ifY w hd ho hq (Jvm.Free.XT.i0_lt_t hc) (hY hc)
  · exact g_ifN w hd hq' (Jvm.Free.XT.i0_lt_f hc) (hN hc)
theorem g_ic_lt (w : Wk p l e R s m args below meth c Z a0 EL pr y bs ml rt T vm0 h k n) {x z : Int32} {o : Int} {q' : Nat} (hd : decode bs pc = .ok (.if_icmp .lt o, 3)) (ho : 0 ≤ (pc : Int) + o) (hq : ((pc : Int) + o).toNat = q) (hq' : pc + 3 = q') (hY : x < z → Go p e below Φ (T.setTop (mkF m q Ls st))) (hN : ¬ x < z → Go p e below Φ (T.setTop (mkF m q' Ls st))) : Go p e below Φ (T.setTop (mkF m pc Ls (.int z :: .int x :: st))) := by
  by_cases hc : x < z
  · exact g_icY w hd ho hq (Jvm.Free.XT.ii_lt_t hc) (hY hc)
  · exact g_icN w hd hq' (Jvm.Free.XT.ii_lt_f hc) (hN hc)
theorem g_lc_lt (w : Wk p l e R s m args below meth c Z a0 EL pr y bs ml rt T vm0 h k n) {x z : Int64} {o : Int} {q' : Nat} (hd : decode bs pc = .ok (.ifCond .lt o, 3)) (ho : 0 ≤ (pc : Int) + o) (hq : ((pc : Int) + o).toNat = q) (hq' : pc + 3 = q') (hY : x < z → Go p e below Φ (T.setTop (mkF m q Ls st))) (hN : ¬ x < z → Go p e below Φ (T.setTop (mkF m q' Ls st))) : Go p e below Φ (T.setTop (mkF m pc Ls (.int (Jvm.Free.XT.cmpL x z) :: st))) := by
  by_cases hc : x < z
  · exact g_ifY w hd ho hq (Jvm.Free.XT.ll_lt_t hc) (hY hc)
  · exact g_ifN w hd hq' (Jvm.Free.XT.ll_lt_f hc) (hN hc)
theorem g_if_ge (w : Wk p l e R s m args below meth c Z a0 EL pr y bs ml rt T vm0 h k n) {x : Int32} {o : Int} {q' : Nat} (hd : decode bs pc = .ok (.ifCond .ge o, 3)) (ho : 0 ≤ (pc : Int) + o) (hq : ((pc : Int) + o).toNat = q) (hq' : pc + 3 = q') (hY : ¬ x < 0 → Go p e below Φ (T.setTop (mkF m q Ls st))) (hN : x < 0 → Go p e below Φ (T.setTop (mkF m q' Ls st))) : Go p e below Φ (T.setTop (mkF m pc Ls (.int x :: st))) := by
  by_cases hc : ¬ x < 0
  · exact g_ifY w hd ho hq (Jvm.Free.XT.i0_ge_t hc) (hY hc)
  · exact g_ifN w hd hq' (Jvm.Free.XT.i0_ge_f (Classical.not_not.mp hc)) (hN (Classical.not_not.mp hc))
theorem g_ic_ge (w : Wk p l e R s m args below meth c Z a0 EL pr y bs ml rt T vm0 h k n) {x z : Int32} {o : Int} {q' : Nat} (hd : decode bs pc = .ok (.if_icmp .ge o, 3)) (ho : 0 ≤ (pc : Int) + o) (hq : ((pc : Int) + o).toNat = q) (hq' : pc + 3 = q') (hY : ¬ x < z → Go p e below Φ (T.setTop (mkF m q Ls st))) (hN : x < z → Go p e below Φ (T.setTop (mkF m q' Ls st))) : Go p e below Φ (T.setTop (mkF m pc Ls (.int z :: .int x :: st))) := by
  by_cases hc : ¬ x < z
  · exact g_icY w hd ho hq (Jvm.Free.XT.ii_ge_t hc) (hY hc)
  · exact g_icN w hd hq' (Jvm.Free.XT.ii_ge_f (Classical.not_not.mp hc)) (hN (Classical.not_not.mp hc))
theorem g_lc_ge (w : Wk p l e R s m args below meth c Z a0 EL pr y bs ml rt T vm0 h k n) {x z : Int64} {o : Int} {q' : Nat} (hd : decode bs pc = .ok (.ifCond .ge o, 3)) (ho : 0 ≤ (pc : Int) + o) (hq : ((pc : Int) + o).toNat = q) (hq' : pc + 3 = q') (hY : ¬ x < z → Go p e below Φ (T.setTop (mkF m q Ls st))) (hN : x < z → Go p e below Φ (T.setTop (mkF m q' Ls st))) : Go p e below Φ (T.setTop (mkF m pc Ls (.int (Jvm.Free.XT.cmpL x z) :: st))) := by
  by_cases hc : ¬ x < z
  · exact g_ifY w hd ho hq (Jvm.Free.XT.ll_ge_t hc) (hY hc)
  · exact g_ifN w hd hq' (Jvm.Free.XT.ll_ge_f (Classical.not_not.mp hc)) (hN (Classical.not_not.mp hc))
theorem g_if_gt (w : Wk p l e R s m args below meth c Z a0 EL pr y bs ml rt T vm0 h k n) {x : Int32} {o : Int} {q' : Nat} (hd : decode bs pc = .ok (.ifCond .gt o, 3)) (ho : 0 ≤ (pc : Int) + o) (hq : ((pc : Int) + o).toNat = q) (hq' : pc + 3 = q') (hY : 0 < x → Go p e below Φ (T.setTop (mkF m q Ls st))) (hN : ¬ 0 < x → Go p e below Φ (T.setTop (mkF m q' Ls st))) : Go p e below Φ (T.setTop (mkF m pc Ls (.int x :: st))) := by
  by_cases hc : 0 < x
  · exact g_ifY w hd ho hq (Jvm.Free.XT.i0_gt_t hc) (hY hc)
  · exact g_ifN w hd hq' (Jvm.Free.XT.i0_gt_f hc) (hN hc)
theorem g_ic_gt (w : Wk p l e R s m args below meth c Z a0 EL pr y bs ml rt T vm0 h k n) {x z : Int32} {o : Int} {q' : Nat} (hd : decode bs pc = .ok (.if_icmp .gt o, 3)) (ho : 0 ≤ (pc : Int) + o) (hq : ((pc : Int) + o).toNat = q) (hq' : pc + 3 = q') (hY : z < x → Go p e below Φ (T.setTop (mkF m q Ls st))) (hN : ¬ z < x → Go p e below Φ (T.setTop (mkF m q' Ls st))) : Go p e below Φ (T.setTop (mkF m pc Ls (.int z :: .int x :: st))) := by
  by_cases hc : z < x
  · exact g_icY w hd ho hq (Jvm.Free.XT.ii_gt_t hc) (hY hc)
  · exact g_icN w hd hq' (Jvm.Free.XT.ii_gt_f hc) (hN hc)
theorem g_lc_gt (w : Wk p l e R s m args below meth c Z a0 EL pr y bs ml rt T vm0 h k n) {x z : Int64} {o : Int} {q' : Nat} (hd : decode bs pc = .ok (.ifCond .gt o, 3)) (ho : 0 ≤ (pc : Int) + o) (hq : ((pc : Int) + o).toNat = q) (hq' : pc + 3 = q') (hY : z < x → Go p e below Φ (T.setTop (mkF m q Ls st))) (hN : ¬ z < x → Go p e below Φ (T.setTop (mkF m q' Ls st))) : Go p e below Φ (T.setTop (mkF m pc Ls (.int (Jvm.Free.XT.cmpL x z) :: st))) := by
  by_cases hc : z < x
  · exact g_ifY w hd ho hq (Jvm.Free.XT.ll_gt_t hc) (hY hc)
  · exact g_ifN w hd hq' (Jvm.Free.XT.ll_gt_f hc) (hN hc)
theorem g_if_le (w : Wk p l e R s m args below meth c Z a0 EL pr y bs ml rt T vm0 h k n) {x : Int32} {o : Int} {q' : Nat} (hd : decode bs pc = .ok (.ifCond .le o, 3)) (ho : 0 ≤ (pc : Int) + o) (hq : ((pc : Int) + o).toNat = q) (hq' : pc + 3 = q') (hY : ¬ 0 < x → Go p e below Φ (T.setTop (mkF m q Ls st))) (hN : 0 < x → Go p e below Φ (T.setTop (mkF m q' Ls st))) : Go p e below Φ (T.setTop (mkF m pc Ls (.int x :: st))) := by
  by_cases hc : ¬ 0 < x
  · exact g_ifY w hd ho hq (Jvm.Free.XT.i0_le_t hc) (hY hc)
  · exact g_ifN w hd hq' (Jvm.Free.XT.i0_le_f (Classical.not_not.mp hc)) (hN (Classical.not_not.mp hc))
theorem g_ic_le (w : Wk p l e R s m args below meth c Z a0 EL pr y bs ml rt T vm0 h k n) {x z : Int32} {o : Int} {q' : Nat} (hd : decode bs pc = .ok (.if_icmp .le o, 3)) (ho : 0 ≤ (pc : Int) + o) (hq : ((pc : Int) + o).toNat = q) (hq' : pc + 3 = q') (hY : ¬ z < x → Go p e below Φ (T.setTop (mkF m q Ls st))) (hN : z < x → Go p e below Φ (T.setTop (mkF m q' Ls st))) : Go p e below Φ (T.setTop (mkF m pc Ls (.int z :: .int x :: st))) := by
  by_cases hc : ¬ z < x
  · exact g_icY w hd ho hq (Jvm.Free.XT.ii_le_t hc) (hY hc)
  · exact g_icN w hd hq' (Jvm.Free.XT.ii_le_f (Classical.not_not.mp hc)) (hN (Classical.not_not.mp hc))
theorem g_lc_le (w : Wk p l e R s m args below meth c Z a0 EL pr y bs ml rt T vm0 h k n) {x z : Int64} {o : Int} {q' : Nat} (hd : decode bs pc = .ok (.ifCond .le o, 3)) (ho : 0 ≤ (pc : Int) + o) (hq : ((pc : Int) + o).toNat = q) (hq' : pc + 3 = q') (hY : ¬ z < x → Go p e below Φ (T.setTop (mkF m q Ls st))) (hN : z < x → Go p e below Φ (T.setTop (mkF m q' Ls st))) : Go p e below Φ (T.setTop (mkF m pc Ls (.int (Jvm.Free.XT.cmpL x z) :: st))) := by
  by_cases hc : ¬ z < x
  · exact g_ifY w hd ho hq (Jvm.Free.XT.ll_le_t hc) (hY hc)
  · exact g_ifN w hd hq' (Jvm.Free.XT.ll_le_f (Classical.not_not.mp hc)) (hN (Classical.not_not.mp hc))
theorem g_ar_eq (w : Wk p l e R s m args below meth c Z a0 EL pr y bs ml rt T vm0 h k n) {a b : Addr} {o : Int} {q' : Nat} (hd : decode bs pc = .ok (.if_acmp .eq o, 3)) (ho : 0 ≤ (pc : Int) + o) (hq : ((pc : Int) + o).toNat = q) (hq' : pc + 3 = q') (hY : a = b → Go p e below Φ (T.setTop (mkF m q Ls st))) (hN : ¬ a = b → Go p e below Φ (T.setTop (mkF m q' Ls st))) : Go p e below Φ (T.setTop (mkF m pc Ls (.ref b :: .ref a :: st))) := by
  by_cases hc : a = b
  · exact g_acY w hd ho hq rfl rfl (Jvm.Free.XT.aa_eq_t (congrArg Value.ref hc)) (hY hc)
  · exact g_acN w hd hq' rfl rfl (Jvm.Free.XT.aa_eq_f fun z => hc (Value.ref.inj z)) (hN hc)
theorem g_ar_ne (w : Wk p l e R s m args below meth c Z a0 EL pr y bs ml rt T vm0 h k n) {a b : Addr} {o : Int} {q' : Nat} (hd : decode bs pc = .ok (.if_acmp .ne o, 3)) (ho : 0 ≤ (pc : Int) + o) (hq : ((pc : Int) + o).toNat = q) (hq' : pc + 3 = q') (hY : ¬ a = b → Go p e below Φ (T.setTop (mkF m q Ls st))) (hN : a = b → Go p e below Φ (T.setTop (mkF m q' Ls st))) : Go p e below Φ (T.setTop (mkF m pc Ls (.ref b :: .ref a :: st))) := by
  by_cases hc : a = b
  · exact g_acN w hd hq' rfl rfl (Jvm.Free.XT.aa_ne_f (congrArg Value.ref hc)) (hN hc)
  · exact g_acY w hd ho hq rfl rfl (Jvm.Free.XT.aa_ne_t fun z => hc (Value.ref.inj z)) (hY hc)
theorem g_ldcI (w : Wk p l e R s m args below meth c Z a0 EL pr y bs ml rt T vm0 h k n) {i : Nat} {v : Int32} (hd : decode bs pc = .ok (.ldc i, 2)) (hq : pc + 2 = q) (wc : (Cond.constant y.cls i v).before a0 Z = true) (hr : Go p e below Φ (T.setTop (mkF m q Ls (.int v :: st)))) : Go p e below Φ (T.setTop (mkF m pc Ls st)) := by
  subst hq; obtain ⟨⟨hx, hb1, hml, hrt, hlk, hnm, hEL⟩, k0, locs, X, hh, hZ, hown, hS, hk0, N, C, O, hpr⟩ := w
  exact hr.pre fun t r => X.ldcI hx hown (mvT (s := s.setVm vm0) hZ wc) rfl (hb hb1 hd) r
theorem g_ldcWI (w : Wk p l e R s m args below meth c Z a0 EL pr y bs ml rt T vm0 h k n) {i : Nat} {v : Int32} (hd : decode bs pc = .ok (.ldc_w i, 3)) (hq : pc + 3 = q) (wc : (Cond.constant y.cls i v).before a0 Z = true) (hr : Go p e below Φ (T.setTop (mkF m q Ls (.int v :: st)))) : Go p e below Φ (T.setTop (mkF m pc Ls st)) := by
  subst hq; obtain ⟨⟨hx, hb1, hml, hrt, hlk, hnm, hEL⟩, k0, locs, X, hh, hZ, hown, hS, hk0, N, C, O, hpr⟩ := w
  exact hr.pre fun t r => X.ldcWI hx hown (mvT (s := s.setVm vm0) hZ wc) rfl (hb hb1 hd) r
theorem g_ldc2J (w : Wk p l e R s m args below meth c Z a0 EL pr y bs ml rt T vm0 h k n) {i : Nat} {v : Int64} (hd : decode bs pc = .ok (.ldc2_w i, 3)) (hq : pc + 3 = q) (wc : (Cond.constantLong y.cls i v).before a0 Z = true) (hr : Go p e below Φ (T.setTop (mkF m q Ls (.long v :: st)))) : Go p e below Φ (T.setTop (mkF m pc Ls st)) := by
  subst hq; obtain ⟨⟨hx, hb1, hml, hrt, hlk, hnm, hEL⟩, k0, locs, X, hh, hZ, hown, hS, hk0, N, C, O, hpr⟩ := w
  exact hr.pre fun t r => X.ldc2J hx hown (mvT (s := s.setVm vm0) hZ wc) rfl (hb hb1 hd) r
theorem ext_refl (h : Heap) : Ext h h := ⟨Nat.le_refl _, fun _ _ q => q⟩
theorem ext_trans {h1 h2 h3 : Heap} (E : Ext h1 h2) (F : Ext h2 h3) : Ext h1 h3 := ⟨Nat.le_trans E.1 F.1, fun a c q => F.2 _ _ (E.2 _ _ q)⟩
theorem ext_keep {h1 h2 h3 : Heap} {a : Addr} (E : Ext h1 h2) (K : Keep h2 h3 [a]) (ha : h1.size ≤ a) : Ext h1 h3 := ⟨Nat.le_trans E.1 K.1, fun x c q => K.2.1 x c (E.2 _ _ q) fun hm => by
  have := (Array.getElem?_eq_some_iff.mp q).1
  cases List.mem_singleton.mp hm
  omega⟩
theorem ext_wr {h1 h2 h3 : Heap} {a : Addr} {sl : Nat} {v : Value} (E : Ext h1 h2) (W : Wr h2 h3 a sl v) (ha : h1.size ≤ a) : Ext h1 h3 := ext_keep E (Keep.of_wr W) ha
theorem Wk.sta (w : Wk p l e R s m args below meth c Z a0 EL pr y bs ml rt T vm0 h k n) {C nm d : String} {v : Value} (S : Sta Z Z.heap C nm d v) : Sta Z h C nm d v := S.ext w.old
/-- getfield -/
theorem g_getF (w : Wk p l e R s m args below meth c Z a0 EL pr y bs ml rt T vm0 h k n) {i : Nat} {R0 O' nm d host : String} {a : Addr} {v : Value} (hd : decode bs pc = .ok (.getfield i, 3)) (hq : pc + 3 = q) (wl : (Cond.fieldLink y.cls i R0 nm d).before a0 Z = true ∨ (Cond.fieldLinkNest y.cls i R0 nm d host).before a0 Z = true) (via : Via Z R0 O' nm d) (F : Fld Z h a O' nm d v)
    (K : ∀ T', Wk p l e R s m args below meth c Z a0 EL pr y bs ml rt T' vm0 h k n → Go p e below Φ (T'.setTop (mkF m q Ls (v :: st)))) : Go p e below Φ (T.setTop (mkF m pc Ls (.ref a :: st))) := by
  subst hq; obtain ⟨⟨hx, hb1, hml, hrt, hlk, hnm, hEL⟩, k0, locs, X, hh, hZ, hown, hS, hk0, N, C, O, hpr⟩ := w
  obtain ⟨T', X', e', g'⟩ := getF X hx hZ hown wl via hh F (g := mkF m pc Ls (.ref a :: st)) rfl rfl (hb hb1 hd)
  exact (K T' ⟨⟨hx, hb1, hml, hrt, hlk, hnm, hEL⟩, k0, locs, X', e', hZ, hown, hS, hk0, N, C, O, hpr⟩).pre g'
/-- getstatic -/
theorem g_getS (w : Wk p l e R s m args below meth c Z a0 EL pr y bs ml rt T vm0 h k n) {i : Nat} {R0 O' nm d : String} {v : Value} (hd : decode bs pc = .ok (.getstatic i, 3)) (hq : pc + 3 = q) (wl : (Cond.fieldLink y.cls i R0 nm d).before a0 Z = true) (via : Via Z R0 O' nm d) (F : Sta Z Z.heap O' nm d v)
    (K : ∀ T', Wk p l e R s m args below meth c Z a0 EL pr y bs ml rt T' vm0 h k n → Go p e below Φ (T'.setTop (mkF m q Ls (v :: st)))) : Go p e below Φ (T.setTop (mkF m pc Ls st)) := by
  subst hq; have F' := w.sta F; obtain ⟨⟨hx, hb1, hml, hrt, hlk, hnm, hEL⟩, k0, locs, X, hh, hZ, hown, hS, hk0, N, C, O, hpr⟩ := w
  obtain ⟨T', X', e', g'⟩ := getS (host := "") X hx hZ hown wl via hh F' (g := mkF m pc Ls st) rfl (hb hb1 hd)
  exact (K T' ⟨⟨hx, hb1, hml, hrt, hlk, hnm, hEL⟩, k0, locs, X', e', hZ, hown, hS, hk0, N, C, O, hpr⟩).pre g'
/-- putfield of an object that is new -/
theorem g_putF (w : Wk p l e R s m args below meth c Z a0 EL pr y bs ml rt T vm0 h k n) {i kk : Nat} {R0 O' nm d C' : String} {a : Addr} {v v' old : Value} {ty : FieldType} (hd : decode bs pc = .ok (.putfield i, 3)) (hq : pc + 3 = q) (wl : (Cond.fieldLink y.cls i R0 nm d).before a0 Z = true) (via : Via Z R0 O' nm d) (F : Fld Z h a O' nm d old) (E : Exa Z h a C')
    (L : (Cond.lays C' O' nm d).before a0 Z = true ∨ ((Cond.laysFinal C' O' nm d).before a0 Z = true ∧ y.cls = O' ∧ y.name = "<init>")) (wi : (Cond.instantiable C' kk).before a0 Z = true) (hty : parseFieldDescriptor d = some ty) (hn : narrow ty v = v') (hf : fits ty v' = true) (ga : Z.heap.size ≤ a) (S : Safe Z EL vm0 h a)
    (K : ∀ T' h', Wk p l e R s m args below meth c Z a0 EL pr y bs ml rt T' vm0 h' k n → Wr h h' a (Jvm.RoadKit.slotOf Z O' nm d) v' → Go p e below Φ (T'.setTop (mkF m q Ls st))) : Go p e below Φ (T.setTop (mkF m pc Ls (v :: .ref a :: st))) := by
  subst hq; obtain ⟨⟨hx, hb1, hml, hrt, hlk, hnm, hEL⟩, k0, locs, X, hh, hZ, hown, hS, hk0, N, C, O, hpr⟩ := w
  obtain ⟨T', h', X', e', W, g'⟩ := putFN X hx hZ hown wl via hh F E (L.imp id fun q => ⟨q.1, q.2.1, hnm.trans q.2.2⟩) wi hty hn hf (g := mkF m pc Ls (v :: .ref a :: st)) rfl rfl (hb hb1 hd)
  exact (K T' h' ⟨⟨hx, hb1, hml, hrt, hlk, hnm, hEL⟩, k0, _, X', e', hZ, hown, hS, by rw [W.size]; exact hk0, N.snoc X' ga, C.trans (CHr.wr W S C.1), ext_wr O W ga, hpr⟩ W).pre g'
/-- new -/
theorem g_new (w : Wk p l e R s m args below meth c Z a0 EL pr y bs ml rt T vm0 h k n) {i nn : Nat} {C' : String} (hd : decode bs pc = .ok (.new i, 3)) (hq : pc + 3 = q) (w1 : (Cond.classLink y.cls i C').before a0 Z = true) (w2 : (Cond.instantiable C' nn).before a0 Z = true) (w3 : (Cond.initialized C').before a0 Z = true) (hc : k + 1 ≤ R.cells) (hl : n + nn ≤ R.slots)
    (K : ∀ T' h' a, Wk p l e R s m args below meth c Z a0 EL pr y bs ml rt T' vm0 h' (k + 1) (n + nn) → Ext h h' → h.size ≤ a → Z.heap.size ≤ a → Exa Z h' a C' → (∀ {O' nm d : String} {ty : FieldType}, Laid Z a0 C' O' nm d → parseFieldDescriptor d = some ty → Fld Z h' a O' nm d (defaultValue ty)) → Safe Z EL vm0 h' a → Go p e below Φ (T'.setTop (mkF m q Ls (.ref a :: st)))) : Go p e below Φ (T.setTop (mkF m pc Ls st)) := by
  subst hq; obtain ⟨⟨hx, hb1, hml, hrt, hlk, hnm, hEL⟩, k0, locs, X, hh, hZ, hown, hS, hk0, N, C, O, hpr⟩ := w
  obtain ⟨T', h', X', e', E, A, D, -, g'⟩ := newO X hx hZ hown w1 w2 w3 hh (g := mkF m pc Ls st) rfl (hb hb1 hd) hc hl
  exact (K T' h' h.size ⟨⟨hx, hb1, hml, hrt, hlk, hnm, hEL⟩, k0, locs, X', e', hZ, hown, hS, Nat.le_trans hk0 E.1, N, C.trans (CHr.ext E C.1), ext_trans O E, hpr⟩ E (Nat.le_refl _) O.1 A D (Safe.ext E C.1 (Safe.new (Nat.le_refl _)))).pre g'
/-- an array, its components known -/
def Ar (Z : State) (h : Heap) (a : Addr) (ty : FieldType) (vs : List Value) : Prop := vs.length < 2147483648 ∧ ∃ kC d, Arv Z h a kC ty (Int32.ofNat vs.length) vs d
theorem ofNat_clamp {n : Nat} (h : n < 2147483648) : (Int32.ofNat n).toNatClampNeg = n := by
  have : (Int32.ofNat n).toInt = n := Int32.toInt_ofNat_of_lt (by omega)
  simp only [Int32.toNatClampNeg, this]; rfl
theorem ofNat_nonneg {n : Nat} (h : n < 2147483648) : ¬ Int32.ofNat n < 0 := by
  have : (Int32.ofNat n).toInt = n := Int32.toInt_ofNat_of_lt (by omega)
  rw [Int32.lt_iff_toInt_lt, this, show (0 : Int32).toInt = 0 from rfl]; omega
theorem Ar.lt {a : Addr} {ty : FieldType} {vs : List Value} (F : Ar Z h a ty vs) : a < h.size := by obtain ⟨-, _, _, F⟩ := F; exact F.lt
theorem Ar.ext {h' : Heap} {a : Addr} {ty : FieldType} {vs : List Value} (F : Ar Z h a ty vs) (E : Ext h h') : Ar Z h' a ty vs := by obtain ⟨q, _, _, F⟩ := F; exact ⟨q, _, _, F.ext E⟩
theorem Ar.keep {h' : Heap} {a : Addr} {ty : FieldType} {vs : List Value} {ws : List Addr} (F : Ar Z h a ty vs) (K : Keep h h' ws) (q : a ∉ ws) : Ar Z h' a ty vs := by obtain ⟨q', _, _, F⟩ := F; exact ⟨q', _, _, F.keep K q⟩
theorem Ar.other {h' : Heap} {a b : Addr} {ty : FieldType} {vs : List Value} {sl : Nat} {v : Value} (F : Ar Z h b ty vs) (W : Wr h h' a sl v) (q : b ≠ a) : Ar Z h' b ty vs := by obtain ⟨q', _, _, F⟩ := F; exact ⟨q', _, _, F.other W q⟩
theorem Ar.arv {a : Addr} {ty : FieldType} {vs : List Value} (F : Ar Z h a ty vs) (d' : Value) : ∃ kC, Arv Z h a kC ty (Int32.ofNat vs.length) vs d' := by
  obtain ⟨q, kC, d, c, A, r1, r2, r3, H, G⟩ := F
  have e : ∀ i, i < c.slots.size → vs.getD i d' = vs.getD i d := fun i hi => by
    rw [r2, ofNat_clamp q] at hi; simp [List.getD_eq_getElem?_getD, hi]
  exact ⟨kC, c, A, r1, r2, r3, fun i hi => by rw [e i hi]; exact H i hi, fun i hi => by rw [e i hi]; exact G i hi⟩
/-- newarray -/
theorem g_newarr (w : Wk p l e R s m args below meth c Z a0 EL pr y bs ml rt T vm0 h k n) {aty : ArrayType} {z : Int32} {len cap : Nat} (hd : decode bs pc = .ok (.newarray aty, 2)) (hq : pc + 2 = q) (w1 : (Cond.arrayClass (newarray.typeOf aty)).before a0 Z = true) (hz : z = Int32.ofNat len) (hl : len ≤ cap) (hcap : cap * 8 ≤ 536870912) (hc : k + 1 ≤ R.cells) (hs : n + cap ≤ R.slots)
    (K : ∀ T' h' a, Wk p l e R s m args below meth c Z a0 EL pr y bs ml rt T' vm0 h' (k + 1) (n + cap) → Ext h h' → h.size ≤ a → Z.heap.size ≤ a → Ar Z h' a (newarray.typeOf aty) (List.replicate len (defaultValue (newarray.typeOf aty))) → Safe Z EL vm0 h' a → Go p e below Φ (T'.setTop (mkF m q Ls (.ref a :: st)))) : Go p e below Φ (T.setTop (mkF m pc Ls (.int z :: st))) := by
  subst hq hz; obtain ⟨⟨hx, hb1, hml, hrt, hlk, hnm, hEL⟩, k0, locs, X, hh, hZ, hown, hS, hk0, N, C, O, hpr⟩ := w
  have hlen : len < 2147483648 := by omega
  obtain ⟨T', h', cA, X', e', E, A, g'⟩ := newP X hx hZ w1 hh (g := mkF m pc Ls (.int (Int32.ofNat len) :: st)) rfl (hb hb1 hd) rfl (ofNat_nonneg hlen) (cap := cap) (by rw [ofNat_clamp hlen]; exact hl) hcap hc hs
  refine (K T' h' h.size ⟨⟨hx, hb1, hml, hrt, hlk, hnm, hEL⟩, k0, locs, X', e', hZ, hown, hS, Nat.le_trans hk0 E.1, N, C.trans (CHr.ext E C.1), ext_trans O E, hpr⟩ E (Nat.le_refl _) O.1 ⟨by simpa using hlen, cA, defaultValue (newarray.typeOf aty), ?_⟩ (Safe.ext E C.1 (Safe.new (Nat.le_refl _)))).pre g'
  have q := (Arv.new A (ofNat_nonneg hlen)).pad (vs' := List.replicate len (defaultValue (newarray.typeOf aty))) (fun i => by simpa using pad_rep [] (defaultValue (newarray.typeOf aty)) len i)
  simpa using q
theorem inb {vs : List Value} {i : Nat} {cl : Cell} (hv : vs.length < 2147483648) (S : cl.slots.size = (Int32.ofNat vs.length).toNatClampNeg) (hi : i < vs.length) : ¬ (Int32.ofNat i < 0 ∨ cl.slots.size ≤ (Int32.ofNat i).toNatClampNeg) := by
  rw [S, ofNat_clamp hv, ofNat_clamp (by omega)]
  intro q
  rcases q with q | q
  · exact ofNat_nonneg (by omega) q
  · omega
/-- castore into a new array -/
theorem g_castore (w : Wk p l e R s m args below meth c Z a0 EL pr y bs ml rt T vm0 h k n) {a : Addr} {vs : List Value} {j x x' : Int32} {i : Nat} (hd : decode bs pc = .ok (.castore, 1)) (hq : pc + 1 = q) (A : Ar Z h a .char vs) (hj : j = Int32.ofNat i) (hi : i < vs.length) (hx' : nar .char x = x') (ga : Z.heap.size ≤ a) (S : Safe Z EL vm0 h a)
    (K : ∀ T' h', Wk p l e R s m args below meth c Z a0 EL pr y bs ml rt T' vm0 h' k n → Wr h h' a i (.int x') → Ar Z h' a .char (vs.set i (.int x')) → Go p e below Φ (T'.setTop (mkF m q Ls st))) : Go p e below Φ (T.setTop (mkF m pc Ls (.int x :: .int j :: .ref a :: st))) := by
  subst hq hj hx'; obtain ⟨⟨hx, hb1, hml, hrt, hlk, hnm, hEL⟩, k0, locs, X, hh, hZ, hown, hS, hk0, N, C, O, hpr⟩ := w
  obtain ⟨hv, kC, dv, cl, B, q1, S1, q3, H1, G1⟩ := A
  obtain ⟨T', h', X', e', W, g'⟩ := stC X hx hZ hh B (j := Int32.ofNat i) (inb hv S1 hi) (g := mkF m pc Ls (.int x :: .int (Int32.ofNat i) :: .ref a :: st)) rfl rfl (hb hb1 hd)
  have V := Arv.set B q1 S1 q3 H1 G1 (fits_nar_char x) W i (ofNat_clamp (by omega)) hi
  rw [ofNat_clamp (by omega)] at W
  exact (K T' h' ⟨⟨hx, hb1, hml, hrt, hlk, hnm, hEL⟩, k0, _, X', e', hZ, hown, hS, by rw [W.size]; exact hk0, N.snoc X' ga, C.trans (CHr.wr W S C.1), ext_wr O W ga, hpr⟩ W ⟨by simpa using hv, kC, dv, by simpa using V⟩).pre g'
/-- bastore into a new byte[] -/
theorem g_bastore (w : Wk p l e R s m args below meth c Z a0 EL pr y bs ml rt T vm0 h k n) {a : Addr} {vs : List Value} {j x x' : Int32} {i : Nat} (hd : decode bs pc = .ok (.bastore, 1)) (hq : pc + 1 = q) (A : Ar Z h a .byte vs) (hj : j = Int32.ofNat i) (hi : i < vs.length) (hx' : nar .byte x = x') (ga : Z.heap.size ≤ a) (S : Safe Z EL vm0 h a)
    (K : ∀ T' h', Wk p l e R s m args below meth c Z a0 EL pr y bs ml rt T' vm0 h' k n → Wr h h' a i (.int x') → Ar Z h' a .byte (vs.set i (.int x')) → Go p e below Φ (T'.setTop (mkF m q Ls st))) : Go p e below Φ (T.setTop (mkF m pc Ls (.int x :: .int j :: .ref a :: st))) := by
  subst hq hj hx'; obtain ⟨⟨hx, hb1, hml, hrt, hlk, hnm, hEL⟩, k0, locs, X, hh, hZ, hown, hS, hk0, N, C, O, hpr⟩ := w
  obtain ⟨hv, kC, dv, cl, B, q1, S1, q3, H1, G1⟩ := A
  obtain ⟨T', h', X', e', W, g'⟩ := stB X hx hZ hh B (j := Int32.ofNat i) (inb hv S1 hi) (g := mkF m pc Ls (.int x :: .int (Int32.ofNat i) :: .ref a :: st)) rfl rfl (hb hb1 hd)
  have V := Arv.set B q1 S1 q3 H1 G1 (fits_nar_byte x) W i (ofNat_clamp (by omega)) hi
  rw [ofNat_clamp (by omega)] at W
  exact (K T' h' ⟨⟨hx, hb1, hml, hrt, hlk, hnm, hEL⟩, k0, _, X', e', hZ, hown, hS, by rw [W.size]; exact hk0, N.snoc X' ga, C.trans (CHr.wr W S C.1), ext_wr O W ga, hpr⟩ W ⟨by simpa using hv, kC, dv, by rw [List.length_set]; exact V⟩).pre g'
theorem g_alen (w : Wk p l e R s m args below meth c Z a0 EL pr y bs ml rt T vm0 h k n) {a : Addr} {ty : FieldType} {vs : List Value} (hd : decode bs pc = .ok (.arraylength, 1)) (hq : pc + 1 = q) (A : Ar Z h a ty vs) (hr : Go p e below Φ (T.setTop (mkF m q Ls (.int (Int32.ofNat vs.length) :: st)))) : Go p e below Φ (T.setTop (mkF m pc Ls (.ref a :: st))) := by
  subst hq; obtain ⟨⟨hx, hb1, hml, hrt, hlk, hnm, hEL⟩, k0, locs, X, hh, hZ, hown, hS, hk0, N, C, O, hpr⟩ := w
  obtain ⟨hv, kC, dv, cl, B, q1, S1, q3, H1, G1⟩ := A
  refine hr.pre fun t r => X.arraylength (g := mkF m pc Ls (.ref a :: st)) hx (by rw [hh]; exact B.1) (State.isArrayOf_alike hZ.alike B.2.1) rfl rfl (hb hb1 hd) t ?_
  rw [len_of S1 q3]; exact r
theorem g_caload (w : Wk p l e R s m args below meth c Z a0 EL pr y bs ml rt T vm0 h k n) {a : Addr} {vs : List Value} {j : Int32} {i : Nat} {v : Value} (hd : decode bs pc = .ok (.caload, 1)) (hq : pc + 1 = q) (A : Ar Z h a .char vs) (hj : j = Int32.ofNat i) (hi : i < vs.length) (hv' : vs[i]? = some v) (hr : Go p e below Φ (T.setTop (mkF m q Ls (v :: st)))) : Go p e below Φ (T.setTop (mkF m pc Ls (.int j :: .ref a :: st))) := by
  subst hq hj; obtain ⟨⟨hx, hb1, hml, hrt, hlk, hnm, hEL⟩, k0, locs, X, hh, hZ, hown, hS, hk0, N, C, O, hpr⟩ := w
  obtain ⟨hv, kC, dv, cl, B, q1, S1, q3, H1, G1⟩ := A
  refine hr.pre fun t r => X.caload (g := mkF m pc Ls (.int (Int32.ofNat i) :: .ref a :: st)) hx (by rw [hh]; exact B.1) (State.isArrayOf_alike hZ.alike B.2.1) B.2.2 (inb hv S1 hi) (H1.at (inb hv S1 hi) (by rw [ofNat_clamp (by omega), List.getD_eq_getElem?_getD, hv']; rfl)) rfl rfl (hb hb1 hd) t r
theorem g_baload (w : Wk p l e R s m args below meth c Z a0 EL pr y bs ml rt T vm0 h k n) {a : Addr} {vs : List Value} {j : Int32} {i : Nat} {v : Value} (hd : decode bs pc = .ok (.baload, 1)) (hq : pc + 1 = q) (A : Ar Z h a .byte vs) (hj : j = Int32.ofNat i) (hi : i < vs.length) (hv' : vs[i]? = some v) (hr : Go p e below Φ (T.setTop (mkF m q Ls (v :: st)))) : Go p e below Φ (T.setTop (mkF m pc Ls (.int j :: .ref a :: st))) := by
  subst hq hj; obtain ⟨⟨hx, hb1, hml, hrt, hlk, hnm, hEL⟩, k0, locs, X, hh, hZ, hown, hS, hk0, N, C, O, hpr⟩ := w
  obtain ⟨hv, kC, dv, cl, B, q1, S1, q3, H1, G1⟩ := A
  refine hr.pre fun t r => X.baloadBytes (g := mkF m pc Ls (.int (Int32.ofNat i) :: .ref a :: st)) hx (by rw [hh]; exact B.1) (State.isArrayOf_alike hZ.alike B.2.1) B.2.2 (inb hv S1 hi) (H1.at (inb hv S1 hi) (by rw [ofNat_clamp (by omega), List.getD_eq_getElem?_getD, hv']; rfl)) rfl rfl (hb hb1 hd) t r
/-- checkcast, instanceof: yes -/
theorem g_cast (w : Wk p l e R s m args below meth c Z a0 EL pr y bs ml rt T vm0 h k n) {i : Nat} {K' : String} {a : Addr} (hd : decode bs pc = .ok (.checkcast i, 3)) (hq : pc + 3 = q) (w1 : (Cond.classLink y.cls i K').before a0 Z = true) (F : Ins Z h a K' true) (K : ∀ T', Wk p l e R s m args below meth c Z a0 EL pr y bs ml rt T' vm0 h k n → Go p e below Φ (T'.setTop (mkF m q Ls (.ref a :: st)))) : Go p e below Φ (T.setTop (mkF m pc Ls (.ref a :: st))) := by
  subst hq; obtain ⟨⟨hx, hb1, hml, hrt, hlk, hnm, hEL⟩, k0, locs, X, hh, hZ, hown, hS, hk0, N, C, O, hpr⟩ := w
  obtain ⟨T', X', e', g'⟩ := castY X hx hZ hown w1 hh F (g := mkF m pc Ls (.ref a :: st)) rfl rfl (hb hb1 hd)
  exact (K T' ⟨⟨hx, hb1, hml, hrt, hlk, hnm, hEL⟩, k0, locs, X', e', hZ, hown, hS, hk0, N, C, O, hpr⟩).pre g'
theorem g_inst (w : Wk p l e R s m args below meth c Z a0 EL pr y bs ml rt T vm0 h k n) {i : Nat} {K' : String} {a : Addr} (hd : decode bs pc = .ok (.instanceof i, 3)) (hq : pc + 3 = q) (w1 : (Cond.classLink y.cls i K').before a0 Z = true) (F : Ins Z h a K' true) (K : ∀ T', Wk p l e R s m args below meth c Z a0 EL pr y bs ml rt T' vm0 h k n → Go p e below Φ (T'.setTop (mkF m q Ls (.int 1 :: st)))) : Go p e below Φ (T.setTop (mkF m pc Ls (.ref a :: st))) := by
  subst hq; obtain ⟨⟨hx, hb1, hml, hrt, hlk, hnm, hEL⟩, k0, locs, X, hh, hZ, hown, hS, hk0, N, C, O, hpr⟩ := w
  obtain ⟨T', X', e', g'⟩ := instY X hx hZ hown w1 hh F (g := mkF m pc Ls (.ref a :: st)) rfl rfl (hb hb1 hd)
  exact (K T' ⟨⟨hx, hb1, hml, hrt, hlk, hnm, hEL⟩, k0, locs, X', e', hZ, hown, hS, hk0, N, C, O, hpr⟩).pre g'
/-- Object.<init> -/
theorem g_initO (w : Wk p l e R s m args below meth c Z a0 EL pr y bs ml rt T vm0 h k n) {i W : Nat} {a : Addr} (hd : decode bs pc = .ok (.invokespecial i, 3)) (hq : pc + 3 = q) (hsz : Ls.size = ml) (w1 : (Cond.methodLink y.cls i Lib.objectInit).before a0 Z = true) (w2 : (Cond.instanceMethod Lib.objectInit).before a0 Z = true) (w3 : (Cond.code Lib.objectInit ⟨#[0xb1]⟩ 1 none).before a0 Z = true) (hW : 2 * 0 + (st.map fun v => v.category).sum ≤ W) (hf : 1 ≤ R.frames) (hl : W + 12 ≤ R.locals)
    (K : ∀ T', Wk p l e R s m args below meth c Z a0 EL pr y bs ml rt T' vm0 h k n → Go p e below Φ (T'.setTop (mkF m q Ls st))) : Go p e below Φ (T.setTop (mkF m pc Ls (.ref a :: st))) := by
  subst hq; obtain ⟨⟨hx, hb1, hml, hrt, hlk, hnm, hEL⟩, k0, locs, X, hh, hZ, hown, hS, hk0, N, C, O, hpr⟩ := w
  obtain ⟨T', X', e', g'⟩ := initO X hx hZ hown w1 w2 w3 hh (g := mkF m pc Ls (.ref a :: st)) rfl (hsz.trans hml.symm) rfl (hb hb1 hd) hf hW hl
  exact (K T' ⟨⟨hx, hb1, hml, hrt, hlk, hnm, hEL⟩, k0, locs, X', e', hZ, hown, hS, hk0, N, C, O, hpr⟩).pre g'
/-- ldc of a String constant of EL -/
theorem g_ldcS (w : Wk p l e R s m args below meth c Z a0 EL pr y bs ml rt T vm0 h k n) {i nn : Nat} {text : String} {vs : List Value} {z : Int32} (hd : decode bs pc = .ok (.ldc i, 2)) (hq : pc + 2 = q) (hp : pr = false) (w1 : (Cond.stringLink y.cls i text).before a0 Z = true) (wS : ∀ a ∈ Bundle.stringAtoms, a.before a0 Z = true) (hmem : (y.cls, i) ∈ EL)
    (ht : (∀ c ∈ text.toList, c.toNat < 256) ∧ text.toList.map (fun c => Value.int (Jvm.Lit.byteI c.toNat.toUInt16)) = vs) (hz : ¬ z < 0) (hl : z.toNatClampNeg = vs.length) (hn : 4 * text.toList.length ≤ nn) (hbig : nn ≤ 536870912) (hc : k + 2 ≤ R.cells) (hs : n + (nn + 4) ≤ R.slots)
    (K : ∀ T' vm' h' a b kb, Wk p l e R s m args below meth c Z a0 EL pr y bs ml rt T' vm' h' (k + 2) (n + (nn + 4)) → Ext h h' → Exa Z h' a "java/lang/String" → Fld Z h' a "java/lang/String" "coder" "B" (.int 0) → Fld Z h' a "java/lang/String" "value" "[B" (.ref b) → Arv Z h' b kb .byte z vs (.int 0) → CHr Z EL vm0 h vm' h' → (∀ x, Safe Z EL vm' h' x → x ≠ a ∧ x ≠ b) → Go p e below Φ (T'.setTop (mkF m q Ls (.ref a :: st)))) : Go p e below Φ (T.setTop (mkF m pc Ls st)) := by
  subst hq hp; obtain ⟨⟨hx, hb1, hml, hrt, hlk, hnm, hEL⟩, k0, locs, X, hh, hZ, hown, hS, hk0, N, C, O, hpr⟩ := w
  obtain ⟨a, T', h', k1, b, kb, X', e', E, hS', hk', hZ', hown', E1, F1, F2, A1, -, -, C', -, Sf, g'⟩ := ldcCH X hx hZ hown w1 wS hh hS hk0 hEL hmem C.1 ht hz hl (g := mkF m pc Ls st) rfl (hb hb1 hd) hn hbig hc hs
  exact (K T' T'.vm h' a b kb ⟨⟨hx, hb1, hml, hrt, hlk, hnm, hEL⟩, k1, locs, X', e', hZ', hown', hS', hk', N, C.trans C', ext_trans O E, fun q => by cases q⟩ E E1 F1 F2 A1 C' Sf).pre g'
/-- ldc of a String constant, its text not asked -/
theorem g_ldcO (w : Wk p l e R s m args below meth c Z a0 EL pr y bs ml rt T vm0 h k n) {i nn : Nat} {text : String} (hd : decode bs pc = .ok (.ldc i, 2)) (hq : pc + 2 = q) (hp : pr = false) (w1 : (Cond.stringLink y.cls i text).before a0 Z = true) (wS : ∀ a ∈ Bundle.stringAtoms, a.before a0 Z = true) (hn : 4 * text.toList.length ≤ nn) (hbig : nn ≤ 536870912) (hc : k + 2 ≤ R.cells) (hs : n + (nn + 4) ≤ R.slots)
    (K : ∀ T' vm' h' a, Wk p l e R s m args below meth c Z a0 EL pr y bs ml rt T' vm' h' (k + 2) (n + (nn + 4)) → Ext h h' → CHr Z EL vm0 h vm' h' → Go p e below Φ (T'.setTop (mkF m q Ls (.ref a :: st)))) : Go p e below Φ (T.setTop (mkF m pc Ls st)) := by
  subst hq hp; obtain ⟨⟨hx, hb1, hml, hrt, hlk, hnm, hEL⟩, k0, locs, X, hh, hZ, hown, hS, hk0, N, C, O, hpr⟩ := w
  obtain ⟨a, T', h', k1, X', e', E, hS', hk', hZ', hown', C', -, g'⟩ := ldcOH X hx hZ hown w1 wS hh hS hk0 hEL C.1 (g := mkF m pc Ls st) rfl (hb hb1 hd) hn hbig hc hs
  exact (K T' T'.vm h' a ⟨⟨hx, hb1, hml, hrt, hlk, hnm, hEL⟩, k1, locs, X', e', hZ', hown', hS', hk', N, C.trans C', ext_trans O E, fun q => by cases q⟩ E C').pre g'
/-- a callee's contract, at the call -/
theorem Con.back {y' : MethodName} {bs' : ByteArray} {ml' : Nat} {rt' : Option FieldType} {rm : Room} {as' : Array Value} {sf : List Addr} {Q : Option Value → Heap → Prop} {len W : Nat} (hM : Con l Z EL pr y' bs' ml' rt' [] rm as' sf h Q) (hsf : ∀ x ∈ sf, x < h.size ∧ Safe Z EL vm0 h x) (hZ : Z.Warmed39 vm0) (wc : (Cond.code y' bs' ml' rt').before a0 Z = true) (wz : (Cond.initialized y'.cls).before a0 Z = true)
    (hf : rm.frames + 1 ≤ R.frames) (hl : W + (ml' + 11) + rm.locals ≤ R.locals) (hEL : EW Z a0 EL) (H : CHv Z EL vm0 h) :
    BackS l R p e below (s.setVm vm0) args y' len W (fun A a => a = as' ∧ A.U.heap = h ∧ A.cells + rm.cells ≤ R.cells ∧ A.slots + rm.slots ≤ R.slots)
      (fun A _ v B => ∃ L, (Q v B.U.heap ∧ Ext Z.heap B.U.heap ∧ Fr Z.heap.size L) ∧ B.locs = A.locs ++ L ∧ B.cells = A.cells + rm.cells ∧ B.slots = A.slots + rm.slots ∧ CHr Z EL vm0 h B.U.vm B.U.heap ∧ (pr = true → A.U.WarmedH B.U.vm)) :=
  BackS.of_freeW (bytes := bs') (maxL := ml') (ret := rt') (E := fun _ first o t L kk nn => kk = rm.cells ∧ nn = rm.slots ∧ (∃ v, o = .returned v ∧ Q v t.heap ∧ Ext Z.heap t.heap ∧ Fr Z.heap.size L) ∧ CHr Z EL first.vm first.heap t.vm t.heap ∧ (pr = true → first.WarmedH t.vm)) hM hf hl
    (fun m meth c A a Y hp => have hU : Z.Warmed39 A.U.vm := wtrans (s := s.setVm vm0) hZ Y.warmed
      ⟨by show (Cond.and _ .tt).before a A.U = true; rw [Cond.before_and, mv hU wc]; rfl, mv hU wc, mv hU wz, hp.2.2.1, hp.2.2.2⟩)
    (fun m meth c A a g mk Y hp => ⟨hp.1, wtrans (s := s.setVm vm0) hZ Y.warmed, hp.2.1, (CHv.at Y hZ hEL H).1, fun x hx => (CHv.at Y hZ hEL H).safe (hsf x hx).1 (hsf x hx).2⟩) (fun _ _ _ _ _ _ _ _ _ => trivial)
    (fun _ _ _ _ ⟨v, L, h1, h2, h3, h4, h5, h6, h7⟩ => ⟨L, _, _, h7, rfl, rfl, ⟨v, h1, h2, h3, h4⟩, h5, h6⟩)
    (fun m meth c A a g mk v t L kk nn Y hp _ _ ⟨e1, e2, ⟨v', e3, e4⟩, e5, e6⟩ => by
      cases e3; subst e1 e2
      refine ⟨L, e4, rfl, rfl, rfl, (CHv.at Y hZ hEL H).trans ?_, e6⟩
      rw [← hp.2.1]; exact e5)
/-- behind a call -/
theorem Wk.after (w : Wk p l e R s m args below meth c Z a0 EL pr y bs ml rt T vm0 h k n) {T' : State} {locs' : List Loc} {k' n' : Nat} (X' : Stand p l e R ((s.setVm vm0).setVm T'.vm) m args below meth c T' locs' k' n') (h2 : (s.setVm vm0).Since T'.vm T'.heap.size) (hg : T.heap.size ≤ T'.heap.size) (N' : Fr Z.heap.size locs') (C' : CHr Z EL vm0 h T'.vm T'.heap) (O' : Ext Z.heap T'.heap) (hpr' : pr = true → (s.setVm vm0).WarmedH T'.vm) :
    Wk p l e R s m args below meth c Z a0 EL pr y bs ml rt T' T'.vm T'.heap k' n' := by
  obtain ⟨hd, k0, locs, X, rfl, hZ, hown, hS, hk0, N, C, O, hpr⟩ := w
  obtain ⟨a, b, c', d⟩ := rebS (Z := Z) hS hk0 X' h2 hg hZ hown
  exact ⟨hd, _, locs', a, rfl, c', d, b, Nat.le_refl _, N', C.trans C', O', fun q => State.WarmedH.trans (t := s.setVm vm0) (hpr q) (hpr' q)⟩
/-- invokestatic -/
theorem g_static (w : Wk p l e R s m args below meth c Z a0 EL pr y bs ml rt T vm0 h k n) {y' : MethodName} {bs' : ByteArray} {ml' : Nat} {rt' : Option FieldType} {rm : Room} {Q : Option Value → Heap → Prop} {i W : Nat} {argsL : List Value} {ps : List FieldType} {rr : Option FieldType} {stk : List Value} {sf : List Addr} (hM : Con l Z EL pr y' bs' ml' rt' [] rm argsL.toArray sf h Q) (hsf : ∀ x ∈ sf, x < h.size ∧ Safe Z EL vm0 h x) (hd : decode bs pc = .ok (.invokestatic i, 3)) (hq : pc + 3 = q) (hsz : Ls.size = ml)
    (w1 : (Cond.methodLink y.cls i y').before a0 Z = true) (w2 : (Cond.static y').before a0 Z = true) (w3 : (Cond.initialized y'.cls).before a0 Z = true) (w4 : (Cond.code y' bs' ml' rt').before a0 Z = true) (hy : y'.cls ≠ "java/lang/invoke/MethodHandle" ∧ y'.cls ≠ "java/lang/invoke/VarHandle") (hpd : parseMethodDescriptor y'.desc = some ⟨ps, rr⟩) (hlen : argsL.length = ps.length) (hst : stk = argsL.reverse ++ st)
    (hW : 2 * 0 + (st.map fun v => v.category).sum ≤ W) (hf : rm.frames + 1 ≤ R.frames) (hl : W + (ml' + 11) + rm.locals ≤ R.locals) (hc : k + rm.cells ≤ R.cells) (hs : n + rm.slots ≤ R.slots)
    (K : ∀ T' h' v, Wk p l e R s m args below meth c Z a0 EL pr y bs ml rt T' T'.vm h' (k + rm.cells) (n + rm.slots) → h.size ≤ h'.size → CHr Z EL vm0 h T'.vm h' → Q v h' → Go p e below Φ (T'.setTop (mkF m q Ls (v.toList ++ st)))) : Go p e below Φ (T.setTop (mkF m pc Ls stk)) := by
  subst hq hst; have w' := w; obtain ⟨⟨hx, hb1, hml, hrt, hlk, hnm, hEL⟩, k0, locs, X, hh, hZ, hown, hS, hk0, N, C, O, hpr⟩ := w
  obtain ⟨v, vm₁, ⟨T', L', k', n'⟩, hW1, X', hS', hg, ⟨L, ⟨hQ, hO', hF⟩, hl', hk', hn', hC', hp'⟩, stp⟩ := callSS X hx hown (mvT (s := s.setVm vm0) hZ w1) (mvT (s := s.setVm vm0) hZ w2) (mvT (s := s.setVm vm0) hZ w3) (mvT (s := s.setVm vm0) hZ w4) hy (hM.back hsf hZ w4 w3 hf hl hEL C.1) (g := mkF m pc Ls (argsL.reverse ++ st)) rfl (hsz.trans hml.symm) (lenOf hpd hlen) rfl hW (hb hb1 hd) (fun _ _ => ⟨rfl, hh, hc, hs⟩)
  dsimp only [Pt.U, Pt.locs, Pt.cells, Pt.slots] at X' hS' hg hQ hO' hl' hk' hn' hC' hp' stp
  subst hl' hk' hn'
  exact (K T' T'.heap v (w'.after X' hS' hg (N.app hF) hC' hO' fun q => State.WarmedH.trans (t := T.setVm vm₁) hW1 (hp' q)) hC'.2.1 hC' hQ).pre' stp
/-- invokespecial of a constructor -/
theorem g_special (w : Wk p l e R s m args below meth c Z a0 EL pr y bs ml rt T vm0 h k n) {y' : MethodName} {bs' : ByteArray} {ml' : Nat} {rm : Room} {Q : Option Value → Heap → Prop} {i W : Nat} {a : Addr} {argsL : List Value} {ps : List FieldType} {rr : Option FieldType} {stk : List Value} {sf : List Addr} (hM : Con l Z EL pr y' bs' ml' none [] rm (.ref a :: argsL).toArray sf h Q) (hsf : ∀ x ∈ sf, x < h.size ∧ Safe Z EL vm0 h x) (hd : decode bs pc = .ok (.invokespecial i, 3)) (hq : pc + 3 = q) (hsz : Ls.size = ml) (hni : y'.name = "<init>")
    (w1 : (Cond.methodLink y.cls i y').before a0 Z = true) (w2 : (Cond.instanceMethod y').before a0 Z = true) (w3 : (Cond.initialized y'.cls).before a0 Z = true) (w4 : (Cond.code y' bs' ml' none).before a0 Z = true) (hy : y'.cls ≠ "java/lang/invoke/MethodHandle" ∧ y'.cls ≠ "java/lang/invoke/VarHandle") (hpd : parseMethodDescriptor y'.desc = some ⟨ps, rr⟩) (hlen : argsL.length = ps.length) (hst : stk = argsL.reverse ++ .ref a :: st)
    (hW : 2 * 0 + (st.map fun v => v.category).sum ≤ W) (hf : rm.frames + 1 ≤ R.frames) (hl : W + (ml' + 11) + rm.locals ≤ R.locals) (hc : k + rm.cells ≤ R.cells) (hs : n + rm.slots ≤ R.slots)
    (K : ∀ T' h' v, Wk p l e R s m args below meth c Z a0 EL pr y bs ml rt T' T'.vm h' (k + rm.cells) (n + rm.slots) → h.size ≤ h'.size → CHr Z EL vm0 h T'.vm h' → Q v h' → Go p e below Φ (T'.setTop (mkF m q Ls (v.toList ++ st)))) : Go p e below Φ (T.setTop (mkF m pc Ls stk)) := by
  subst hq hst; have w' := w; obtain ⟨⟨hx, hb1, hml, hrt, hlk, hnm, hEL⟩, k0, locs, X, hh, hZ, hown, hS, hk0, N, C, O, hpr⟩ := w
  obtain ⟨v, vm₁, ⟨T', L', k', n'⟩, hW1, X', hS', hg, ⟨L, ⟨hQ, hO', hF⟩, hl', hk', hn', hC', hp'⟩, stp⟩ := X.specialBackS hx hni hown (mvT (s := s.setVm vm0) hZ w1) (mvT (s := s.setVm vm0) hZ w2) (mvT (s := s.setVm vm0) hZ w4) hy (hM.back hsf hZ w4 w3 hf hl hEL C.1) (g := mkF m pc Ls (argsL.reverse ++ .ref a :: st)) rfl (hsz.trans hml.symm) (Steps.refl _) (a := a) (lenOf hpd hlen) rfl hW (hb hb1 hd) (fun _ _ => ⟨rfl, hh, hc, hs⟩)
  dsimp only [Pt.U, Pt.locs, Pt.cells, Pt.slots] at X' hS' hg hQ hO' hl' hk' hn' hC' hp' stp
  subst hl' hk' hn'
  exact (K T' T'.heap v (w'.after X' hS' hg (N.app hF) hC' hO' fun q => State.WarmedH.trans (t := T.setVm vm₁) hW1 (hp' q)) hC'.2.1 hC' hQ).pre' stp
/-- invokevirtual -/
theorem g_virtual (w : Wk p l e R s m args below meth c Z a0 EL pr y bs ml rt T vm0 h k n) {y1 y' : MethodName} {bs' : ByteArray} {ml' : Nat} {rt' : Option FieldType} {rm : Room} {Q : Option Value → Heap → Prop} {i W : Nat} {a : Addr} {C' : String} {argsL : List Value} {ps : List FieldType} {rr : Option FieldType} {stk : List Value} {sf : List Addr} (hM : Con l Z EL pr y' bs' ml' rt' [] rm (.ref a :: argsL).toArray sf h Q) (hsf : ∀ x ∈ sf, x < h.size ∧ Safe Z EL vm0 h x) (E : Exa Z h a C') (hd : decode bs pc = .ok (.invokevirtual i, 3)) (hq : pc + 3 = q) (hsz : Ls.size = ml)
    (w1 : (Cond.methodLink y.cls i y1).before a0 Z = true) (wd : (Cond.declares y1).before a0 Z = true) (ws : (Cond.selects C' y1 y').before a0 Z = true) (w2 : (Cond.instanceMethod y').before a0 Z = true) (w3 : (Cond.initialized y'.cls).before a0 Z = true) (w4 : (Cond.code y' bs' ml' rt').before a0 Z = true) (hy : y1.cls ≠ "java/lang/invoke/MethodHandle" ∧ y1.cls ≠ "java/lang/invoke/VarHandle") (hnf : ∀ s' : State, Z.Warmed39 s'.vm → NotFace s' y1) (hpd : parseMethodDescriptor y1.desc = some ⟨ps, rr⟩) (hlen : argsL.length = ps.length) (hst : stk = argsL.reverse ++ .ref a :: st)
    (hW : 2 * 0 + (st.map fun v => v.category).sum ≤ W) (hf : rm.frames + 1 ≤ R.frames) (hl : W + (ml' + 11) + rm.locals ≤ R.locals) (hc : k + rm.cells ≤ R.cells) (hs : n + rm.slots ≤ R.slots)
    (K : ∀ T' h' v, Wk p l e R s m args below meth c Z a0 EL pr y bs ml rt T' T'.vm h' (k + rm.cells) (n + rm.slots) → h.size ≤ h'.size → CHr Z EL vm0 h T'.vm h' → Q v h' → Go p e below Φ (T'.setTop (mkF m q Ls (v.toList ++ st)))) : Go p e below Φ (T.setTop (mkF m pc Ls stk)) := by
  subst hq hst; have w' := w; obtain ⟨⟨hx, hb1, hml, hrt, hlk, hnm, hEL⟩, k0, locs, X, hh, hZ, hown, hS, hk0, N, C, O, hpr⟩ := w
  obtain ⟨cq, kq, qa, -, qc⟩ := isOf (s := s.setVm vm0) hZ hh E
  obtain ⟨v, vm₁, ⟨T', L', k', n'⟩, hW1, X', hS', hg, ⟨L, ⟨hQ, hO', hF⟩, hl', hk', hn', hC', hp'⟩, stp⟩ := X.virtualBackS hx hown (mvT (s := s.setVm vm0) hZ w1) (mvT (s := s.setVm vm0) hZ wd) (hnf (s.setVm vm0) hZ) (mvT (s := s.setVm vm0) hZ ws) (mvT (s := s.setVm vm0) hZ w2) hy (hM.back hsf hZ w4 w3 hf hl hEL C.1) qa qc (g := mkF m pc Ls (argsL.reverse ++ .ref a :: st)) rfl (hsz.trans hml.symm) (Steps.refl _) (lenOf hpd hlen) rfl hW (hb hb1 hd) (fun _ _ => ⟨rfl, hh, hc, hs⟩)
  dsimp only [Pt.U, Pt.locs, Pt.cells, Pt.slots] at X' hS' hg hQ hO' hl' hk' hn' hC' hp' stp
  subst hl' hk' hn'
  exact (K T' T'.heap v (w'.after X' hS' hg (N.app hF) hC' hO' fun q => State.WarmedH.trans (t := T.setVm vm₁) hW1 (hp' q)) hC'.2.1 hC' hQ).pre' stp
theorem nf {y1 : MethodName} {C' : String} (ws : (Cond.selects C' y1 y1).before a0 Z = true) (s' : State) (hZ : Z.Warmed39 s'.vm) : NotFace s' y1 := notFace_of_selects (args := #[]) (mvT hZ ws)
/-- behind a step whose law leaves the tables: Back's form -/
theorem Wk.afterB (w : Wk p l e R s m args below meth c Z a0 EL pr y bs ml rt T vm0 h k n) {T' : State} {L : List Loc} {k' n' : Nat} {ws : List Addr} (hh' : ∃ locs, ∀ locs0, locs0 = locs → Stand p l e R (s.setVm vm0) m args below meth c T' (locs0 ++ L) k' n' ∧ Fr Z.heap.size locs0) (hF : Fr Z.heap.size L) (Kp : Keep h T'.heap ws) (hs : ∀ x ∈ ws, Safe Z EL vm0 h x) (hn : ∀ x ∈ ws, Z.heap.size ≤ x) : Wk p l e R s m args below meth c Z a0 EL pr y bs ml rt T' vm0 T'.heap k' n' := by
  obtain ⟨hd, k0, locs, X, rfl, hZ, hown, hS, hk0, N, C, O, hpr⟩ := w
  obtain ⟨l1, q⟩ := hh'
  obtain ⟨X', N'⟩ := q _ rfl
  exact ⟨hd, k0, _, X', rfl, hZ, hown, hS, Nat.le_trans hk0 Kp.1, N'.app hF, C.trans (CHr.keep Kp hs C.1), (Old.keep (n0 := Z.heap.size) ⟨rfl, O⟩ Kp hn).2, hpr⟩
/-- invokevirtual paid by a law that leaves the heap -/
theorem g_virtualB (w : Wk p l e R s m args below meth c Z a0 EL pr y bs ml rt T vm0 h k n) {y1 y' : MethodName} {V : Option Value → Prop} {i W : Nat} {a : Addr} {C' : String} {argsL : List Value} {ps : List FieldType} {rr : Option FieldType} {stk : List Value}
    (hK : ∀ s' : State, Z.Warmed39 s'.vm → Back l R p e below s' args y' 3 W (fun P a' => a' = (.ref a :: argsL).toArray ∧ P.U.heap = h ∧ P.cells + 0 ≤ R.cells ∧ P.slots + 0 ≤ R.slots) (fun P _ v B => ∃ L, (V v ∧ L = [] ∧ B.U.heap = h) ∧ B.locs = P.locs ++ L ∧ B.cells = P.cells + 0 ∧ B.slots = P.slots + 0))
    (E : Exa Z h a C') (hd : decode bs pc = .ok (.invokevirtual i, 3)) (hq : pc + 3 = q) (hsz : Ls.size = ml)
    (w1 : (Cond.methodLink y.cls i y1).before a0 Z = true) (wd : (Cond.declares y1).before a0 Z = true) (ws : (Cond.selects C' y1 y').before a0 Z = true) (w2 : (Cond.instanceMethod y').before a0 Z = true) (hy : y1.cls ≠ "java/lang/invoke/MethodHandle" ∧ y1.cls ≠ "java/lang/invoke/VarHandle") (hnf : ∀ s' : State, Z.Warmed39 s'.vm → NotFace s' y1) (hpd : parseMethodDescriptor y1.desc = some ⟨ps, rr⟩) (hlen : argsL.length = ps.length) (hst : stk = argsL.reverse ++ .ref a :: st)
    (hW : 2 * 0 + (st.map fun v => v.category).sum ≤ W) (hc : k ≤ R.cells) (hs : n ≤ R.slots)
    (K : ∀ T' v, Wk p l e R s m args below meth c Z a0 EL pr y bs ml rt T' vm0 h k n → V v → Go p e below Φ (T'.setTop (mkF m q Ls (v.toList ++ st)))) : Go p e below Φ (T.setTop (mkF m pc Ls stk)) := by
  subst hq hst; have w' := w; obtain ⟨⟨hx, hb1, hml, hrt, hlk, hnm, hEL⟩, k0, locs, X, hh, hZ, hown, hS, hk0, N, C, O, hpr⟩ := w
  obtain ⟨cq, kq, qa, -, qc⟩ := isOf (s := s.setVm vm0) hZ hh E
  obtain ⟨v, vm₁, ⟨T', L', k', n'⟩, hW1, X', ⟨L, ⟨hV, hL, hH⟩, hl', hk', hn'⟩, stp⟩ := X.virtualBack hx hown (mvT (s := s.setVm vm0) hZ w1) (mvT (s := s.setVm vm0) hZ wd) (hnf (s.setVm vm0) hZ) (mvT (s := s.setVm vm0) hZ ws) (mvT (s := s.setVm vm0) hZ w2) hy (hK (s.setVm vm0) hZ) qa qc (g := mkF m pc Ls (argsL.reverse ++ .ref a :: st)) rfl (hsz.trans hml.symm) (Steps.refl _) (lenOf hpd hlen) rfl hW (hb hb1 hd) (fun _ _ => ⟨rfl, hh, hc, hs⟩)
  dsimp only [Pt.U, Pt.locs, Pt.cells, Pt.slots] at X' hV hL hH hl' hk' hn' stp
  subst hL hl' hk' hn'
  exact (K T' v ⟨⟨hx, hb1, hml, hrt, hlk, hnm, hEL⟩, k0, _, X', hH, hZ, hown, hS, hk0, N.app (Fr.nil _), C, O, hpr⟩ hV).pre' stp
/-- a constructor paid by a law in Back's form -/
theorem g_specialB (w : Wk p l e R s m args below meth c Z a0 EL pr y bs ml rt T vm0 h k n) {y' : MethodName} {bs' : ByteArray} {ml' kc ks : Nat} {Q : Option Value → Heap → List Loc → Prop} {i W : Nat} {a : Addr} {argsL : List Value} {ps : List FieldType} {rr : Option FieldType} {stk : List Value} {wr : List Addr}
    (hK : ∀ s' : State, Z.Warmed39 s'.vm → Back l R p e below s' args y' 3 W (fun P a' => a' = (.ref a :: argsL).toArray ∧ P.U.heap = h ∧ P.cells + kc ≤ R.cells ∧ P.slots + ks ≤ R.slots) (fun P _ v B => ∃ L, Q v B.U.heap L ∧ B.locs = P.locs ++ L ∧ B.cells = P.cells + kc ∧ B.slots = P.slots + ks))
    (hQ : ∀ v h' L, Q v h' L → Fr Z.heap.size L ∧ Keep h h' wr) (hsf : ∀ x ∈ wr, Safe Z EL vm0 h x) (hnw : ∀ x ∈ wr, Z.heap.size ≤ x)
    (hd : decode bs pc = .ok (.invokespecial i, 3)) (hq : pc + 3 = q) (hsz : Ls.size = ml) (hni : y'.name = "<init>")
    (w1 : (Cond.methodLink y.cls i y').before a0 Z = true) (w2 : (Cond.instanceMethod y').before a0 Z = true) (w4 : (Cond.code y' bs' ml' none).before a0 Z = true) (hy : y'.cls ≠ "java/lang/invoke/MethodHandle" ∧ y'.cls ≠ "java/lang/invoke/VarHandle") (hpd : parseMethodDescriptor y'.desc = some ⟨ps, rr⟩) (hlen : argsL.length = ps.length) (hst : stk = argsL.reverse ++ .ref a :: st)
    (hW : 2 * 0 + (st.map fun v => v.category).sum ≤ W) (hc : k + kc ≤ R.cells) (hs : n + ks ≤ R.slots)
    (K : ∀ T' h' v L, Wk p l e R s m args below meth c Z a0 EL pr y bs ml rt T' vm0 h' (k + kc) (n + ks) → Q v h' L → Go p e below Φ (T'.setTop (mkF m q Ls (v.toList ++ st)))) : Go p e below Φ (T.setTop (mkF m pc Ls stk)) := by
  subst hq hst; have w' := w; obtain ⟨⟨hx, hb1, hml, hrt, hlk, hnm, hEL⟩, k0, locs, X, hh, hZ, hown, hS, hk0, N, C, O, hpr⟩ := w
  obtain ⟨v, vm₁, ⟨T', L', k', n'⟩, hW1, X', ⟨L, hQ', hl', hk', hn'⟩, stp⟩ := X.specialBack hx hni hown (mvT (s := s.setVm vm0) hZ w1) (mvT (s := s.setVm vm0) hZ w2) (mvT (s := s.setVm vm0) hZ w4) hy (hK (s.setVm vm0) hZ) (g := mkF m pc Ls (argsL.reverse ++ .ref a :: st)) rfl (hsz.trans hml.symm) (Steps.refl _) (a := a) (lenOf hpd hlen) rfl hW (hb hb1 hd) (fun _ _ => ⟨rfl, hh, hc, hs⟩)
  dsimp only [Pt.U, Pt.locs, Pt.cells, Pt.slots] at X' hQ' hl' hk' hn' stp
  subst hl' hk' hn'
  obtain ⟨hF, Kp⟩ := hQ v T'.heap L hQ'
  exact (K T' T'.heap v L ⟨⟨hx, hb1, hml, hrt, hlk, hnm, hEL⟩, k0, _, X', rfl, hZ, hown, hS, Nat.le_trans hk0 Kp.1, N.app hF, C.trans (CHr.keep Kp hsf C.1), (Old.keep (n0 := Z.heap.size) ⟨rfl, O⟩ Kp hnw).2, hpr⟩ hQ').pre' stp
/-- a String whose value is null is no booked one -/
theorem safe_null {vm : Vm} {x : Addr} {kk : Nat} (hal : Z.vm.Alike vm) (wi : (Cond.instantiable "java/lang/String" kk).before a0 Z = true) (E : Exa Z h x "java/lang/String") (F : Fld Z h x "java/lang/String" "value" "[B" .null) : Safe Z EL vm h x := fun B => by
  obtain ⟨p, -, u, a, -, q, -, F', hy⟩ := B
  obtain ⟨cell, cf, k, i, f, h1, h2, h3, h4, h5, h6, h7⟩ := F
  obtain ⟨cS, ⟨⟨s1, s2, s3, ⟨cv, kv, iv, s4, s4'⟩, -, s6, s7, s8, s9, s10, s11, -⟩, -⟩, -⟩ := F'
  obtain ⟨k3, e3, -⟩ := State.fieldFound?_setVm (s := Z) hal h2
  have e4 := (show (Wst Z vm h).fieldFound? _ _ _ = _ from e3).symm.trans s4
  simp only [Option.some.injEq, Prod.mk.injEq] at e4
  rcases hy with rfl | rfl
  · have e5 : h[q.sa]? = some q.sC := s1
    rw [h1] at e5; cases e5
    rw [← e4.2.2.2, h7] at s8; cases s8
  · have e5 : h[q.sd]? = some q.SA := s10
    rw [h1] at e5; cases e5
    obtain ⟨ce, ke, f1, f2, f3, -⟩ := E
    rw [h1] at f1; cases f1
    obtain ⟨c2, k2, i1, i2, i3, -⟩ := Cond.instantiable_spec wi
    cases f2.symm.trans i1
    cases f3.symm.trans i2
    obtain ⟨k', z1, z2⟩ := hal.2.2 _ _ f3
    obtain ⟨-, k9, hk9, comp, hkind⟩ := s11
    have hk9 : vm.classes[q.SA.cls]? = some k9 := hk9
    cases hk9.symm.trans z1
    rw [z2] at hkind
    have hkind : ke.kind = _ := hkind
    rw [i3] at hkind; cases hkind
theorem Wk.more (w : Wk p l e R s m args below meth c Z a0 EL pr y bs ml rt T vm0 h k n) {k' n' : Nat} (hk : k ≤ k') (hn : n ≤ n') : Wk p l e R s m args below meth c Z a0 EL pr y bs ml rt T vm0 h k' n' := by
  obtain ⟨hd, k0, locs, X, r⟩ := w
  exact ⟨hd, k0, locs, X.more hk hn, r⟩
theorem Wk.safeAr (w : Wk p l e R s m args below meth c Z a0 EL pr y bs ml rt T vm0 h k n) {a : Addr} {ty : FieldType} {vs : List Value} (A : Ar Z h a ty vs) (ht : ty ≠ .byte) : Safe Z EL vm0 h a := by
  obtain ⟨-, _, _, A⟩ := A; exact Safe.arv w.wz.alike A ht
/-- calls whose callee leaves the heap as it was -/
theorem g_staticP (w : Wk p l e R s m args below meth c Z a0 EL pr y bs ml rt T vm0 h k n) {y' : MethodName} {bs' : ByteArray} {ml' : Nat} {rt' : Option FieldType} {rm : Room} {V : Option Value → Prop} {i W : Nat} {argsL : List Value} {ps : List FieldType} {rr : Option FieldType} {stk : List Value} {sf : List Addr} (hM : Con l Z EL pr y' bs' ml' rt' [] rm argsL.toArray sf h (fun v h' => V v ∧ h' = h)) (hsf : ∀ x ∈ sf, x < h.size ∧ Safe Z EL vm0 h x) (hd : decode bs pc = .ok (.invokestatic i, 3)) (hq : pc + 3 = q) (hsz : Ls.size = ml)
    (w1 : (Cond.methodLink y.cls i y').before a0 Z = true) (w2 : (Cond.static y').before a0 Z = true) (w3 : (Cond.initialized y'.cls).before a0 Z = true) (w4 : (Cond.code y' bs' ml' rt').before a0 Z = true) (hy : y'.cls ≠ "java/lang/invoke/MethodHandle" ∧ y'.cls ≠ "java/lang/invoke/VarHandle") (hpd : parseMethodDescriptor y'.desc = some ⟨ps, rr⟩) (hlen : argsL.length = ps.length) (hst : stk = argsL.reverse ++ st)
    (hW : 2 * 0 + (st.map fun v => v.category).sum ≤ W) (hf : rm.frames + 1 ≤ R.frames) (hl : W + (ml' + 11) + rm.locals ≤ R.locals) (hc : k + rm.cells ≤ R.cells) (hs : n + rm.slots ≤ R.slots)
    (K : ∀ T' v, Wk p l e R s m args below meth c Z a0 EL pr y bs ml rt T' T'.vm h (k + rm.cells) (n + rm.slots) → CHr Z EL vm0 h T'.vm h → V v → Go p e below Φ (T'.setTop (mkF m q Ls (v.toList ++ st)))) : Go p e below Φ (T.setTop (mkF m pc Ls stk)) :=
  g_static w hM hsf hd hq hsz w1 w2 w3 w4 hy hpd hlen hst hW hf hl hc hs fun T' h' v w' _ C' q' => by
    obtain ⟨hV, rfl⟩ := q'; exact K T' v w' C' hV
theorem g_specialP (w : Wk p l e R s m args below meth c Z a0 EL pr y bs ml rt T vm0 h k n) {y' : MethodName} {bs' : ByteArray} {ml' : Nat} {rm : Room} {V : Option Value → Prop} {i W : Nat} {a : Addr} {argsL : List Value} {ps : List FieldType} {rr : Option FieldType} {stk : List Value} {sf : List Addr} (hM : Con l Z EL pr y' bs' ml' none [] rm (.ref a :: argsL).toArray sf h (fun v h' => V v ∧ h' = h)) (hsf : ∀ x ∈ sf, x < h.size ∧ Safe Z EL vm0 h x) (hd : decode bs pc = .ok (.invokespecial i, 3)) (hq : pc + 3 = q) (hsz : Ls.size = ml) (hni : y'.name = "<init>")
    (w1 : (Cond.methodLink y.cls i y').before a0 Z = true) (w2 : (Cond.instanceMethod y').before a0 Z = true) (w3 : (Cond.initialized y'.cls).before a0 Z = true) (w4 : (Cond.code y' bs' ml' none).before a0 Z = true) (hy : y'.cls ≠ "java/lang/invoke/MethodHandle" ∧ y'.cls ≠ "java/lang/invoke/VarHandle") (hpd : parseMethodDescriptor y'.desc = some ⟨ps, rr⟩) (hlen : argsL.length = ps.length) (hst : stk = argsL.reverse ++ .ref a :: st)
    (hW : 2 * 0 + (st.map fun v => v.category).sum ≤ W) (hf : rm.frames + 1 ≤ R.frames) (hl : W + (ml' + 11) + rm.locals ≤ R.locals) (hc : k + rm.cells ≤ R.cells) (hs : n + rm.slots ≤ R.slots)
    (K : ∀ T' v, Wk p l e R s m args below meth c Z a0 EL pr y bs ml rt T' T'.vm h (k + rm.cells) (n + rm.slots) → CHr Z EL vm0 h T'.vm h → V v → Go p e below Φ (T'.setTop (mkF m q Ls (v.toList ++ st)))) : Go p e below Φ (T.setTop (mkF m pc Ls stk)) :=
  g_special w hM hsf hd hq hsz hni w1 w2 w3 w4 hy hpd hlen hst hW hf hl hc hs fun T' h' v w' _ C' q' => by
    obtain ⟨hV, rfl⟩ := q'; exact K T' v w' C' hV
theorem g_virtualP (w : Wk p l e R s m args below meth c Z a0 EL pr y bs ml rt T vm0 h k n) {y1 y' : MethodName} {bs' : ByteArray} {ml' : Nat} {rt' : Option FieldType} {rm : Room} {V : Option Value → Prop} {i W : Nat} {a : Addr} {C' : String} {argsL : List Value} {ps : List FieldType} {rr : Option FieldType} {stk : List Value} {sf : List Addr} (hM : Con l Z EL pr y' bs' ml' rt' [] rm (.ref a :: argsL).toArray sf h (fun v h' => V v ∧ h' = h)) (hsf : ∀ x ∈ sf, x < h.size ∧ Safe Z EL vm0 h x) (E : Exa Z h a C') (hd : decode bs pc = .ok (.invokevirtual i, 3)) (hq : pc + 3 = q) (hsz : Ls.size = ml)
    (w1 : (Cond.methodLink y.cls i y1).before a0 Z = true) (wd : (Cond.declares y1).before a0 Z = true) (ws : (Cond.selects C' y1 y').before a0 Z = true) (w2 : (Cond.instanceMethod y').before a0 Z = true) (w3 : (Cond.initialized y'.cls).before a0 Z = true) (w4 : (Cond.code y' bs' ml' rt').before a0 Z = true) (hy : y1.cls ≠ "java/lang/invoke/MethodHandle" ∧ y1.cls ≠ "java/lang/invoke/VarHandle") (hnf : ∀ s' : State, Z.Warmed39 s'.vm → NotFace s' y1) (hpd : parseMethodDescriptor y1.desc = some ⟨ps, rr⟩) (hlen : argsL.length = ps.length) (hst : stk = argsL.reverse ++ .ref a :: st)
    (hW : 2 * 0 + (st.map fun v => v.category).sum ≤ W) (hf : rm.frames + 1 ≤ R.frames) (hl : W + (ml' + 11) + rm.locals ≤ R.locals) (hc : k + rm.cells ≤ R.cells) (hs : n + rm.slots ≤ R.slots)
    (K : ∀ T' v, Wk p l e R s m args below meth c Z a0 EL pr y bs ml rt T' T'.vm h (k + rm.cells) (n + rm.slots) → CHr Z EL vm0 h T'.vm h → V v → Go p e below Φ (T'.setTop (mkF m q Ls (v.toList ++ st)))) : Go p e below Φ (T.setTop (mkF m pc Ls stk)) :=
  g_virtual w hM hsf E hd hq hsz w1 wd ws w2 w3 w4 hy hnf hpd hlen hst hW hf hl hc hs fun T' h' v w' _ C' q' => by
    obtain ⟨hV, rfl⟩ := q'; exact K T' v w' C' hV
theorem g_i2cM (w : Wk p l e R s m args below meth c Z a0 EL pr y bs ml rt T vm0 h k n) {x : Int32} (hd : decode bs pc = .ok (.i2c, 1)) (hq : pc + 1 = q) (hr : Go p e below Φ (T.setTop (mkF m q Ls (.int (x &&& 255) :: st)))) : Go p e below Φ (T.setTop (mkF m pc Ls (.int (x &&& 255) :: st))) := by
  refine g_i2c w hd hq ?_
  rw [i2c_mask]; exact hr
theorem no0 {P : Addr → Prop} : ∀ x ∈ ([] : List Addr), P x := fun _ q => nomatch q
theorem not1 {a b : Addr} (h : b ≠ a) : b ∉ [a] := fun q => h (List.mem_singleton.mp q)
theorem in1 {a : Addr} {P : Addr → Prop} (h : P a) : ∀ x ∈ [a], P x := fun x hx => by cases List.mem_singleton.mp hx; exact h
theorem keep_same {h1 h2 h3 : Heap} {a : Addr} (K : Keep h1 h2 [a]) (K' : Keep h2 h3 [a]) : Keep h1 h3 [a] := K.trans K' fun x hx => Or.inl hx
theorem keep_new {h1 h2 h3 : Heap} {a b : Addr} (K : Keep h1 h2 [a]) (K' : Keep h2 h3 [b]) (z : h1.size ≤ b) : Keep h1 h3 [a] := K.trans K' fun x hx => by cases List.mem_singleton.mp hx; exact Or.inr z
/-- a char of Latin-1; a char -/
def Lt8 (c : Int32) : Prop := ¬ c < 0 ∧ ¬ (255 : Int32) < c
def Lt16 (c : Int32) : Prop := ¬ c < 0 ∧ ¬ (65535 : Int32) < c
theorem Lt16.int {c : Int32} (h : Lt16 c) : 0 ≤ c.toInt ∧ c.toInt ≤ 65535 := by
  obtain ⟨h0, h1⟩ := h
  rw [Int32.lt_iff_toInt_lt] at h0 h1
  have e0 : (0 : Int32).toInt = 0 := rfl
  have e1 : (65535 : Int32).toInt = 65535 := rfl
  omega
theorem Lt8.int {c : Int32} (h : Lt8 c) : 0 ≤ c.toInt ∧ c.toInt ≤ 255 := by
  obtain ⟨h0, h1⟩ := h
  rw [Int32.lt_iff_toInt_lt] at h0 h1
  have e0 : (0 : Int32).toInt = 0 := rfl
  have e1 : (255 : Int32).toInt = 255 := rfl
  omega
theorem Lt16.of {c : Int32} (h0 : 0 ≤ c.toInt) (h1 : c.toInt ≤ 65535) : Lt16 c := by
  constructor
  · rw [Int32.lt_iff_toInt_lt]; have e0 : (0 : Int32).toInt = 0 := rfl; omega
  · rw [Int32.lt_iff_toInt_lt]; have e0 : (65535 : Int32).toInt = 65535 := rfl; omega
theorem Lt8.of {c : Int32} (h0 : 0 ≤ c.toInt) (h1 : c.toInt ≤ 255) : Lt8 c := by
  constructor
  · rw [Int32.lt_iff_toInt_lt]; have e0 : (0 : Int32).toInt = 0 := rfl; omega
  · rw [Int32.lt_iff_toInt_lt]; have e0 : (255 : Int32).toInt = 255 := rfl; omega
theorem Lt8.chr {c : Int32} (h : Lt8 c) : Lt16 c := Lt16.of h.int.1 (by have := h.int.2; omega)
theorem nar_chr {c : Int32} (h : Lt16 c) : nar .char c = c := by
  have := h.int
  show c.toUInt32.toUInt16.toUInt32.toInt32 = c
  apply Int32.toInt_inj.mp
  have e : c.toUInt32.toNat = c.toInt.toNat := by
    have h1 : c.toInt = c.toBitVec.toInt := rfl
    have h2 : c.toUInt32.toNat = c.toBitVec.toNat := rfl
    rw [h2, h1]
    rw [h1] at this
    rw [BitVec.toInt_eq_toNat_cond] at this ⊢
    split at this <;> split <;> omega
  have e2 : c.toUInt32.toUInt16.toUInt32 = c.toUInt32 := by
    apply UInt32.toNat_inj.mp
    rw [UInt16.toNat_toUInt32, UInt32.toNat_toUInt16, e]
    omega
  rw [e2, Int32.toInt32_toUInt32]
theorem nar_lat {c : Int32} (h : Lt8 c) : nar .char c = c := nar_chr h.chr
theorem mask255 (x : Int32) : Lt8 (x &&& 255) := by
  have e : (x &&& 255).toInt = ((x &&& 255).toBitVec.toNat : Int) ∧ (x &&& 255).toBitVec.toNat ≤ 255 := by
    have h1 : (x &&& 255).toBitVec.toNat = x.toBitVec.toNat % 256 := by
      rw [Int32.toBitVec_and, BitVec.toNat_and]
      exact Nat.and_two_pow_sub_one_eq_mod _ 8
    have h3 : (x &&& 255).toInt = (x &&& 255).toBitVec.toInt := rfl
    refine ⟨?_, by omega⟩
    rw [h3, BitVec.toInt_eq_toNat_cond, if_pos (by omega)]
  exact Lt8.of (by omega) (by omega)
theorem cs0 {P : Int32 → Prop} : ∀ c ∈ ([] : List Int32), P c := fun _ q => nomatch q
theorem csS {P : Int32 → Prop} {a : Int32} {l : List Int32} (h : P a) (r : ∀ c ∈ l, P c) : ∀ c ∈ a :: l, P c := fun c q => by
  rcases List.mem_cons.mp q with rfl | q
  · exact h
  · exact r c q
theorem lt8_nat {c : Int32} : Lt8 c ↔ c.toBitVec.toNat < 256 := by
  have h3 : c.toInt = c.toBitVec.toInt := rfl
  constructor
  · intro h
    have := h.int
    rw [h3, BitVec.toInt_eq_toNat_cond] at this
    split at this <;> omega
  · intro h
    have : c.toInt = (c.toBitVec.toNat : Int) := by rw [h3, BitVec.toInt_eq_toNat_cond, if_pos (by omega)]
    exact Lt8.of (by omega) (by omega)
theorem lat_xor {a : Int32} (ha : Lt8 a) (x : Int32) : Lt8 ((a ^^^ (x &&& 1)).toUInt32.toUInt16.toUInt32.toInt32) := by
  have h1 : (x &&& 1).toBitVec.toNat < 256 := by
    rw [Int32.toBitVec_and, BitVec.toNat_and]
    exact Nat.lt_of_le_of_lt Nat.and_le_right (by decide)
  have h2 : Lt8 (a ^^^ (x &&& 1)) := by
    rw [lt8_nat] at ha ⊢
    rw [Int32.toBitVec_xor, BitVec.toNat_xor]
    exact Nat.xor_lt_two_pow (n := 8) ha h1
  have h3 : (a ^^^ (x &&& 1)).toUInt32.toUInt16.toUInt32.toInt32 = a ^^^ (x &&& 1) := nar_lat h2
  rw [h3]; exact h2
theorem mask31_nat (x : Int32) : (x &&& 2147483647).toInt = ((x.toBitVec.toNat % 2147483648 : Nat) : Int) := by
  have h1 : (x &&& 2147483647).toBitVec.toNat = x.toBitVec.toNat % 2147483648 := by
    rw [Int32.toBitVec_and, BitVec.toNat_and]
    exact Nat.and_two_pow_sub_one_eq_mod _ 31
  have h3 : (x &&& 2147483647).toInt = (x &&& 2147483647).toBitVec.toInt := rfl
  rw [h3, BitVec.toInt_eq_toNat_cond, if_pos (by omega), h1]
theorem mask31 (x : Int32) : ¬ (x &&& 2147483647) < 0 := by
  rw [Int32.lt_iff_toInt_lt, mask31_nat, show (0 : Int32).toInt = 0 from rfl]; omega
theorem rem_int {x z : Int32} (hx : ¬ x < 0) (hz : 0 < z.toInt) : (x % z).toInt = x.toInt % z.toInt := by
  rw [Int32.lt_iff_toInt_lt, show (0 : Int32).toInt = 0 from rfl] at hx
  rw [Int32.toInt_mod, Int.tmod_eq_emod_of_nonneg (by omega)]
theorem mod3 {x : Int32} (hx : ¬ x < 0) : x % 3 = 0 ∨ x % 3 = 1 ∨ x % 3 = 2 := by
  have h := rem_int (z := 3) hx (by decide)
  rw [show (3 : Int32).toInt = 3 from rfl] at h
  have h2 : (x % 3).toInt = 0 ∨ (x % 3).toInt = 1 ∨ (x % 3).toInt = 2 := by omega
  rcases h2 with h2 | h2 | h2
  · exact Or.inl (Int32.toInt_inj.mp h2)
  · exact Or.inr (Or.inl (Int32.toInt_inj.mp h2))
  · exact Or.inr (Or.inr (Int32.toInt_inj.mp h2))
theorem mask3 (x : Int32) : x &&& 3 = 0 ∨ x &&& 3 = 1 ∨ x &&& 3 = 2 ∨ x &&& 3 = 3 := by
  have h1 : (x &&& 3).toBitVec.toNat = x.toBitVec.toNat % 4 := by
    rw [Int32.toBitVec_and, BitVec.toNat_and]
    exact Nat.and_two_pow_sub_one_eq_mod _ 2
  have h2 : (x &&& 3).toBitVec.toNat = 0 ∨ (x &&& 3).toBitVec.toNat = 1 ∨ (x &&& 3).toBitVec.toNat = 2 ∨ (x &&& 3).toBitVec.toNat = 3 := by omega
  rcases h2 with h2 | h2 | h2 | h2
  · exact Or.inl (Int32.toBitVec_inj.mp (BitVec.eq_of_toNat_eq h2))
  · exact Or.inr (Or.inl (Int32.toBitVec_inj.mp (BitVec.eq_of_toNat_eq h2)))
  · exact Or.inr (Or.inr (Or.inl (Int32.toBitVec_inj.mp (BitVec.eq_of_toNat_eq h2))))
  · exact Or.inr (Or.inr (Or.inr (Int32.toBitVec_inj.mp (BitVec.eq_of_toNat_eq h2))))
theorem ushr16 (x : Int32) : ¬ Jvm.Free.XT.ushr x 16 < 0 := by
  have h1 : (Jvm.Free.XT.ushr x 16).toBitVec.toNat < 65536 := by
    show (x.toUInt32 >>> ((16 : Int32) &&& 31).toUInt32).toNat < 65536
    rw [show ((16 : Int32) &&& 31).toUInt32 = 16 from by decide, UInt32.toNat_shiftRight, show (16 : UInt32).toNat % 32 = 16 from rfl, Nat.shiftRight_eq_div_pow]
    have := x.toUInt32.toNat_lt
    omega
  have h3 : (Jvm.Free.XT.ushr x 16).toInt = (Jvm.Free.XT.ushr x 16).toBitVec.toInt := rfl
  rw [Int32.lt_iff_toInt_lt, h3, BitVec.toInt_eq_toNat_cond, if_pos (by omega), show (0 : Int32).toInt = 0 from rfl]; omega
/-- a String of none, one or two of these chars -/
def sg (n a b : Int32) : List Int32 := if n = 0 then [] else if n = 1 then [a] else [a, b]
def In3 (n : Int32) : Prop := n = 0 ∨ n = 1 ∨ n = 2
theorem sg_iff {n z a b c d : Int32} (hn : In3 n) (hz : In3 z) : sg n a b = sg z c d ↔ (n = z ∧ (n < 1 ∨ a = c) ∧ (n < 2 ∨ b = d)) := by
  rcases hn with rfl | rfl | rfl <;> rcases hz with rfl | rfl | rfl <;> simp [sg]
theorem sg_lat {n a b : Int32} (ha : Lt8 a) (hb : Lt8 b) : ∀ c ∈ sg n a b, Lt8 c := by
  unfold sg; split
  · exact cs0
  · split
    · exact csS ha cs0
    · exact csS ha (csS hb cs0)
/-- x is a String of these Latin-1 chars -/
def Sg (Z : State) (h : Heap) (x : Addr) (cs : List Int32) : Prop := cs.length ≤ 4000 ∧ (∀ c ∈ cs, Lt8 c) ∧ Exa Z h x "java/lang/String" ∧ ∃ (t : Addr) (kb : ClassId), Fld Z h x "java/lang/String" "value" "[B" (.ref t) ∧ Fld Z h x "java/lang/String" "coder" "B" (.int 0) ∧ Arv Z h t kb .byte (Int32.ofNat cs.length) ((cs.map fun c => c.toInt8.toInt32).map Value.int) (.int 0)
theorem Sg.ext {h' : Heap} {x : Addr} {cs : List Int32} (F : Sg Z h x cs) (E : Ext h h') : Sg Z h' x cs := by obtain ⟨a, b, c, t, kb, d, e, f⟩ := F; exact ⟨a, b, c.ext E, t, kb, d.ext E, e.ext E, f.ext E⟩
theorem Sg.lt {x : Addr} {cs : List Int32} (F : Sg Z h x cs) : x < h.size := F.2.2.1.lt
theorem Sg.exa {x : Addr} {cs : List Int32} (F : Sg Z h x cs) : Exa Z h x "java/lang/String" := F.2.2.1
theorem Sg.keepO {h' : Heap} {x a : Addr} {cs : List Int32} {C : String} {kk : Nat} (F : Sg Z h x cs) (K : Keep h h' [a]) (q : x ≠ a) (E : Exa Z h a C) (wi : (Cond.instantiable C kk).before a0 Z = true) : Sg Z h' x cs := by
  obtain ⟨a, b, c, t, kb, d, e, f⟩ := F
  exact ⟨a, b, c.keep K, t, kb, d.keep K (not1 q), e.keep K (not1 q), f.keep K (not1 (Exa.neArv E f wi).symm)⟩
theorem Sg.ar {x : Addr} {cs : List Int32} (F : Sg Z h x cs) : ∃ t, Fld Z h x "java/lang/String" "value" "[B" (.ref t) ∧ Fld Z h x "java/lang/String" "coder" "B" (.int 0) ∧ Ar Z h t .byte ((cs.map fun c => c.toInt8.toInt32).map Value.int) := by
  obtain ⟨a, b, c, t, kb, d, e, f⟩ := F
  exact ⟨t, d, e, by simp; omega, kb, _, by simpa using f⟩
/-- compact strings are on -/
def Cpt (Z : State) : Prop := ∃ z : Int32, ¬ z = 0 ∧ Sta Z Z.heap "java/lang/String" "COMPACT_STRINGS" "Z" (.int z)
end K
end Jvm.Own
namespace Jvm.Own
open Sem ClassFile Op Lib Jvm.Stand Jvm.Free Jvm.LawKit Jvm.RoadKit Bundle
section KU
variable {p : Program} {l : Launch} {e : Env} {R : Room} {s : State} {m : MethodId} {args : Array Value} {below : List Frame} {meth : Method} {c : Code} {Z : State} {a0 : Array Value} {EL : List (String × Nat)} {pr : Bool} {y : MethodName} {bs : ByteArray} {ml : Nat} {rt : Option FieldType} {T : State} {vm0 : Vm} {h : Heap} {k n : Nat} {Φ : Outcome → State → Prop} {Ls : Array Slot} {st : List Value} {pc q : Nat}
/-- Fini, and the object returned is safe -/
def FiniS (Z : State) (EL : List (String × Nat)) (pr : Bool) (kc ks : Nat) (Q : Option Value → Heap → Prop) (s : State) (o : Outcome) (t : State) : Prop := Fini Z EL pr kc ks Q s o t ∧ ∀ a, o = .returned (some (.ref a)) → Safe Z EL t.vm t.heap a
def ConS (l : Launch) (Z : State) (EL : List (String × Nat)) (pr : Bool) (y : MethodName) (bs : ByteArray) (ml : Nat) (rt : Option FieldType) (ws : List Cond) (rm : Room) (as' : Array Value) (sf : List Addr) (h : Heap) (Q : Option Value → Heap → Prop) : Prop :=
  MetFree l y (head1 (Cond.code y bs ml rt :: ws) rm) (fun a U => a = as' ∧ Z.Warmed39 U.vm ∧ U.heap = h ∧ CHv Z EL U.vm h ∧ ∀ x ∈ sf, Safe Z EL U.vm h x) (fun _ _ _ _ _ => True) (fun _ U o U' => FiniS Z EL pr rm.cells rm.slots Q U o U')
theorem ConS.intro {ws : List Cond} {rm : Room} {as' : Array Value} {sf : List Addr} {Q : Option Value → Heap → Prop} (hpl : plainFor y = true) (hEL : EW Z a0 EL) (hO : Ext Z.heap h) (hef : ∀ m, entryFrame m as' ml = mkF m 0 Ls [])
    (body : ∀ (p : Program) (e : Env) (s : State) (m : MethodId) (below : List Frame) (meth : Method) (c : Code) (T : State), Wk p l e rm s m as' below meth c Z a0 EL pr y bs ml rt T s.vm h 0 0 → (∀ x ∈ sf, Safe Z EL s.vm h x) → Go p e below (FiniS Z EL pr rm.cells rm.slots Q s) (T.setTop (mkF m 0 Ls []))) :
    ConS l Z EL pr y bs ml rt ws rm as' sf h Q := by
  refine MetFree.of_bodySF hpl hisR ?_
  intro p e s m args below meth c s₁ Bd hml0 hP hK
  obtain ⟨rfl, hZ, hh, hC, hsf⟩ := hP
  have X0 : Stand p l e rm s m args below meth c s₁ [] 0 0 := Stand.of_body Bd
  have e0 : s₁.heap = h := by rw [← hh, Bd.state]; rfl
  have hown : s.vm.findClass y.cls = some m.cls := findClass_of_methodNamed Bd.named
  have hnm := (name_of_methodNamed Bd.named Bd.method).1
  have w : Wk p l e rm s m args below meth c Z a0 EL pr y bs ml rt s₁ s.vm h 0 0 :=
    ⟨⟨Bd.exec, Bd.bytes, hml0, Bd.returns, Bd.notSynchronized, hnm, hEL⟩, h.size, [], X0, e0, hZ, hown, (State.WarmedH.refl s).since _, Nat.le_refl _, Fr.nil _, by subst hh; exact CHr.refl hC, hO, fun _ => State.WarmedH.refl s⟩
  have q := body p e s m below meth c s₁ w hsf
  rw [← hef] at q
  exact q
theorem g_retaS (w : Wk p l e R s m args below meth c Z a0 EL pr y bs ml rt T vm0 h k n) {Q : Option Value → Heap → Prop} {t : FieldType} {a : Addr} (hd : decode bs pc = .ok (.areturn, 1)) (ht : rt = some t) (hr : t.isReference = true) (hk : k ≤ R.cells) (hn' : n ≤ R.slots) (ha : a < h.size) (S : Safe Z EL vm0 h a) (hQ : Q (some (.ref a)) h) : Go p e below (FiniS Z EL pr R.cells R.slots Q s) (T.setTop (mkF m pc Ls (.ref a :: st))) := by
  have hn : narrow t (.ref a) = .ref a := by cases t <;> simp [FieldType.isReference] at hr <;> rfl
  obtain ⟨fs, hr', hrun, hended, hf⟩ := w.fin (v := some (.ref a)) (fun q => by rw [ht] at q; cases q) hk hn' hQ
  obtain ⟨⟨hx, hb1, hml, hrt, hlk, hnm, hEL⟩, k0, locs, X, rfl, hZ, hown, hS, hk0, N, C, O, hpr⟩ := w
  exact ⟨_, _, retOut X hx (hrt.trans ht) hn (Or.inr (Or.inr (Or.inr (Or.inr ⟨rfl, hr, rfl⟩)))) (hb hb1 hd) hr', hrun, hended, hf, fun b eb => by cases eb; exact (CHv.at X hZ hEL C.1).safe ha S⟩
theorem ConS.back {y' : MethodName} {bs' : ByteArray} {ml' : Nat} {rt' : Option FieldType} {rm : Room} {as' : Array Value} {sf : List Addr} {Q : Option Value → Heap → Prop} {len W : Nat} (hM : ConS l Z EL pr y' bs' ml' rt' [] rm as' sf h Q) (hsf : ∀ x ∈ sf, x < h.size ∧ Safe Z EL vm0 h x) (hZ : Z.Warmed39 vm0) (wc : (Cond.code y' bs' ml' rt').before a0 Z = true) (wz : (Cond.initialized y'.cls).before a0 Z = true)
    (hf : rm.frames + 1 ≤ R.frames) (hl : W + (ml' + 11) + rm.locals ≤ R.locals) (hEL : EW Z a0 EL) (H : CHv Z EL vm0 h) :
    BackS l R p e below (s.setVm vm0) args y' len W (fun A a => a = as' ∧ A.U.heap = h ∧ A.cells + rm.cells ≤ R.cells ∧ A.slots + rm.slots ≤ R.slots)
      (fun A _ v B => ∃ L, ((Q v B.U.heap ∧ ∀ a, v = some (.ref a) → Safe Z EL B.U.vm B.U.heap a) ∧ Ext Z.heap B.U.heap ∧ Fr Z.heap.size L) ∧ B.locs = A.locs ++ L ∧ B.cells = A.cells + rm.cells ∧ B.slots = A.slots + rm.slots ∧ CHr Z EL vm0 h B.U.vm B.U.heap ∧ (pr = true → A.U.WarmedH B.U.vm)) :=
  BackS.of_freeW (bytes := bs') (maxL := ml') (ret := rt') (E := fun _ first o t L kk nn => kk = rm.cells ∧ nn = rm.slots ∧ (∃ v, o = .returned v ∧ (Q v t.heap ∧ ∀ a, v = some (.ref a) → Safe Z EL t.vm t.heap a) ∧ Ext Z.heap t.heap ∧ Fr Z.heap.size L) ∧ CHr Z EL first.vm first.heap t.vm t.heap ∧ (pr = true → first.WarmedH t.vm)) hM hf hl
    (fun m meth c A a Y hp => have hU : Z.Warmed39 A.U.vm := wtrans (s := s.setVm vm0) hZ Y.warmed
      ⟨by show (Cond.and _ .tt).before a A.U = true; rw [Cond.before_and, mv hU wc]; rfl, mv hU wc, mv hU wz, hp.2.2.1, hp.2.2.2⟩)
    (fun m meth c A a g mk Y hp => ⟨hp.1, wtrans (s := s.setVm vm0) hZ Y.warmed, hp.2.1, (CHv.at Y hZ hEL H).1, fun x hx => (CHv.at Y hZ hEL H).safe (hsf x hx).1 (hsf x hx).2⟩) (fun _ _ _ _ _ _ _ _ _ => trivial)
    (fun _ _ _ _ ⟨⟨v, L, h1, h2, h3, h4, h5, h6, h7⟩, h8⟩ => ⟨L, _, _, h7, rfl, rfl, ⟨v, h1, ⟨h2, fun a ea => h8 a (by rw [h1, ea])⟩, h3, h4⟩, h5, h6⟩)
    (fun m meth c A a g mk v t L kk nn Y hp _ _ ⟨e1, e2, ⟨v', e3, e4⟩, e5, e6⟩ => by
      cases e3; subst e1 e2
      refine ⟨L, e4, rfl, rfl, rfl, (CHv.at Y hZ hEL H).trans ?_, e6⟩
      rw [← hp.2.1]; exact e5)
theorem g_staticS (w : Wk p l e R s m args below meth c Z a0 EL pr y bs ml rt T vm0 h k n) {y' : MethodName} {bs' : ByteArray} {ml' : Nat} {rt' : Option FieldType} {rm : Room} {Q : Option Value → Heap → Prop} {i W : Nat} {argsL : List Value} {ps : List FieldType} {rr : Option FieldType} {stk : List Value} {sf : List Addr} (hM : ConS l Z EL pr y' bs' ml' rt' [] rm argsL.toArray sf h Q) (hsf : ∀ x ∈ sf, x < h.size ∧ Safe Z EL vm0 h x) (hd : decode bs pc = .ok (.invokestatic i, 3)) (hq : pc + 3 = q) (hsz : Ls.size = ml)
    (w1 : (Cond.methodLink y.cls i y').before a0 Z = true) (w2 : (Cond.static y').before a0 Z = true) (w3 : (Cond.initialized y'.cls).before a0 Z = true) (w4 : (Cond.code y' bs' ml' rt').before a0 Z = true) (hy : y'.cls ≠ "java/lang/invoke/MethodHandle" ∧ y'.cls ≠ "java/lang/invoke/VarHandle") (hpd : parseMethodDescriptor y'.desc = some ⟨ps, rr⟩) (hlen : argsL.length = ps.length) (hst : stk = argsL.reverse ++ st)
    (hW : 2 * 0 + (st.map fun v => v.category).sum ≤ W) (hf : rm.frames + 1 ≤ R.frames) (hl : W + (ml' + 11) + rm.locals ≤ R.locals) (hc : k + rm.cells ≤ R.cells) (hs : n + rm.slots ≤ R.slots)
    (K : ∀ T' h' v, Wk p l e R s m args below meth c Z a0 EL pr y bs ml rt T' T'.vm h' (k + rm.cells) (n + rm.slots) → h.size ≤ h'.size → CHr Z EL vm0 h T'.vm h' → Q v h' → (∀ a, v = some (.ref a) → Safe Z EL T'.vm h' a) → Go p e below Φ (T'.setTop (mkF m q Ls (v.toList ++ st)))) : Go p e below Φ (T.setTop (mkF m pc Ls stk)) := by
  subst hq hst; have w' := w; obtain ⟨⟨hx, hb1, hml, hrt, hlk, hnm, hEL⟩, k0, locs, X, hh, hZ, hown, hS, hk0, N, C, O, hpr⟩ := w
  obtain ⟨v, vm₁, ⟨T', L', k', n'⟩, hW1, X', hS', hg, ⟨L, ⟨hQ, hO', hF⟩, hl', hk', hn', hC', hp'⟩, stp⟩ := callSS X hx hown (mvT (s := s.setVm vm0) hZ w1) (mvT (s := s.setVm vm0) hZ w2) (mvT (s := s.setVm vm0) hZ w3) (mvT (s := s.setVm vm0) hZ w4) hy (hM.back hsf hZ w4 w3 hf hl hEL C.1) (g := mkF m pc Ls (argsL.reverse ++ st)) rfl (hsz.trans hml.symm) (lenOf hpd hlen) rfl hW (hb hb1 hd) (fun _ _ => ⟨rfl, hh, hc, hs⟩)
  dsimp only [Pt.U, Pt.locs, Pt.cells, Pt.slots] at X' hS' hg hQ hO' hl' hk' hn' hC' hp' stp
  subst hl' hk' hn'
  exact (K T' T'.heap v (w'.after X' hS' hg (N.app hF) hC' hO' fun q => State.WarmedH.trans (t := T.setVm vm₁) hW1 (hp' q)) hC'.2.1 hC' hQ.1 hQ.2).pre' stp
theorem fits_long (x : Int64) : fits .long (.long x) = true := rfl
/-- lastore into a new long[] -/
theorem g_lastore (w : Wk p l e R s m args below meth c Z a0 EL pr y bs ml rt T vm0 h k n) {a : Addr} {vs : List Value} {j : Int32} {x : Int64} {i : Nat} (hd : decode bs pc = .ok (.lastore, 1)) (hq : pc + 1 = q) (A : Ar Z h a .long vs) (hj : j = Int32.ofNat i) (hi : i < vs.length) (ga : Z.heap.size ≤ a) (S : Safe Z EL vm0 h a)
    (K : ∀ T' h', Wk p l e R s m args below meth c Z a0 EL pr y bs ml rt T' vm0 h' k n → Wr h h' a i (.long x) → Ar Z h' a .long (vs.set i (.long x)) → Go p e below Φ (T'.setTop (mkF m q Ls st))) : Go p e below Φ (T.setTop (mkF m pc Ls (.long x :: .int j :: .ref a :: st))) := by
  subst hq hj; obtain ⟨⟨hx, hb1, hml, hrt, hlk, hnm, hEL⟩, k0, locs, X, hh, hZ, hown, hS, hk0, N, C, O, hpr⟩ := w
  obtain ⟨hv, kC, dv, cl, B, q1, S1, q3, H1, G1⟩ := A
  obtain ⟨T', h', X', e', W, g'⟩ := Jvm.RoadKit.stJ X hx hZ hh B (j := Int32.ofNat i) (inb hv S1 hi) (g := mkF m pc Ls (.long x :: .int (Int32.ofNat i) :: .ref a :: st)) rfl rfl (hb hb1 hd)
  have V := Arv.set B q1 S1 q3 H1 G1 (fits_long x) W i (ofNat_clamp (by omega)) hi
  rw [ofNat_clamp (by omega)] at W
  exact (K T' h' ⟨⟨hx, hb1, hml, hrt, hlk, hnm, hEL⟩, k0, _, X', e', hZ, hown, hS, by rw [W.size]; exact hk0, N.snoc X' ga, C.trans (CHr.wr W S C.1), ext_wr O W ga, hpr⟩ W ⟨by simpa using hv, kC, dv, by rw [List.length_set]; exact V⟩).pre g'
theorem g_laload (w : Wk p l e R s m args below meth c Z a0 EL pr y bs ml rt T vm0 h k n) {a : Addr} {vs : List Value} {j : Int32} {i : Nat} {v : Value} (hd : decode bs pc = .ok (.laload, 1)) (hq : pc + 1 = q) (A : Ar Z h a .long vs) (hj : j = Int32.ofNat i) (hi : i < vs.length) (hv' : vs[i]? = some v) (hr : Go p e below Φ (T.setTop (mkF m q Ls (v :: st)))) : Go p e below Φ (T.setTop (mkF m pc Ls (.int j :: .ref a :: st))) := by
  subst hq hj; obtain ⟨⟨hx, hb1, hml, hrt, hlk, hnm, hEL⟩, k0, locs, X, hh, hZ, hown, hS, hk0, N, C, O, hpr⟩ := w
  obtain ⟨hv, kC, dv, cl, B, q1, S1, q3, H1, G1⟩ := A
  refine hr.pre fun t r => X.laload (g := mkF m pc Ls (.int (Int32.ofNat i) :: .ref a :: st)) hx (by rw [hh]; exact B.1) (State.isArrayOf_alike hZ.alike B.2.1) B.2.2 (inb hv S1 hi) (H1.at (inb hv S1 hi) (by rw [ofNat_clamp (by omega), List.getD_eq_getElem?_getD, hv']; rfl)) rfl rfl (hb hb1 hd) t r
end KU
end Jvm.Own
/- laws to paste: Road.lenW, Road.empW, pair_says, lo8_mask, Road.codOf (cut by pick.py; bodies as the Statement names them) -/
namespace Jvm.Pilot.@@N@@
namespace StrChars
open Jvm Sem ClassFile Op Lib Jvm.Stand Jvm.Free.XT Jvm.Free.ALB Jvm.Free.JM Jvm.Free
open Jvm.Lib.Cold (StaticIs)
/-- a char array whose places are chars -/
def Ch (a : Addr) (A : Cell) (U : State) : Prop := Arr .char a A U ∧ Typed .char A
theorem Ch.mv {a : Addr} {A : Cell} {U U' : State} (h : Ch a A U) (hal : U.vm.Alike U'.vm) (hh : U'.heap = U.heap) : Ch a A U' := ⟨h.1.mv hal hh, h.2⟩
theorem Ch.keep {a : Addr} {A : Cell} {U U' : State} (h : Ch a A U) (hal : U.vm.Alike U'.vm) (hk : U'.heap[a]? = some A) : Ch a A U' := ⟨h.1.keep hal hk, h.2⟩
/-- what place i of a char[]'s cell holds -/
def cv (A : Cell) (i : Nat) : Int32 := match A.slots[i]? with | some (.int x) => x | _ => 0
theorem Ch.get {a : Addr} {A : Cell} {U : State} (h : Ch a A U) {i : Nat} (hi : i < A.slots.size) : A.slots[i]? = some (.int (cv A i)) := by
  have e := Array.getElem?_eq_getElem hi
  have f := h.2 i _ e
  unfold cv; rw [e]
  generalize A.slots[i] = v at f
  cases v <;> simp [fits] at f ⊢
/-- the byte that i2b leaves of a char -/
def lo8 (x : Int32) : Int32 := x.toInt8.toInt32
theorem fits_lo8 (y : Int32) : fits .byte (.int (lo8 y)) = true := by
  have h1 := y.toInt8.le_toInt
  have h2 := y.toInt8.toInt_lt
  simp only [lo8, fits, Bool.and_eq_true, decide_eq_true_eq, Int32.le_iff_toInt_le, Int8.toInt_toInt32, show (-128 : Int32).toInt = -128 from by decide, show (127 : Int32).toInt = 127 from by decide]
  omega
/-- A' is A but that each place j of lo .. hi - 1 holds f j -/
def Laid (A A' : Cell) (lo hi : Nat) (f : Nat → Value) : Prop := A'.cls = A.cls ∧ A'.vm = A.vm ∧ A'.slots.size = A.slots.size ∧ ∀ i, A'.slots[i]? = if lo ≤ i ∧ i < hi then some (f i) else A.slots[i]?
theorem Laid.zero (A : Cell) (lo : Nat) (f : Nat → Value) : Laid A A lo (lo + 0) f := ⟨rfl, rfl, rfl, fun i => by rw [if_neg (by omega)]⟩
theorem Laid.step {A Ak : Cell} {lo k : Nat} {f : Nat → Value} {v : Value} (h : Laid A Ak lo k f) (hlo : lo ≤ k) (hk : k < Ak.slots.size) (hv : v = f k) : Laid A (Ak.setSlot k v) lo (k + 1) f := by
  refine ⟨h.1, h.2.1, by simpa [Cell.setSlot] using h.2.2.1, fun i => ?_⟩
  by_cases e : k = i
  · subst e; rw [Cell.slots_setSlot_self v hk, if_pos (by omega), hv]
  · rw [Cell.slots_setSlot_ne v e, h.2.2.2 i]
    by_cases q : lo ≤ i ∧ i < k
    · rw [if_pos q, if_pos (by omega)]
    · rw [if_neg q, if_neg (by omega)]
def U16 : String := "java/lang/StringUTF16"
namespace Cmp5
def yN : MethodName := ⟨"java/lang/StringUTF16", "compress", "([CI[BII)I"⟩
abbrev yB : ByteArray := jdk_52_method_21_code
theorem d0 : decode yB 0 = .ok (.iconst 0, 1) := by decide +kernel
theorem d1 : decode yB 1 = .ok (.istore 5, 2) := by decide +kernel
theorem d3 : decode yB 3 = .ok (.iload 5, 2) := by decide +kernel
theorem d5 : decode yB 5 = .ok (.iload 4, 2) := by decide +kernel
theorem d7 : decode yB 7 = .ok (.if_icmp (.ge) 37, 3) := by decide +kernel
theorem d10 : decode yB 10 = .ok (.aload_n 0, 1) := by decide +kernel
theorem d11 : decode yB 11 = .ok (.iload_n 1, 1) := by decide +kernel
theorem d12 : decode yB 12 = .ok (.caload, 1) := by decide +kernel
theorem d13 : decode yB 13 = .ok (.istore 6, 2) := by decide +kernel
theorem d15 : decode yB 15 = .ok (.iload 6, 2) := by decide +kernel
theorem d17 : decode yB 17 = .ok (.sipush 255, 3) := by decide +kernel
theorem d20 : decode yB 20 = .ok (.if_icmp (.le) 6, 3) := by decide +kernel
theorem d26 : decode yB 26 = .ok (.aload_n 2, 1) := by decide +kernel
theorem d27 : decode yB 27 = .ok (.iload_n 3, 1) := by decide +kernel
theorem d28 : decode yB 28 = .ok (.iload 6, 2) := by decide +kernel
theorem d30 : decode yB 30 = .ok (.i2b, 1) := by decide +kernel
theorem d31 : decode yB 31 = .ok (.bastore, 1) := by decide +kernel
theorem d32 : decode yB 32 = .ok (.iinc 1 1, 3) := by decide +kernel
theorem d35 : decode yB 35 = .ok (.iinc 3 1, 3) := by decide +kernel
theorem d38 : decode yB 38 = .ok (.iinc 5 1, 3) := by decide +kernel
theorem d41 : decode yB 41 = .ok (.goto (-38), 3) := by decide +kernel
theorem d44 : decode yB 44 = .ok (.iload 4, 2) := by decide +kernel
theorem d46 : decode yB 46 = .ok (.ireturn, 1) := by decide +kernel
def site : List Cond := []
def tab : Cond := tabOf yN yB 7 (some .int) site
def P (b : Addr) (A : Cell) (d : Addr) (B : Cell) (o q len : Nat) (args : Array Value) (s : State) : Prop := args = #[.ref b, .int (Int32.ofNat o), .ref d, .int (Int32.ofNat q), .int (Int32.ofNat len)] ∧ Ch b A s ∧ Arr .byte d B s ∧ b ≠ d ∧ o + len ≤ A.slots.size ∧ q + len ≤ B.slots.size ∧ ∀ i, i < len → ¬ 255 < cv A (o + i)
def E (b : Addr) (A : Cell) (d : Addr) (B : Cell) (o q len : Nat) (r : Option Value) (s u : State) : Prop := r = some (.int (Int32.ofNat len)) ∧ ∃ B', Put d B' s u ∧ Laid B B' q (q + len) (fun j => Value.int (lo8 (cv A (o + (j - q)))))
/-- no char of the range above 255: len; the places written hold each char's low byte -/
theorem law (l : Launch) (b : Addr) (A : Cell) (d : Addr) (B : Cell) (o q len : Nat) : Law l yN 5 5 0 0 yB 7 (some .int) site (P b A d B o q len) (E b A d B o q len) (copyLocs d q len) 0 0 := by
  refine Law.of_walk (plainFor_of_name (by decide +kernel)) (by decide +kernel) (by decide +kernel) (by decide) (fun _ _ h => by rw [h.1]; rfl) (fun _ U U' hal hh h => ⟨h.1, h.2.1.mv hal hh, h.2.2.1.mv hal hh, h.2.2.2⟩) (fun r U U' V V' h1 hal h2 h => ⟨h.1, h.2.elim fun B' q => ⟨B', q.1.mv h1 h2, q.2⟩⟩) ?_
  intro p e s m args below meth c s₁ X0 hexec hbytes hml hret hlk hnm hown hh0 W hP
  obtain ⟨rfl, hA, hB, hne, l1, l2, hp⟩ := hP
  have c1 : Steps p.tables e below (s₁.setTop (entryFrame m #[.ref b, .int (Int32.ofNat o), .ref d, .int (Int32.ofNat q), .int (Int32.ofNat len)] 7)) (s₁.setTop (mkF m 0 #[.val (.ref b), .val (.int (Int32.ofNat o)), .val (.ref d), .val (.int (Int32.ofNat q)), .val (.int (Int32.ofNat len)), .unset, .unset] [])) := entry rfl
  have hA0 := hA.1.mv X0.warmed.alike hh0
  have hB0 := hB.mv X0.warmed.alike hh0
  have a31 := hA.1.2.2.2
  have c2 : Steps p.tables e below (s₁.setTop (entryFrame m #[.ref b, .int (Int32.ofNat o), .ref d, .int (Int32.ofNat q), .int (Int32.ofNat len)] 7)) (s₁.setTop (mkF m 3 #[.val (.ref b), .val (.int (Int32.ofNat o)), .val (.ref d), .val (.int (Int32.ofNat q)), .val (.int (Int32.ofNat len)), .val (.int 0), .unset] [])) := c1.trans (by
    refine iconstV X0.here hexec rfl 0 (hb hbytes d0) (by decide) ?_
    refine XS.istore X0.here hexec rfl (hb hbytes d1) rfl rfl ?_
    exact Steps.refl _)
  have loop : ∀ (r i : Nat), i + r = len → ∀ (z : Slot), (z = .unset ∨ ∃ w, z = .val w ∧ w.category = 1) → ∀ (Tl : State) (Bk : Cell), Stand p l e { frames := 0, locals := 0, cells := 0, slots := 0 } s m #[.ref b, .int (Int32.ofNat o), .ref d, .int (Int32.ofNat q), .int (Int32.ofNat len)] below meth c Tl ([] ++ copyLocs d q i) 0 0 → Put d Bk s₁ Tl → Laid B Bk q (q + i) (fun j => Value.int (lo8 (cv A (o + (j - q))))) →
      Steps p.tables e below (s₁.setTop (entryFrame m #[.ref b, .int (Int32.ofNat o), .ref d, .int (Int32.ofNat q), .int (Int32.ofNat len)] 7)) (Tl.setTop (mkF m 3 #[.val (.ref b), .val (.int (Int32.ofNat (o + i))), .val (.ref d), .val (.int (Int32.ofNat (q + i))), .val (.int (Int32.ofNat len)), .val (.int (Int32.ofNat i)), z] [])) → ∃ (T' : State) (B' : Cell) (z' : Slot), Stand p l e { frames := 0, locals := 0, cells := 0, slots := 0 } s m #[.ref b, .int (Int32.ofNat o), .ref d, .int (Int32.ofNat q), .int (Int32.ofNat len)] below meth c T' ([] ++ copyLocs d q len) 0 0 ∧ Put d B' s₁ T' ∧ Laid B B' q (q + len) (fun j => Value.int (lo8 (cv A (o + (j - q))))) ∧
      Steps p.tables e below (s₁.setTop (entryFrame m #[.ref b, .int (Int32.ofNat o), .ref d, .int (Int32.ofNat q), .int (Int32.ofNat len)] 7)) (T'.setTop (mkF m 3 #[.val (.ref b), .val (.int (Int32.ofNat (o + len))), .val (.ref d), .val (.int (Int32.ofNat (q + len))), .val (.int (Int32.ofNat len)), .val (.int (Int32.ofNat len)), z'] [])) := by
    intro r
    induction r with
    | zero =>
      intro i hi z hz Tl Bk Xl pl fl cl
      have hil : i = len := by omega
      rw [hil] at Xl fl cl
      exact ⟨Tl, Bk, z, Xl, pl, fl, cl⟩
    | succ r ih =>
      intro i hi z hz Tl Bk Xl pl fl cl
      have all := X0.warmed.alike.symm.trans Xl.warmed.alike
      have hAl := hA0.keep all (pl.other hne hA0.1)
      have hBk := hB0.like all pl.1 fl.1 fl.2.1 fl.2.2.1
      have hlt : q + i < Bk.slots.size := by rw [fl.2.2.1]; omega
      have c3 : Steps p.tables e below (s₁.setTop (entryFrame m #[.ref b, .int (Int32.ofNat o), .ref d, .int (Int32.ofNat q), .int (Int32.ofNat len)] 7)) (Tl.setTop (mkF m 12 #[.val (.ref b), .val (.int (Int32.ofNat (o + i))), .val (.ref d), .val (.int (Int32.ofNat (q + i))), .val (.int (Int32.ofNat len)), .val (.int (Int32.ofNat i)), z] [.int (Int32.ofNat (o + i)), .ref b])) := cl.trans (by
        refine XS.iload Xl.here hexec rfl (hb hbytes d3) rfl ?_
        refine XS.iload Xl.here hexec rfl (hb hbytes d5) rfl ?_
        refine XS.icmpNo Xl.here hexec rfl (hb hbytes d7) rfl (ii_ge_f (lt32 (by omega) (by omega))) ?_
        refine XS.aloadN Xl.here hexec rfl (hb hbytes d10) rfl rfl ?_
        refine XS.iloadN Xl.here hexec rfl (hb hbytes d11) rfl ?_
        exact Steps.refl _)
      have c4 : Steps p.tables e below (s₁.setTop (entryFrame m #[.ref b, .int (Int32.ofNat o), .ref d, .int (Int32.ofNat q), .int (Int32.ofNat len)] 7)) (Tl.setTop (mkF m 13 #[.val (.ref b), .val (.int (Int32.ofNat (o + i))), .val (.ref d), .val (.int (Int32.ofNat (q + i))), .val (.int (Int32.ofNat len)), .val (.int (Int32.ofNat i)), z] [.int (cv A (o + i))])) := c3.trans (by
        refine Xl.aget hexec hAl rfl (hA.get (i := o + i) (by omega)) rfl rfl (hb hbytes d12) ?_
        exact Steps.refl _)
      have c5 : Steps p.tables e below (s₁.setTop (entryFrame m #[.ref b, .int (Int32.ofNat o), .ref d, .int (Int32.ofNat q), .int (Int32.ofNat len)] 7)) (Tl.setTop (mkF m 15 #[.val (.ref b), .val (.int (Int32.ofNat (o + i))), .val (.ref d), .val (.int (Int32.ofNat (q + i))), .val (.int (Int32.ofNat len)), .val (.int (Int32.ofNat i)), .val (.int (cv A (o + i)))] [])) := c4.trans (by
        refine XS.istoreS Xl.here hexec rfl (hb hbytes d13) rfl rfl hz ?_
        exact Steps.refl _)
      have c6 : Steps p.tables e below (s₁.setTop (entryFrame m #[.ref b, .int (Int32.ofNat o), .ref d, .int (Int32.ofNat q), .int (Int32.ofNat len)] 7)) (Tl.setTop (mkF m 31 #[.val (.ref b), .val (.int (Int32.ofNat (o + i))), .val (.ref d), .val (.int (Int32.ofNat (q + i))), .val (.int (Int32.ofNat len)), .val (.int (Int32.ofNat i)), .val (.int (cv A (o + i)))] [.int (lo8 (cv A (o + i))), .int (Int32.ofNat (q + i)), .ref d])) := c5.trans (by
        refine XS.iload Xl.here hexec rfl (hb hbytes d15) rfl ?_
        refine sipushV Xl.here hexec rfl 255 (hb hbytes d17) (by decide) ?_
        refine XS.icmpYes Xl.here hexec rfl (pc0 := 20) rfl (hb hbytes d20) rfl (ii_le_t (hp i (by omega))) (by decide) rfl ?_
        refine XS.aloadN Xl.here hexec rfl (hb hbytes d26) rfl rfl ?_
        refine XS.iloadN Xl.here hexec rfl (hb hbytes d27) rfl ?_
        refine XS.iload Xl.here hexec rfl (hb hbytes d28) rfl ?_
        refine i2b Xl.here hexec rfl (hb hbytes d30) rfl ?_
        exact Steps.refl _)
      obtain ⟨T7, X7, p7, st7⟩ := Xl.aput hexec hBk rfl hlt rfl (fits_lo8 (cv A (o + i))) (g := (mkF m 31 #[.val (.ref b), .val (.int (Int32.ofNat (o + i))), .val (.ref d), .val (.int (Int32.ofNat (q + i))), .val (.int (Int32.ofNat len)), .val (.int (Int32.ofNat i)), .val (.int (cv A (o + i)))] [.int (lo8 (cv A (o + i))), .int (Int32.ofNat (q + i)), .ref d])) rfl (rest := []) rfl (hb hbytes d31)
      have c8 : Steps p.tables e below (s₁.setTop (entryFrame m #[.ref b, .int (Int32.ofNat o), .ref d, .int (Int32.ofNat q), .int (Int32.ofNat len)] 7)) (T7.setTop (mkF m 32 #[.val (.ref b), .val (.int (Int32.ofNat (o + i))), .val (.ref d), .val (.int (Int32.ofNat (q + i))), .val (.int (Int32.ofNat len)), .val (.int (Int32.ofNat i)), .val (.int (cv A (o + i)))] [])) := c6.trans (st7 _ (Steps.refl _))
      have c9 : Steps p.tables e below (s₁.setTop (entryFrame m #[.ref b, .int (Int32.ofNat o), .ref d, .int (Int32.ofNat q), .int (Int32.ofNat len)] 7)) (T7.setTop (mkF m 3 #[.val (.ref b), .val (.int (Int32.ofNat (o + i) + 1)), .val (.ref d), .val (.int (Int32.ofNat (q + i) + 1)), .val (.int (Int32.ofNat len)), .val (.int (Int32.ofNat i + 1)), .val (.int (cv A (o + i)))] [])) := c8.trans (by
        refine iincV X7.here hexec rfl 1 (hb hbytes d32) (by decide) rfl rfl ?_
        refine iincV X7.here hexec rfl 1 (hb hbytes d35) (by decide) rfl rfl ?_
        refine iincV X7.here hexec rfl 1 (hb hbytes d38) (by decide) rfl rfl ?_
        refine XS.goto X7.here hexec rfl (pc0 := 41) rfl (hb hbytes d41) (by decide) rfl ?_
        exact Steps.refl _)
      have c10 : Steps p.tables e below (s₁.setTop (entryFrame m #[.ref b, .int (Int32.ofNat o), .ref d, .int (Int32.ofNat q), .int (Int32.ofNat len)] 7)) (T7.setTop (mkF m 3 #[.val (.ref b), .val (.int (Int32.ofNat (o + (i + 1)))), .val (.ref d), .val (.int (Int32.ofNat (q + (i + 1)))), .val (.int (Int32.ofNat len)), .val (.int (Int32.ofNat (i + 1))), .val (.int (cv A (o + i)))] [])) := by
        have := c9
        rw [succ32, succ32, succ32] at this
        exact this
      exact ih (i + 1) (by omega) _ (Or.inr ⟨_, rfl, rfl⟩) T7 _ (by rw [copyLocs_step, ← List.append_assoc]; exact X7) (pl.trans p7) (fl.step (by omega) hlt (by simp)) c10
  obtain ⟨T9, B9, z9, X9, p9, f9, g9⟩ := loop len 0 (by omega) .unset (Or.inl rfl) s₁ B (by simpa [copyLocs] using X0) ⟨hB0.1, fun _ _ => rfl, rfl⟩ (Laid.zero _ _ _) c2
  have c11 : Steps p.tables e below (s₁.setTop (entryFrame m #[.ref b, .int (Int32.ofNat o), .ref d, .int (Int32.ofNat q), .int (Int32.ofNat len)] 7)) (T9.setTop (mkF m 46 #[.val (.ref b), .val (.int (Int32.ofNat (o + len))), .val (.ref d), .val (.int (Int32.ofNat (q + len))), .val (.int (Int32.ofNat len)), .val (.int (Int32.ofNat len)), z9] [.int (Int32.ofNat len)])) := g9.trans (by
    refine XS.iload X9.here hexec rfl (hb hbytes d3) rfl ?_
    refine XS.iload X9.here hexec rfl (hb hbytes d5) rfl ?_
    refine XS.icmpYes X9.here hexec rfl (pc0 := 7) rfl (hb hbytes d7) rfl (ii_ge_t (nlt32 (by omega) (Nat.le_refl _))) (by decide) rfl ?_
    refine XS.iload X9.here hexec rfl (hb hbytes d44) rfl ?_
    exact Steps.refl _)
  exact ⟨T9, some (.int (Int32.ofNat len)), _, _, _, X9, by simp, rfl, rfl, (fun h => by cases h), ⟨rfl, B9, p9.from hh0, f9⟩, fun fs hl => c11.trans (X9.ireturnOut hexec hret rfl (Or.inl rfl) (hb hbytes d46) hl)⟩
end Cmp5
namespace Cmp3
def yN : MethodName := ⟨"java/lang/StringUTF16", "compress", "([CII)[B"⟩
abbrev yB : ByteArray := jdk_52_method_16_code
theorem d0 : decode yB 0 = .ok (.iload_n 2, 1) := by decide +kernel
theorem d1 : decode yB 1 = .ok (.newarray .byte, 2) := by decide +kernel
theorem d3 : decode yB 3 = .ok (.astore_n 3, 1) := by decide +kernel
theorem d4 : decode yB 4 = .ok (.aload_n 0, 1) := by decide +kernel
theorem d5 : decode yB 5 = .ok (.iload_n 1, 1) := by decide +kernel
theorem d6 : decode yB 6 = .ok (.aload_n 3, 1) := by decide +kernel
theorem d7 : decode yB 7 = .ok (.iconst 0, 1) := by decide +kernel
theorem d8 : decode yB 8 = .ok (.iload_n 2, 1) := by decide +kernel
theorem d9 : decode yB 9 = .ok (.invokestatic 115, 3) := by decide +kernel
theorem d12 : decode yB 12 = .ok (.istore 4, 2) := by decide +kernel
theorem d14 : decode yB 14 = .ok (.iload 4, 2) := by decide +kernel
theorem d16 : decode yB 16 = .ok (.iload_n 2, 1) := by decide +kernel
theorem d17 : decode yB 17 = .ok (.if_icmp (.eq) 40, 3) := by decide +kernel
theorem d57 : decode yB 57 = .ok (.aload_n 3, 1) := by decide +kernel
theorem d58 : decode yB 58 = .ok (.areturn, 1) := by decide +kernel
def site : List Cond := [.arrayClass .byte, Cmp5.tab] ++ staticW U16 115 Cmp5.yN
def tab : Cond := tabOf yN yB 6 (some (.array .byte)) site
def P (b : Addr) (A : Cell) (o len : Nat) (args : Array Value) (s : State) : Prop := args = #[.ref b, .int (Int32.ofNat o), .int (Int32.ofNat len)] ∧ Ch b A s ∧ o + len ≤ A.slots.size ∧ len ≤ 536870912 ∧ ∀ i, i < len → ¬ 255 < cv A (o + i)
def E (b : Addr) (A : Cell) (o len : Nat) (r : Option Value) (s u : State) : Prop := NewArr .byte "[B" len (fun j => .int (lo8 (cv A (o + j)))) r s u ∧ u.heap.size = s.heap.size + 1
/-- no char of the range above 255: a new byte[] of their low bytes -/
theorem law (l : Launch) (b : Addr) (A : Cell) (o len : Nat) : Law l yN 3 3 1 18 yB 6 (some (.array .byte)) site (P b A o len) (E b A o len) [] 1 len := by
  refine Law.of_walk (plainFor_of_name (by decide +kernel)) (by decide +kernel) (by decide +kernel) (by decide) (fun _ _ h => by rw [h.1]; rfl) (fun _ U U' hal hh h => ⟨h.1, h.2.1.mv hal hh, h.2.2⟩) (fun r U U' V V' h1 hal h2 h => ⟨NewArr.mv r U U' V V' h1 hal h2 h.1, by rw [h1, h2]; exact h.2⟩) ?_
  intro p e s m args below meth c s₁ X0 hexec hbytes hml hret hlk hnm hown hh0 W hP
  obtain ⟨rfl, hA, l1, l2, hp⟩ := hP
  have a31 := hA.1.2.2.2
  have c1 : Steps p.tables e below (s₁.setTop (entryFrame m #[.ref b, .int (Int32.ofNat o), .int (Int32.ofNat len)] 6)) (s₁.setTop (mkF m 0 #[.val (.ref b), .val (.int (Int32.ofNat o)), .val (.int (Int32.ofNat len)), .unset, .unset, .unset] [])) := entry rfl
  have c2 : Steps p.tables e below (s₁.setTop (entryFrame m #[.ref b, .int (Int32.ofNat o), .int (Int32.ofNat len)] 6)) (s₁.setTop (mkF m 1 #[.val (.ref b), .val (.int (Int32.ofNat o)), .val (.int (Int32.ofNat len)), .unset, .unset, .unset] [.int (Int32.ofNat len)])) := c1.trans (by
    refine XS.iloadN X0.here hexec rfl (hb hbytes d0) rfl ?_
    exact Steps.refl _)
  obtain ⟨T3, B3, X3, ba3, bs3, bv3, bh3, bf3, st3⟩ := X0.anew hexec (atype := .byte) (wk W (.arrayClass .byte)) rfl (by show len * 1 ≤ _; omega) (by omega) (g := (mkF m 1 #[.val (.ref b), .val (.int (Int32.ofNat o)), .val (.int (Int32.ofNat len)), .unset, .unset, .unset] [.int (Int32.ofNat len)])) rfl (hb hbytes d1) (rest := []) rfl (Nat.le_refl _) (by show 0 + len ≤ len; omega)
  rw [hh0] at ba3 st3
  have kp3 : XT.Kept s T3 := (XT.Kept.of_eq hh0).push bh3
  have hA3 := hA.keep X3.warmed.alike (kp3 _ _ hA.1.1)
  have hne : b ≠ s.heap.size := hA.1.ne
  have c4 : Steps p.tables e below (s₁.setTop (entryFrame m #[.ref b, .int (Int32.ofNat o), .int (Int32.ofNat len)] 6)) (T3.setTop (mkF m 3 #[.val (.ref b), .val (.int (Int32.ofNat o)), .val (.int (Int32.ofNat len)), .unset, .unset, .unset] [.ref s.heap.size])) := c2.trans (st3 _ (Steps.refl _))
  have c5 : Steps p.tables e below (s₁.setTop (entryFrame m #[.ref b, .int (Int32.ofNat o), .int (Int32.ofNat len)] 6)) (T3.setTop (mkF m 9 #[.val (.ref b), .val (.int (Int32.ofNat o)), .val (.int (Int32.ofNat len)), .val (.ref s.heap.size), .unset, .unset] [.int (Int32.ofNat len), .int 0, .ref s.heap.size, .int (Int32.ofNat o), .ref b])) := c4.trans (by
    refine XS.astoreN X3.here hexec rfl (hb hbytes d3) rfl rfl rfl ?_
    refine XS.aloadN X3.here hexec rfl (hb hbytes d4) rfl rfl ?_
    refine XS.iloadN X3.here hexec rfl (hb hbytes d5) rfl ?_
    refine XS.aloadN X3.here hexec rfl (hb hbytes d6) rfl rfl ?_
    refine iconstV X3.here hexec rfl 0 (hb hbytes d7) (by decide) ?_
    refine XS.iloadN X3.here hexec rfl (hb hbytes d8) rfl ?_
    exact Steps.refl _)
  obtain ⟨v6, T6, X6, E6, g6⟩ := X3.callS hexec (Cmp5.law l b A s.heap.size B3 o 0 len) hown (wks W (staticW U16 115 Cmp5.yN)) (wk W Cmp5.tab) (W := 0) (Nat.le_of_ble_eq_true rfl) (Nat.le_of_ble_eq_true rfl) (Nat.le_refl _) (by show 0 + len + 0 ≤ len; omega) (g := (mkF m 9 #[.val (.ref b), .val (.int (Int32.ofNat o)), .val (.int (Int32.ofNat len)), .val (.ref s.heap.size), .unset, .unset] [.int (Int32.ofNat len), .int (Int32.ofNat 0), .ref s.heap.size, .int (Int32.ofNat o), .ref b])) rfl (by rw [hml]; rfl) c5 (argsL := [.ref b, .int (Int32.ofNat o), .ref s.heap.size, .int (Int32.ofNat 0), .int (Int32.ofNat len)]) (rest := []) rfl rfl (by show 2 * 0 + 0 ≤ _; decide) (hb hbytes d9) (⟨rfl, hA3, ba3, hne, l1, by rw [bs3]; simp, hp⟩)
  obtain ⟨rfl, B6, p6, f6⟩ := E6
  have c7 : Steps p.tables e below (s₁.setTop (entryFrame m #[.ref b, .int (Int32.ofNat o), .int (Int32.ofNat len)] 6)) (T6.setTop (mkF m 12 #[.val (.ref b), .val (.int (Int32.ofNat o)), .val (.int (Int32.ofNat len)), .val (.ref s.heap.size), .unset, .unset] [.int (Int32.ofNat len)])) := g6
  have c8 : Steps p.tables e below (s₁.setTop (entryFrame m #[.ref b, .int (Int32.ofNat o), .int (Int32.ofNat len)] 6)) (T6.setTop (mkF m 58 #[.val (.ref b), .val (.int (Int32.ofNat o)), .val (.int (Int32.ofNat len)), .val (.ref s.heap.size), .val (.int (Int32.ofNat len)), .unset] [.ref s.heap.size])) := c7.trans (by
    refine XS.istore X6.here hexec rfl (hb hbytes d12) rfl rfl ?_
    refine XS.iload X6.here hexec rfl (hb hbytes d14) rfl ?_
    refine XS.iloadN X6.here hexec rfl (hb hbytes d16) rfl ?_
    refine XS.icmpYes X6.here hexec rfl (pc0 := 17) rfl (hb hbytes d17) rfl (ii_eq_t rfl) (by decide) rfl ?_
    refine XS.aloadN X6.here hexec rfl (hb hbytes d57) rfl rfl ?_
    exact Steps.refl _)
  have X8 := X6.wide (L' := []) (cells' := 1) (slots' := len) (fun x hx hlt => by
    simp only [List.nil_append, copyLocs, List.mem_map, List.mem_range] at hx
    obtain ⟨i, -, rfl⟩ := hx
    exact absurd hlt (Nat.lt_irrefl _)) (Nat.le_refl _) (by omega)
  exact ⟨T6, some (.ref s.heap.size), _, _, _, X8, rfl, rfl, rfl, (fun h => by cases h), ⟨⟨rfl, B6, ba3.like (X3.warmed.alike.symm.trans X6.warmed.alike) p6.1 f6.1 f6.2.1 f6.2.2.1, f6.2.1.trans bv3, by rw [X6.warmed.alike.findClass, f6.1]; exact bf3, by rw [f6.2.2.1, bs3]; simp, fun j hj => by rw [f6.2.2.2 j, if_pos (by omega)]; rfl, kp3.put p6 (Nat.le_refl _)⟩, by rw [p6.2.2, bh3, hh0]; simp⟩, fun fs hl => c8.trans (X8.areturnOut hexec rfl hret rfl (hb hbytes d58) hl)⟩
end Cmp3
namespace CodL
def yN : MethodName := ⟨"java/lang/StringUTF16", "coderFromArrayLen", "([BI)B"⟩
abbrev yB : ByteArray := jdk_52_method_15_code
theorem d0 : decode yB 0 = .ok (.iload_n 1, 1) := by decide +kernel
theorem d1 : decode yB 1 = .ok (.aload_n 0, 1) := by decide +kernel
theorem d2 : decode yB 2 = .ok (.arraylength, 1) := by decide +kernel
theorem d3 : decode yB 3 = .ok (.isub, 1) := by decide +kernel
theorem d4 : decode yB 4 = .ok (.bipush 31, 2) := by decide +kernel
theorem d6 : decode yB 6 = .ok (.iushr, 1) := by decide +kernel
theorem d7 : decode yB 7 = .ok (.i2b, 1) := by decide +kernel
theorem d8 : decode yB 8 = .ok (.ireturn, 1) := by decide +kernel
def site : List Cond := []
def tab : Cond := tabOf yN yB 2 (some .byte) site
def P (d : Addr) (B : Cell) (args : Array Value) (s : State) : Prop := args = #[.ref d, .int (Int32.ofNat B.slots.size)] ∧ Arr .byte d B s
def E (r : Option Value) (s u : State) : Prop := XT.PureE (some (.int 0)) r s u
/-- an array as long as the number of chars: LATIN1 -/
theorem law (l : Launch) (d : Addr) (B : Cell) : Law l yN 2 2 0 0 yB 2 (some .byte) site (P d B) E [] 0 0 := by
  refine Law.of_walk (plainFor_of_name (by decide +kernel)) (by decide +kernel) (by decide +kernel) (by decide) (fun _ _ h => by rw [h.1]; rfl) (fun _ U U' hal hh h => ⟨h.1, h.2.mv hal hh⟩) (fun r U U' V V' h1 hal h2 h => XT.PureE.mv r U U' V V' h1 hal h2 h) ?_
  intro p e s m args below meth c s₁ X0 hexec hbytes hml hret hlk hnm hown hh0 W hP
  obtain ⟨rfl, hB⟩ := hP
  have hB0 := hB.mv X0.warmed.alike hh0
  have c1 : Steps p.tables e below (s₁.setTop (entryFrame m #[.ref d, .int (Int32.ofNat B.slots.size)] 2)) (s₁.setTop (mkF m 0 #[.val (.ref d), .val (.int (Int32.ofNat B.slots.size))] [])) := entry rfl
  have c2 : Steps p.tables e below (s₁.setTop (entryFrame m #[.ref d, .int (Int32.ofNat B.slots.size)] 2)) (s₁.setTop (mkF m 2 #[.val (.ref d), .val (.int (Int32.ofNat B.slots.size))] [.ref d, .int (Int32.ofNat B.slots.size)])) := c1.trans (by
    refine XS.iloadN X0.here hexec rfl (hb hbytes d0) rfl ?_
    refine XS.aloadN X0.here hexec rfl (hb hbytes d1) rfl rfl ?_
    exact Steps.refl _)
  have c3 : Steps p.tables e below (s₁.setTop (entryFrame m #[.ref d, .int (Int32.ofNat B.slots.size)] 2)) (s₁.setTop (mkF m 8 #[.val (.ref d), .val (.int (Int32.ofNat B.slots.size))] [.int (lo8 (ushr (Int32.ofNat B.slots.size - Int32.ofNat B.slots.size) 31))])) := c2.trans (by
    refine X0.alen hexec hB0 rfl rfl (hb hbytes d2) ?_
    refine XS.isub X0.here hexec rfl (hb hbytes d3) rfl ?_
    refine bipushV X0.here hexec rfl 31 (hb hbytes d4) (by decide) ?_
    refine iushr X0.here hexec rfl (hb hbytes d6) rfl ?_
    refine i2b X0.here hexec rfl (hb hbytes d7) rfl ?_
    exact Steps.refl _)
  have e0 : lo8 (ushr (Int32.ofNat B.slots.size - Int32.ofNat B.slots.size) 31) = 0 := by rw [Int32.sub_self]; decide
  rw [e0] at c3
  exact ⟨s₁, some (.int 0), _, _, _, X0, rfl, rfl, rfl, (fun h => by cases h), ⟨rfl, hh0⟩, fun fs hl => c3.trans (X0.ireturnOut hexec hret rfl (Or.inr (Or.inr (Or.inl rfl))) (hb hbytes d8) hl)⟩
end CodL
/-- the String at a is Latin-1 over a new byte[] (the heap's one new cell): the low bytes of the len chars of A from o on; every cell but a is kept -/
def Got (a : Addr) (D : Cell) (fV fC : Field) (A : Cell) (o len : Nat) (r : Option Value) (s u : State) : Prop := r = none ∧ ∃ D' V : Cell, Blank "java/lang/String" a D' u ∧ Same D D' [fV.slot, fC.slot] ∧ D'.slots[fV.slot]? = some (.ref s.heap.size) ∧ D'.slots[fC.slot]? = some (.int 0) ∧ Arr .byte s.heap.size V u ∧ V.vm = .none ∧ u.vm.findClass "[B" = some V.cls ∧ V.slots.size = len ∧ (∀ j, j < len → V.slots[j]? = some (.int (lo8 (cv A (o + j))))) ∧ (∀ (y : Addr) (c : Cell), y ≠ a → s.heap[y]? = some c → u.heap[y]? = some c) ∧ u.heap.size = s.heap.size + 1
theorem Got.mv {a : Addr} {D A : Cell} {fV fC : Field} {o len : Nat} : ∀ r (U U' V V' : State), U'.heap = U.heap → V.vm.Alike V'.vm → V'.heap = V.heap → Got a D fV fC A o len r U V → Got a D fV fC A o len r U' V' :=
  fun r U U' V V' h1 hal h2 ⟨e0, D', X, a1, a2, a3, a4, a5, a6, a7, a8, a9, a10, a11⟩ => ⟨e0, D', X, a1.mv hal h2, a2, by rw [h1]; exact a3, a4, by rw [h1]; exact a5.mv hal h2, a6, by rw [hal.findClass]; exact a7, a8, a9, by rw [h1, h2]; exact a10, by rw [h1, h2]; exact a11⟩
namespace New4
def yN : MethodName := ⟨"java/lang/String", "<init>", "([CIILjava/lang/Void;)V"⟩
abbrev yB : ByteArray := jdk_42_method_149_code
theorem d0 : decode yB 0 = .ok (.aload_n 0, 1) := by decide +kernel
theorem d1 : decode yB 1 = .ok (.invokespecial 1, 3) := by decide +kernel
theorem d4 : decode yB 4 = .ok (.iload_n 3, 1) := by decide +kernel
theorem d5 : decode yB 5 = .ok (.ifCond (.ne) 22, 3) := by decide +kernel
theorem d27 : decode yB 27 = .ok (.getstatic 38, 3) := by decide +kernel
theorem d30 : decode yB 30 = .ok (.ifCond (.eq) 28, 3) := by decide +kernel
theorem d33 : decode yB 33 = .ok (.aload_n 1, 1) := by decide +kernel
theorem d34 : decode yB 34 = .ok (.iload_n 2, 1) := by decide +kernel
theorem d35 : decode yB 35 = .ok (.iload_n 3, 1) := by decide +kernel
theorem d36 : decode yB 36 = .ok (.invokestatic 177, 3) := by decide +kernel
theorem d39 : decode yB 39 = .ok (.astore 5, 2) := by decide +kernel
theorem d41 : decode yB 41 = .ok (.aload_n 0, 1) := by decide +kernel
theorem d42 : decode yB 42 = .ok (.aload 5, 2) := by decide +kernel
theorem d44 : decode yB 44 = .ok (.iload_n 3, 1) := by decide +kernel
theorem d45 : decode yB 45 = .ok (.invokestatic 47, 3) := by decide +kernel
theorem d48 : decode yB 48 = .ok (.putfield 15, 3) := by decide +kernel
theorem d51 : decode yB 51 = .ok (.aload_n 0, 1) := by decide +kernel
theorem d52 : decode yB 52 = .ok (.aload 5, 2) := by decide +kernel
theorem d54 : decode yB 54 = .ok (.putfield 9, 3) := by decide +kernel
theorem d57 : decode yB 57 = .ok (.return_, 1) := by decide +kernel
def site : List Cond := [.fieldLink "java/lang/String" 38 "java/lang/String" "COMPACT_STRINGS" "Z", Cmp3.tab, CodL.tab, .laysFinal "java/lang/String" "java/lang/String" "value" "[B", .fieldLink "java/lang/String" 9 "java/lang/String" "value" "[B", .laysFinal "java/lang/String" "java/lang/String" "coder" "B", .fieldLink "java/lang/String" 15 "java/lang/String" "coder" "B"] ++ objW "java/lang/String" 1 ++ staticW "java/lang/String" 177 Cmp3.yN ++ staticW "java/lang/String" 47 CodL.yN
def tab : Cond := tabOf yN yB 6 none site
def P (a : Addr) (D : Cell) (fV fC : Field) (b : Addr) (A : Cell) (z : Int32) (o len : Nat) (args : Array Value) (s : State) : Prop := args = #[.ref a, .ref b, .int (Int32.ofNat o), .int (Int32.ofNat len), .null] ∧ Blank "java/lang/String" a D s ∧ Found "java/lang/String" "value" "[B" fV s ∧ Found "java/lang/String" "coder" "B" fC s ∧ Ch b A s ∧ StaticIs s "java/lang/String" "COMPACT_STRINGS" "Z" (.int z) ∧ ¬ z = 0 ∧ 0 < len ∧ o + len ≤ A.slots.size ∧ len ≤ 536870912 ∧ ∀ i, i < len → ¬ 255 < cv A (o + i)
def E (a : Addr) (D : Cell) (fV fC : Field) (A : Cell) (o len : Nat) (r : Option Value) (s u : State) : Prop := Got a D fV fC A o len r s u
/-- len > 0, no char of the range above 255: a Latin-1 String of their low bytes -/
theorem law (l : Launch) (a : Addr) (D : Cell) (fV fC : Field) (b : Addr) (A : Cell) (z : Int32) (o len : Nat) : Law l yN 5 4 2 35 yB 6 none site (P a D fV fC b A z o len) (E a D fV fC A o len) [⟨a, fC.slot⟩, ⟨a, fV.slot⟩] 1 len := by
  refine Law.of_walk (plainFor_of_name (by decide +kernel)) (by decide +kernel) (by decide +kernel) (by decide) (fun _ _ h => by rw [h.1]; rfl) (fun _ U U' hal hh h => ⟨h.1, h.2.1.mv hal hh, h.2.2.1.al hal, h.2.2.2.1.al hal, h.2.2.2.2.1.mv hal hh, h.2.2.2.2.2.1.there hal hh, h.2.2.2.2.2.2⟩) (fun r U U' V V' h1 hal h2 h => Got.mv r U U' V V' h1 hal h2 h) ?_
  intro p e s m args below meth c s₁ X0 hexec hbytes hml hret hlk hnm hown hh0 W hP
  obtain ⟨rfl, hB, f1, f2, hA, s1, hz, l0, l1, l2, hp⟩ := hP
  have a31 := hA.1.2.2.2
  have c1 : Steps p.tables e below (s₁.setTop (entryFrame m #[.ref a, .ref b, .int (Int32.ofNat o), .int (Int32.ofNat len), .null] 6)) (s₁.setTop (mkF m 0 #[.val (.ref a), .val (.ref b), .val (.int (Int32.ofNat o)), .val (.int (Int32.ofNat len)), .val .null, .unset] [])) := entry rfl
  have c2 : Steps p.tables e below (s₁.setTop (entryFrame m #[.ref a, .ref b, .int (Int32.ofNat o), .int (Int32.ofNat len), .null] 6)) (s₁.setTop (mkF m 1 #[.val (.ref a), .val (.ref b), .val (.int (Int32.ofNat o)), .val (.int (Int32.ofNat len)), .val .null, .unset] [.ref a])) := c1.trans (by
    refine XS.aloadN X0.here hexec rfl (hb hbytes d0) rfl rfl ?_
    exact Steps.refl _)
  obtain ⟨T3, X3, q3, st3⟩ := X0.oinit hexec hown (wks W (objW "java/lang/String" 1)) (g := (mkF m 1 #[.val (.ref a), .val (.ref b), .val (.int (Int32.ofNat o)), .val (.int (Int32.ofNat len)), .val .null, .unset] [.ref a])) rfl (by rw [hml]; rfl) (rest := []) rfl (hb hbytes d1) (W := 0) (by show 2 * 0 + 0 ≤ _; decide) (Nat.le_of_ble_eq_true rfl) (Nat.le_of_ble_eq_true rfl)
  have hh3 := q3.trans hh0
  have c4 : Steps p.tables e below (s₁.setTop (entryFrame m #[.ref a, .ref b, .int (Int32.ofNat o), .int (Int32.ofNat len), .null] 6)) (T3.setTop (mkF m 27 #[.val (.ref a), .val (.ref b), .val (.int (Int32.ofNat o)), .val (.int (Int32.ofNat len)), .val .null, .unset] [])) := (c2.trans (st3 _ (Steps.refl _))).trans (by
    refine XS.iloadN X3.here hexec rfl (hb hbytes d4) rfl ?_
    refine XS.ifYes X3.here hexec rfl (pc0 := 5) rfl (hb hbytes d5) rfl (i0_ne_t (nz32 (by omega) l0)) (by decide) rfl ?_
    exact Steps.refl _)
  obtain ⟨T5, X5, q5, st5⟩ := X3.sget hexec hown (wk W (.fieldLink "java/lang/String" 38 "java/lang/String" "COMPACT_STRINGS" "Z")) s1 (fun _ _ h => by rw [hh3]; exact h) (g := (mkF m 27 #[.val (.ref a), .val (.ref b), .val (.int (Int32.ofNat o)), .val (.int (Int32.ofNat len)), .val .null, .unset] [])) rfl (hb hbytes d27)
  have hh5 := q5.trans hh3
  have c6 : Steps p.tables e below (s₁.setTop (entryFrame m #[.ref a, .ref b, .int (Int32.ofNat o), .int (Int32.ofNat len), .null] 6)) (T5.setTop (mkF m 30 #[.val (.ref a), .val (.ref b), .val (.int (Int32.ofNat o)), .val (.int (Int32.ofNat len)), .val .null, .unset] [.int z])) := c4.trans (st5 _ (Steps.refl _))
  have c7 : Steps p.tables e below (s₁.setTop (entryFrame m #[.ref a, .ref b, .int (Int32.ofNat o), .int (Int32.ofNat len), .null] 6)) (T5.setTop (mkF m 36 #[.val (.ref a), .val (.ref b), .val (.int (Int32.ofNat o)), .val (.int (Int32.ofNat len)), .val .null, .unset] [.int (Int32.ofNat len), .int (Int32.ofNat o), .ref b])) := c6.trans (by
    refine XS.ifNo X5.here hexec rfl (hb hbytes d30) rfl (i0_eq_f hz) ?_
    refine XS.aloadN X5.here hexec rfl (hb hbytes d33) rfl rfl ?_
    refine XS.iloadN X5.here hexec rfl (hb hbytes d34) rfl ?_
    refine XS.iloadN X5.here hexec rfl (hb hbytes d35) rfl ?_
    exact Steps.refl _)
  obtain ⟨v8, T8, X8, E8, g8⟩ := X5.callS hexec (Cmp3.law l b A o len) hown (wks W (staticW "java/lang/String" 177 Cmp3.yN)) (wk W Cmp3.tab) (W := 0) (Nat.le_of_ble_eq_true rfl) (Nat.le_of_ble_eq_true rfl) (Nat.le_refl _) (by show 0 + len ≤ len; omega) (g := (mkF m 36 #[.val (.ref a), .val (.ref b), .val (.int (Int32.ofNat o)), .val (.int (Int32.ofNat len)), .val .null, .unset] [.int (Int32.ofNat len), .int (Int32.ofNat o), .ref b])) rfl (by rw [hml]; rfl) c7 (argsL := [.ref b, .int (Int32.ofNat o), .int (Int32.ofNat len)]) (rest := []) rfl rfl (by show 2 * 0 + 0 ≤ _; decide) (hb hbytes d36) (⟨rfl, hA.mv X5.warmed.alike hh5, l1, l2, hp⟩)
  obtain ⟨e8, z8⟩ := E8
  obtain ⟨rfl, N, n1, n2, n3, n4, n5, n6⟩ := NewArr.mv _ T5 s _ _ hh5.symm (Vm.Alike.refl _) rfl e8
  rw [hh5] at z8
  have hB1 := hB.keep X8.warmed.alike (n6 _ _ hB.1)
  have hne : s.heap.size ≠ a := (Nat.ne_of_lt (Array.getElem?_eq_some_iff.mp hB.1).1).symm
  have c9 : Steps p.tables e below (s₁.setTop (entryFrame m #[.ref a, .ref b, .int (Int32.ofNat o), .int (Int32.ofNat len), .null] 6)) (T8.setTop (mkF m 39 #[.val (.ref a), .val (.ref b), .val (.int (Int32.ofNat o)), .val (.int (Int32.ofNat len)), .val .null, .unset] [.ref s.heap.size])) := g8
  have c10 : Steps p.tables e below (s₁.setTop (entryFrame m #[.ref a, .ref b, .int (Int32.ofNat o), .int (Int32.ofNat len), .null] 6)) (T8.setTop (mkF m 45 #[.val (.ref a), .val (.ref b), .val (.int (Int32.ofNat o)), .val (.int (Int32.ofNat len)), .val .null, .val (.ref s.heap.size)] [.int (Int32.ofNat N.slots.size), .ref s.heap.size, .ref a])) := by
    have hc : Steps p.tables e below (s₁.setTop (entryFrame m #[.ref a, .ref b, .int (Int32.ofNat o), .int (Int32.ofNat len), .null] 6)) (T8.setTop (mkF m 45 #[.val (.ref a), .val (.ref b), .val (.int (Int32.ofNat o)), .val (.int (Int32.ofNat len)), .val .null, .val (.ref s.heap.size)] [.int (Int32.ofNat len), .ref s.heap.size, .ref a])) := c9.trans (by
      refine XS.astore X8.here hexec rfl (hb hbytes d39) rfl rfl rfl ?_
      refine XS.aloadN X8.here hexec rfl (hb hbytes d41) rfl rfl ?_
      refine XS.aload X8.here hexec rfl (hb hbytes d42) rfl rfl ?_
      refine XS.iloadN X8.here hexec rfl (hb hbytes d44) rfl ?_
      exact Steps.refl _)
    rw [n4]; exact hc
  obtain ⟨v11, T11, X11, E11, g11⟩ := X8.callS hexec (CodL.law l s.heap.size N) hown (wks W (staticW "java/lang/String" 47 CodL.yN)) (wk W CodL.tab) (W := 1) (Nat.le_of_ble_eq_true rfl) (Nat.le_of_ble_eq_true rfl) (Nat.le_refl _) (by show 0 + len + 0 ≤ len; omega) (g := (mkF m 45 #[.val (.ref a), .val (.ref b), .val (.int (Int32.ofNat o)), .val (.int (Int32.ofNat len)), .val .null, .val (.ref s.heap.size)] [.int (Int32.ofNat N.slots.size), .ref s.heap.size, .ref a])) rfl (by rw [hml]; rfl) c10 (argsL := [.ref s.heap.size, .int (Int32.ofNat N.slots.size)]) (rest := [.ref a]) rfl rfl (by show 2 * 0 + (1 + 0) ≤ _; decide) (hb hbytes d45) (⟨rfl, n1⟩)
  obtain ⟨rfl, q11⟩ := E11
  have hB11 := hB1.mv (X8.warmed.alike.symm.trans X11.warmed.alike) q11
  have c12 : Steps p.tables e below (s₁.setTop (entryFrame m #[.ref a, .ref b, .int (Int32.ofNat o), .int (Int32.ofNat len), .null] 6)) (T11.setTop (mkF m 48 #[.val (.ref a), .val (.ref b), .val (.int (Int32.ofNat o)), .val (.int (Int32.ofNat len)), .val .null, .val (.ref s.heap.size)] [.int 0, .ref a])) := g11
  obtain ⟨T13, X13, p13, bl13, sl13, st13⟩ := X11.finit hexec hown (wk W (.fieldLink "java/lang/String" 15 "java/lang/String" "coder" "B")) (Or.inr ⟨_, (wk W (.laysFinal "java/lang/String" "java/lang/String" "coder" "B"))⟩) (Or.inl ⟨rfl, hnm⟩) f2 (Or.inl rfl) hB11 (t := .byte) (by decide +kernel) rfl (g := (mkF m 48 #[.val (.ref a), .val (.ref b), .val (.int (Int32.ofNat o)), .val (.int (Int32.ofNat len)), .val .null, .val (.ref s.heap.size)] [.int 0, .ref a])) rfl (rest := []) rfl (hb hbytes d48)
  have c14 : Steps p.tables e below (s₁.setTop (entryFrame m #[.ref a, .ref b, .int (Int32.ofNat o), .int (Int32.ofNat len), .null] 6)) (T13.setTop (mkF m 54 #[.val (.ref a), .val (.ref b), .val (.int (Int32.ofNat o)), .val (.int (Int32.ofNat len)), .val .null, .val (.ref s.heap.size)] [.ref s.heap.size, .ref a])) := (c12.trans (st13 _ (Steps.refl _))).trans (by
    refine XS.aloadN X13.here hexec rfl (hb hbytes d51) rfl rfl ?_
    refine XS.aload X13.here hexec rfl (hb hbytes d52) rfl rfl ?_
    exact Steps.refl _)
  obtain ⟨T15, X15, p15, bl15, sl15, st15⟩ := X13.finit hexec hown (wk W (.fieldLink "java/lang/String" 9 "java/lang/String" "value" "[B")) (Or.inr ⟨_, (wk W (.laysFinal "java/lang/String" "java/lang/String" "value" "[B"))⟩) (Or.inl ⟨rfl, hnm⟩) f1 (Or.inl rfl) bl13 (t := (.array .byte)) (by decide +kernel) rfl (g := (mkF m 54 #[.val (.ref a), .val (.ref b), .val (.int (Int32.ofNat o)), .val (.int (Int32.ofNat len)), .val .null, .val (.ref s.heap.size)] [.ref s.heap.size, .ref a])) rfl (rest := []) rfl (hb hbytes d54)
  have c16 : Steps p.tables e below (s₁.setTop (entryFrame m #[.ref a, .ref b, .int (Int32.ofNat o), .int (Int32.ofNat len), .null] 6)) (T15.setTop (mkF m 57 #[.val (.ref a), .val (.ref b), .val (.int (Int32.ofNat o)), .val (.int (Int32.ofNat len)), .val .null, .val (.ref s.heap.size)] [])) := c14.trans (st15 _ (Steps.refl _))
  have ap := apart (Or.inr ⟨_, (wk W (.laysFinal "java/lang/String" "java/lang/String" "value" "[B"))⟩) (Or.inr ⟨_, (wk W (.laysFinal "java/lang/String" "java/lang/String" "coder" "B"))⟩) f1 f2 (t₁ := .array .byte) (t₂ := .byte) (by decide +kernel) (by decide +kernel) (by decide)
  have al := X8.warmed.alike.symm.trans X15.warmed.alike
  have n7 : T11.heap[s.heap.size]? = some N := by rw [q11]; exact n1.1
  exact ⟨T15, none, _, _, _, X15, by simp, rfl, by omega, (fun _ => rfl), ⟨rfl, _, N, bl15, ((Same.refl D _).set _ (by simp)).set _ (by simp), sl15, (Cell.slots_setSlot_ne _ ap).trans sl13, n1.keep al (p15.other hne (p13.other hne n7)), n2, by rw [al.findClass]; exact n3, n4, n5, fun y c h1 h2 => p15.other h1 (p13.other h1 (by rw [q11]; exact n6 y c h2)), by rw [p15.2.2, p13.2.2, q11]; exact z8⟩, fun fs hl => c16.trans (X15.returnOut hexec hret (hb hbytes d57) hl)⟩
end New4
namespace New1
def yN : MethodName := ⟨"java/lang/String", "<init>", "([C)V"⟩
abbrev yB : ByteArray := jdk_42_method_3_code
theorem d0 : decode yB 0 = .ok (.aload_n 0, 1) := by decide +kernel
theorem d1 : decode yB 1 = .ok (.aload_n 1, 1) := by decide +kernel
theorem d2 : decode yB 2 = .ok (.iconst 0, 1) := by decide +kernel
theorem d3 : decode yB 3 = .ok (.aload_n 1, 1) := by decide +kernel
theorem d4 : decode yB 4 = .ok (.arraylength, 1) := by decide +kernel
theorem d5 : decode yB 5 = .ok (.aconst_null, 1) := by decide +kernel
theorem d6 : decode yB 6 = .ok (.invokespecial 27, 3) := by decide +kernel
theorem d9 : decode yB 9 = .ok (.return_, 1) := by decide +kernel
def site : List Cond := [New4.tab] ++ initW "java/lang/String" 27 New4.yN
def tab : Cond := tabOf yN yB 2 none site
def P (a : Addr) (D : Cell) (fV fC : Field) (b : Addr) (A : Cell) (z : Int32) (args : Array Value) (s : State) : Prop := args = #[.ref a, .ref b] ∧ Blank "java/lang/String" a D s ∧ Found "java/lang/String" "value" "[B" fV s ∧ Found "java/lang/String" "coder" "B" fC s ∧ Ch b A s ∧ StaticIs s "java/lang/String" "COMPACT_STRINGS" "Z" (.int z) ∧ ¬ z = 0 ∧ 0 < A.slots.size ∧ A.slots.size ≤ 536870912 ∧ ∀ i, i < A.slots.size → ¬ 255 < cv A i
def E (a : Addr) (D : Cell) (fV fC : Field) (A : Cell) (r : Option Value) (s u : State) : Prop := Got a D fV fC A 0 A.slots.size r s u
/-- new String(chars), not empty, no char above 255: a Latin-1 String of their low bytes -/
theorem law (l : Launch) (a : Addr) (D : Cell) (fV fC : Field) (b : Addr) (A : Cell) (z : Int32) : Law l yN 2 1 3 52 yB 2 none site (P a D fV fC b A z) (E a D fV fC A) [⟨a, fC.slot⟩, ⟨a, fV.slot⟩] 1 A.slots.size := by
  refine Law.of_walk (plainFor_of_name (by decide +kernel)) (by decide +kernel) (by decide +kernel) (by decide) (fun _ _ h => by rw [h.1]; rfl) (fun _ U U' hal hh h => ⟨h.1, h.2.1.mv hal hh, h.2.2.1.al hal, h.2.2.2.1.al hal, h.2.2.2.2.1.mv hal hh, h.2.2.2.2.2.1.there hal hh, h.2.2.2.2.2.2⟩) (fun r U U' V V' h1 hal h2 h => Got.mv r U U' V V' h1 hal h2 h) ?_
  intro p e s m args below meth c s₁ X0 hexec hbytes hml hret hlk hnm hown hh0 W hP
  obtain ⟨rfl, hB, f1, f2, hA, s1, hz, l0, l2, hp⟩ := hP
  have c1 : Steps p.tables e below (s₁.setTop (entryFrame m #[.ref a, .ref b] 2)) (s₁.setTop (mkF m 0 #[.val (.ref a), .val (.ref b)] [])) := entry rfl
  have c2 : Steps p.tables e below (s₁.setTop (entryFrame m #[.ref a, .ref b] 2)) (s₁.setTop (mkF m 6 #[.val (.ref a), .val (.ref b)] [.null, .int (Int32.ofNat A.slots.size), .int 0, .ref b, .ref a])) := c1.trans (by
    refine XS.aloadN X0.here hexec rfl (hb hbytes d0) rfl rfl ?_
    refine XS.aloadN X0.here hexec rfl (hb hbytes d1) rfl rfl ?_
    refine iconstV X0.here hexec rfl 0 (hb hbytes d2) (by decide) ?_
    refine XS.aloadN X0.here hexec rfl (hb hbytes d3) rfl rfl ?_
    refine X0.alen hexec (hA.1.mv X0.warmed.alike hh0) rfl rfl (hb hbytes d4) ?_
    refine XS.aconstNull X0.here hexec rfl (hb hbytes d5) ?_
    exact Steps.refl _)
  obtain ⟨v3, T3, X3, E3, g3⟩ := X0.callN hexec (New4.law l a D fV fC b A z 0 A.slots.size) rfl hown (wks W (initW "java/lang/String" 27 New4.yN)) (W New4.tab (by simp only [site, List.mem_cons, List.mem_append, true_or, or_true])) (W := 0) (Nat.le_of_ble_eq_true rfl) (Nat.le_of_ble_eq_true rfl) (Nat.le_refl _) (by show 0 + A.slots.size ≤ A.slots.size; omega) (g := (mkF m 6 #[.val (.ref a), .val (.ref b)] [.null, .int (Int32.ofNat A.slots.size), .int (Int32.ofNat 0), .ref b, .ref a])) rfl (by rw [hml]; rfl) c2 (argsL := [.ref b, .int (Int32.ofNat 0), .int (Int32.ofNat A.slots.size), .null]) (rest := []) rfl rfl (by show 2 * 0 + 0 ≤ _; decide) (hb hbytes d6) (⟨rfl, hB.mv X0.warmed.alike hh0, f1.al X0.warmed.alike, f2.al X0.warmed.alike, hA.mv X0.warmed.alike hh0, s1.there X0.warmed.alike hh0, hz, l0, by omega, l2, fun i hi => by rw [Nat.zero_add]; exact hp i hi⟩)
  have e0 := Got.mv _ s₁ s _ _ hh0.symm (Vm.Alike.refl _) rfl E3
  obtain rfl := e0.1
  have c4 : Steps p.tables e below (s₁.setTop (entryFrame m #[.ref a, .ref b] 2)) (T3.setTop (mkF m 9 #[.val (.ref a), .val (.ref b)] [])) := g3
  exact ⟨T3, none, _, _, _, X3, by simp, rfl, by omega, (fun _ => rfl), e0, fun fs hl => c4.trans (X3.returnOut hexec hret (hb hbytes d9) hl)⟩
theorem pays {l : Launch} {R : Room} {p : Program} {e : Env} {below : List Frame} {s : State} {sargs : Array Value} {len W : Nat} (a : Addr) (D : Cell) (fV fC : Field) (b : Addr) (A : Cell) (z : Int32) (htab : tab.before sargs s = true) (hfr : 4 ≤ R.frames) (hlo : W + 65 ≤ R.locals) :
    Back l R p e below s sargs yN len W (fun A₁ a₁ => A₁.cells + 1 ≤ R.cells ∧ A₁.slots + A.slots.size ≤ R.slots ∧ P a D fV fC b A z a₁ A₁.U) (fun A₁ _ v₁ B₁ => E a D fV fC A v₁ A₁.U B₁.U ∧ B₁.locs = A₁.locs ++ [⟨a, fC.slot⟩, ⟨a, fV.slot⟩] ∧ B₁.cells = A₁.cells + 1 ∧ B₁.slots = A₁.slots + A.slots.size) :=
  (law l a D fV fC b A z).pays htab hfr (by omega)
end New1
/-- the byte, read back as charAt reads it, is the char -/
theorem lo8_mask {x : Int32} (h0 : ¬ x < 0) (h1 : ¬ 255 < x) : lo8 x &&& 255 = x := by
  have t : ∀ k : Fin 256, lo8 (Int32.ofNat k.val) &&& 255 = Int32.ofNat k.val := by decide +kernel
  rw [Int32.lt_iff_toInt_lt] at h0 h1
  have e0 : (0 : Int32).toInt = 0 := rfl
  have e1 : (255 : Int32).toInt = 255 := rfl
  obtain ⟨k, hk⟩ : ∃ k : Nat, x.toInt = k := ⟨x.toInt.toNat, by omega⟩
  have hx : x = Int32.ofNat k := Int32.toInt_inj.mp (by rw [hk, Int32.toInt_ofNat_small (by omega)])
  rw [hx]
  exact t ⟨k, by omega⟩
end StrChars
namespace StrChars.Road
open Jvm Sem ClassFile Op Lib Jvm.Stand Jvm.Free Jvm.Free.XT
open Jvm.Lib.Cold (StaticIs)
abbrev ST : String := "java/lang/String"
/-- every table word that New1's law asks, flat -/
abbrev words : List Jvm.Cond := [.code New1.yN New1.yB 2 none, .initialized ST, .methodLink ST 27 New4.yN, .instanceMethod New4.yN,
  .code New4.yN New4.yB 6 none, .fieldLink ST 38 ST "COMPACT_STRINGS" "Z", .laysFinal ST ST "value" "[B", .fieldLink ST 9 ST "value" "[B", .laysFinal ST ST "coder" "B", .fieldLink ST 15 ST "coder" "B",
  .methodLink ST 1 Lib.objectInit, .instanceMethod Lib.objectInit, .code Lib.objectInit ⟨#[0xb1]⟩ 1 none, .methodLink ST 177 Cmp3.yN, .static Cmp3.yN, .methodLink ST 47 CodL.yN, .static CodL.yN,
  .code Cmp3.yN Cmp3.yB 6 (some (.array .byte)), .initialized U16, .arrayClass .byte, .methodLink U16 115 Cmp5.yN, .static Cmp5.yN, .code Cmp5.yN Cmp5.yB 7 (some .int), .code CodL.yN CodL.yB 2 (some .byte)]
theorem tab_of {a : Array Value} {s : State} (h : ∀ w ∈ words, w.before a s = true) : New1.tab.before a s = true := by
  have h5 : Cmp5.tab.before a s = true := unparts (wk h (.code Cmp5.yN Cmp5.yB 7 (some .int))) (wks h (.initialized Cmp5.yN.cls :: Cmp5.site))
  have hc : CodL.tab.before a s = true := unparts (wk h (.code CodL.yN CodL.yB 2 (some .byte))) (wks h (.initialized CodL.yN.cls :: CodL.site))
  have q5 : ∀ w ∈ Cmp5.tab :: words, w.before a s = true := fun w hw => (List.mem_cons.mp hw).elim (fun e => e ▸ h5) (h w)
  have h3 : Cmp3.tab.before a s = true := unparts (wk q5 (.code Cmp3.yN Cmp3.yB 6 (some (.array .byte)))) (wks q5 (.initialized Cmp3.yN.cls :: Cmp3.site))
  have q3 : ∀ w ∈ Cmp3.tab :: CodL.tab :: words, w.before a s = true := fun w hw => (List.mem_cons.mp hw).elim (fun e => e ▸ h3) fun hw => (List.mem_cons.mp hw).elim (fun e => e ▸ hc) (h w)
  have h4 : New4.tab.before a s = true := unparts (wk q3 (.code New4.yN New4.yB 6 none)) (wks q3 (.initialized New4.yN.cls :: New4.site))
  have q4 : ∀ w ∈ New4.tab :: words, w.before a s = true := fun w hw => (List.mem_cons.mp hw).elim (fun e => e ▸ h4) (h w)
  exact unparts (wk q4 (.code New1.yN New1.yB 2 none)) (wks q4 (.initialized New1.yN.cls :: New1.site))
/-- the words ride from the start Z to the walk's own state -/
theorem moved {Z s : State} {a0 args : Array Value} (hZ : Z.Warmed39 s.vm) (hw : ∀ d ∈ words, d.before a0 Z = true) : ∀ d ∈ words, d.before args s = true := fun d hd => by
  have q := hw d hd
  have t : ∀ d ∈ words, d = .arrayClass .byte ∨ (d.onTables && d.keepsFace) = true := by decide +kernel
  rcases t d hd with rfl | t
  · exact RoadKit.mvA hZ q
  · exact RoadKit.mv hZ q t
/-- WHAT COMES BACK, over the tables of the start Z: h the heap at the call, h' behind it -/
def Q (Z : State) (x : Addr) (A : Cell) (h : Heap) (v : Option Value) (h' : Heap) (L : List Loc) : Prop := v = none ∧ (∀ y ∈ L, y.base = x) ∧ RoadKit.Keep h h' [x] ∧ h'.size = h.size + 1 ∧ RoadKit.Exa Z h' x ST ∧ RoadKit.Fld Z h' x ST "value" "[B" (.ref h.size) ∧ RoadKit.Fld Z h' x ST "coder" "B" (.int 0) ∧
  (∃ V : Cell, RoadKit.Arr Z h' h.size V .byte ∧ V.vm = .none ∧ Z.vm.findClass "[B" = some V.cls ∧ V.slots.size = A.slots.size ∧ ∀ j, j < A.slots.size → V.slots[j]? = some (.int (lo8 (cv A j)))) ∧
  ∀ (O n d : String) (w : Value), RoadKit.Fld Z h x O n d w → RoadKit.slotOf Z O n d ≠ RoadKit.slotOf Z ST "value" "[B" → RoadKit.slotOf Z O n d ≠ RoadKit.slotOf Z ST "coder" "B" → RoadKit.Fld Z h' x O n d w
/-- **new String(chars) AT A CALL, IN THE ROAD'S FORM**: for specialBack behind newO: x the fresh String, b the char[] with the cell A -/
theorem back {p : Program} {l : Launch} {e : Env} {R : Room} {s : State} {args : Array Value} {below : List Frame} {len W : Nat} {Z : State} {a0 : Array Value} {h : Heap} (hZ : Z.Warmed39 s.vm) (hw : ∀ d ∈ words, d.before a0 Z = true) {kI : Nat} (wi : (Jvm.Cond.instantiable ST kI).before a0 Z = true)
    {x b : Addr} {A : Cell} {z : Int32} {v0 c0 : Value} (E : RoadKit.Exa Z h x ST) (V : RoadKit.Fld Z h x ST "value" "[B" v0) (C : RoadKit.Fld Z h x ST "coder" "B" c0) (K : RoadKit.Arr Z h b A .char) (hty : Typed .char A) (S : RoadKit.Sta Z h ST "COMPACT_STRINGS" "Z" (.int z)) (hz : ¬ z = 0)
    (l0 : 0 < A.slots.size) (l2 : A.slots.size ≤ 536870912) (hp : ∀ i, i < A.slots.size → ¬ 255 < cv A i) (hfr : 4 ≤ R.frames) (hlo : W + 65 ≤ R.locals) :
    Back l R p e below s args New1.yN len W (fun P a => a = #[.ref x, .ref b] ∧ P.U.heap = h ∧ P.cells + 1 ≤ R.cells ∧ P.slots + A.slots.size ≤ R.slots)
      (fun P _ v B => ∃ L, Q Z x A h v B.U.heap L ∧ B.locs = P.locs ++ L ∧ B.cells = P.cells + 1 ∧ B.slots = P.slots + A.slots.size) := by
  intro m meth c P g ig mk a X hg hsize hdg hW hn hp'
  obtain ⟨rfl, rfl, r1, r2⟩ := hp'
  have al : Z.vm.Alike P.U.vm := hZ.alike.trans X.warmed.alike
  obtain ⟨D, cfV, kV, iV, fV, hD, gV, stV, knV, obV, asV, slV⟩ := id V
  obtain ⟨D', cfC, kC, iC, fC, hD', gC, stC, -, -, asC, slC⟩ := id C
  cases hD.symm.trans hD'
  obtain ⟨D2, kD, e1, e2, e3, e4, e5⟩ := id E
  cases hD.symm.trans e1
  obtain ⟨c2, k2, i1, i2, i3, -⟩ := Cond.instantiable_spec wi
  cases e2.symm.trans i1
  cases e3.symm.trans i2
  obtain ⟨kU, u1, u2⟩ := al.2.2 _ _ e3
  have hB : Blank ST x D P.U := ⟨hD, ⟨knV, fun q hq => by rw [hq] at obV; cases obV⟩, by rw [al.findClass]; exact e2, kU, u1, by rw [u2]; exact i3, by rw [u2]; exact e5 i3⟩
  have F1 : Found ST "value" "[B" fV P.U := ⟨SBG.found_only al ⟨cfV, kV, iV, gV⟩, stV⟩
  have F2 : Found ST "coder" "B" fC P.U := ⟨SBG.found_only al ⟨cfC, kC, iC, gC⟩, stC⟩
  have hA : Ch b A P.U := ⟨⟨K.1, State.isArrayOf_alike al K.2.1, K.2.2, by omega⟩, hty⟩
  have hS : StaticIs P.U ST "COMPACT_STRINGS" "Z" (.int z) := by
    obtain ⟨cfS, iS, kS, fS, st, cS, t1, t2, t3, t4, t5, t6, t7⟩ := S
    exact StaticIs.there (s := { Z with heap := P.U.heap }) ⟨cfS, iS, kS, fS, st, cS, t1, t2, t3, t4, t5, (fun q => by rw [q] at t6; cases t6), t7⟩ al rfl
  obtain ⟨v, B, X', ⟨⟨hv, E', V', q1, q2, q3, q4, q5, q6, q7, q8, q9, q10, q11⟩, hl, hc, hs⟩, st⟩ := New1.pays x D fV fC b A z (tab_of (moved hZ hw)) hfr hlo m meth c P g ig mk _ X hg hsize hdg hW hn ⟨r1, r2, rfl, hB, F1, F2, hA, hS, hz, l0, l2, hp⟩
  have al' : Z.vm.Alike B.U.vm := hZ.alike.trans X'.warmed.alike
  have hsz : E'.slots.size = D.slots.size := by
    obtain ⟨-, -, -, kB, w1, w2, w3⟩ := q1
    obtain ⟨kB', y1, y2⟩ := al'.2.2 _ _ e3
    rw [q2.2.1] at w1
    cases w1.symm.trans y1
    rw [w3, e5 i3, y2]
  refine ⟨v, B, X', ⟨_, ⟨hv, ?_, ⟨by omega, fun y cy hy hn' => q10 y cy (by simpa using hn') hy, fun y cy hy => ?_⟩, q11, ⟨E', _, q1.1, by rw [q2.2.1]; exact e2, by rw [q2.2.1]; exact e3, by rw [q2.1]; exact obV, fun _ => by rw [hsz]; exact e5 i3⟩,
    ⟨E', cfV, kV, iV, fV, q1.1, gV, stV, by rw [q2.1]; exact knV, by rw [q2.1]; exact obV, by rw [q2.2.1]; exact asV, q3⟩, ⟨E', cfC, kC, iC, fC, q1.1, gC, stC, by rw [q2.1]; exact knV, by rw [q2.1]; exact obV, by rw [q2.2.1]; exact asC, q4⟩,
    ⟨V', ⟨q5.1, State.isArrayOf_alike al'.symm q5.2.1, q5.2.2.1⟩, q6, by rw [← al'.findClass]; exact q7, q8, fun j hj => by have := q9 j hj; rwa [Nat.zero_add] at this⟩, fun O n d w F n1 n2 => ?_⟩, hl, hc, hs⟩, st⟩
  · intro y hy
    simp only [List.mem_cons, List.not_mem_nil, or_false] at hy
    rcases hy with rfl | rfl <;> rfl
  · by_cases q : y = x
    · subst q
      cases hD.symm.trans hy
      exact ⟨E', q1.1, q2.2.1, q2.1, hsz⟩
    · exact ⟨cy, q10 y cy q hy, rfl, rfl, rfl⟩
  · obtain ⟨D3, cf, k, i, f, g1, g2, g3, g4, g5, g6, g7⟩ := F
    cases hD.symm.trans g1
    simp only [RoadKit.slotOf, g2, gV, gC, Option.map_some, Option.getD_some] at n1 n2
    exact ⟨E', cf, k, i, f, q1.1, g2, g3, by rw [q2.1]; exact g4, by rw [q2.1]; exact g5, by rw [q2.2.1]; exact g6, by rw [q2.2.2 f.slot (by simp [n1, n2])]; exact g7⟩
end StrChars.Road
namespace StrChars.Road
open Jvm Sem ClassFile Op Lib Jvm.Stand Jvm.Free Jvm.Free.XT
/-- WHAT COMES BACK, the byte[] as a list of values -/
def QA (Z : State) (x : Addr) (zn : Int32) (cs : List Int32) (h : Heap) (v : Option Value) (h' : Heap) (L : List Loc) : Prop := v = none ∧ (∀ y ∈ L, y.base = x) ∧ RoadKit.Keep h h' [x] ∧ h'.size = h.size + 1 ∧ RoadKit.Exa Z h' x ST ∧ RoadKit.Fld Z h' x ST "value" "[B" (.ref h.size) ∧ RoadKit.Fld Z h' x ST "coder" "B" (.int 0) ∧
  (∃ kb, Z.vm.findClass "[B" = some kb ∧ RoadKit.Arv Z h' h.size kb .byte zn (cs.map fun c => .int (lo8 c)) (.int 0)) ∧
  ∀ (O n d : String) (w : Value), RoadKit.Fld Z h x O n d w → RoadKit.slotOf Z O n d ≠ RoadKit.slotOf Z ST "value" "[B" → RoadKit.slotOf Z O n d ≠ RoadKit.slotOf Z ST "coder" "B" → RoadKit.Fld Z h' x O n d w
/-- **new String(chars) AT A CALL, THE ARRAYS AS LISTS**: the char[] at b holds cs, not empty, no char above 255 -/
theorem backArv {p : Program} {l : Launch} {e : Env} {R : Room} {s : State} {args : Array Value} {below : List Frame} {len W : Nat} {Z : State} {a0 : Array Value} {h : Heap} (hZ : Z.Warmed39 s.vm) (hw : ∀ d ∈ words, d.before a0 Z = true) {kI : Nat} (wi : (Jvm.Cond.instantiable ST kI).before a0 Z = true)
    {x b : Addr} {k : ClassId} {zn z : Int32} {cs : List Int32} {dv v0 c0 : Value} (E : RoadKit.Exa Z h x ST) (V : RoadKit.Fld Z h x ST "value" "[B" v0) (C : RoadKit.Fld Z h x ST "coder" "B" c0) (K : RoadKit.Arv Z h b k .char zn (cs.map Value.int) dv) (S : RoadKit.Sta Z h ST "COMPACT_STRINGS" "Z" (.int z)) (hz : ¬ z = 0)
    (hlen : zn.toNatClampNeg = cs.length) (h0 : 0 < cs.length) (hbig : cs.length ≤ 536870912) (hall : ∀ c ∈ cs, ¬ 255 < c) (hfr : 4 ≤ R.frames) (hlo : W + 65 ≤ R.locals) :
    Back l R p e below s args New1.yN len W (fun P a => a = #[.ref x, .ref b] ∧ P.U.heap = h ∧ P.cells + 1 ≤ R.cells ∧ P.slots + cs.length ≤ R.slots)
      (fun P _ v B => ∃ L, QA Z x zn cs h v B.U.heap L ∧ B.locs = P.locs ++ L ∧ B.cells = P.cells + 1 ∧ B.slots = P.slots + cs.length) := by
  obtain ⟨A, K1, K2, K3, K4, K5, K6⟩ := K
  have e : A.slots.size = cs.length := K3.trans hlen
  have hat : ∀ (i : Nat) (hi : i < cs.length), A.slots[i]? = some (.int cs[i]) := fun i hi => by rw [K5 i (by omega)]; simp [List.getD_eq_getElem?_getD, hi]
  have hcv : ∀ (i : Nat) (hi : i < cs.length), cv A i = cs[i] := fun i hi => by unfold cv; rw [hat i hi]
  have hty : Typed .char A := fun i v hv => by
    have hi : i < A.slots.size := (Array.getElem?_eq_some_iff.mp hv).1
    have q := K5 i hi
    rw [hv] at q
    rw [Option.some.inj q]
    exact K6 i hi
  refine Back.mono (back hZ hw wi E V C K1 hty S hz (by omega) (by omega) (fun i hi => by rw [hcv i (by omega)]; exact hall _ (List.getElem_mem _)) hfr hlo) (fun P a hp => ⟨hp.1, hp.2.1, hp.2.2.1, by rw [e]; exact hp.2.2.2⟩) (fun P a v B hp hq => ?_)
  obtain ⟨L, ⟨q1, q2, q3, q4, q5, q6, q7, ⟨V', v1, v2, v3, v4, v5⟩, q9⟩, hl, hc, hs⟩ := hq
  refine ⟨L, ⟨q1, q2, q3, q4, q5, q6, q7, ⟨V'.cls, v3, V', v1, rfl, by rw [v4, e, hlen], K4, fun i hi => ?_, fun i hi => ?_⟩, q9⟩, hl, hc, by rw [hs, e]⟩
  · have hi' : i < cs.length := by omega
    rw [v5 i (by omega), hcv i hi']; simp [List.getD_eq_getElem?_getD, hi']
  · have hi' : i < cs.length := by omega
    simp only [List.getD_eq_getElem?_getD, List.getElem?_map, List.getElem?_eq_getElem hi', Option.map_some, Option.getD_some]
    exact fits_lo8 _
end StrChars.Road
namespace StrChars.Road
open Jvm Sem ClassFile Op Lib Jvm.Stand Jvm.Free Jvm.Free.XT
/-- WHAT COMES BACK, in the writer's own shape -/
def QV (Z : State) (x : Addr) (N : Int32) (bs : List Int32) (h : Heap) (n0 : Nat) (v : Option Value) (h' : Heap) (L : List Loc) : Prop := v = none ∧ RoadKit.Fr n0 L ∧ RoadKit.Keep h h' [x] ∧ RoadKit.Exa Z h' x ST ∧ RoadKit.Fld Z h' x ST "coder" "B" (.int 0) ∧
  ∃ (t : Addr) (kb : ClassId), n0 ≤ t ∧ h.size ≤ t ∧ ¬ t = x ∧ RoadKit.Fld Z h' x ST "value" "[B" (.ref t) ∧ RoadKit.Arv Z h' t kb .byte N (bs.map Value.int) (.int 0)
/-- **new String(chars) AT A CALL, FOR THE WRITER**: a char[] of n known ints, each 0 to 255 -/
theorem backV {p : Program} {l : Launch} {e : Env} {R : Room} {s : State} {args : Array Value} {below : List Frame} {len W : Nat} {Z : State} {a0 : Array Value} {h : Heap} (hZ : Z.Warmed39 s.vm) (hw : ∀ d ∈ words, d.before a0 Z = true) {kI : Nat} (wi : (Jvm.Cond.instantiable ST kI).before a0 Z = true)
    {x b : Addr} {kC : ClassId} {cs bs : List Int32} {d v0 c0 : Value} {z N : Int32} {n n0 : Nat} (hx0 : n0 ≤ x) (hh0 : n0 ≤ h.size) (E : RoadKit.Exa Z h x ST) (V : RoadKit.Fld Z h x ST "value" "[B" v0) (C : RoadKit.Fld Z h x ST "coder" "B" c0) (K : RoadKit.Arv Z h b kC .char N (cs.map Value.int) d) (S : RoadKit.Sta Z h ST "COMPACT_STRINGS" "Z" (.int z)) (hz : ¬ z = 0)
    (hn : cs.length = n) (hN : N = Int32.ofNat n) (l0 : 0 < n) (l2 : n ≤ 4000) (hp : ∀ c ∈ cs, ¬ c < 0 ∧ ¬ (255 : Int32) < c) (hb : bs = cs.map (fun c => c.toInt8.toInt32)) (hfr : 4 ≤ R.frames) (hlo : W + 65 ≤ R.locals) :
    Back l R p e below s args (⟨"java/lang/String", "<init>", "([C)V"⟩ : MethodName) len W (fun P a => a = #[.ref x, .ref b] ∧ P.U.heap = h ∧ P.cells + 1 ≤ R.cells ∧ P.slots + n ≤ R.slots)
      (fun P _ v B => ∃ L, QV Z x N bs h n0 v B.U.heap L ∧ B.locs = P.locs ++ L ∧ B.cells = P.cells + 1 ∧ B.slots = P.slots + n) := by
  subst hn hN hb
  refine Back.mono (backArv hZ hw wi E V C K S hz (n32 (by omega)) l0 (by omega) (fun c hc => (hp c hc).2) hfr hlo) (fun P a hp => hp) (fun P a v B hp hq => ?_)
  obtain ⟨L, ⟨q1, q2, q3, q4, q5, q6, q7, ⟨kb, v1, v2⟩, q9⟩, hl, hc, hs⟩ := hq
  exact ⟨L, ⟨q1, fun y hy => by rw [q2 y hy]; exact hx0, q3, q5, q7, h.size, kb, hh0, Nat.le_refl _, Nat.ne_of_gt E.lt, q6, by rw [List.map_map]; exact v2⟩, hl, hc, hs⟩
end StrChars.Road
namespace StrChars
open Jvm Sem ClassFile Op Lib Jvm.Stand Jvm.Free.XT Jvm.Free.ALB Jvm.Free.JM Jvm.Free
open Jvm.Lib.Cold (StaticIs)
def hi8 (x : Int32) : Int32 := lo8 (x >>> ((8 : Int32) &&& 31))
/-- what StringUTF16.getChar makes of two bytes -/
def pairCh (u v : Int32) : Int32 := (((u &&& 255) <<< ((0 : Int32) &&& 31)) ||| ((v &&& 255) <<< ((8 : Int32) &&& 31))).toUInt32.toUInt16.toUInt32.toInt32
theorem shr0 (c : Int32) : c >>> ((0 : Int32) &&& 31) = c := by
  have e : ((0 : Int32) &&& 31) = 0 := by decide
  rw [e]
  apply Int32.toBitVec_inj.mp
  rw [Int32.toBitVec_shiftRight]
  have e1 : ((0 : Int32).toBitVec.smod 32) = 0#32 := by decide
  rw [e1, BitVec.sshiftRight_eq']
  exact BitVec.sshiftRight_zero
theorem lo8_and (x : Int32) : (lo8 x &&& 255).toBitVec.toNat = x.toBitVec.toNat % 256 := by
  have h : (lo8 x).toBitVec = (x.toBitVec.signExtend 8).signExtend 32 := by rw [lo8, Int8.toBitVec_toInt32, Int32.toBitVec_toInt8]
  rw [Int32.toBitVec_and, BitVec.toNat_and, h]
  have e : ((x.toBitVec.signExtend 8).signExtend 32).toNat % 256 = x.toBitVec.toNat % 256 := by
    rw [BitVec.toNat_signExtend]
    have hlt := x.toBitVec.isLt
    simp only [BitVec.toNat_setWidth, BitVec.toNat_signExtend]
    split <;> split <;> omega
  rw [← e]
  exact Nat.and_two_pow_sub_one_eq_mod _ 8
theorem pair_says {c : Int32} (h0 : ¬ c < 0) (h1 : ¬ 65535 < c) : pairCh (lo8 c) (hi8 c) = c := by
  rw [Int32.lt_iff_toInt_lt] at h0 h1
  have e0 : (0 : Int32).toInt = 0 := rfl
  have e1 : (65535 : Int32).toInt = 65535 := rfl
  have hc : c.toInt = c.toBitVec.toNat := by
    have := c.toBitVec.isLt
    have e : c.toInt = c.toBitVec.toInt := rfl
    rw [e] at h0 h1
    rw [e]
    rw [BitVec.toInt_eq_toNat_cond] at h0 h1 ⊢
    split at h0 <;> split <;> omega
  have hn : c.toBitVec.toNat < 65536 := by omega
  have a1 := lo8_and c
  have a2 : (hi8 c &&& 255).toBitVec.toNat = c.toBitVec.toNat / 256 := by
    rw [hi8, lo8_and]
    have e : ((8 : Int32) &&& 31) = 8 := by decide
    rw [e, Int32.toBitVec_shiftRight]
    have e2 : ((8 : Int32).toBitVec.smod 32) = 8#32 := by decide
    rw [e2, BitVec.sshiftRight_eq', BitVec.toNat_sshiftRight_of_msb_false (by rw [BitVec.msb_eq_false_iff_two_mul_lt]; omega)]
    show c.toBitVec.toNat >>> 8 % 256 = _
    rw [Nat.shiftRight_eq_div_pow]
    omega
  unfold pairCh
  apply Int32.toBitVec_inj.mp
  apply BitVec.eq_of_toNat_eq
  have f0 : ((0 : Int32) &&& 31) = 0 := by decide
  have f8 : ((8 : Int32) &&& 31) = 8 := by decide
  rw [f0, f8]
  have g : (((lo8 c &&& 255) <<< (0 : Int32)) ||| ((hi8 c &&& 255) <<< (8 : Int32))).toBitVec.toNat = c.toBitVec.toNat := by
    rw [Int32.toBitVec_or, Int32.toBitVec_shiftLeft, Int32.toBitVec_shiftLeft]
    have s0 : ((0 : Int32).toBitVec.smod 32) = 0#32 := by decide
    have s8 : ((8 : Int32).toBitVec.smod 32) = 8#32 := by decide
    rw [s0, s8, BitVec.toNat_or]
    simp only [BitVec.shiftLeft_eq', BitVec.toNat_shiftLeft, a1, a2]
    show (c.toBitVec.toNat % 256) <<< 0 % 2 ^ 32 ||| (c.toBitVec.toNat / 256) <<< 8 % 2 ^ 32 = _
    rw [Nat.shiftLeft_zero, Nat.mod_eq_of_lt (show c.toBitVec.toNat % 256 < 2 ^ 32 by omega), Nat.mod_eq_of_lt (show (c.toBitVec.toNat / 256) <<< 8 < 2 ^ 32 by rw [Nat.shiftLeft_eq]; omega), Nat.or_comm, ← Nat.shiftLeft_add_eq_or_of_lt (by omega), Nat.shiftLeft_eq]
    omega
  show BitVec.toNat (((((lo8 c &&& 255) <<< (0 : Int32)) ||| ((hi8 c &&& 255) <<< (8 : Int32))).toBitVec.setWidth 16).setWidth 32) = _
  rw [BitVec.toNat_setWidth, BitVec.toNat_setWidth, g]
  omega
end StrChars
namespace StrChars
open Jvm Sem ClassFile Op Lib Jvm.Stand Jvm.Free.XT Jvm.Free.ALB Jvm.Free.JM Jvm.Free
open Jvm.Lib.Cold (StaticIs)
theorem shr1 {n : Nat} (h : 2 * n < 2 ^ 31) : Int32.ofNat (2 * n) >>> ((1 : Int32) &&& 31) = Int32.ofNat n := by
  have e : ((1 : Int32) &&& 31) = 1 := by decide
  rw [e]
  apply Int32.toBitVec_inj.mp
  rw [Int32.toBitVec_shiftRight]
  have e1 : ((1 : Int32).toBitVec.smod 32) = 1#32 := by decide
  have hm : (BitVec.ofNat 32 (2 * n)).toNat = 2 * n := by rw [BitVec.toNat_ofNat, Nat.mod_eq_of_lt (by omega)]
  rw [e1, BitVec.sshiftRight_eq']
  apply BitVec.eq_of_toNat_eq
  show ((BitVec.ofNat 32 (2 * n)).sshiftRight 1).toNat = (BitVec.ofNat 32 n).toNat
  rw [BitVec.toNat_sshiftRight_of_msb_false (by rw [BitVec.msb_eq_false_iff_two_mul_lt, hm]; omega), hm, BitVec.toNat_ofNat, Nat.shiftRight_eq_div_pow]
  omega
/-- the array's cell V codes the n chars f 0 .. f (n - 1) by the coder cd, as the JDK does: coder 1 just where some char is above 255 -/
def Cod (cd : Int32) (n : Nat) (f : Nat → Int32) (V : Cell) : Prop := (cd = 0 ∧ V.slots.size = n ∧ ∀ j, j < n → V.slots[j]? = some (.int (lo8 (f j))) ∧ ¬ 255 < f j) ∨ (cd = 1 ∧ V.slots.size = 2 * n ∧ (∀ j, j < n → V.slots[2 * j]? = some (.int (lo8 (f j))) ∧ V.slots[2 * j + 1]? = some (.int (hi8 (f j)))) ∧ ∃ j, j < n ∧ 255 < f j)
theorem Cod.cd {cd : Int32} {n : Nat} {f : Nat → Int32} {V : Cell} (h : Cod cd n f V) : cd = 0 ∨ cd = 1 := h.imp (fun q => q.1) fun q => q.1
theorem Cod.len {cd : Int32} {n : Nat} {f : Nat → Int32} {V : Cell} (h : Cod cd n f V) (hs : V.slots.size < 2 ^ 31) : Int32.ofNat V.slots.size >>> (cd &&& 31) = Int32.ofNat n := by
  rcases h with ⟨rfl, h, -⟩ | ⟨rfl, h, -⟩
  · rw [shr0, h]
  · rw [h, shr1 (by omega)]
/-- **x is a String of the n chars f 0 .. f (n - 1)**, Latin-1 or UTF-16; its array at t has the cell V -/
def Txt (x t : Addr) (V : Cell) (cd : Int32) (n : Nat) (f : Nat → Int32) (U : State) : Prop := Exact "java/lang/String" x U ∧ Has x "java/lang/String" "value" "[B" (.ref t) U ∧ Has x "java/lang/String" "coder" "B" (.int cd) U ∧ XT.Arr .byte t V U ∧ Cod cd n f V ∧ ∀ j, j < n → ¬ f j < 0 ∧ ¬ 65535 < f j
theorem Txt.mv {x t : Addr} {V : Cell} {cd : Int32} {n : Nat} {f : Nat → Int32} {U U' : State} (h : Txt x t V cd n f U) (hal : U.vm.Alike U'.vm) (hh : U'.heap = U.heap) : Txt x t V cd n f U' := ⟨h.1.mv hal hh, h.2.1.mv hal hh, h.2.2.1.mv hal hh, h.2.2.2.1.mv hal hh, h.2.2.2.2⟩
namespace Cdr
def yN : MethodName := ⟨"java/lang/String", "coder", "()B"⟩
abbrev yB : ByteArray := jdk_42_method_152_code
theorem d0 : decode yB 0 = .ok (.getstatic 38, 3) := by decide +kernel
theorem d3 : decode yB 3 = .ok (.ifCond (.eq) 10, 3) := by decide +kernel
theorem d6 : decode yB 6 = .ok (.aload_n 0, 1) := by decide +kernel
theorem d7 : decode yB 7 = .ok (.getfield 15, 3) := by decide +kernel
theorem d10 : decode yB 10 = .ok (.goto 4, 3) := by decide +kernel
theorem d14 : decode yB 14 = .ok (.ireturn, 1) := by decide +kernel
def site : List Cond := [.fieldLink "java/lang/String" 38 "java/lang/String" "COMPACT_STRINGS" "Z", .fieldLink "java/lang/String" 15 "java/lang/String" "coder" "B"]
def tab : Cond := tabOf yN yB 1 (some .byte) site
def P (x : Addr) (cd z : Int32) (args : Array Value) (s : State) : Prop := args = #[.ref x] ∧ Has x "java/lang/String" "coder" "B" (.int cd) s ∧ (cd = 0 ∨ cd = 1) ∧ StaticIs s "java/lang/String" "COMPACT_STRINGS" "Z" (.int z) ∧ ¬ z = 0
def E (cd : Int32) (r : Option Value) (s u : State) : Prop := XT.PureE (some (.int cd)) r s u
theorem law (l : Launch) (x : Addr) (cd z : Int32) : Law l yN 1 0 0 0 yB 1 (some .byte) site (P x cd z) (E cd) [] 0 0 := by
  refine Law.of_walk (plainFor_of_name (by decide +kernel)) (by decide +kernel) (by decide +kernel) (by decide) (fun _ _ h => by rw [h.1]; rfl) (fun _ U U' hal hh h => ⟨h.1, h.2.1.mv hal hh, h.2.2.1, h.2.2.2.1.there hal hh, h.2.2.2.2⟩) (fun r U U' V V' h1 hal h2 h => XT.PureE.mv r U U' V V' h1 hal h2 h) ?_
  intro p e s m args below meth c s₁ X0 hexec hbytes hml hret hlk hnm hown hh0 W hP
  obtain ⟨rfl, hx, hc, s1, hz⟩ := hP
  have c1 : Steps p.tables e below (s₁.setTop (entryFrame m #[.ref x] 1)) (s₁.setTop (mkF m 0 #[.val (.ref x)] [])) := entry rfl
  obtain ⟨T2, X2, q2, st2⟩ := X0.sget hexec hown (wk W (.fieldLink "java/lang/String" 38 "java/lang/String" "COMPACT_STRINGS" "Z")) s1 (fun _ _ h => by rw [hh0]; exact h) (g := (mkF m 0 #[.val (.ref x)] [])) rfl (hb hbytes d0)
  have hh2 := q2.trans hh0
  have c3 : Steps p.tables e below (s₁.setTop (entryFrame m #[.ref x] 1)) (T2.setTop (mkF m 7 #[.val (.ref x)] [.ref x])) := (c1.trans (st2 _ (Steps.refl _))).trans (by
    refine XS.ifNo X2.here hexec rfl (hb hbytes d3) rfl (i0_eq_f hz) ?_
    refine XS.aloadN X2.here hexec rfl (hb hbytes d6) rfl rfl ?_
    exact Steps.refl _)
  obtain ⟨T4, X4, q4, st4⟩ := X2.hget hexec hown (wk W (.fieldLink "java/lang/String" 15 "java/lang/String" "coder" "B")) (hx.mv X2.warmed.alike hh2) (g := (mkF m 7 #[.val (.ref x)] [.ref x])) rfl (rest := []) rfl (hb hbytes d7)
  have c5 : Steps p.tables e below (s₁.setTop (entryFrame m #[.ref x] 1)) (T4.setTop (mkF m 14 #[.val (.ref x)] [.int cd])) := (c3.trans (st4 _ (Steps.refl _))).trans (by
    refine XS.goto X4.here hexec rfl (pc0 := 10) rfl (hb hbytes d10) (by decide) rfl ?_
    exact Steps.refl _)
  exact ⟨T4, some (.int cd), _, _, _, X4, rfl, rfl, rfl, (fun h => by cases h), ⟨rfl, q4.trans hh2⟩, fun fs hl => c5.trans (X4.ireturnOut hexec hret (by rcases hc with rfl | rfl <;> rfl) (Or.inr (Or.inr (Or.inl rfl))) (hb hbytes d14) hl)⟩
end Cdr
namespace Len
def yN : MethodName := ⟨"java/lang/String", "length", "()I"⟩
abbrev yB : ByteArray := jdk_42_method_54_code
theorem d0 : decode yB 0 = .ok (.aload_n 0, 1) := by decide +kernel
theorem d1 : decode yB 1 = .ok (.getfield 9, 3) := by decide +kernel
theorem d4 : decode yB 4 = .ok (.arraylength, 1) := by decide +kernel
theorem d5 : decode yB 5 = .ok (.aload_n 0, 1) := by decide +kernel
theorem d6 : decode yB 6 = .ok (.invokevirtual 335, 3) := by decide +kernel
theorem d9 : decode yB 9 = .ok (.ishr, 1) := by decide +kernel
theorem d10 : decode yB 10 = .ok (.ireturn, 1) := by decide +kernel
def site : List Cond := [.fieldLink "java/lang/String" 9 "java/lang/String" "value" "[B", Cdr.tab] ++ virtW "java/lang/String" 335 "java/lang/String" Cdr.yN Cdr.yN
def tab : Cond := tabOf yN yB 1 (some .int) site
def P (x t : Addr) (V : Cell) (cd : Int32) (n : Nat) (f : Nat → Int32) (z : Int32) (args : Array Value) (s : State) : Prop := args = #[.ref x] ∧ Txt x t V cd n f s ∧ StaticIs s "java/lang/String" "COMPACT_STRINGS" "Z" (.int z) ∧ ¬ z = 0
def E (n : Nat) (r : Option Value) (s u : State) : Prop := XT.PureE (some (.int (Int32.ofNat n))) r s u
/-- length() of a String of n chars, in either coding -/
theorem law (l : Launch) (x t : Addr) (V : Cell) (cd : Int32) (n : Nat) (f : Nat → Int32) (z : Int32) : Law l yN 1 0 1 13 yB 1 (some .int) site (P x t V cd n f z) (E n) [] 0 0 := by
  refine Law.of_walk (plainFor_of_name (by decide +kernel)) (by decide +kernel) (by decide +kernel) (by decide) (fun _ _ h => by rw [h.1]; rfl) (fun _ U U' hal hh h => ⟨h.1, h.2.1.mv hal hh, h.2.2.1.there hal hh, h.2.2.2⟩) (fun r U U' V V' h1 hal h2 h => XT.PureE.mv r U U' V V' h1 hal h2 h) ?_
  intro p e s m args below meth c s₁ X0 hexec hbytes hml hret hlk hnm hown hh0 W hP
  obtain ⟨rfl, hx, s1, hz⟩ := hP
  have v31 := hx.2.2.2.1.2.2.2
  have c1 : Steps p.tables e below (s₁.setTop (entryFrame m #[.ref x] 1)) (s₁.setTop (mkF m 1 #[.val (.ref x)] [.ref x])) := Steps.trans (entry rfl) (by
    show Steps p.tables e below (s₁.setTop (mkF m 0 #[.val (.ref x)] [])) _
    refine XS.aloadN X0.here hexec rfl (hb hbytes d0) rfl rfl ?_
    exact Steps.refl _)
  obtain ⟨T2, X2, q2, st2⟩ := X0.hget hexec hown (wk W (.fieldLink "java/lang/String" 9 "java/lang/String" "value" "[B")) (hx.mv X0.warmed.alike hh0).2.1 (g := (mkF m 1 #[.val (.ref x)] [.ref x])) rfl (rest := []) rfl (hb hbytes d1)
  have hh2 := q2.trans hh0
  have hx2 := hx.mv X2.warmed.alike hh2
  have c3 : Steps p.tables e below (s₁.setTop (entryFrame m #[.ref x] 1)) (T2.setTop (mkF m 6 #[.val (.ref x)] [.ref x, .int (Int32.ofNat V.slots.size)])) := (c1.trans (st2 _ (Steps.refl _))).trans (by
    refine X2.alen hexec hx2.2.2.2.1 rfl rfl (hb hbytes d4) ?_
    refine XS.aloadN X2.here hexec rfl (hb hbytes d5) rfl rfl ?_
    exact Steps.refl _)
  obtain ⟨v4, T4, X4, E4, g4⟩ := X2.callV hexec (Cdr.law l x cd z) hown (wks W (virtW "java/lang/String" 335 "java/lang/String" Cdr.yN Cdr.yN)) rfl (by decide) (wk W Cdr.tab) (W := 1) (Nat.le_of_ble_eq_true rfl) (Nat.le_of_ble_eq_true rfl) (Nat.le_refl _) (Nat.le_refl _) (hx2.1.fc X2.warmed.alike) hx2.1.is (g := (mkF m 6 #[.val (.ref x)] [.ref x, .int (Int32.ofNat V.slots.size)])) rfl (by rw [hml]; rfl) c3 (argsL := []) (rest := [.int (Int32.ofNat V.slots.size)]) rfl rfl (by show 2 * 0 + (1 + 0) ≤ _; decide) (hb hbytes d6) (⟨rfl, hx2.2.2.1, hx.2.2.2.2.1.cd, s1.there X2.warmed.alike hh2, hz⟩)
  obtain ⟨rfl, q4⟩ := E4
  have c5 : Steps p.tables e below (s₁.setTop (entryFrame m #[.ref x] 1)) (T4.setTop (mkF m 10 #[.val (.ref x)] [.int (Int32.ofNat V.slots.size >>> (cd &&& 31))])) := Steps.trans g4 (by
    refine ishr X4.here hexec rfl (hb hbytes d9) rfl ?_
    exact Steps.refl _)
  rw [hx.2.2.2.2.1.len v31] at c5
  exact ⟨T4, some (.int (Int32.ofNat n)), _, _, _, X4, rfl, rfl, rfl, (fun h => by cases h), ⟨rfl, q4.trans hh2⟩, fun fs hl => c5.trans (X4.ireturnOut hexec hret rfl (Or.inl rfl) (hb hbytes d10) hl)⟩
theorem pays {l : Launch} {R : Room} {p : Program} {e : Env} {below : List Frame} {s : State} {sargs : Array Value} {len W : Nat} (x t : Addr) (V : Cell) (cd : Int32) (n : Nat) (f : Nat → Int32) (z : Int32) (htab : tab.before sargs s = true) (hfr : 2 ≤ R.frames) (hlo : W + 25 ≤ R.locals) :
    Back l R p e below s sargs yN len W (fun A₁ a₁ => A₁.cells + 0 ≤ R.cells ∧ A₁.slots + 0 ≤ R.slots ∧ P x t V cd n f z a₁ A₁.U) (fun A₁ _ v₁ B₁ => E n v₁ A₁.U B₁.U ∧ B₁.locs = A₁.locs ++ [] ∧ B₁.cells = A₁.cells + 0 ∧ B₁.slots = A₁.slots + 0) :=
  (law l x t V cd n f z).pays htab hfr (by omega)
end Len
end StrChars
namespace StrChars.Road
open Jvm Sem ClassFile Op Lib Jvm.Stand Jvm.Free Jvm.Free.XT
open Jvm.Lib.Cold (StaticIs)
theorem consq {a : Array Value} {s : State} {c : Jvm.Cond} {L : List Jvm.Cond} (h0 : c.before a s = true) (h : ∀ w ∈ L, w.before a s = true) : ∀ w ∈ c :: L, w.before a s = true := fun w hw => (List.mem_cons.mp hw).elim (fun e => e ▸ h0) (h w)
/-- the words of String.length(), either coding -/
abbrev wordsLen : List Jvm.Cond := [.code Len.yN Len.yB 1 (some .int), .initialized ST, .fieldLink ST 9 ST "value" "[B", .fieldLink ST 38 ST "COMPACT_STRINGS" "Z", .fieldLink ST 15 ST "coder" "B", .code Cdr.yN Cdr.yB 1 (some .byte), .methodLink ST 335 Cdr.yN, .declares Cdr.yN, .selects ST Cdr.yN Cdr.yN, .instanceMethod Cdr.yN]
theorem tabLen_of {a : Array Value} {s : State} (h : ∀ w ∈ wordsLen, w.before a s = true) : Len.tab.before a s = true := by
  have hc : Cdr.tab.before a s = true := unparts (wk h (.code Cdr.yN Cdr.yB 1 (some .byte))) (wks h (.initialized Cdr.yN.cls :: Cdr.site))
  have q := consq hc h
  exact unparts (wk q (.code Len.yN Len.yB 1 (some .int))) (wks q (.initialized Len.yN.cls :: Len.site))
theorem movedLen {Z s : State} {a0 args : Array Value} (hZ : Z.Warmed39 s.vm) (hw : ∀ d ∈ wordsLen, d.before a0 Z = true) : ∀ d ∈ wordsLen, d.before args s = true := fun d hd => by
  have q := hw d hd
  have t : ∀ d ∈ wordsLen, d = .arrayClass .byte ∨ (d.onTables && d.keepsFace) = true := by decide +kernel
  rcases t d hd with rfl | t
  · exact RoadKit.mvA hZ q
  · exact RoadKit.mv hZ q t
/-- the bytes of the chars cs, low before high -/
def wideBytes : List Int32 → List Value
  | [] => []
  | c :: cs => .int (lo8 c) :: .int (hi8 c) :: wideBytes cs
theorem wide_lo (d : Value) : ∀ (cs : List Int32) (j : Nat), j < cs.length → (wideBytes cs).getD (2 * j) d = .int (lo8 (cs.getD j 0))
  | [], j, h => absurd h (Nat.not_lt_zero j)
  | c :: cs, 0, _ => rfl
  | c :: cs, j + 1, h => by
    have q := wide_lo d cs j (by simpa using h)
    rw [show 2 * (j + 1) = 2 * j + 1 + 1 from by omega]
    simpa [wideBytes] using q
theorem wide_hi (d : Value) : ∀ (cs : List Int32) (j : Nat), j < cs.length → (wideBytes cs).getD (2 * j + 1) d = .int (hi8 (cs.getD j 0))
  | [], j, h => absurd h (Nat.not_lt_zero j)
  | c :: cs, 0, _ => rfl
  | c :: cs, j + 1, h => by
    have q := wide_hi d cs j (by simpa using h)
    rw [show 2 * (j + 1) + 1 = 2 * j + 1 + 1 + 1 from by omega]
    simpa [wideBytes] using q
theorem low_at (d : Value) (cs : List Int32) (j : Nat) (h : j < cs.length) : (cs.map fun c => Value.int (lo8 c)).getD j d = .int (lo8 (cs.getD j 0)) := by
  simp [List.getD_eq_getElem?_getD, h]
/-- an array of N2 bytes vs codes the chars cs by the coder cd -/
def CodA (cs : List Int32) (cd N2 : Int32) (vs : List Value) : Prop := (cd = 0 ∧ N2 = Int32.ofNat cs.length ∧ vs = (cs.map fun c => Value.int (lo8 c)) ∧ ∀ c ∈ cs, ¬ 255 < c) ∨ (cd = 1 ∧ N2 = Int32.ofNat (2 * cs.length) ∧ vs = wideBytes cs ∧ ∃ c ∈ cs, 255 < c)
theorem CodA.cod {cs : List Int32} {cd N2 : Int32} {vs : List Value} {V : Cell} (h : CodA cs cd N2 vs) (hn : 2 * cs.length < 2 ^ 31) (hs : V.slots.size = N2.toNatClampNeg) (hv : RoadKit.Has V vs (.int 0)) : Cod cd cs.length (fun j => cs.getD j 0) V := by
  rcases h with ⟨rfl, rfl, rfl, h⟩ | ⟨rfl, rfl, rfl, c, hc, hw⟩
  · rw [n32 (by omega)] at hs
    exact Or.inl ⟨rfl, hs, fun j hj => ⟨by rw [hv j (by omega), low_at _ _ _ hj], by
      have e : cs.getD j 0 = cs[j] := by simp [List.getD_eq_getElem?_getD, hj]
      show ¬ 255 < cs.getD j 0
      rw [e]; exact h _ (List.getElem_mem _)⟩⟩
  · rw [n32 (by omega)] at hs
    obtain ⟨j, hj, rfl⟩ := List.getElem_of_mem hc
    exact Or.inr ⟨rfl, hs, fun j hj => ⟨by rw [hv _ (by omega), wide_lo _ _ _ hj], by rw [hv _ (by omega), wide_hi _ _ _ hj]⟩, j, hj, by
      have e : cs.getD j 0 = cs[j] := by simp [List.getD_eq_getElem?_getD, hj]
      show 255 < cs.getD j 0
      rw [e]; exact hw⟩
/-- an object of exactly java/lang/String, its two fields found: as the laws ask it -/
theorem strObj {Z U : State} {a0 : Array Value} {kI : Nat} (wi : (Jvm.Cond.instantiable ST kI).before a0 Z = true) (al : Z.vm.Alike U.vm) {x : Addr} {v0 c0 : Value} (E : RoadKit.Exa Z U.heap x ST) (V : RoadKit.Fld Z U.heap x ST "value" "[B" v0) (C : RoadKit.Fld Z U.heap x ST "coder" "B" c0) :
    ∃ (D : Cell) (fV fC : Field), Blank ST x D U ∧ Found ST "value" "[B" fV U ∧ Found ST "coder" "B" fC U ∧ D.slots[fV.slot]? = some v0 ∧ D.slots[fC.slot]? = some c0 ∧ RoadKit.slotOf Z ST "value" "[B" = fV.slot ∧ RoadKit.slotOf Z ST "coder" "B" = fC.slot := by
  obtain ⟨D, cfV, kV, iV, fV, hD, gV, stV, knV, obV, asV, slV⟩ := V
  obtain ⟨D', cfC, kC, iC, fC, hD', gC, stC, -, -, asC, slC⟩ := C
  cases hD.symm.trans hD'
  obtain ⟨D2, kD, e1, e2, e3, e4, e5⟩ := E
  cases hD.symm.trans e1
  obtain ⟨c2, k2, i1, i2, i3, -⟩ := Cond.instantiable_spec wi
  cases e2.symm.trans i1
  cases e3.symm.trans i2
  obtain ⟨kU, u1, u2⟩ := al.2.2 _ _ e3
  exact ⟨D, fV, fC, ⟨hD, ⟨knV, fun q hq => by rw [hq] at obV; cases obV⟩, by rw [al.findClass]; exact e2, kU, u1, by rw [u2]; exact i3, by rw [u2]; exact e5 i3⟩, ⟨SBG.found_only al ⟨cfV, kV, iV, gV⟩, stV⟩, ⟨SBG.found_only al ⟨cfC, kC, iC, gC⟩, stC⟩, slV, slC, by simp [RoadKit.slotOf, gV], by simp [RoadKit.slotOf, gC]⟩
theorem sta_is {Z U : State} (al : Z.vm.Alike U.vm) {C n d : String} {v : Value} (S : RoadKit.Sta Z U.heap C n d v) : StaticIs U C n d v := by
  obtain ⟨cfS, iS, kS, fS, st, cS, t1, t2, t3, t4, t5, t6, t7⟩ := S
  exact StaticIs.there (s := { Z with heap := U.heap }) ⟨cfS, iS, kS, fS, st, cS, t1, t2, t3, t4, t5, (fun q => by rw [q] at t6; cases t6), t7⟩ al rfl
/-- **length() OF SUCH A STRING** -/
theorem lenW {p : Program} {l : Launch} {e : Env} {R : Room} {s : State} {args : Array Value} {below : List Frame} {len W : Nat} {Z : State} {a0 : Array Value} {h : Heap} (hZ : Z.Warmed39 s.vm) (hw : ∀ d ∈ wordsLen, d.before a0 Z = true) {kI : Nat} (wi : (Jvm.Cond.instantiable ST kI).before a0 Z = true)
    {x t : Addr} {kb : ClassId} {cs : List Int32} {cd N2 z : Int32} {vs : List Value} (E : RoadKit.Exa Z h x ST) (V : RoadKit.Fld Z h x ST "value" "[B" (.ref t)) (C : RoadKit.Fld Z h x ST "coder" "B" (.int cd)) (K : RoadKit.Arv Z h t kb .byte N2 vs (.int 0)) (hc : CodA cs cd N2 vs) (hb : ∀ c ∈ cs, ¬ c < 0 ∧ ¬ (65535 : Int32) < c)
    (S : RoadKit.Sta Z h ST "COMPACT_STRINGS" "Z" (.int z)) (hz : ¬ z = 0) (l2 : cs.length ≤ 4000) (hfr : 2 ≤ R.frames) (hlo : W + 25 ≤ R.locals) :
    Back l R p e below s args (⟨"java/lang/String", "length", "()I"⟩ : MethodName) len W (fun P a => a = #[.ref x] ∧ P.U.heap = h ∧ P.cells + 0 ≤ R.cells ∧ P.slots + 0 ≤ R.slots)
      (fun P _ v B => ∃ L, (v = some (.int (Int32.ofNat cs.length)) ∧ L = [] ∧ B.U.heap = h) ∧ B.locs = P.locs ++ L ∧ B.cells = P.cells + 0 ∧ B.slots = P.slots + 0) := by
  obtain ⟨A, K1, K2, K3, K4, K5, K6⟩ := K
  have hcod := hc.cod (by omega) K3 K5
  intro m meth c P g ig mk a X hg hsize hdg hW hn hp'
  obtain ⟨rfl, rfl, r1, r2⟩ := hp'
  have al : Z.vm.Alike P.U.vm := hZ.alike.trans X.warmed.alike
  obtain ⟨D, fV, fC, hB, F1, F2, g1, g2, -, -⟩ := strObj wi al E V C
  have hx : Txt x t A cd cs.length (fun j => cs.getD j 0) P.U := ⟨⟨_, hB.2.2.1, D, hB.1, rfl, by cases q : D.vm <;> first | rfl | exact absurd q (hB.2.1.2 _)⟩, Has.of hB F1 g1, Has.of hB F2 g2, ⟨K1.1, State.isArrayOf_alike al K1.2.1, K1.2.2, by rcases hcod with ⟨-, q, -⟩ | ⟨-, q, -⟩ <;> omega⟩, hcod, fun j hj => by
    have e : cs.getD j 0 = cs[j] := by simp [List.getD_eq_getElem?_getD, hj]
    show ¬ cs.getD j 0 < 0 ∧ ¬ 65535 < cs.getD j 0
    rw [e]; exact hb _ (List.getElem_mem _)⟩
  obtain ⟨v, B, X', ⟨⟨hv, hh⟩, hl, hk, hs⟩, st⟩ := Len.pays x t A cd cs.length (fun j => cs.getD j 0) z (tabLen_of (movedLen hZ hw)) hfr hlo m meth c P g ig mk _ X hg hsize hdg hW hn ⟨r1, r2, rfl, hx, sta_is al S, hz⟩
  exact ⟨v, B, X', ⟨[], ⟨hv, rfl, hh⟩, hl, hk, hs⟩, st⟩
end StrChars.Road
namespace StrChars
open Jvm Sem ClassFile Op Lib Jvm.Stand Jvm.Free.XT Jvm.Free.ALB Jvm.Free.JM Jvm.Free
open Jvm.Lib.Cold (StaticIs)
namespace Emp
def yN : MethodName := ⟨"java/lang/String", "isEmpty", "()Z"⟩
abbrev yB : ByteArray := jdk_42_method_55_code
theorem d0 : decode yB 0 = .ok (.aload_n 0, 1) := by decide +kernel
theorem d1 : decode yB 1 = .ok (.getfield 9, 3) := by decide +kernel
theorem d4 : decode yB 4 = .ok (.arraylength, 1) := by decide +kernel
theorem d5 : decode yB 5 = .ok (.ifCond (.ne) 7, 3) := by decide +kernel
theorem d8 : decode yB 8 = .ok (.iconst 1, 1) := by decide +kernel
theorem d9 : decode yB 9 = .ok (.goto 4, 3) := by decide +kernel
theorem d12 : decode yB 12 = .ok (.iconst 0, 1) := by decide +kernel
theorem d13 : decode yB 13 = .ok (.ireturn, 1) := by decide +kernel
def site : List Cond := [.fieldLink "java/lang/String" 9 "java/lang/String" "value" "[B"]
def tab : Cond := tabOf yN yB 1 (some .boolean) site
def P (x t : Addr) (V : Cell) (cd : Int32) (n : Nat) (f : Nat → Int32) (args : Array Value) (s : State) : Prop := args = #[.ref x] ∧ Txt x t V cd n f s
def E (n : Nat) (r : Option Value) (s u : State) : Prop := XT.PureE (some (.int (if n = 0 then 1 else 0))) r s u
/-- isEmpty() of a String of n chars -/
theorem law (l : Launch) (x t : Addr) (V : Cell) (cd : Int32) (n : Nat) (f : Nat → Int32) : Law l yN 1 0 0 0 yB 1 (some .boolean) site (P x t V cd n f) (E n) [] 0 0 := by
  refine Law.of_walk (plainFor_of_name (by decide +kernel)) (by decide +kernel) (by decide +kernel) (by decide) (fun _ _ h => by rw [h.1]; rfl) (fun _ U U' hal hh h => ⟨h.1, h.2.mv hal hh⟩) (fun r U U' V V' h1 hal h2 h => XT.PureE.mv r U U' V V' h1 hal h2 h) ?_
  intro p e s m args below meth c s₁ X0 hexec hbytes hml hret hlk hnm hown hh0 W hP
  obtain ⟨rfl, hx⟩ := hP
  have v31 := hx.2.2.2.1.2.2.2
  have c1 : Steps p.tables e below (s₁.setTop (entryFrame m #[.ref x] 1)) (s₁.setTop (mkF m 1 #[.val (.ref x)] [.ref x])) := Steps.trans (entry rfl) (by
    show Steps p.tables e below (s₁.setTop (mkF m 0 #[.val (.ref x)] [])) _
    refine XS.aloadN X0.here hexec rfl (hb hbytes d0) rfl rfl ?_
    exact Steps.refl _)
  obtain ⟨T2, X2, q2, st2⟩ := X0.hget hexec hown (wk W (.fieldLink "java/lang/String" 9 "java/lang/String" "value" "[B")) (hx.mv X0.warmed.alike hh0).2.1 (g := (mkF m 1 #[.val (.ref x)] [.ref x])) rfl (rest := []) rfl (hb hbytes d1)
  have hh2 := q2.trans hh0
  have hx2 := hx.mv X2.warmed.alike hh2
  have c3 : Steps p.tables e below (s₁.setTop (entryFrame m #[.ref x] 1)) (T2.setTop (mkF m 5 #[.val (.ref x)] [.int (Int32.ofNat V.slots.size)])) := (c1.trans (st2 _ (Steps.refl _))).trans (by
    refine X2.alen hexec hx2.2.2.2.1 rfl rfl (hb hbytes d4) ?_
    exact Steps.refl _)
  have hz : V.slots.size = 0 ↔ n = 0 := by
    rcases hx.2.2.2.2.1 with ⟨-, q, -⟩ | ⟨-, q, -⟩ <;> omega
  by_cases h0 : n = 0
  · have c4 : Steps p.tables e below (s₁.setTop (entryFrame m #[.ref x] 1)) (T2.setTop (mkF m 13 #[.val (.ref x)] [.int 1])) := c3.trans (by
      refine XS.ifNo X2.here hexec rfl (hb hbytes d5) rfl (i0_ne_f (by rw [hz.mpr h0]; rfl)) ?_
      refine iconstV X2.here hexec rfl 1 (hb hbytes d8) (by decide) ?_
      refine XS.goto X2.here hexec rfl (pc0 := 9) rfl (hb hbytes d9) (by decide) rfl ?_
      exact Steps.refl _)
    exact ⟨T2, some (.int 1), _, _, _, X2, rfl, rfl, rfl, (fun h => by cases h), ⟨by rw [if_pos h0], hh2⟩, fun fs hl => c4.trans (X2.ireturnOut hexec hret rfl (Or.inr (Or.inl rfl)) (hb hbytes d13) hl)⟩
  · have c4 : Steps p.tables e below (s₁.setTop (entryFrame m #[.ref x] 1)) (T2.setTop (mkF m 13 #[.val (.ref x)] [.int 0])) := c3.trans (by
      refine XS.ifYes X2.here hexec rfl (pc0 := 5) rfl (hb hbytes d5) rfl (i0_ne_t (nz32 v31 (by omega))) (by decide) rfl ?_
      refine iconstV X2.here hexec rfl 0 (hb hbytes d12) (by decide) ?_
      exact Steps.refl _)
    exact ⟨T2, some (.int 0), _, _, _, X2, rfl, rfl, rfl, (fun h => by cases h), ⟨by rw [if_neg h0], hh2⟩, fun fs hl => c4.trans (X2.ireturnOut hexec hret rfl (Or.inr (Or.inl rfl)) (hb hbytes d13) hl)⟩
theorem pays {l : Launch} {R : Room} {p : Program} {e : Env} {below : List Frame} {s : State} {sargs : Array Value} {len W : Nat} (x t : Addr) (V : Cell) (cd : Int32) (n : Nat) (f : Nat → Int32) (htab : tab.before sargs s = true) (hfr : 1 ≤ R.frames) (hlo : W + 12 ≤ R.locals) :
    Back l R p e below s sargs yN len W (fun A₁ a₁ => A₁.cells + 0 ≤ R.cells ∧ A₁.slots + 0 ≤ R.slots ∧ P x t V cd n f a₁ A₁.U) (fun A₁ _ v₁ B₁ => E n v₁ A₁.U B₁.U ∧ B₁.locs = A₁.locs ++ [] ∧ B₁.cells = A₁.cells + 0 ∧ B₁.slots = A₁.slots + 0) :=
  (law l x t V cd n f).pays htab hfr (by omega)
end Emp
end StrChars
namespace StrChars.Road
open Jvm Sem ClassFile Op Lib Jvm.Stand Jvm.Free Jvm.Free.XT
open Jvm.Lib.Cold (StaticIs)
/-- the words of String.isEmpty() -/
abbrev wordsEmp : List Jvm.Cond := [.code Emp.yN Emp.yB 1 (some .boolean), .initialized ST, .fieldLink ST 9 ST "value" "[B"]
theorem tabEmp_of {a : Array Value} {s : State} (h : ∀ w ∈ wordsEmp, w.before a s = true) : Emp.tab.before a s = true := unparts (wk h (.code Emp.yN Emp.yB 1 (some .boolean))) (wks h (.initialized Emp.yN.cls :: Emp.site))
theorem movedEmp {Z s : State} {a0 args : Array Value} (hZ : Z.Warmed39 s.vm) (hw : ∀ d ∈ wordsEmp, d.before a0 Z = true) : ∀ d ∈ wordsEmp, d.before args s = true := fun d hd => by
  have t : ∀ d ∈ wordsEmp, (d.onTables && d.keepsFace) = true := by decide +kernel
  exact RoadKit.mv hZ (hw d hd) (t d hd)
/-- the road's facts of a String, as the laws ask it -/
theorem txt_of {Z U : State} {a0 : Array Value} {kI : Nat} (wi : (Jvm.Cond.instantiable ST kI).before a0 Z = true) (al : Z.vm.Alike U.vm) {x t : Addr} {kb : ClassId} {cs : List Int32} {cd N2 : Int32} {vs : List Value} (E : RoadKit.Exa Z U.heap x ST) (V : RoadKit.Fld Z U.heap x ST "value" "[B" (.ref t)) (C : RoadKit.Fld Z U.heap x ST "coder" "B" (.int cd)) (K : RoadKit.Arv Z U.heap t kb .byte N2 vs (.int 0)) (hc : CodA cs cd N2 vs) (hb : ∀ c ∈ cs, ¬ c < 0 ∧ ¬ (65535 : Int32) < c) (l2 : cs.length ≤ 4000) :
    ∃ A, Txt x t A cd cs.length (fun j => cs.getD j 0) U := by
  obtain ⟨A, K1, K2, K3, K4, K5, K6⟩ := K
  have hcod := hc.cod (by omega) K3 K5
  obtain ⟨D, fV, fC, hB, F1, F2, g1, g2, -, -⟩ := strObj wi al E V C
  exact ⟨A, ⟨_, hB.2.2.1, D, hB.1, rfl, by cases q : D.vm <;> first | rfl | exact absurd q (hB.2.1.2 _)⟩, Has.of hB F1 g1, Has.of hB F2 g2, ⟨K1.1, State.isArrayOf_alike al K1.2.1, K1.2.2, by rcases hcod with ⟨-, q, -⟩ | ⟨-, q, -⟩ <;> omega⟩, hcod, fun j hj => by
    have e : cs.getD j 0 = cs[j] := by simp [List.getD_eq_getElem?_getD, hj]
    show ¬ cs.getD j 0 < 0 ∧ ¬ 65535 < cs.getD j 0
    rw [e]; exact hb _ (List.getElem_mem _)⟩
/-- **isEmpty() OF SUCH A STRING** -/
theorem empW {p : Program} {l : Launch} {e : Env} {R : Room} {s : State} {args : Array Value} {below : List Frame} {len W : Nat} {Z : State} {a0 : Array Value} {h : Heap} (hZ : Z.Warmed39 s.vm) (hw : ∀ d ∈ wordsEmp, d.before a0 Z = true) {kI : Nat} (wi : (Jvm.Cond.instantiable ST kI).before a0 Z = true)
    {x t : Addr} {kb : ClassId} {cs : List Int32} {cd N2 : Int32} {vs : List Value} (E : RoadKit.Exa Z h x ST) (V : RoadKit.Fld Z h x ST "value" "[B" (.ref t)) (C : RoadKit.Fld Z h x ST "coder" "B" (.int cd)) (K : RoadKit.Arv Z h t kb .byte N2 vs (.int 0)) (hc : CodA cs cd N2 vs) (hb : ∀ c ∈ cs, ¬ c < 0 ∧ ¬ (65535 : Int32) < c) (l2 : cs.length ≤ 4000) (hfr : 1 ≤ R.frames) (hlo : W + 12 ≤ R.locals) :
    Back l R p e below s args (⟨"java/lang/String", "isEmpty", "()Z"⟩ : MethodName) len W (fun P a => a = #[.ref x] ∧ P.U.heap = h ∧ P.cells + 0 ≤ R.cells ∧ P.slots + 0 ≤ R.slots)
      (fun P _ v B => ∃ L, (v = some (.int (if cs.length = 0 then 1 else 0)) ∧ L = [] ∧ B.U.heap = h) ∧ B.locs = P.locs ++ L ∧ B.cells = P.cells + 0 ∧ B.slots = P.slots + 0) := by
  intro m meth c P g ig mk a X hg hsize hdg hW hn hp'
  obtain ⟨rfl, rfl, r1, r2⟩ := hp'
  have al : Z.vm.Alike P.U.vm := hZ.alike.trans X.warmed.alike
  obtain ⟨A, hx⟩ := txt_of wi al E V C K hc hb l2
  obtain ⟨v, B, X', ⟨⟨hv, hh⟩, hl, hk, hs⟩, st⟩ := Emp.pays x t A cd cs.length (fun j => cs.getD j 0) (tabEmp_of (movedEmp hZ hw)) hfr hlo m meth c P g ig mk _ X hg hsize hdg hW hn ⟨r1, r2, rfl, hx⟩
  exact ⟨v, B, X', ⟨[], ⟨hv, rfl, hh⟩, hl, hk, hs⟩, st⟩
end StrChars.Road
namespace StrChars.Road
open Jvm Sem ClassFile Op Lib Jvm.Stand Jvm.Free Jvm.Free.XT
open Jvm.Lib.Cold (StaticIs)
/-- what backV says of its String, as the contracts of this text ask it: cs's low bytes, coder 0 -/
theorem codOf {cs : List Int32} {n : Nat} (hn : cs.length = n) (hb : ∀ c ∈ cs, ¬ 255 < c) : CodA cs 0 (Int32.ofNat n) ((cs.map lo8).map Value.int) := Or.inl ⟨rfl, by rw [hn], by simp [List.map_map, Function.comp_def], hb⟩
end StrChars.Road
end Jvm.Pilot.@@N@@
namespace Jvm.Pilot.@@N@@
open Jvm Jvm.ClassFile Sem Op Lib Jvm.Free Jvm.Stand Jvm.LawKit Jvm.RoadKit Bundle Jvm.Own Jvm.Pilot.@@N@@.Jvm.D
theorem own_EL {Z : State} {a0 : Array Value} (hw : ∀ d ∈ tables_1, d.before a0 Z = true) : EW Z a0 consts_1 := (EW.cons (hw _ (List.mem_of_getElem? (i := 4) rfl)) (by decide) EW.nil)
theorem own_wS {Z : State} {a0 : Array Value} (hw : ∀ d ∈ tables_1, d.before a0 Z = true) : ∀ d ∈ Bundle.stringAtoms, d.before a0 Z = true := fun d hd => hw d ((by decide +kernel : ∀ d ∈ Bundle.stringAtoms, d ∈ tables_1) d hd)
theorem own_hLen {Z : State} {a0 : Array Value} (hw : ∀ d ∈ tables_1, d.before a0 Z = true) : ∀ d ∈ StrChars.Road.wordsLen, d.before a0 Z = true := fun d hd => hw d ((by decide +kernel : ∀ d ∈ StrChars.Road.wordsLen, d ∈ tables_1) d hd)
theorem own_hEmp {Z : State} {a0 : Array Value} (hw : ∀ d ∈ tables_1, d.before a0 Z = true) : ∀ d ∈ StrChars.Road.wordsEmp, d.before a0 Z = true := fun d hd => hw d ((by decide +kernel : ∀ d ∈ StrChars.Road.wordsEmp, d ∈ tables_1) d hd)
/-- the first place of c in a list, counted from i; -1 where there is none -/
def fix (c : Int32) : List Int32 → Nat → Int32
  | [], _ => -1
  | d :: ds, i => if d = c then Int32.ofNat i else fix c ds (i + 1)
theorem drop_at {cs : List Int32} {i : Nat} (h : i < cs.length) : cs.drop i = cs.getD i 0 :: cs.drop (i + 1) := by
  rw [List.drop_eq_getElem_cons h]; simp [List.getD_eq_getElem?_getD, h]
theorem fix_here {cs : List Int32} {c : Int32} {i : Nat} (h : i < cs.length) (e : cs.getD i 0 = c) : fix c (cs.drop i) i = Int32.ofNat i := by rw [drop_at h, fix, if_pos e]
theorem fix_next {cs : List Int32} {c : Int32} {i : Nat} (h : i < cs.length) (e : ¬ cs.getD i 0 = c) : fix c (cs.drop i) i = fix c (cs.drop (i + 1)) (i + 1) := by rw [drop_at h, fix, if_neg e]
theorem fix_end {cs : List Int32} {c : Int32} {i : Nat} (h : i + 0 = cs.length) : fix c (cs.drop i) i = -1 := by rw [List.drop_of_length_le (by omega)]; rfl
/-- the last place of c among the first n -/
def lix (c : Int32) (cs : List Int32) : Nat → Int32
  | 0 => -1
  | n + 1 => if cs.getD n 0 = c then Int32.ofNat n else lix c cs n
theorem lat_at {cs : List Int32} {i : Nat} (h : i < cs.length) : ((cs.map fun c => c.toInt8.toInt32).map Value.int)[i]? = some (.int (cs.getD i 0).toInt8.toInt32) := by
  simp [List.getD_eq_getElem?_getD, h]
theorem lat_all {cs : List Int32} (hl : ∀ c ∈ cs, Lt8 c) {i : Nat} (h : i < cs.length) : Lt8 (cs.getD i 0) := by
  have e : cs.getD i 0 = cs[i] := by simp [List.getD_eq_getElem?_getD, h]
  rw [e]; exact hl _ (List.getElem_mem h)
theorem lo8_inj {x y : Int32} (hx : Lt8 x) (hy : Lt8 y) (h : x.toInt8.toInt32 = y.toInt8.toInt32) : x = y := by
  have a := StrChars.lo8_mask hx.1 hx.2
  have b := StrChars.lo8_mask hy.1 hy.2
  have e : StrChars.lo8 x = StrChars.lo8 y := h
  rw [e] at a; exact a.symm.trans b
theorem lt_ofNat {i n : Nat} (h : i < n) (hn : n ≤ 4000) : Int32.ofNat i < Int32.ofNat n := by
  have e1 : (Int32.ofNat i).toInt = i := Int32.toInt_ofNat_of_lt (by omega)
  have e2 : (Int32.ofNat n).toInt = n := Int32.toInt_ofNat_of_lt (by omega)
  rw [Int32.lt_iff_toInt_lt, e1, e2]; omega
theorem not_lt_ofNat {i n : Nat} (h : n ≤ i) (hn : i ≤ 4000) : ¬ Int32.ofNat i < Int32.ofNat n := by
  have e1 : (Int32.ofNat i).toInt = i := Int32.toInt_ofNat_of_lt (by omega)
  have e2 : (Int32.ofNat n).toInt = n := Int32.toInt_ofNat_of_lt (by omega)
  rw [Int32.lt_iff_toInt_lt, e1, e2]; omega
theorem ofNat_succ (i : Nat) : Int32.ofNat i + 1 = Int32.ofNat (i + 1) := by rw [Int32.ofNat_add]; rfl
theorem ofNat_pred (i : Nat) : Int32.ofNat (i + 1) - 1 = Int32.ofNat i := by rw [← ofNat_succ, Int32.add_sub_cancel]
theorem ofNat_dec (i : Nat) : Int32.ofNat i + (-1) = Int32.ofNat i - 1 := by rw [Int32.sub_eq_add_neg]
theorem fix_none {c : Int32} {cs : List Int32} (h : ¬ (0 : Int32) < Int32.ofNat cs.length) (hn : cs.length ≤ 4000) : fix c cs 0 = -1 := by
  cases cs with
  | nil => rfl
  | cons d ds => exact absurd (lt_ofNat (i := 0) (n := (d :: ds).length) (by simp) hn) h

theorem shl1 : ∀ i < 64, Int32.ofNat i <<< ((1 : Int32) &&& 31) = Int32.ofNat (2 * i) := by decide +kernel
theorem nbl_lt : ∀ i < 64, Int32.ofNat i < 1073741823 := by decide +kernel
theorem cod0 : ∀ i < 64, (Jvm.Free.XT.ushr (Int32.ofNat i - Int32.ofNat i) 31).toInt8.toInt32 = 0 := by decide +kernel
theorem cod1 : ∀ i < 64, 0 < i → (Jvm.Free.XT.ushr (Int32.ofNat i - Int32.ofNat (2 * i)) 31).toInt8.toInt32 = 1 := by decide +kernel
theorem nar_b (x : Int32) : nar .byte x.toInt8.toInt32 = x.toInt8.toInt32 := by simp [nar]
theorem getch {c : Int32} (h : Lt16 c) : (((StrChars.lo8 c &&& 255) <<< ((0 : Int32) &&& 31)) ||| ((StrChars.hi8 c &&& 255) <<< ((8 : Int32) &&& 31))).toUInt32.toUInt16.toUInt32.toInt32 = c := StrChars.pair_says h.1 h.2
theorem ofNat_ne {i n : Nat} (h : i < n) (hn : n ≤ 4000) : ¬ Int32.ofNat i = Int32.ofNat n := fun q => by
  have e1 : (Int32.ofNat i).toInt = i := Int32.toInt_ofNat_of_lt (by omega)
  have e2 : (Int32.ofNat n).toInt = n := Int32.toInt_ofNat_of_lt (by omega)
  rw [q, e2] at e1; omega
/-- the bytes while compress runs: the first i chars' low bytes, then noughts -/
def midL : List Int32 → Nat → List Value
  | [], _ => []
  | _ :: cs, 0 => .int 0 :: midL cs 0
  | c :: cs, i + 1 => .int c.toInt8.toInt32 :: midL cs i
theorem midL_len : ∀ (cs : List Int32) (i : Nat), (midL cs i).length = cs.length
  | [], _ => rfl
  | _ :: cs, 0 => congrArg (· + 1) (midL_len cs 0)
  | _ :: cs, i + 1 => congrArg (· + 1) (midL_len cs i)
theorem midL_set : ∀ (cs : List Int32) (i : Nat), i < cs.length → (midL cs i).set i (.int (cs.getD i 0).toInt8.toInt32) = midL cs (i + 1)
  | [], _, h => absurd h (Nat.not_lt_zero _)
  | _ :: _, 0, _ => rfl
  | c :: cs, i + 1, h => congrArg (Value.int c.toInt8.toInt32 :: ·) (midL_set cs i (Nat.lt_of_succ_lt_succ h))
theorem midL_zero : ∀ (cs : List Int32), midL cs 0 = List.replicate cs.length (.int 0)
  | [] => rfl
  | _ :: cs => congrArg (Value.int 0 :: ·) (midL_zero cs)
theorem midL_full : ∀ (cs : List Int32), midL cs cs.length = (cs.map fun c => c.toInt8.toInt32).map Value.int
  | [] => rfl
  | c :: cs => congrArg (Value.int c.toInt8.toInt32 :: ·) (midL_full cs)
def midW : List Int32 → Nat → List Value
  | [], _ => []
  | _ :: cs, 0 => .int 0 :: .int 0 :: midW cs 0
  | c :: cs, i + 1 => .int (StrChars.lo8 c) :: .int (StrChars.hi8 c) :: midW cs i
theorem midW_len : ∀ (cs : List Int32) (i : Nat), (midW cs i).length = 2 * cs.length
  | [], _ => rfl
  | _ :: cs, 0 => by have := midW_len cs 0; simp only [midW, List.length_cons]; omega
  | _ :: cs, i + 1 => by have := midW_len cs i; simp only [midW, List.length_cons]; omega
theorem midW_set : ∀ (cs : List Int32) (i : Nat), i < cs.length → ((midW cs i).set (2 * i) (.int (StrChars.lo8 (cs.getD i 0)))).set (2 * i + 1) (.int (StrChars.hi8 (cs.getD i 0))) = midW cs (i + 1)
  | [], _, h => absurd h (Nat.not_lt_zero _)
  | _ :: _, 0, _ => rfl
  | c :: cs, i + 1, h => congrArg (fun t => Value.int (StrChars.lo8 c) :: Value.int (StrChars.hi8 c) :: t) (midW_set cs i (Nat.lt_of_succ_lt_succ h))
theorem midW_zero : ∀ (cs : List Int32), midW cs 0 = List.replicate (2 * cs.length) (.int 0)
  | [] => rfl
  | _ :: cs => congrArg (fun t => Value.int 0 :: Value.int 0 :: t) (midW_zero cs)
theorem midW_full : ∀ (cs : List Int32), midW cs cs.length = StrChars.Road.wideBytes cs
  | [] => rfl
  | c :: cs => congrArg (fun t => Value.int (StrChars.lo8 c) :: Value.int (StrChars.hi8 c) :: t) (midW_full cs)
theorem wide_len (cs : List Int32) : (StrChars.Road.wideBytes cs).length = 2 * cs.length := by rw [← midW_full, midW_len]
theorem wide_at : ∀ (cs : List Int32) (i : Nat), i < cs.length → (StrChars.Road.wideBytes cs)[2 * i]? = some (.int (StrChars.lo8 (cs.getD i 0))) ∧ (StrChars.Road.wideBytes cs)[2 * i + 1]? = some (.int (StrChars.hi8 (cs.getD i 0)))
  | [], _, h => absurd h (Nat.not_lt_zero _)
  | _ :: _, 0, _ => ⟨rfl, rfl⟩
  | _ :: cs, i + 1, h => wide_at cs i (Nat.lt_of_succ_lt_succ h)
theorem chr_at {cs : List Int32} {i : Nat} (h : i < cs.length) : (cs.map Value.int)[i]? = some (.int (cs.getD i 0)) := by simp [List.getD_eq_getElem?_getD, h]
theorem chr_all {cs : List Int32} (hl : ∀ c ∈ cs, Lt16 c) {i : Nat} (h : i < cs.length) : Lt16 (cs.getD i 0) := by
  have e : cs.getD i 0 = cs[i] := by simp [List.getD_eq_getElem?_getD, h]
  rw [e]; exact hl _ (List.getElem_mem h)
theorem lat_of {cs : List Int32} {i : Nat} (hi : i + 0 = cs.length) (hb : ∀ j, j < i → Lt8 (cs.getD j 0)) : ∀ c ∈ cs, Lt8 c := fun c hc => by
  obtain ⟨j, hj, rfl⟩ := List.getElem_of_mem hc
  have e : cs.getD j 0 = cs[j] := by simp [List.getD_eq_getElem?_getD, hj]
  rw [← e]; exact hb j (by omega)
theorem big_mem {cs : List Int32} {k : Nat} (hk : k < cs.length) (h : 255 < cs.getD k 0) : ∃ c ∈ cs, 255 < c := ⟨cs[k], List.getElem_mem hk, by have e : cs.getD k 0 = cs[k] := by simp [List.getD_eq_getElem?_getD, hk]
                                                                                                                                                rwa [e] at h⟩
/-- x is a String of these chars -/
def Su (Z : State) (h : Heap) (x : Addr) (cs : List Int32) : Prop := cs.length ≤ 4000 ∧ (∀ c ∈ cs, Lt16 c) ∧ Exa Z h x "java/lang/String" ∧ ∃ (t : Addr) (kb : ClassId) (cd N2 : Int32) (vs : List Value), Fld Z h x "java/lang/String" "value" "[B" (.ref t) ∧ Fld Z h x "java/lang/String" "coder" "B" (.int cd) ∧ Arv Z h t kb .byte N2 vs (.int 0) ∧ StrChars.Road.CodA cs cd N2 vs
theorem Su.ext {Z : State} {h h' : Heap} {x : Addr} {cs : List Int32} (F : Su Z h x cs) (E : Ext h h') : Su Z h' x cs := by obtain ⟨a, b, c, t, kb, cd, N2, vs, d, e, f, g⟩ := F; exact ⟨a, b, c.ext E, t, kb, cd, N2, vs, d.ext E, e.ext E, f.ext E, g⟩
theorem Su.lt {Z : State} {h : Heap} {x : Addr} {cs : List Int32} (F : Su Z h x cs) : x < h.size := F.2.2.1.lt
theorem Su.exa {Z : State} {h : Heap} {x : Addr} {cs : List Int32} (F : Su Z h x cs) : Exa Z h x "java/lang/String" := F.2.2.1
theorem Su.keepO {Z : State} {a0 : Array Value} {h h' : Heap} {x a : Addr} {cs : List Int32} {C : String} {kk : Nat} (F : Su Z h x cs) (K : Keep h h' [a]) (q : x ≠ a) (E : Exa Z h a C) (wi : (Cond.instantiable C kk).before a0 Z = true) : Su Z h' x cs := by
  obtain ⟨a, b, c, t, kb, cd, N2, vs, d, e, f, g⟩ := F
  exact ⟨a, b, c.keep K, t, kb, cd, N2, vs, d.keep K (not1 q), e.keep K (not1 q), f.keep K (not1 (Exa.neArv E f wi).symm), g⟩
theorem Sg.su {Z : State} {h : Heap} {x : Addr} {cs : List Int32} (F : Sg Z h x cs) : Su Z h x cs := by
  obtain ⟨a, b, c, t, kb, d, e, f⟩ := F
  exact ⟨a, fun c hc => (b c hc).chr, c, t, kb, 0, _, _, d, e, f, StrChars.Road.codOf rfl fun c hc => (b c hc).2⟩
theorem su_of {Z : State} {h : Heap} {x t : Addr} {cs : List Int32} (hn : cs.length ≤ 2000) (hl : ∀ c ∈ cs, Lt16 c) (X : Exa Z h x "java/lang/String") (V : Fld Z h x "java/lang/String" "value" "[B" (.ref t)) (C : Fld Z h x "java/lang/String" "coder" "B" (.int 1)) (A : Ar Z h t .byte (StrChars.Road.wideBytes cs)) (hb : ∃ c ∈ cs, 255 < c) : Su Z h x cs := by
  obtain ⟨kC, A⟩ := A.arv (.int 0)
  rw [wide_len] at A
  exact ⟨by omega, hl, X, t, kC, 1, _, _, V, C, A, Or.inr ⟨rfl, rfl, rfl, hb⟩⟩
theorem sg_of {Z : State} {h : Heap} {x t : Addr} {cs : List Int32} (hn : cs.length ≤ 2000) (hl : ∀ c ∈ cs, Lt8 c) (X : Exa Z h x "java/lang/String") (V : Fld Z h x "java/lang/String" "value" "[B" (.ref t)) (C : Fld Z h x "java/lang/String" "coder" "B" (.int 0)) (A : Ar Z h t .byte ((cs.map fun c => c.toInt8.toInt32).map Value.int)) : Sg Z h x cs := by
  obtain ⟨kC, A⟩ := A.arv (.int 0)
  rw [List.length_map, List.length_map] at A
  exact ⟨by omega, hl, X, t, kC, V, C, A⟩
theorem sta_eq {args : Array Value} {first s : State} {o : Option Outcome} {idx : List Nat} {t : Term} {k : Int32} (h : (Cond.eq t (Term.int k)).value args first o s idx = some true) : t.eval args first o idx s = some (.int k) := by
  obtain ⟨x, y, ex, ey, hk, -⟩ := cmp_v (Or.inl h)
  have e2 : y = .int k := Option.some.inj (ey.symm.trans (Term.int_eval k))
  subst e2
  cases x with
  | int z =>
    have q : (Cond.eq t (Term.int k)).value args first o s idx = some (decide (z = k)) := by simp [Cond.value, ex, ey]
    rw [ex, gotT q h]
  | _ => simp [Kin, Value.isRef] at hk
theorem e0_0 : decode jdk_52_method_21_code 0 = .ok (.iconst 0, 1) := by decide +kernel
theorem e0_1 : decode jdk_52_method_21_code 1 = .ok (.istore 5, 2) := by decide +kernel
theorem e0_3 : decode jdk_52_method_21_code 3 = .ok (.iload 5, 2) := by decide +kernel
theorem e0_5 : decode jdk_52_method_21_code 5 = .ok (.iload 4, 2) := by decide +kernel
theorem e0_7 : decode jdk_52_method_21_code 7 = .ok (.if_icmp .ge 37, 3) := by decide +kernel
theorem e0_10 : decode jdk_52_method_21_code 10 = .ok (.aload_n 0, 1) := by decide +kernel
theorem e0_11 : decode jdk_52_method_21_code 11 = .ok (.iload_n 1, 1) := by decide +kernel
theorem e0_12 : decode jdk_52_method_21_code 12 = .ok (.caload, 1) := by decide +kernel
theorem e0_13 : decode jdk_52_method_21_code 13 = .ok (.istore 6, 2) := by decide +kernel
theorem e0_15 : decode jdk_52_method_21_code 15 = .ok (.iload 6, 2) := by decide +kernel
theorem e0_17 : decode jdk_52_method_21_code 17 = .ok (.sipush 255, 3) := by decide +kernel
theorem e0_20 : decode jdk_52_method_21_code 20 = .ok (.if_icmp .le 6, 3) := by decide +kernel
theorem e0_23 : decode jdk_52_method_21_code 23 = .ok (.iload 5, 2) := by decide +kernel
theorem e0_25 : decode jdk_52_method_21_code 25 = .ok (.ireturn, 1) := by decide +kernel
theorem e0_26 : decode jdk_52_method_21_code 26 = .ok (.aload_n 2, 1) := by decide +kernel
theorem e0_27 : decode jdk_52_method_21_code 27 = .ok (.iload_n 3, 1) := by decide +kernel
theorem e0_28 : decode jdk_52_method_21_code 28 = .ok (.iload 6, 2) := by decide +kernel
theorem e0_30 : decode jdk_52_method_21_code 30 = .ok (.i2b, 1) := by decide +kernel
theorem e0_31 : decode jdk_52_method_21_code 31 = .ok (.bastore, 1) := by decide +kernel
theorem e0_32 : decode jdk_52_method_21_code 32 = .ok (.iinc 1 1, 3) := by decide +kernel
theorem e0_35 : decode jdk_52_method_21_code 35 = .ok (.iinc 3 1, 3) := by decide +kernel
theorem e0_38 : decode jdk_52_method_21_code 38 = .ok (.iinc 5 1, 3) := by decide +kernel
theorem e0_41 : decode jdk_52_method_21_code 41 = .ok (.goto (-38), 3) := by decide +kernel
theorem e0_44 : decode jdk_52_method_21_code 44 = .ok (.iload 4, 2) := by decide +kernel
theorem e0_46 : decode jdk_52_method_21_code 46 = .ok (.ireturn, 1) := by decide +kernel
theorem pn0 : plainName "java/lang/StringUTF16" = true := by first | (simp [plainName, overriddenIn]; done) | decide +kernel
set_option maxRecDepth 65536 in
set_option maxHeartbeats 40000000 in
theorem con_cmpI (l : Launch) (Z : State) (a0 : Array Value) (hw : ∀ d ∈ tables_1, d.before a0 Z = true) (a t : Addr) (cs : List Int32) (h0 : Heap) (O0 : Ext Z.heap h0) (A_a : Ar Z h0 a .char (cs.map Value.int)) (A_t : Ar Z h0 t .byte (List.replicate cs.length (.int 0))) (n_t : Z.heap.size ≤ t) (ne_a_t : a ≠ t) (hl : ∀ c ∈ cs, Lt16 c) (hn : cs.length ≤ 20) :
    Con l Z consts_1 false (⟨"java/lang/StringUTF16", "compress", "([CI[BII)I"⟩ : MethodName) jdk_52_method_21_code 7 (some .int) [] ({ frames := 0, cells := 0, slots := 0, locals := 0 } : Room) #[(.ref a), (.int (0 : Int32)), (.ref t), (.int (0 : Int32)), (.int (Int32.ofNat cs.length))] [t] h0 (fun v h => (v = some (.int (Int32.ofNat cs.length)) ∧ (∀ c ∈ cs, Lt8 c) ∧ Keep h0 h [t] ∧ Ar Z h t .byte ((cs.map fun c => c.toInt8.toInt32).map Value.int)) ∨ (∃ k, k < cs.length ∧ v = some (.int (Int32.ofNat k)) ∧ 255 < cs.getD k 0 ∧ Keep h0 h [t])) := by
  refine Con.intro (Ls := #[.val (.ref a), .val (.int (0 : Int32)), .val (.ref t), .val (.int (0 : Int32)), .val (.int (Int32.ofNat cs.length)), .unset, .unset]) (plainFor_of_name pn0) (own_EL hw) O0 (fun m => by first | (simp [entryFrame, mkF, argsToLocals, Value.category]; done) | rfl) (fun p e s m below meth cc_ T w sf_ => ?_)
  have K0 := Keep.refl h0 [t]
  have s_t := sf_ t (List.mem_singleton.mpr rfl)
  rw [← midL_zero] at A_t
  refine g_iconst w e0_0 (q := 1) rfl (v := (0 : Int32)) (by decide) ?_
  refine g_istore w e0_1 (q := 3) rfl (Ls' := #[.val (.ref a), .val (.int (0 : Int32)), .val (.ref t), .val (.int (0 : Int32)), .val (.int (Int32.ofNat cs.length)), .val (.int (0 : Int32)), .unset]) rfl ?_
  have LP : ∀ (r : Nat) (i : Nat) (l6 : Slot) (T : State) (vm : Vm) (h : Heap), (i + r = cs.length) → (l6 = .unset ∨ ∃ w, l6 = .val w ∧ w.category = 1) → (Keep h0 h [t]) → (Ar Z h a .char (cs.map Value.int)) → (Ar Z h t .byte (midL cs i)) → (Safe Z consts_1 vm h t) → (∀ j, j < i → Lt8 (cs.getD j 0)) → Wk p l e ({ frames := 0, cells := 0, slots := 0, locals := 0 } : Room) s m #[(.ref a), (.int (0 : Int32)), (.ref t), (.int (0 : Int32)), (.int (Int32.ofNat cs.length))] below meth cc_ Z a0 consts_1 false (⟨"java/lang/StringUTF16", "compress", "([CI[BII)I"⟩ : MethodName) jdk_52_method_21_code 7 (some .int) T vm h 0 0 → Go p e below (Fini Z consts_1 false ({ frames := 0, cells := 0, slots := 0, locals := 0 } : Room).cells ({ frames := 0, cells := 0, slots := 0, locals := 0 } : Room).slots (fun v h => (v = some (.int (Int32.ofNat cs.length)) ∧ (∀ c ∈ cs, Lt8 c) ∧ Keep h0 h [t] ∧ Ar Z h t .byte ((cs.map fun c => c.toInt8.toInt32).map Value.int)) ∨ (∃ k, k < cs.length ∧ v = some (.int (Int32.ofNat k)) ∧ 255 < cs.getD k 0 ∧ Keep h0 h [t])) s) (State.setTop T (mkF m 3 #[.val (.ref a), .val (.int (Int32.ofNat i)), .val (.ref t), .val (.int (Int32.ofNat i)), .val (.int (Int32.ofNat cs.length)), .val (.int (Int32.ofNat i)), l6] [])) := by
    intro r
    induction r with
    | zero =>
      intro i l6 T vm h hi hl6 K0 A_a A_t s_t hb  w
      refine g_iload w e0_3 (q := 5) rfl rfl ?_
      refine g_iload w e0_5 (q := 7) rfl rfl ?_
      refine g_icY w e0_7 (by decide) (q := 44) (by decide) (Jvm.Free.XT.ii_ge_t (not_lt_ofNat (by omega) (by omega))) ?_
      refine g_iload w e0_44 (q := 46) rfl rfl ?_
      exact g_reti w e0_46 rfl (by decide) (by decide) (Or.inl ⟨rfl, lat_of hi hb, K0, by rw [show i = cs.length from hi, midL_full] at A_t; exact A_t⟩)
    | succ r ih =>
      intro i l6 T vm h hi hl6 K0 A_a A_t s_t hb  w
      refine g_iload w e0_3 (q := 5) rfl rfl ?_
      refine g_iload w e0_5 (q := 7) rfl rfl ?_
      refine g_icN w e0_7 (q := 10) rfl (Jvm.Free.XT.ii_ge_f (lt_ofNat (by omega) (by omega))) ?_
      refine g_aloadN w e0_10 (q := 11) rfl rfl rfl ?_
      refine g_iloadN w e0_11 (q := 12) rfl rfl ?_
      refine g_caload w e0_12 (q := 13) rfl A_a (i := i) rfl (by simp; omega) (chr_at (by omega)) ?_
      refine g_istore w e0_13 (q := 15) rfl (Ls' := #[.val (.ref a), .val (.int (Int32.ofNat i)), .val (.ref t), .val (.int (Int32.ofNat i)), .val (.int (Int32.ofNat cs.length)), .val (.int (Int32.ofNat i)), .val (.int (cs.getD i 0))]) ((Jvm.Free.XS.store1 rfl hl6 rfl).trans rfl) ?_
      refine g_iload w e0_15 (q := 17) rfl rfl ?_
      refine g_sipush w e0_17 (q := 20) rfl (v := (255 : Int32)) (by decide) ?_
      refine g_ic_le w e0_20 (by decide) (q := 26) (by decide) (q' := 23) rfl (fun cd1 => ?_) (fun cd1 => ?_)
      · refine g_aloadN w e0_26 (q := 27) rfl rfl rfl ?_
        refine g_iloadN w e0_27 (q := 28) rfl rfl ?_
        refine g_iload w e0_28 (q := 30) rfl rfl ?_
        refine g_i2b w e0_30 (q := 31) rfl ?_
        have g_ := w.chv
        refine g_bastore w e0_31 (q := 32) rfl A_t (i := i) rfl (by rw [midL_len]; omega) (x' := (cs.getD i 0).toInt8.toInt32) (nar_b _) n_t s_t (fun T h w W V => ?_)
        replace K0 := K0.wr W (Or.inl (List.mem_singleton.mpr rfl))
        replace A_a := A_a.other W ne_a_t
        replace s_t := Safe.wr W s_t g_ s_t
        rw [midL_set _ _ (by omega)] at V
        replace A_t := V
        refine g_iinc w e0_32 (q := 35) rfl (v := (1 : Int32)) (by decide) rfl rfl ?_
        rw [ofNat_succ]
        show Go p e below _ (State.setTop T (mkF m 35 #[.val (.ref a), .val (.int (Int32.ofNat (i + 1))), .val (.ref t), .val (.int (Int32.ofNat i)), .val (.int (Int32.ofNat cs.length)), .val (.int (Int32.ofNat i)), .val (.int (cs.getD i 0))] []))
        refine g_iinc w e0_35 (q := 38) rfl (v := (1 : Int32)) (by decide) rfl rfl ?_
        rw [ofNat_succ]
        show Go p e below _ (State.setTop T (mkF m 38 #[.val (.ref a), .val (.int (Int32.ofNat (i + 1))), .val (.ref t), .val (.int (Int32.ofNat (i + 1))), .val (.int (Int32.ofNat cs.length)), .val (.int (Int32.ofNat i)), .val (.int (cs.getD i 0))] []))
        refine g_iinc w e0_38 (q := 41) rfl (v := (1 : Int32)) (by decide) rfl rfl ?_
        rw [ofNat_succ]
        show Go p e below _ (State.setTop T (mkF m 41 #[.val (.ref a), .val (.int (Int32.ofNat (i + 1))), .val (.ref t), .val (.int (Int32.ofNat (i + 1))), .val (.int (Int32.ofNat cs.length)), .val (.int (Int32.ofNat (i + 1))), .val (.int (cs.getD i 0))] []))
        refine g_goto w e0_41 (by decide) (q := 3) (by decide) ?_
        exact ih (i + 1) _ T _ _ (by omega) (Or.inr ⟨_, rfl, rfl⟩) K0 A_a A_t s_t (fun j q => by
            rcases Nat.lt_or_eq_of_le (Nat.le_of_lt_succ q) with q | q
            · exact hb j q
            · subst q; exact ⟨(chr_all hl (by omega)).1, cd1⟩) w
      · refine g_iload w e0_23 (q := 25) rfl rfl ?_
        exact g_reti w e0_25 rfl (by decide) (by decide) (Or.inr ⟨i, by omega, rfl, cd1, K0⟩)
  exact LP cs.length 0 _ T _ _ (by omega) (Or.inl rfl) K0 A_a A_t s_t (fun j q => absurd q (Nat.not_lt_zero j)) w
theorem e1_0 : decode jdk_52_method_3_code 0 = .ok (.iload_n 0, 1) := by decide +kernel
theorem e1_1 : decode jdk_52_method_3_code 1 = .ok (.ifCond .ge 11, 3) := by decide +kernel
theorem e1_4 : decode jdk_52_method_3_code 4 = .ok (.new 17, 3) := by decide +kernel
theorem e1_7 : decode jdk_52_method_3_code 7 = .ok (.dup, 1) := by decide +kernel
theorem e1_8 : decode jdk_52_method_3_code 8 = .ok (.invokespecial 19, 3) := by decide +kernel
theorem e1_11 : decode jdk_52_method_3_code 11 = .ok (.athrow, 1) := by decide +kernel
theorem e1_12 : decode jdk_52_method_3_code 12 = .ok (.iload_n 0, 1) := by decide +kernel
theorem e1_13 : decode jdk_52_method_3_code 13 = .ok (.ldc 20, 2) := by decide +kernel
theorem e1_15 : decode jdk_52_method_3_code 15 = .ok (.if_icmp .lt 40, 3) := by decide +kernel
theorem e1_18 : decode jdk_52_method_3_code 18 = .ok (.new 21, 3) := by decide +kernel
theorem e1_21 : decode jdk_52_method_3_code 21 = .ok (.dup, 1) := by decide +kernel
theorem e1_22 : decode jdk_52_method_3_code 22 = .ok (.new 23, 3) := by decide +kernel
theorem e1_25 : decode jdk_52_method_3_code 25 = .ok (.dup, 1) := by decide +kernel
theorem e1_26 : decode jdk_52_method_3_code 26 = .ok (.invokespecial 25, 3) := by decide +kernel
theorem e1_29 : decode jdk_52_method_3_code 29 = .ok (.ldc 26, 2) := by decide +kernel
theorem e1_31 : decode jdk_52_method_3_code 31 = .ok (.invokevirtual 28, 3) := by decide +kernel
theorem e1_34 : decode jdk_52_method_3_code 34 = .ok (.iload_n 0, 1) := by decide +kernel
theorem e1_35 : decode jdk_52_method_3_code 35 = .ok (.invokevirtual 32, 3) := by decide +kernel
theorem e1_38 : decode jdk_52_method_3_code 38 = .ok (.ldc 35, 2) := by decide +kernel
theorem e1_40 : decode jdk_52_method_3_code 40 = .ok (.invokevirtual 28, 3) := by decide +kernel
theorem e1_43 : decode jdk_52_method_3_code 43 = .ok (.ldc 20, 2) := by decide +kernel
theorem e1_45 : decode jdk_52_method_3_code 45 = .ok (.invokevirtual 32, 3) := by decide +kernel
theorem e1_48 : decode jdk_52_method_3_code 48 = .ok (.invokevirtual 37, 3) := by decide +kernel
theorem e1_51 : decode jdk_52_method_3_code 51 = .ok (.invokespecial 41, 3) := by decide +kernel
theorem e1_54 : decode jdk_52_method_3_code 54 = .ok (.athrow, 1) := by decide +kernel
theorem e1_55 : decode jdk_52_method_3_code 55 = .ok (.iload_n 0, 1) := by decide +kernel
theorem e1_56 : decode jdk_52_method_3_code 56 = .ok (.iconst 1, 1) := by decide +kernel
theorem e1_57 : decode jdk_52_method_3_code 57 = .ok (.ishl, 1) := by decide +kernel
theorem e1_58 : decode jdk_52_method_3_code 58 = .ok (.ireturn, 1) := by decide +kernel
set_option maxRecDepth 65536 in
set_option maxHeartbeats 40000000 in
theorem con_nbl (l : Launch) (Z : State) (a0 : Array Value) (hw : ∀ d ∈ tables_1, d.before a0 Z = true) (n_ : Nat) (h0 : Heap) (O0 : Ext Z.heap h0) (hn : n_ ≤ 20) :
    Con l Z consts_1 false (⟨"java/lang/StringUTF16", "newBytesLength", "(I)I"⟩ : MethodName) jdk_52_method_3_code 1 (some .int) [] ({ frames := 0, cells := 0, slots := 0, locals := 0 } : Room) #[(.int (Int32.ofNat n_))] [] h0 (fun v h => v = some (.int (Int32.ofNat (2 * n_))) ∧ h = h0) := by
  refine Con.intro (Ls := #[.val (.int (Int32.ofNat n_))]) (plainFor_of_name pn0) (own_EL hw) O0 (fun m => by first | (simp [entryFrame, mkF, argsToLocals, Value.category]; done) | rfl) (fun p e s m below meth cc_ T w sf_ => ?_)
  have E0 := ext_refl h0
  refine g_iloadN w e1_0 (q := 1) rfl rfl ?_
  refine g_ifY w e1_1 (by decide) (q := 12) (by decide) (Jvm.Free.XT.i0_ge_t (ofNat_nonneg (by omega))) ?_
  refine g_iloadN w e1_12 (q := 13) rfl rfl ?_
  refine g_ldcI w e1_13 (q := 15) rfl (v := (1073741823 : Int32)) (hw _ (List.mem_of_getElem? (i := 163) rfl)) ?_
  refine g_icY w e1_15 (by decide) (q := 55) (by decide) (Jvm.Free.XT.ii_lt_t (nbl_lt _ (by omega))) ?_
  refine g_iloadN w e1_55 (q := 56) rfl rfl ?_
  refine g_iconst w e1_56 (q := 57) rfl (v := (1 : Int32)) (by decide) ?_
  refine g_ishl w e1_57 (q := 58) rfl ?_
  rw [shl1 _ (by omega)]
  show Go p e below _ (State.setTop T (mkF m 58 #[.val (.int (Int32.ofNat n_))] [(.int (Int32.ofNat (2 * n_)))]))
  exact g_reti w e1_58 rfl (by decide) (by decide) ⟨rfl, rfl⟩
theorem e2_0 : decode jdk_52_method_2_code 0 = .ok (.iload_n 0, 1) := by decide +kernel
theorem e2_1 : decode jdk_52_method_2_code 1 = .ok (.invokestatic 11, 3) := by decide +kernel
theorem e2_4 : decode jdk_52_method_2_code 4 = .ok (.newarray .byte, 2) := by decide +kernel
theorem e2_6 : decode jdk_52_method_2_code 6 = .ok (.areturn, 1) := by decide +kernel
theorem pd0 : parseMethodDescriptor "(I)I" = some ⟨[.int], some .int⟩ := by decide +kernel
set_option maxRecDepth 65536 in
set_option maxHeartbeats 40000000 in
theorem con_nbf (l : Launch) (Z : State) (a0 : Array Value) (hw : ∀ d ∈ tables_1, d.before a0 Z = true) (n_ : Nat) (h0 : Heap) (O0 : Ext Z.heap h0) (hn : n_ ≤ 20) :
    ConS l Z consts_1 false (⟨"java/lang/StringUTF16", "newBytesFor", "(I)[B"⟩ : MethodName) jdk_52_method_2_code 1 (some (.array .byte)) [] ({ frames := 1, cells := 1, slots := 40, locals := 12 } : Room) #[(.int (Int32.ofNat n_))] [] h0 (fun v h => ∃ t, v = some (.ref t) ∧ Ext h0 h ∧ h0.size ≤ t ∧ Ar Z h t .byte (List.replicate (2 * n_) (.int 0))) := by
  refine ConS.intro (Ls := #[.val (.int (Int32.ofNat n_))]) (plainFor_of_name pn0) (own_EL hw) O0 (fun m => by first | (simp [entryFrame, mkF, argsToLocals, Value.category]; done) | rfl) (fun p e s m below meth cc_ T w sf_ => ?_)
  have E0 := ext_refl h0
  refine g_iloadN w e2_0 (q := 1) rfl rfl ?_
  refine g_staticP w (con_nbl l Z a0 hw n_ _ w.old hn) no0 e2_1 (q := 4) rfl rfl (hw _ (List.mem_of_getElem? (i := 160) rfl)) (hw _ (List.mem_of_getElem? (i := 161) rfl)) (hw _ (List.mem_of_getElem? (i := 78) rfl)) (hw _ (List.mem_of_getElem? (i := 162) rfl)) (by decide) pd0 rfl rfl (W := 0) (Nat.le_of_eq rfl) (by decide) (by decide) (by decide) (by decide) (fun T v w C q => ?_)
  obtain rfl := q
  show Go p e below _ (State.setTop T (mkF m 4 #[.val (.int (Int32.ofNat n_))] [(.int (Int32.ofNat (2 * n_)))]))
  refine g_newarr w e2_4 (q := 6) rfl (hw _ (List.mem_of_getElem? (i := 7) rfl)) (len := 2 * n_) (cap := 40) rfl (by omega) (by decide) (by decide) (by decide) (fun T h t w E g_t n_t A_t s_t => ?_)
  replace E0 := ext_trans E0 E
  exact g_retaS w e2_6 rfl rfl (by decide) (by decide) A_t.lt s_t ⟨t, rfl, E0, g_t, A_t⟩
theorem e3_0 : decode jdk_52_method_4_code 0 = .ok (.getstatic 44, 3) := by decide +kernel
theorem e3_3 : decode jdk_52_method_4_code 3 = .ok (.ifCond .ne 25, 3) := by decide +kernel
theorem e3_6 : decode jdk_52_method_4_code 6 = .ok (.iload_n 1, 1) := by decide +kernel
theorem e3_7 : decode jdk_52_method_4_code 7 = .ok (.ifCond .lt 11, 3) := by decide +kernel
theorem e3_10 : decode jdk_52_method_4_code 10 = .ok (.iload_n 1, 1) := by decide +kernel
theorem e3_11 : decode jdk_52_method_4_code 11 = .ok (.aload_n 0, 1) := by decide +kernel
theorem e3_12 : decode jdk_52_method_4_code 12 = .ok (.invokestatic 48, 3) := by decide +kernel
theorem e3_15 : decode jdk_52_method_4_code 15 = .ok (.if_icmp .lt 13, 3) := by decide +kernel
theorem e3_18 : decode jdk_52_method_4_code 18 = .ok (.new 52, 3) := by decide +kernel
theorem e3_21 : decode jdk_52_method_4_code 21 = .ok (.dup, 1) := by decide +kernel
theorem e3_22 : decode jdk_52_method_4_code 22 = .ok (.ldc 54, 2) := by decide +kernel
theorem e3_24 : decode jdk_52_method_4_code 24 = .ok (.invokespecial 56, 3) := by decide +kernel
theorem e3_27 : decode jdk_52_method_4_code 27 = .ok (.athrow, 1) := by decide +kernel
theorem e3_28 : decode jdk_52_method_4_code 28 = .ok (.iload_n 1, 1) := by decide +kernel
theorem e3_29 : decode jdk_52_method_4_code 29 = .ok (.iconst 1, 1) := by decide +kernel
theorem e3_30 : decode jdk_52_method_4_code 30 = .ok (.ishl, 1) := by decide +kernel
theorem e3_31 : decode jdk_52_method_4_code 31 = .ok (.istore_n 1, 1) := by decide +kernel
theorem e3_32 : decode jdk_52_method_4_code 32 = .ok (.aload_n 0, 1) := by decide +kernel
theorem e3_33 : decode jdk_52_method_4_code 33 = .ok (.iload_n 1, 1) := by decide +kernel
theorem e3_34 : decode jdk_52_method_4_code 34 = .ok (.iinc 1 1, 3) := by decide +kernel
theorem e3_37 : decode jdk_52_method_4_code 37 = .ok (.iload_n 2, 1) := by decide +kernel
theorem e3_38 : decode jdk_52_method_4_code 38 = .ok (.getstatic 59, 3) := by decide +kernel
theorem e3_41 : decode jdk_52_method_4_code 41 = .ok (.ishr, 1) := by decide +kernel
theorem e3_42 : decode jdk_52_method_4_code 42 = .ok (.i2b, 1) := by decide +kernel
theorem e3_43 : decode jdk_52_method_4_code 43 = .ok (.bastore, 1) := by decide +kernel
theorem e3_44 : decode jdk_52_method_4_code 44 = .ok (.aload_n 0, 1) := by decide +kernel
theorem e3_45 : decode jdk_52_method_4_code 45 = .ok (.iload_n 1, 1) := by decide +kernel
theorem e3_46 : decode jdk_52_method_4_code 46 = .ok (.iload_n 2, 1) := by decide +kernel
theorem e3_47 : decode jdk_52_method_4_code 47 = .ok (.getstatic 63, 3) := by decide +kernel
theorem e3_50 : decode jdk_52_method_4_code 50 = .ok (.ishr, 1) := by decide +kernel
theorem e3_51 : decode jdk_52_method_4_code 51 = .ok (.i2b, 1) := by decide +kernel
theorem e3_52 : decode jdk_52_method_4_code 52 = .ok (.bastore, 1) := by decide +kernel
theorem e3_53 : decode jdk_52_method_4_code 53 = .ok (.return_, 1) := by decide +kernel
set_option maxRecDepth 65536 in
set_option maxHeartbeats 40000000 in
theorem con_put (l : Launch) (Z : State) (a0 : Array Value) (hw : ∀ d ∈ tables_1, d.before a0 Z = true) (t : Addr) (i_ : Nat) (c : Int32) (vs : List Value) (h0 : Heap) (O0 : Ext Z.heap h0) (A_t : Ar Z h0 t .byte vs) (hi : 2 * i_ + 1 < vs.length) (hn : i_ < 20) (n_t : Z.heap.size ≤ t) (SA_ : Sta Z Z.heap "java/lang/StringUTF16" "$assertionsDisabled" "Z" (.int 1)) (SH_ : Sta Z Z.heap "java/lang/StringUTF16" "HI_BYTE_SHIFT" "I" (.int 0)) (SL_ : Sta Z Z.heap "java/lang/StringUTF16" "LO_BYTE_SHIFT" "I" (.int 8)) :
    Con l Z consts_1 false (⟨"java/lang/StringUTF16", "putChar", "([BII)V"⟩ : MethodName) jdk_52_method_4_code 3 none [] ({ frames := 0, cells := 0, slots := 0, locals := 0 } : Room) #[(.ref t), (.int (Int32.ofNat i_)), (.int c)] [t] h0 (fun v h => v = none ∧ Keep h0 h [t] ∧ Ar Z h t .byte ((vs.set (2 * i_) (.int (StrChars.lo8 c))).set (2 * i_ + 1) (.int (StrChars.hi8 c)))) := by
  refine Con.intro (Ls := #[.val (.ref t), .val (.int (Int32.ofNat i_)), .val (.int c)]) (plainFor_of_name pn0) (own_EL hw) O0 (fun m => by first | (simp [entryFrame, mkF, argsToLocals, Value.category]; done) | rfl) (fun p e s m below meth cc_ T w sf_ => ?_)
  have K0 := Keep.refl h0 [t]
  have s_t := sf_ t (List.mem_singleton.mpr rfl)
  refine g_getS w e3_0 (q := 3) rfl (hw _ (List.mem_of_getElem? (i := 167) rfl)) Via.refl SA_ (fun T w => ?_)
  refine g_ifY w e3_3 (by decide) (q := 28) (by decide) (by decide) ?_
  refine g_iloadN w e3_28 (q := 29) rfl rfl ?_
  refine g_iconst w e3_29 (q := 30) rfl (v := (1 : Int32)) (by decide) ?_
  refine g_ishl w e3_30 (q := 31) rfl ?_
  rw [shl1 _ (by omega)]
  show Go p e below _ (State.setTop T (mkF m 31 #[.val (.ref t), .val (.int (Int32.ofNat i_)), .val (.int c)] [(.int (Int32.ofNat (2 * i_)))]))
  refine g_istoreN w e3_31 (q := 32) rfl (Ls' := #[.val (.ref t), .val (.int (Int32.ofNat (2 * i_))), .val (.int c)]) rfl ?_
  refine g_aloadN w e3_32 (q := 33) rfl rfl rfl ?_
  refine g_iloadN w e3_33 (q := 34) rfl rfl ?_
  refine g_iinc w e3_34 (q := 37) rfl (v := (1 : Int32)) (by decide) rfl rfl ?_
  rw [ofNat_succ]
  show Go p e below _ (State.setTop T (mkF m 37 #[.val (.ref t), .val (.int (Int32.ofNat ((2 * i_) + 1))), .val (.int c)] [(.int (Int32.ofNat (2 * i_))), (.ref t)]))
  refine g_iloadN w e3_37 (q := 38) rfl rfl ?_
  refine g_getS w e3_38 (q := 41) rfl (hw _ (List.mem_of_getElem? (i := 168) rfl)) Via.refl SH_ (fun T w => ?_)
  refine g_ishr w e3_41 (q := 42) rfl ?_
  refine g_i2b w e3_42 (q := 43) rfl ?_
  have g_ := w.chv
  refine g_bastore w e3_43 (q := 44) rfl A_t (i := 2 * i_) rfl (by omega) (x' := (c >>> ((0 : Int32) &&& 31)).toInt8.toInt32) (nar_b _) n_t s_t (fun T h w W V => ?_)
  replace K0 := K0.wr W (Or.inl (List.mem_singleton.mpr rfl))
  replace s_t := Safe.wr W s_t g_ s_t
  rw [StrChars.shr0] at V
  replace A_t := V
  refine g_aloadN w e3_44 (q := 45) rfl rfl rfl ?_
  refine g_iloadN w e3_45 (q := 46) rfl rfl ?_
  refine g_iloadN w e3_46 (q := 47) rfl rfl ?_
  refine g_getS w e3_47 (q := 50) rfl (hw _ (List.mem_of_getElem? (i := 169) rfl)) Via.refl SL_ (fun T w => ?_)
  refine g_ishr w e3_50 (q := 51) rfl ?_
  refine g_i2b w e3_51 (q := 52) rfl ?_
  have g_ := w.chv
  refine g_bastore w e3_52 (q := 53) rfl A_t (i := 2 * i_ + 1) rfl (by rw [List.length_set]; omega) (x' := (c >>> ((8 : Int32) &&& 31)).toInt8.toInt32) (nar_b _) n_t s_t (fun T h w W V => ?_)
  replace K0 := K0.wr W (Or.inl (List.mem_singleton.mpr rfl))
  replace s_t := Safe.wr W s_t g_ s_t
  replace A_t := V
  exact g_return w e3_53 rfl (by decide) (by decide) ⟨rfl, K0, A_t⟩
theorem e4_0 : decode jdk_52_method_5_code 0 = .ok (.getstatic 44, 3) := by decide +kernel
theorem e4_3 : decode jdk_52_method_5_code 3 = .ok (.ifCond .ne 25, 3) := by decide +kernel
theorem e4_6 : decode jdk_52_method_5_code 6 = .ok (.iload_n 1, 1) := by decide +kernel
theorem e4_7 : decode jdk_52_method_5_code 7 = .ok (.ifCond .lt 11, 3) := by decide +kernel
theorem e4_10 : decode jdk_52_method_5_code 10 = .ok (.iload_n 1, 1) := by decide +kernel
theorem e4_11 : decode jdk_52_method_5_code 11 = .ok (.aload_n 0, 1) := by decide +kernel
theorem e4_12 : decode jdk_52_method_5_code 12 = .ok (.invokestatic 48, 3) := by decide +kernel
theorem e4_15 : decode jdk_52_method_5_code 15 = .ok (.if_icmp .lt 13, 3) := by decide +kernel
theorem e4_18 : decode jdk_52_method_5_code 18 = .ok (.new 52, 3) := by decide +kernel
theorem e4_21 : decode jdk_52_method_5_code 21 = .ok (.dup, 1) := by decide +kernel
theorem e4_22 : decode jdk_52_method_5_code 22 = .ok (.ldc 54, 2) := by decide +kernel
theorem e4_24 : decode jdk_52_method_5_code 24 = .ok (.invokespecial 56, 3) := by decide +kernel
theorem e4_27 : decode jdk_52_method_5_code 27 = .ok (.athrow, 1) := by decide +kernel
theorem e4_28 : decode jdk_52_method_5_code 28 = .ok (.iload_n 1, 1) := by decide +kernel
theorem e4_29 : decode jdk_52_method_5_code 29 = .ok (.iconst 1, 1) := by decide +kernel
theorem e4_30 : decode jdk_52_method_5_code 30 = .ok (.ishl, 1) := by decide +kernel
theorem e4_31 : decode jdk_52_method_5_code 31 = .ok (.istore_n 1, 1) := by decide +kernel
theorem e4_32 : decode jdk_52_method_5_code 32 = .ok (.aload_n 0, 1) := by decide +kernel
theorem e4_33 : decode jdk_52_method_5_code 33 = .ok (.iload_n 1, 1) := by decide +kernel
theorem e4_34 : decode jdk_52_method_5_code 34 = .ok (.iinc 1 1, 3) := by decide +kernel
theorem e4_37 : decode jdk_52_method_5_code 37 = .ok (.baload, 1) := by decide +kernel
theorem e4_38 : decode jdk_52_method_5_code 38 = .ok (.sipush 255, 3) := by decide +kernel
theorem e4_41 : decode jdk_52_method_5_code 41 = .ok (.iand, 1) := by decide +kernel
theorem e4_42 : decode jdk_52_method_5_code 42 = .ok (.getstatic 59, 3) := by decide +kernel
theorem e4_45 : decode jdk_52_method_5_code 45 = .ok (.ishl, 1) := by decide +kernel
theorem e4_46 : decode jdk_52_method_5_code 46 = .ok (.aload_n 0, 1) := by decide +kernel
theorem e4_47 : decode jdk_52_method_5_code 47 = .ok (.iload_n 1, 1) := by decide +kernel
theorem e4_48 : decode jdk_52_method_5_code 48 = .ok (.baload, 1) := by decide +kernel
theorem e4_49 : decode jdk_52_method_5_code 49 = .ok (.sipush 255, 3) := by decide +kernel
theorem e4_52 : decode jdk_52_method_5_code 52 = .ok (.iand, 1) := by decide +kernel
theorem e4_53 : decode jdk_52_method_5_code 53 = .ok (.getstatic 63, 3) := by decide +kernel
theorem e4_56 : decode jdk_52_method_5_code 56 = .ok (.ishl, 1) := by decide +kernel
theorem e4_57 : decode jdk_52_method_5_code 57 = .ok (.ior, 1) := by decide +kernel
theorem e4_58 : decode jdk_52_method_5_code 58 = .ok (.i2c, 1) := by decide +kernel
theorem e4_59 : decode jdk_52_method_5_code 59 = .ok (.ireturn, 1) := by decide +kernel
set_option maxRecDepth 65536 in
set_option maxHeartbeats 40000000 in
theorem con_get (l : Launch) (Z : State) (a0 : Array Value) (hw : ∀ d ∈ tables_1, d.before a0 Z = true) (t : Addr) (i_ : Nat) (cs : List Int32) (h0 : Heap) (O0 : Ext Z.heap h0) (A_t : Ar Z h0 t .byte (StrChars.Road.wideBytes cs)) (hi : i_ < cs.length) (hn : cs.length ≤ 20) (hl : ∀ c ∈ cs, Lt16 c) (SA_ : Sta Z Z.heap "java/lang/StringUTF16" "$assertionsDisabled" "Z" (.int 1)) (SH_ : Sta Z Z.heap "java/lang/StringUTF16" "HI_BYTE_SHIFT" "I" (.int 0)) (SL_ : Sta Z Z.heap "java/lang/StringUTF16" "LO_BYTE_SHIFT" "I" (.int 8)) :
    Con l Z consts_1 false (⟨"java/lang/StringUTF16", "getChar", "([BI)C"⟩ : MethodName) jdk_52_method_5_code 2 (some .char) [] ({ frames := 0, cells := 0, slots := 0, locals := 0 } : Room) #[(.ref t), (.int (Int32.ofNat i_))] [] h0 (fun v h => v = some (.int (cs.getD i_ 0)) ∧ h = h0) := by
  refine Con.intro (Ls := #[.val (.ref t), .val (.int (Int32.ofNat i_))]) (plainFor_of_name pn0) (own_EL hw) O0 (fun m => by first | (simp [entryFrame, mkF, argsToLocals, Value.category]; done) | rfl) (fun p e s m below meth cc_ T w sf_ => ?_)
  have E0 := ext_refl h0
  refine g_getS w e4_0 (q := 3) rfl (hw _ (List.mem_of_getElem? (i := 167) rfl)) Via.refl SA_ (fun T w => ?_)
  refine g_ifY w e4_3 (by decide) (q := 28) (by decide) (by decide) ?_
  refine g_iloadN w e4_28 (q := 29) rfl rfl ?_
  refine g_iconst w e4_29 (q := 30) rfl (v := (1 : Int32)) (by decide) ?_
  refine g_ishl w e4_30 (q := 31) rfl ?_
  rw [shl1 _ (by omega)]
  show Go p e below _ (State.setTop T (mkF m 31 #[.val (.ref t), .val (.int (Int32.ofNat i_))] [(.int (Int32.ofNat (2 * i_)))]))
  refine g_istoreN w e4_31 (q := 32) rfl (Ls' := #[.val (.ref t), .val (.int (Int32.ofNat (2 * i_)))]) rfl ?_
  refine g_aloadN w e4_32 (q := 33) rfl rfl rfl ?_
  refine g_iloadN w e4_33 (q := 34) rfl rfl ?_
  refine g_iinc w e4_34 (q := 37) rfl (v := (1 : Int32)) (by decide) rfl rfl ?_
  rw [ofNat_succ]
  show Go p e below _ (State.setTop T (mkF m 37 #[.val (.ref t), .val (.int (Int32.ofNat ((2 * i_) + 1)))] [(.int (Int32.ofNat (2 * i_))), (.ref t)]))
  refine g_baload w e4_37 (q := 38) rfl A_t (i := 2 * i_) rfl (by rw [wide_len]; omega) (wide_at _ _ hi).1 ?_
  refine g_sipush w e4_38 (q := 41) rfl (v := (255 : Int32)) (by decide) ?_
  refine g_iand w e4_41 (q := 42) rfl ?_
  refine g_getS w e4_42 (q := 45) rfl (hw _ (List.mem_of_getElem? (i := 168) rfl)) Via.refl SH_ (fun T w => ?_)
  refine g_ishl w e4_45 (q := 46) rfl ?_
  refine g_aloadN w e4_46 (q := 47) rfl rfl rfl ?_
  refine g_iloadN w e4_47 (q := 48) rfl rfl ?_
  refine g_baload w e4_48 (q := 49) rfl A_t (i := 2 * i_ + 1) rfl (by rw [wide_len]; omega) (wide_at _ _ hi).2 ?_
  refine g_sipush w e4_49 (q := 52) rfl (v := (255 : Int32)) (by decide) ?_
  refine g_iand w e4_52 (q := 53) rfl ?_
  refine g_getS w e4_53 (q := 56) rfl (hw _ (List.mem_of_getElem? (i := 169) rfl)) Via.refl SL_ (fun T w => ?_)
  refine g_ishl w e4_56 (q := 57) rfl ?_
  refine g_ior w e4_57 (q := 58) rfl ?_
  refine g_i2c w e4_58 (q := 59) rfl ?_
  rw [getch (chr_all hl hi)]
  show Go p e below _ (State.setTop T (mkF m 59 #[.val (.ref t), .val (.int (Int32.ofNat ((2 * i_) + 1)))] [(.int (cs.getD i_ 0))]))
  exact g_retn w e4_59 rfl (by simp) (nar_chr (chr_all hl hi)) (by decide) (by decide) ⟨rfl, rfl⟩
theorem e5_0 : decode jdk_52_method_14_code 0 = .ok (.iload_n 2, 1) := by decide +kernel
theorem e5_1 : decode jdk_52_method_14_code 1 = .ok (.invokestatic 107, 3) := by decide +kernel
theorem e5_4 : decode jdk_52_method_14_code 4 = .ok (.astore_n 3, 1) := by decide +kernel
theorem e5_5 : decode jdk_52_method_14_code 5 = .ok (.iconst 0, 1) := by decide +kernel
theorem e5_6 : decode jdk_52_method_14_code 6 = .ok (.istore 4, 2) := by decide +kernel
theorem e5_8 : decode jdk_52_method_14_code 8 = .ok (.iload 4, 2) := by decide +kernel
theorem e5_10 : decode jdk_52_method_14_code 10 = .ok (.iload_n 2, 1) := by decide +kernel
theorem e5_11 : decode jdk_52_method_14_code 11 = .ok (.if_icmp .ge 21, 3) := by decide +kernel
theorem e5_14 : decode jdk_52_method_14_code 14 = .ok (.aload_n 3, 1) := by decide +kernel
theorem e5_15 : decode jdk_52_method_14_code 15 = .ok (.iload 4, 2) := by decide +kernel
theorem e5_17 : decode jdk_52_method_14_code 17 = .ok (.aload_n 0, 1) := by decide +kernel
theorem e5_18 : decode jdk_52_method_14_code 18 = .ok (.iload_n 1, 1) := by decide +kernel
theorem e5_19 : decode jdk_52_method_14_code 19 = .ok (.caload, 1) := by decide +kernel
theorem e5_20 : decode jdk_52_method_14_code 20 = .ok (.invokestatic 111, 3) := by decide +kernel
theorem e5_23 : decode jdk_52_method_14_code 23 = .ok (.iinc 1 1, 3) := by decide +kernel
theorem e5_26 : decode jdk_52_method_14_code 26 = .ok (.iinc 4 1, 3) := by decide +kernel
theorem e5_29 : decode jdk_52_method_14_code 29 = .ok (.goto (-21), 3) := by decide +kernel
theorem e5_32 : decode jdk_52_method_14_code 32 = .ok (.aload_n 3, 1) := by decide +kernel
theorem e5_33 : decode jdk_52_method_14_code 33 = .ok (.areturn, 1) := by decide +kernel
theorem pd1 : parseMethodDescriptor "(I)[B" = some ⟨[.int], some (.array .byte)⟩ := by decide +kernel
theorem pd2 : parseMethodDescriptor "([BII)V" = some ⟨[(.array .byte), .int, .int], none⟩ := by decide +kernel
set_option maxRecDepth 65536 in
set_option maxHeartbeats 40000000 in
theorem con_tbs (l : Launch) (Z : State) (a0 : Array Value) (hw : ∀ d ∈ tables_1, d.before a0 Z = true) (a : Addr) (cs : List Int32) (h0 : Heap) (O0 : Ext Z.heap h0) (A_a : Ar Z h0 a .char (cs.map Value.int)) (hn : cs.length ≤ 20) (hl : ∀ c ∈ cs, Lt16 c) (SA_ : Sta Z Z.heap "java/lang/StringUTF16" "$assertionsDisabled" "Z" (.int 1)) (SH_ : Sta Z Z.heap "java/lang/StringUTF16" "HI_BYTE_SHIFT" "I" (.int 0)) (SL_ : Sta Z Z.heap "java/lang/StringUTF16" "LO_BYTE_SHIFT" "I" (.int 8)) :
    Con l Z consts_1 false (⟨"java/lang/StringUTF16", "toBytes", "([CII)[B"⟩ : MethodName) jdk_52_method_14_code 5 (some (.array .byte)) [] ({ frames := 2, cells := 1, slots := 40, locals := 24 } : Room) #[(.ref a), (.int (0 : Int32)), (.int (Int32.ofNat cs.length))] [] h0 (fun v h => ∃ t, v = some (.ref t) ∧ Ext h0 h ∧ h0.size ≤ t ∧ Ar Z h t .byte (StrChars.Road.wideBytes cs)) := by
  refine Con.intro (Ls := #[.val (.ref a), .val (.int (0 : Int32)), .val (.int (Int32.ofNat cs.length)), .unset, .unset]) (plainFor_of_name pn0) (own_EL hw) O0 (fun m => by first | (simp [entryFrame, mkF, argsToLocals, Value.category]; done) | rfl) (fun p e s m below meth cc_ T w sf_ => ?_)
  have E0 := ext_refl h0
  refine g_iloadN w e5_0 (q := 1) rfl rfl ?_
  refine g_staticS w (con_nbf l Z a0 hw cs.length _ w.old hn) no0 e5_1 (q := 4) rfl rfl (hw _ (List.mem_of_getElem? (i := 157) rfl)) (hw _ (List.mem_of_getElem? (i := 158) rfl)) (hw _ (List.mem_of_getElem? (i := 78) rfl)) (hw _ (List.mem_of_getElem? (i := 159) rfl)) (by decide) pd1 rfl rfl (W := 0) (Nat.le_of_eq rfl) (by decide) (by decide) (by decide) (by decide) (fun T h v w gs C q sq => ?_)
  obtain ⟨t, hv, E, g_t, A_t⟩ := q
  subst hv
  have s_t := sq _ rfl
  have z_t := Nat.le_trans E0.1 g_t
  have ne_a_t : a ≠ t := Nat.ne_of_lt (Nat.lt_of_lt_of_le A_a.lt g_t)
  replace E0 := ext_trans E0 E
  replace A_a := A_a.ext E
  show Go p e below _ (State.setTop T (mkF m 4 #[.val (.ref a), .val (.int (0 : Int32)), .val (.int (Int32.ofNat cs.length)), .unset, .unset] [(.ref t)]))
  have n_t : Z.heap.size ≤ t := Nat.le_trans O0.1 z_t
  rw [← midW_zero] at A_t
  refine g_astoreN w e5_4 (q := 5) rfl rfl (Ls' := #[.val (.ref a), .val (.int (0 : Int32)), .val (.int (Int32.ofNat cs.length)), .val (.ref t), .unset]) rfl ?_
  refine g_iconst w e5_5 (q := 6) rfl (v := (0 : Int32)) (by decide) ?_
  refine g_istore w e5_6 (q := 8) rfl (Ls' := #[.val (.ref a), .val (.int (0 : Int32)), .val (.int (Int32.ofNat cs.length)), .val (.ref t), .val (.int (0 : Int32))]) rfl ?_
  have LP : ∀ (r : Nat) (i : Nat) (T : State) (vm : Vm) (h : Heap), (i + r = cs.length) → (Ext h0 h) → (Ar Z h a .char (cs.map Value.int)) → (Ar Z h t .byte (midW cs i)) → (Safe Z consts_1 vm h t) → Wk p l e ({ frames := 2, cells := 1, slots := 40, locals := 24 } : Room) s m #[(.ref a), (.int (0 : Int32)), (.int (Int32.ofNat cs.length))] below meth cc_ Z a0 consts_1 false (⟨"java/lang/StringUTF16", "toBytes", "([CII)[B"⟩ : MethodName) jdk_52_method_14_code 5 (some (.array .byte)) T vm h 1 40 → Go p e below (Fini Z consts_1 false ({ frames := 2, cells := 1, slots := 40, locals := 24 } : Room).cells ({ frames := 2, cells := 1, slots := 40, locals := 24 } : Room).slots (fun v h => ∃ t, v = some (.ref t) ∧ Ext h0 h ∧ h0.size ≤ t ∧ Ar Z h t .byte (StrChars.Road.wideBytes cs)) s) (State.setTop T (mkF m 8 #[.val (.ref a), .val (.int (Int32.ofNat i)), .val (.int (Int32.ofNat cs.length)), .val (.ref t), .val (.int (Int32.ofNat i))] [])) := by
    intro r
    induction r with
    | zero =>
      intro i T vm h hi E0 A_a A_t s_t  w
      refine g_iload w e5_8 (q := 10) rfl rfl ?_
      refine g_iloadN w e5_10 (q := 11) rfl rfl ?_
      refine g_icY w e5_11 (by decide) (q := 32) (by decide) (Jvm.Free.XT.ii_ge_t (not_lt_ofNat (by omega) (by omega))) ?_
      refine g_aloadN w e5_32 (q := 33) rfl rfl rfl ?_
      exact g_reta w e5_33 rfl rfl rfl (by decide) (by decide) ⟨t, rfl, E0, z_t, by rw [show i = cs.length from hi, midW_full] at A_t; exact A_t⟩
    | succ r ih =>
      intro i T vm h hi E0 A_a A_t s_t  w
      refine g_iload w e5_8 (q := 10) rfl rfl ?_
      refine g_iloadN w e5_10 (q := 11) rfl rfl ?_
      refine g_icN w e5_11 (q := 14) rfl (Jvm.Free.XT.ii_ge_f (lt_ofNat (by omega) (by omega))) ?_
      refine g_aloadN w e5_14 (q := 15) rfl rfl rfl ?_
      refine g_iload w e5_15 (q := 17) rfl rfl ?_
      refine g_aloadN w e5_17 (q := 18) rfl rfl rfl ?_
      refine g_iloadN w e5_18 (q := 19) rfl rfl ?_
      refine g_caload w e5_19 (q := 20) rfl A_a (i := i) rfl (by simp; omega) (chr_at (by omega)) ?_
      refine g_static w (con_put l Z a0 hw t i (cs.getD i 0) _ _ w.old A_t (by rw [midW_len]; omega) (by omega) n_t SA_ SH_ SL_) (in1 ⟨A_t.lt, s_t⟩) e5_20 (q := 23) rfl rfl (hw _ (List.mem_of_getElem? (i := 164) rfl)) (hw _ (List.mem_of_getElem? (i := 165) rfl)) (hw _ (List.mem_of_getElem? (i := 78) rfl)) (hw _ (List.mem_of_getElem? (i := 166) rfl)) (by decide) pd2 rfl rfl (W := 0) (Nat.le_of_eq rfl) (by decide) (by decide) (by decide) (by decide) (fun T h v w gs C q => ?_)
      replace s_t := C.safe A_t.lt s_t
      obtain ⟨rfl, K, V⟩ := q
      replace E0 := ext_keep E0 K z_t
      replace A_a := A_a.keep K (not1 ne_a_t)
      rw [midW_set _ _ (by omega)] at V
      replace A_t := V
      show Go p e below _ (State.setTop T (mkF m 23 #[.val (.ref a), .val (.int (Int32.ofNat i)), .val (.int (Int32.ofNat cs.length)), .val (.ref t), .val (.int (Int32.ofNat i))] []))
      refine g_iinc w e5_23 (q := 26) rfl (v := (1 : Int32)) (by decide) rfl rfl ?_
      rw [ofNat_succ]
      show Go p e below _ (State.setTop T (mkF m 26 #[.val (.ref a), .val (.int (Int32.ofNat (i + 1))), .val (.int (Int32.ofNat cs.length)), .val (.ref t), .val (.int (Int32.ofNat i))] []))
      refine g_iinc w e5_26 (q := 29) rfl (v := (1 : Int32)) (by decide) rfl rfl ?_
      rw [ofNat_succ]
      show Go p e below _ (State.setTop T (mkF m 29 #[.val (.ref a), .val (.int (Int32.ofNat (i + 1))), .val (.int (Int32.ofNat cs.length)), .val (.ref t), .val (.int (Int32.ofNat (i + 1)))] []))
      refine g_goto w e5_29 (by decide) (q := 8) (by decide) ?_
      exact ih (i + 1) T _ _ (by omega) E0 A_a A_t s_t w
  exact LP cs.length 0 T _ _ (by omega) E0 A_a A_t s_t w
theorem e6_0 : decode jdk_52_method_16_code 0 = .ok (.iload_n 2, 1) := by decide +kernel
theorem e6_1 : decode jdk_52_method_16_code 1 = .ok (.newarray .byte, 2) := by decide +kernel
theorem e6_3 : decode jdk_52_method_16_code 3 = .ok (.astore_n 3, 1) := by decide +kernel
theorem e6_4 : decode jdk_52_method_16_code 4 = .ok (.aload_n 0, 1) := by decide +kernel
theorem e6_5 : decode jdk_52_method_16_code 5 = .ok (.iload_n 1, 1) := by decide +kernel
theorem e6_6 : decode jdk_52_method_16_code 6 = .ok (.aload_n 3, 1) := by decide +kernel
theorem e6_7 : decode jdk_52_method_16_code 7 = .ok (.iconst 0, 1) := by decide +kernel
theorem e6_8 : decode jdk_52_method_16_code 8 = .ok (.iload_n 2, 1) := by decide +kernel
theorem e6_9 : decode jdk_52_method_16_code 9 = .ok (.invokestatic 115, 3) := by decide +kernel
theorem e6_12 : decode jdk_52_method_16_code 12 = .ok (.istore 4, 2) := by decide +kernel
theorem e6_14 : decode jdk_52_method_16_code 14 = .ok (.iload 4, 2) := by decide +kernel
theorem e6_16 : decode jdk_52_method_16_code 16 = .ok (.iload_n 2, 1) := by decide +kernel
theorem e6_17 : decode jdk_52_method_16_code 17 = .ok (.if_icmp .eq 40, 3) := by decide +kernel
theorem e6_20 : decode jdk_52_method_16_code 20 = .ok (.aload_n 0, 1) := by decide +kernel
theorem e6_21 : decode jdk_52_method_16_code 21 = .ok (.iload_n 1, 1) := by decide +kernel
theorem e6_22 : decode jdk_52_method_16_code 22 = .ok (.iload_n 2, 1) := by decide +kernel
theorem e6_23 : decode jdk_52_method_16_code 23 = .ok (.invokestatic 119, 3) := by decide +kernel
theorem e6_26 : decode jdk_52_method_16_code 26 = .ok (.astore 5, 2) := by decide +kernel
theorem e6_28 : decode jdk_52_method_16_code 28 = .ok (.aload 5, 2) := by decide +kernel
theorem e6_30 : decode jdk_52_method_16_code 30 = .ok (.iload 4, 2) := by decide +kernel
theorem e6_32 : decode jdk_52_method_16_code 32 = .ok (.invokestatic 71, 3) := by decide +kernel
theorem e6_35 : decode jdk_52_method_16_code 35 = .ok (.sipush 255, 3) := by decide +kernel
theorem e6_38 : decode jdk_52_method_16_code 38 = .ok (.if_icmp .gt 16, 3) := by decide +kernel
theorem e6_41 : decode jdk_52_method_16_code 41 = .ok (.aload 5, 2) := by decide +kernel
theorem e6_43 : decode jdk_52_method_16_code 43 = .ok (.iconst 0, 1) := by decide +kernel
theorem e6_44 : decode jdk_52_method_16_code 44 = .ok (.aload_n 3, 1) := by decide +kernel
theorem e6_45 : decode jdk_52_method_16_code 45 = .ok (.iconst 0, 1) := by decide +kernel
theorem e6_46 : decode jdk_52_method_16_code 46 = .ok (.iload_n 2, 1) := by decide +kernel
theorem e6_47 : decode jdk_52_method_16_code 47 = .ok (.invokestatic 123, 3) := by decide +kernel
theorem e6_50 : decode jdk_52_method_16_code 50 = .ok (.iload_n 2, 1) := by decide +kernel
theorem e6_51 : decode jdk_52_method_16_code 51 = .ok (.if_icmp .eq 6, 3) := by decide +kernel
theorem e6_54 : decode jdk_52_method_16_code 54 = .ok (.aload 5, 2) := by decide +kernel
theorem e6_56 : decode jdk_52_method_16_code 56 = .ok (.areturn, 1) := by decide +kernel
theorem e6_57 : decode jdk_52_method_16_code 57 = .ok (.aload_n 3, 1) := by decide +kernel
theorem e6_58 : decode jdk_52_method_16_code 58 = .ok (.areturn, 1) := by decide +kernel
theorem pd3 : parseMethodDescriptor "([CI[BII)I" = some ⟨[(.array .char), .int, (.array .byte), .int, .int], some .int⟩ := by decide +kernel
theorem pd4 : parseMethodDescriptor "([CII)[B" = some ⟨[(.array .char), .int, .int], some (.array .byte)⟩ := by decide +kernel
theorem pd5 : parseMethodDescriptor "([BI)C" = some ⟨[(.array .byte), .int], some .char⟩ := by decide +kernel
set_option maxRecDepth 65536 in
set_option maxHeartbeats 40000000 in
theorem con_cmp (l : Launch) (Z : State) (a0 : Array Value) (hw : ∀ d ∈ tables_1, d.before a0 Z = true) (a : Addr) (cs : List Int32) (h0 : Heap) (O0 : Ext Z.heap h0) (A_a : Ar Z h0 a .char (cs.map Value.int)) (hn : cs.length ≤ 20) (hl : ∀ c ∈ cs, Lt16 c) (SA_ : Sta Z Z.heap "java/lang/StringUTF16" "$assertionsDisabled" "Z" (.int 1)) (SH_ : Sta Z Z.heap "java/lang/StringUTF16" "HI_BYTE_SHIFT" "I" (.int 0)) (SL_ : Sta Z Z.heap "java/lang/StringUTF16" "LO_BYTE_SHIFT" "I" (.int 8)) :
    Con l Z consts_1 false (⟨"java/lang/StringUTF16", "compress", "([CII)[B"⟩ : MethodName) jdk_52_method_16_code 6 (some (.array .byte)) [] ({ frames := 3, cells := 2, slots := 60, locals := 40 } : Room) #[(.ref a), (.int (0 : Int32)), (.int (Int32.ofNat cs.length))] [] h0 (fun v h => ∃ t, v = some (.ref t) ∧ Ext h0 h ∧ h0.size ≤ t ∧ (((∀ c ∈ cs, Lt8 c) ∧ Ar Z h t .byte ((cs.map fun c => c.toInt8.toInt32).map Value.int)) ∨ ((∃ c ∈ cs, 255 < c) ∧ Ar Z h t .byte (StrChars.Road.wideBytes cs)))) := by
  refine Con.intro (Ls := #[.val (.ref a), .val (.int (0 : Int32)), .val (.int (Int32.ofNat cs.length)), .unset, .unset, .unset]) (plainFor_of_name pn0) (own_EL hw) O0 (fun m => by first | (simp [entryFrame, mkF, argsToLocals, Value.category]; done) | rfl) (fun p e s m below meth cc_ T w sf_ => ?_)
  have E0 := ext_refl h0
  refine g_iloadN w e6_0 (q := 1) rfl rfl ?_
  refine g_newarr w e6_1 (q := 3) rfl (hw _ (List.mem_of_getElem? (i := 7) rfl)) (len := cs.length) (cap := 20) rfl (by omega) (by decide) (by decide) (by decide) (fun T h t w E g_t n_t A_t s_t => ?_)
  have z_t := Nat.le_trans E0.1 g_t
  have ne_a_t : a ≠ t := Nat.ne_of_lt (Nat.lt_of_lt_of_le A_a.lt g_t)
  replace E0 := ext_trans E0 E
  replace A_a := A_a.ext E
  replace A_t : Ar Z h t .byte (List.replicate cs.length (.int 0)) := A_t
  refine g_astoreN w e6_3 (q := 4) rfl rfl (Ls' := #[.val (.ref a), .val (.int (0 : Int32)), .val (.int (Int32.ofNat cs.length)), .val (.ref t), .unset, .unset]) rfl ?_
  refine g_aloadN w e6_4 (q := 5) rfl rfl rfl ?_
  refine g_iloadN w e6_5 (q := 6) rfl rfl ?_
  refine g_aloadN w e6_6 (q := 7) rfl rfl rfl ?_
  refine g_iconst w e6_7 (q := 8) rfl (v := (0 : Int32)) (by decide) ?_
  refine g_iloadN w e6_8 (q := 9) rfl rfl ?_
  refine g_static w (con_cmpI l Z a0 hw a t cs _ w.old A_a A_t n_t ne_a_t hl hn) (in1 ⟨A_t.lt, s_t⟩) e6_9 (q := 12) rfl rfl (hw _ (List.mem_of_getElem? (i := 80) rfl)) (hw _ (List.mem_of_getElem? (i := 81) rfl)) (hw _ (List.mem_of_getElem? (i := 78) rfl)) (hw _ (List.mem_of_getElem? (i := 82) rfl)) (by decide) pd3 rfl rfl (W := 0) (Nat.le_of_eq rfl) (by decide) (by decide) (by decide) (by decide) (fun T h v w gs C q => ?_)
  rcases q with ⟨rfl, hb, K, V⟩ | ⟨k_, hk, rfl, hk2, K⟩
  · replace E0 := ext_keep E0 K z_t
    replace A_a := A_a.keep K (not1 ne_a_t)
    replace A_t := V
    show Go p e below _ (State.setTop T (mkF m 12 #[.val (.ref a), .val (.int (0 : Int32)), .val (.int (Int32.ofNat cs.length)), .val (.ref t), .unset, .unset] [(.int (Int32.ofNat cs.length))]))
    refine g_istore w e6_12 (q := 14) rfl (Ls' := #[.val (.ref a), .val (.int (0 : Int32)), .val (.int (Int32.ofNat cs.length)), .val (.ref t), .val (.int (Int32.ofNat cs.length)), .unset]) rfl ?_
    refine g_iload w e6_14 (q := 16) rfl rfl ?_
    refine g_iloadN w e6_16 (q := 17) rfl rfl ?_
    refine g_icY w e6_17 (by decide) (q := 57) (by decide) (Jvm.Free.XT.ii_eq_t rfl) ?_
    refine g_aloadN w e6_57 (q := 58) rfl rfl rfl ?_
    exact g_reta w e6_58 rfl rfl rfl (by decide) (by decide) ⟨t, rfl, E0, z_t, Or.inl ⟨hb, A_t⟩⟩
  · replace E0 := ext_keep E0 K z_t
    replace A_a := A_a.keep K (not1 ne_a_t)
    show Go p e below _ (State.setTop T (mkF m 12 #[.val (.ref a), .val (.int (0 : Int32)), .val (.int (Int32.ofNat cs.length)), .val (.ref t), .unset, .unset] [(.int (Int32.ofNat k_))]))
    refine g_istore w e6_12 (q := 14) rfl (Ls' := #[.val (.ref a), .val (.int (0 : Int32)), .val (.int (Int32.ofNat cs.length)), .val (.ref t), .val (.int (Int32.ofNat k_)), .unset]) rfl ?_
    refine g_iload w e6_14 (q := 16) rfl rfl ?_
    refine g_iloadN w e6_16 (q := 17) rfl rfl ?_
    refine g_icN w e6_17 (q := 20) rfl (Jvm.Free.XT.ii_eq_f (ofNat_ne hk (by omega))) ?_
    refine g_aloadN w e6_20 (q := 21) rfl rfl rfl ?_
    refine g_iloadN w e6_21 (q := 22) rfl rfl ?_
    refine g_iloadN w e6_22 (q := 23) rfl rfl ?_
    refine g_static w (con_tbs l Z a0 hw a cs _ w.old A_a hn hl SA_ SH_ SL_) no0 e6_23 (q := 26) rfl rfl (hw _ (List.mem_of_getElem? (i := 154) rfl)) (hw _ (List.mem_of_getElem? (i := 155) rfl)) (hw _ (List.mem_of_getElem? (i := 78) rfl)) (hw _ (List.mem_of_getElem? (i := 156) rfl)) (by decide) pd4 rfl rfl (W := 0) (Nat.le_of_eq rfl) (by decide) (by decide) (by decide) (by decide) (fun T h v w gs C q => ?_)
    obtain ⟨u, rfl, E, g_u, A_u⟩ := q
    have z_u := Nat.le_trans E0.1 g_u
    have ne_a_u : a ≠ u := Nat.ne_of_lt (Nat.lt_of_lt_of_le A_a.lt g_u)
    replace E0 := ext_trans E0 E
    replace A_a := A_a.ext E
    show Go p e below _ (State.setTop T (mkF m 26 #[.val (.ref a), .val (.int (0 : Int32)), .val (.int (Int32.ofNat cs.length)), .val (.ref t), .val (.int (Int32.ofNat k_)), .unset] [(.ref u)]))
    refine g_astore w e6_26 (q := 28) rfl rfl (Ls' := #[.val (.ref a), .val (.int (0 : Int32)), .val (.int (Int32.ofNat cs.length)), .val (.ref t), .val (.int (Int32.ofNat k_)), .val (.ref u)]) rfl ?_
    refine g_aload w e6_28 (q := 30) rfl rfl rfl ?_
    refine g_iload w e6_30 (q := 32) rfl rfl ?_
    refine g_staticP w (con_get l Z a0 hw u k_ cs _ w.old A_u hk hn hl SA_ SH_ SL_) no0 e6_32 (q := 35) rfl rfl (hw _ (List.mem_of_getElem? (i := 170) rfl)) (hw _ (List.mem_of_getElem? (i := 171) rfl)) (hw _ (List.mem_of_getElem? (i := 78) rfl)) (hw _ (List.mem_of_getElem? (i := 172) rfl)) (by decide) pd5 rfl rfl (W := 0) (Nat.le_of_eq rfl) (by decide) (by decide) (by decide) (by decide) (fun T v w C q => ?_)
    obtain rfl := q
    show Go p e below _ (State.setTop T (mkF m 35 #[.val (.ref a), .val (.int (0 : Int32)), .val (.int (Int32.ofNat cs.length)), .val (.ref t), .val (.int (Int32.ofNat k_)), .val (.ref u)] [(.int (cs.getD k_ 0))]))
    refine g_sipush w e6_35 (q := 38) rfl (v := (255 : Int32)) (by decide) ?_
    refine g_icY w e6_38 (by decide) (q := 54) (by decide) (Jvm.Free.XT.ii_gt_t hk2) ?_
    refine g_aload w e6_54 (q := 56) rfl rfl rfl ?_
    exact g_reta w e6_56 rfl rfl rfl (by decide) (by decide) ⟨u, rfl, E0, z_u, Or.inr ⟨big_mem hk hk2, A_u⟩⟩
theorem e7_0 : decode jdk_52_method_15_code 0 = .ok (.iload_n 1, 1) := by decide +kernel
theorem e7_1 : decode jdk_52_method_15_code 1 = .ok (.aload_n 0, 1) := by decide +kernel
theorem e7_2 : decode jdk_52_method_15_code 2 = .ok (.arraylength, 1) := by decide +kernel
theorem e7_3 : decode jdk_52_method_15_code 3 = .ok (.isub, 1) := by decide +kernel
theorem e7_4 : decode jdk_52_method_15_code 4 = .ok (.bipush 31, 2) := by decide +kernel
theorem e7_6 : decode jdk_52_method_15_code 6 = .ok (.iushr, 1) := by decide +kernel
theorem e7_7 : decode jdk_52_method_15_code 7 = .ok (.i2b, 1) := by decide +kernel
theorem e7_8 : decode jdk_52_method_15_code 8 = .ok (.ireturn, 1) := by decide +kernel
set_option maxRecDepth 65536 in
set_option maxHeartbeats 40000000 in
theorem con_cfl (l : Launch) (Z : State) (a0 : Array Value) (hw : ∀ d ∈ tables_1, d.before a0 Z = true) (t : Addr) (n_ : Nat) (vs : List Value) (h0 : Heap) (O0 : Ext Z.heap h0) (A_t : Ar Z h0 t .byte vs) :
    Con l Z consts_1 false (⟨"java/lang/StringUTF16", "coderFromArrayLen", "([BI)B"⟩ : MethodName) jdk_52_method_15_code 2 (some .byte) [] ({ frames := 0, cells := 0, slots := 0, locals := 0 } : Room) #[(.ref t), (.int (Int32.ofNat n_))] [] h0 (fun v h => v = some (.int (Jvm.Free.XT.ushr (Int32.ofNat n_ - Int32.ofNat vs.length) 31).toInt8.toInt32) ∧ h = h0) := by
  refine Con.intro (Ls := #[.val (.ref t), .val (.int (Int32.ofNat n_))]) (plainFor_of_name pn0) (own_EL hw) O0 (fun m => by first | (simp [entryFrame, mkF, argsToLocals, Value.category]; done) | rfl) (fun p e s m below meth cc_ T w sf_ => ?_)
  have E0 := ext_refl h0
  refine g_iloadN w e7_0 (q := 1) rfl rfl ?_
  refine g_aloadN w e7_1 (q := 2) rfl rfl rfl ?_
  refine g_alen w e7_2 (q := 3) rfl A_t ?_
  refine g_isub w e7_3 (q := 4) rfl ?_
  refine g_bipush w e7_4 (q := 6) rfl (v := (31 : Int32)) (by decide) ?_
  refine g_iushr w e7_6 (q := 7) rfl ?_
  refine g_i2b w e7_7 (q := 8) rfl ?_
  exact g_retn w e7_8 rfl (by simp) (nar_b _) (by decide) (by decide) ⟨rfl, rfl⟩
theorem e8_0 : decode jdk_42_method_149_code 0 = .ok (.aload_n 0, 1) := by decide +kernel
theorem e8_1 : decode jdk_42_method_149_code 1 = .ok (.invokespecial 1, 3) := by decide +kernel
theorem e8_4 : decode jdk_42_method_149_code 4 = .ok (.iload_n 3, 1) := by decide +kernel
theorem e8_5 : decode jdk_42_method_149_code 5 = .ok (.ifCond .ne 22, 3) := by decide +kernel
theorem e8_8 : decode jdk_42_method_149_code 8 = .ok (.aload_n 0, 1) := by decide +kernel
theorem e8_9 : decode jdk_42_method_149_code 9 = .ok (.ldc 7, 2) := by decide +kernel
theorem e8_11 : decode jdk_42_method_149_code 11 = .ok (.getfield 9, 3) := by decide +kernel
theorem e8_14 : decode jdk_42_method_149_code 14 = .ok (.putfield 9, 3) := by decide +kernel
theorem e8_17 : decode jdk_42_method_149_code 17 = .ok (.aload_n 0, 1) := by decide +kernel
theorem e8_18 : decode jdk_42_method_149_code 18 = .ok (.ldc 7, 2) := by decide +kernel
theorem e8_20 : decode jdk_42_method_149_code 20 = .ok (.getfield 15, 3) := by decide +kernel
theorem e8_23 : decode jdk_42_method_149_code 23 = .ok (.putfield 15, 3) := by decide +kernel
theorem e8_26 : decode jdk_42_method_149_code 26 = .ok (.return_, 1) := by decide +kernel
theorem e8_27 : decode jdk_42_method_149_code 27 = .ok (.getstatic 38, 3) := by decide +kernel
theorem e8_30 : decode jdk_42_method_149_code 30 = .ok (.ifCond .eq 28, 3) := by decide +kernel
theorem e8_33 : decode jdk_42_method_149_code 33 = .ok (.aload_n 1, 1) := by decide +kernel
theorem e8_34 : decode jdk_42_method_149_code 34 = .ok (.iload_n 2, 1) := by decide +kernel
theorem e8_35 : decode jdk_42_method_149_code 35 = .ok (.iload_n 3, 1) := by decide +kernel
theorem e8_36 : decode jdk_42_method_149_code 36 = .ok (.invokestatic 177, 3) := by decide +kernel
theorem e8_39 : decode jdk_42_method_149_code 39 = .ok (.astore 5, 2) := by decide +kernel
theorem e8_41 : decode jdk_42_method_149_code 41 = .ok (.aload_n 0, 1) := by decide +kernel
theorem e8_42 : decode jdk_42_method_149_code 42 = .ok (.aload 5, 2) := by decide +kernel
theorem e8_44 : decode jdk_42_method_149_code 44 = .ok (.iload_n 3, 1) := by decide +kernel
theorem e8_45 : decode jdk_42_method_149_code 45 = .ok (.invokestatic 47, 3) := by decide +kernel
theorem e8_48 : decode jdk_42_method_149_code 48 = .ok (.putfield 15, 3) := by decide +kernel
theorem e8_51 : decode jdk_42_method_149_code 51 = .ok (.aload_n 0, 1) := by decide +kernel
theorem e8_52 : decode jdk_42_method_149_code 52 = .ok (.aload 5, 2) := by decide +kernel
theorem e8_54 : decode jdk_42_method_149_code 54 = .ok (.putfield 9, 3) := by decide +kernel
theorem e8_57 : decode jdk_42_method_149_code 57 = .ok (.return_, 1) := by decide +kernel
theorem e8_58 : decode jdk_42_method_149_code 58 = .ok (.aload_n 0, 1) := by decide +kernel
theorem e8_59 : decode jdk_42_method_149_code 59 = .ok (.iconst 1, 1) := by decide +kernel
theorem e8_60 : decode jdk_42_method_149_code 60 = .ok (.putfield 15, 3) := by decide +kernel
theorem e8_63 : decode jdk_42_method_149_code 63 = .ok (.aload_n 0, 1) := by decide +kernel
theorem e8_64 : decode jdk_42_method_149_code 64 = .ok (.aload_n 1, 1) := by decide +kernel
theorem e8_65 : decode jdk_42_method_149_code 65 = .ok (.iload_n 2, 1) := by decide +kernel
theorem e8_66 : decode jdk_42_method_149_code 66 = .ok (.iload_n 3, 1) := by decide +kernel
theorem e8_67 : decode jdk_42_method_149_code 67 = .ok (.invokestatic 180, 3) := by decide +kernel
theorem e8_70 : decode jdk_42_method_149_code 70 = .ok (.putfield 9, 3) := by decide +kernel
theorem e8_73 : decode jdk_42_method_149_code 73 = .ok (.return_, 1) := by decide +kernel
theorem pd6 : parseMethodDescriptor "([BI)B" = some ⟨[(.array .byte), .int], some .byte⟩ := by decide +kernel
theorem pn1 : plainName "java/lang/String" = true := by first | (simp [plainName, overriddenIn]; done) | decide +kernel
set_option maxRecDepth 65536 in
set_option maxHeartbeats 40000000 in
theorem con_new4U (l : Launch) (Z : State) (a0 : Array Value) (hw : ∀ d ∈ tables_1, d.before a0 Z = true) (x b : Addr) (cs : List Int32) (h0 : Heap) (O0 : Ext Z.heap h0) (X_x : Exa Z h0 x "java/lang/String") (F_value_x : Fld Z h0 x "java/lang/String" "value" "[B" .null) (F_coder_x : Fld Z h0 x "java/lang/String" "coder" "B" (.int (0 : Int32))) (n_x : Z.heap.size ≤ x) (A_b : Ar Z h0 b .char (cs.map Value.int)) (ne_b_x : b ≠ x) (hn : cs.length ≤ 20) (hl : ∀ c ∈ cs, Lt16 c) (hpos : 0 < cs.length) (hcm : Cpt Z) (SA_ : Sta Z Z.heap "java/lang/StringUTF16" "$assertionsDisabled" "Z" (.int 1)) (SH_ : Sta Z Z.heap "java/lang/StringUTF16" "HI_BYTE_SHIFT" "I" (.int 0)) (SL_ : Sta Z Z.heap "java/lang/StringUTF16" "LO_BYTE_SHIFT" "I" (.int 8)) :
    Con l Z consts_1 false (⟨"java/lang/String", "<init>", "([CIILjava/lang/Void;)V"⟩ : MethodName) jdk_42_method_149_code 6 none [] ({ frames := 4, cells := 2, slots := 60, locals := 57 } : Room) #[(.ref x), (.ref b), (.int (0 : Int32)), (.int (Int32.ofNat cs.length)), .null] [] h0 (fun v h => v = none ∧ Keep h0 h [x] ∧ Su Z h x cs) := by
  refine Con.intro (Ls := #[.val (.ref x), .val (.ref b), .val (.int (0 : Int32)), .val (.int (Int32.ofNat cs.length)), .val .null, .unset]) (plainFor_of_name pn1) (own_EL hw) O0 (fun m => by first | (simp [entryFrame, mkF, argsToLocals, Value.category]; done) | rfl) (fun p e s m below meth cc_ T w sf_ => ?_)
  have K0 := Keep.refl h0 [x]
  obtain ⟨z_, hz_, SC_⟩ := id hcm
  have s_x := safe_null (EL := consts_1) (vm := s.vm) w.wz.alike (hw _ (List.mem_of_getElem? (i := 6) rfl)) X_x F_value_x
  refine g_aloadN w e8_0 (q := 1) rfl rfl rfl ?_
  refine g_initO w e8_1 (q := 4) rfl rfl (hw _ (List.mem_of_getElem? (i := 74) rfl)) (hw _ (List.mem_of_getElem? (i := 21) rfl)) (hw _ (List.mem_of_getElem? (i := 22) rfl)) (W := 0) (Nat.le_of_eq rfl) (by decide) (by decide) (fun T w => ?_)
  refine g_iloadN w e8_4 (q := 5) rfl rfl ?_
  refine g_ifY w e8_5 (by decide) (q := 27) (by decide) (Jvm.Free.XT.i0_ne_t (fun q => ofNat_ne hpos (by omega) q.symm)) ?_
  refine g_getS w e8_27 (q := 30) rfl (hw _ (List.mem_of_getElem? (i := 75) rfl)) Via.refl SC_ (fun T w => ?_)
  refine g_ifN w e8_30 (q := 33) rfl (Jvm.Free.XT.i0_eq_f hz_) ?_
  refine g_aloadN w e8_33 (q := 34) rfl rfl rfl ?_
  refine g_iloadN w e8_34 (q := 35) rfl rfl ?_
  refine g_iloadN w e8_35 (q := 36) rfl rfl ?_
  refine g_static w (con_cmp l Z a0 hw b cs _ w.old A_b hn hl SA_ SH_ SL_) no0 e8_36 (q := 39) rfl rfl (hw _ (List.mem_of_getElem? (i := 76) rfl)) (hw _ (List.mem_of_getElem? (i := 77) rfl)) (hw _ (List.mem_of_getElem? (i := 78) rfl)) (hw _ (List.mem_of_getElem? (i := 79) rfl)) (by decide) pd4 rfl rfl (W := 0) (Nat.le_of_eq rfl) (by decide) (by decide) (by decide) (by decide) (fun T h v w gs C q => ?_)
  replace s_x := C.safe X_x.lt s_x
  obtain ⟨t, rfl, E, g_t, hq⟩ := q
  have z_t := Nat.le_trans K0.1 g_t
  have ne_b_t : b ≠ t := Nat.ne_of_lt (Nat.lt_of_lt_of_le A_b.lt g_t)
  have ne_x_t : x ≠ t := Nat.ne_of_lt (Nat.lt_of_lt_of_le X_x.lt g_t)
  replace K0 := K0.ext E
  replace X_x := X_x.ext E
  replace F_value_x := F_value_x.ext E
  replace F_coder_x := F_coder_x.ext E
  replace A_b := A_b.ext E
  rcases hq with ⟨hb, A_t⟩ | ⟨hb, A_t⟩
  · show Go p e below _ (State.setTop T (mkF m 39 #[.val (.ref x), .val (.ref b), .val (.int (0 : Int32)), .val (.int (Int32.ofNat cs.length)), .val .null, .unset] [(.ref t)]))
    refine g_astore w e8_39 (q := 41) rfl rfl (Ls' := #[.val (.ref x), .val (.ref b), .val (.int (0 : Int32)), .val (.int (Int32.ofNat cs.length)), .val .null, .val (.ref t)]) rfl ?_
    refine g_aloadN w e8_41 (q := 42) rfl rfl rfl ?_
    refine g_aload w e8_42 (q := 44) rfl rfl rfl ?_
    refine g_iloadN w e8_44 (q := 45) rfl rfl ?_
    refine g_staticP w (con_cfl l Z a0 hw t cs.length _ _ w.old A_t) no0 e8_45 (q := 48) rfl rfl (hw _ (List.mem_of_getElem? (i := 83) rfl)) (hw _ (List.mem_of_getElem? (i := 84) rfl)) (hw _ (List.mem_of_getElem? (i := 78) rfl)) (hw _ (List.mem_of_getElem? (i := 85) rfl)) (by decide) pd6 rfl rfl (W := 1) (Nat.le_of_eq rfl) (by decide) (by decide) (by decide) (by decide) (fun T v w C q => ?_)
    replace s_x := C.safe X_x.lt s_x
    rw [List.length_map, List.length_map, cod0 _ (by omega)] at q
    obtain rfl := q
    show Go p e below _ (State.setTop T (mkF m 48 #[.val (.ref x), .val (.ref b), .val (.int (0 : Int32)), .val (.int (Int32.ofNat cs.length)), .val .null, .val (.ref t)] [(.int (0 : Int32)), (.ref x)]))
    have g_ := w.chv
    refine g_putF w e8_48 (q := 51) rfl (hw _ (List.mem_of_getElem? (i := 86) rfl)) Via.refl F_coder_x X_x (Or.inr ⟨(hw _ (List.mem_of_getElem? (i := 9) rfl)), rfl, rfl⟩) (hw _ (List.mem_of_getElem? (i := 6) rfl)) (ty := .byte) (by decide) (v' := (.int (0 : Int32))) rfl rfl n_x s_x (fun T h w W => ?_)
    replace K0 := K0.wr W (Or.inl (List.mem_singleton.mpr rfl))
    replace s_x := Safe.wr W s_x g_ s_x
    replace X_x := X_x.wr W
    replace F_value_x := F_value_x.other W (Or.inr (slot_ne (Or.inr (hw _ (List.mem_of_getElem? (i := 8) rfl))) (Or.inr (hw _ (List.mem_of_getElem? (i := 9) rfl))) (by decide) (t := (.array .byte)) (t' := .byte) (by decide) (by decide)))
    replace F_coder_x := F_coder_x.same W
    replace A_b := A_b.other W ne_b_x
    replace A_t := A_t.other W ne_x_t.symm
    refine g_aloadN w e8_51 (q := 52) rfl rfl rfl ?_
    refine g_aload w e8_52 (q := 54) rfl rfl rfl ?_
    have g_ := w.chv
    refine g_putF w e8_54 (q := 57) rfl (hw _ (List.mem_of_getElem? (i := 35) rfl)) Via.refl F_value_x X_x (Or.inr ⟨(hw _ (List.mem_of_getElem? (i := 8) rfl)), rfl, rfl⟩) (hw _ (List.mem_of_getElem? (i := 6) rfl)) (ty := (.array .byte)) (by decide) (v' := (.ref t)) rfl rfl n_x s_x (fun T h w W => ?_)
    replace K0 := K0.wr W (Or.inl (List.mem_singleton.mpr rfl))
    replace s_x := Safe.wr W s_x g_ s_x
    replace X_x := X_x.wr W
    replace F_value_x := F_value_x.same W
    replace F_coder_x := F_coder_x.other W (Or.inr (slot_ne (Or.inr (hw _ (List.mem_of_getElem? (i := 9) rfl))) (Or.inr (hw _ (List.mem_of_getElem? (i := 8) rfl))) (by decide) (t := .byte) (t' := (.array .byte)) (by decide) (by decide)))
    replace A_b := A_b.other W ne_b_x
    replace A_t := A_t.other W ne_x_t.symm
    exact g_return w e8_57 rfl (by decide) (by decide) ⟨rfl, K0, Sg.su (sg_of (by omega) hb X_x F_value_x F_coder_x A_t)⟩
  · show Go p e below _ (State.setTop T (mkF m 39 #[.val (.ref x), .val (.ref b), .val (.int (0 : Int32)), .val (.int (Int32.ofNat cs.length)), .val .null, .unset] [(.ref t)]))
    refine g_astore w e8_39 (q := 41) rfl rfl (Ls' := #[.val (.ref x), .val (.ref b), .val (.int (0 : Int32)), .val (.int (Int32.ofNat cs.length)), .val .null, .val (.ref t)]) rfl ?_
    refine g_aloadN w e8_41 (q := 42) rfl rfl rfl ?_
    refine g_aload w e8_42 (q := 44) rfl rfl rfl ?_
    refine g_iloadN w e8_44 (q := 45) rfl rfl ?_
    refine g_staticP w (con_cfl l Z a0 hw t cs.length _ _ w.old A_t) no0 e8_45 (q := 48) rfl rfl (hw _ (List.mem_of_getElem? (i := 83) rfl)) (hw _ (List.mem_of_getElem? (i := 84) rfl)) (hw _ (List.mem_of_getElem? (i := 78) rfl)) (hw _ (List.mem_of_getElem? (i := 85) rfl)) (by decide) pd6 rfl rfl (W := 1) (Nat.le_of_eq rfl) (by decide) (by decide) (by decide) (by decide) (fun T v w C q => ?_)
    replace s_x := C.safe X_x.lt s_x
    rw [wide_len, cod1 _ (by omega) hpos] at q
    obtain rfl := q
    show Go p e below _ (State.setTop T (mkF m 48 #[.val (.ref x), .val (.ref b), .val (.int (0 : Int32)), .val (.int (Int32.ofNat cs.length)), .val .null, .val (.ref t)] [(.int (1 : Int32)), (.ref x)]))
    have g_ := w.chv
    refine g_putF w e8_48 (q := 51) rfl (hw _ (List.mem_of_getElem? (i := 86) rfl)) Via.refl F_coder_x X_x (Or.inr ⟨(hw _ (List.mem_of_getElem? (i := 9) rfl)), rfl, rfl⟩) (hw _ (List.mem_of_getElem? (i := 6) rfl)) (ty := .byte) (by decide) (v' := (.int (1 : Int32))) rfl rfl n_x s_x (fun T h w W => ?_)
    replace K0 := K0.wr W (Or.inl (List.mem_singleton.mpr rfl))
    replace s_x := Safe.wr W s_x g_ s_x
    replace X_x := X_x.wr W
    replace F_value_x := F_value_x.other W (Or.inr (slot_ne (Or.inr (hw _ (List.mem_of_getElem? (i := 8) rfl))) (Or.inr (hw _ (List.mem_of_getElem? (i := 9) rfl))) (by decide) (t := (.array .byte)) (t' := .byte) (by decide) (by decide)))
    replace F_coder_x := F_coder_x.same W
    replace A_b := A_b.other W ne_b_x
    replace A_t := A_t.other W ne_x_t.symm
    refine g_aloadN w e8_51 (q := 52) rfl rfl rfl ?_
    refine g_aload w e8_52 (q := 54) rfl rfl rfl ?_
    have g_ := w.chv
    refine g_putF w e8_54 (q := 57) rfl (hw _ (List.mem_of_getElem? (i := 35) rfl)) Via.refl F_value_x X_x (Or.inr ⟨(hw _ (List.mem_of_getElem? (i := 8) rfl)), rfl, rfl⟩) (hw _ (List.mem_of_getElem? (i := 6) rfl)) (ty := (.array .byte)) (by decide) (v' := (.ref t)) rfl rfl n_x s_x (fun T h w W => ?_)
    replace K0 := K0.wr W (Or.inl (List.mem_singleton.mpr rfl))
    replace s_x := Safe.wr W s_x g_ s_x
    replace X_x := X_x.wr W
    replace F_value_x := F_value_x.same W
    replace F_coder_x := F_coder_x.other W (Or.inr (slot_ne (Or.inr (hw _ (List.mem_of_getElem? (i := 9) rfl))) (Or.inr (hw _ (List.mem_of_getElem? (i := 8) rfl))) (by decide) (t := .byte) (t' := (.array .byte)) (by decide) (by decide)))
    replace A_b := A_b.other W ne_b_x
    replace A_t := A_t.other W ne_x_t.symm
    exact g_return w e8_57 rfl (by decide) (by decide) ⟨rfl, K0, su_of (by omega) hl X_x F_value_x F_coder_x A_t hb⟩
theorem e9_0 : decode jdk_42_method_3_code 0 = .ok (.aload_n 0, 1) := by decide +kernel
theorem e9_1 : decode jdk_42_method_3_code 1 = .ok (.aload_n 1, 1) := by decide +kernel
theorem e9_2 : decode jdk_42_method_3_code 2 = .ok (.iconst 0, 1) := by decide +kernel
theorem e9_3 : decode jdk_42_method_3_code 3 = .ok (.aload_n 1, 1) := by decide +kernel
theorem e9_4 : decode jdk_42_method_3_code 4 = .ok (.arraylength, 1) := by decide +kernel
theorem e9_5 : decode jdk_42_method_3_code 5 = .ok (.aconst_null, 1) := by decide +kernel
theorem e9_6 : decode jdk_42_method_3_code 6 = .ok (.invokespecial 27, 3) := by decide +kernel
theorem e9_9 : decode jdk_42_method_3_code 9 = .ok (.return_, 1) := by decide +kernel
theorem pd7 : parseMethodDescriptor "([CIILjava/lang/Void;)V" = some ⟨[(.array .char), .int, .int, (.object "java/lang/Void")], none⟩ := by decide +kernel
set_option maxRecDepth 65536 in
set_option maxHeartbeats 40000000 in
theorem con_new1U (l : Launch) (Z : State) (a0 : Array Value) (hw : ∀ d ∈ tables_1, d.before a0 Z = true) (x b : Addr) (cs : List Int32) (h0 : Heap) (O0 : Ext Z.heap h0) (X_x : Exa Z h0 x "java/lang/String") (F_value_x : Fld Z h0 x "java/lang/String" "value" "[B" .null) (F_coder_x : Fld Z h0 x "java/lang/String" "coder" "B" (.int (0 : Int32))) (n_x : Z.heap.size ≤ x) (A_b : Ar Z h0 b .char (cs.map Value.int)) (ne_b_x : b ≠ x) (hn : cs.length ≤ 20) (hl : ∀ c ∈ cs, Lt16 c) (hpos : 0 < cs.length) (hcm : Cpt Z) (SA_ : Sta Z Z.heap "java/lang/StringUTF16" "$assertionsDisabled" "Z" (.int 1)) (SH_ : Sta Z Z.heap "java/lang/StringUTF16" "HI_BYTE_SHIFT" "I" (.int 0)) (SL_ : Sta Z Z.heap "java/lang/StringUTF16" "LO_BYTE_SHIFT" "I" (.int 8)) :
    Con l Z consts_1 false (⟨"java/lang/String", "<init>", "([C)V"⟩ : MethodName) jdk_42_method_3_code 2 none [] ({ frames := 5, cells := 2, slots := 60, locals := 74 } : Room) #[(.ref x), (.ref b)] [] h0 (fun v h => v = none ∧ Keep h0 h [x] ∧ Su Z h x cs) := by
  refine Con.intro (Ls := #[.val (.ref x), .val (.ref b)]) (plainFor_of_name pn1) (own_EL hw) O0 (fun m => by first | (simp [entryFrame, mkF, argsToLocals, Value.category]; done) | rfl) (fun p e s m below meth cc_ T w sf_ => ?_)
  have K0 := Keep.refl h0 [x]
  refine g_aloadN w e9_0 (q := 1) rfl rfl rfl ?_
  refine g_aloadN w e9_1 (q := 2) rfl rfl rfl ?_
  refine g_iconst w e9_2 (q := 3) rfl (v := (0 : Int32)) (by decide) ?_
  refine g_aloadN w e9_3 (q := 4) rfl rfl rfl ?_
  refine g_alen w e9_4 (q := 5) rfl A_b ?_
  rw [List.length_map]
  show Go p e below _ (State.setTop T (mkF m 5 #[.val (.ref x), .val (.ref b)] [(.int (Int32.ofNat cs.length)), (.int (0 : Int32)), (.ref b), (.ref x)]))
  refine g_anull w e9_5 (q := 6) rfl ?_
  refine g_special w (con_new4U l Z a0 hw x b cs _ w.old X_x F_value_x F_coder_x n_x A_b ne_b_x hn hl hpos hcm SA_ SH_ SL_) no0 e9_6 (q := 9) rfl rfl rfl (hw _ (List.mem_of_getElem? (i := 70) rfl)) (hw _ (List.mem_of_getElem? (i := 71) rfl)) (hw _ (List.mem_of_getElem? (i := 5) rfl)) (hw _ (List.mem_of_getElem? (i := 73) rfl)) (by decide) pd7 rfl rfl (W := 0) (Nat.le_of_eq rfl) (by decide) (by decide) (by decide) (by decide) (fun T h v w gs C q => ?_)
  obtain ⟨rfl, K, S_x⟩ := q
  replace K0 := keep_same K0 K
  have X0 := X_x
  replace X_x := X_x.keep K
  replace A_b := A_b.keep K (not1 ne_b_x)
  show Go p e below _ (State.setTop T (mkF m 9 #[.val (.ref x), .val (.ref b)] []))
  exact g_return w e9_9 rfl (by decide) (by decide) ⟨rfl, K0, S_x⟩
theorem shr1 : ∀ i < 64, Int32.ofNat (2 * i) >>> ((1 : Int32) &&& 31) = Int32.ofNat i := by decide +kernel
theorem lo8_back {c : Int32} (h : Lt8 c) : c.toInt8.toInt32 &&& (255 : Int32) = c := StrChars.lo8_mask h.1 h.2
theorem e10_0 : decode jdk_41_method_11_code 0 = .ok (.iload_n 0, 1) := by decide +kernel
theorem e10_1 : decode jdk_41_method_11_code 1 = .ok (.ifCond .lt 8, 3) := by decide +kernel
theorem e10_4 : decode jdk_41_method_11_code 4 = .ok (.iload_n 0, 1) := by decide +kernel
theorem e10_5 : decode jdk_41_method_11_code 5 = .ok (.iload_n 1, 1) := by decide +kernel
theorem e10_6 : decode jdk_41_method_11_code 6 = .ok (.if_icmp .lt 10, 3) := by decide +kernel
theorem e10_9 : decode jdk_41_method_11_code 9 = .ok (.aload_n 2, 1) := by decide +kernel
theorem e10_10 : decode jdk_41_method_11_code 10 = .ok (.iload_n 0, 1) := by decide +kernel
theorem e10_11 : decode jdk_41_method_11_code 11 = .ok (.iload_n 1, 1) := by decide +kernel
theorem e10_12 : decode jdk_41_method_11_code 12 = .ok (.invokestatic 95, 3) := by decide +kernel
theorem e10_15 : decode jdk_41_method_11_code 15 = .ok (.athrow, 1) := by decide +kernel
theorem e10_16 : decode jdk_41_method_11_code 16 = .ok (.iload_n 0, 1) := by decide +kernel
theorem e10_17 : decode jdk_41_method_11_code 17 = .ok (.ireturn, 1) := by decide +kernel
theorem pn2 : plainName "jdk/internal/util/Preconditions" = true := by first | (simp [plainName, overriddenIn]; done) | decide +kernel
set_option maxRecDepth 65536 in
set_option maxHeartbeats 40000000 in
theorem con_pci (l : Launch) (Z : State) (a0 : Array Value) (hw : ∀ d ∈ tables_1, d.before a0 Z = true) (fm : Value) (i_ : Nat) (cs : List Int32) (h0 : Heap) (O0 : Ext Z.heap h0) (hi : i_ < cs.length) (hn : cs.length ≤ 20) (rfm : fm.isRef = true) :
    Con l Z consts_1 false (⟨"jdk/internal/util/Preconditions", "checkIndex", "(IILjava/util/function/BiFunction;)I"⟩ : MethodName) jdk_41_method_11_code 3 (some .int) [] ({ frames := 0, cells := 0, slots := 0, locals := 0 } : Room) #[(.int (Int32.ofNat i_)), (.int (Int32.ofNat cs.length)), fm] [] h0 (fun v h => v = some (.int (Int32.ofNat i_)) ∧ h = h0) := by
  refine Con.intro (Ls := #[.val (.int (Int32.ofNat i_)), .val (.int (Int32.ofNat cs.length)), .val fm]) (plainFor_of_name pn2) (own_EL hw) O0 (fun m => by rcases ref_cases rfm with rfl | ⟨q, rfl⟩ <;> rfl) (fun p e s m below meth cc_ T w sf_ => ?_)
  have E0 := ext_refl h0
  refine g_iloadN w e10_0 (q := 1) rfl rfl ?_
  refine g_ifN w e10_1 (q := 4) rfl (Jvm.Free.XT.i0_lt_f (ofNat_nonneg (by omega))) ?_
  refine g_iloadN w e10_4 (q := 5) rfl rfl ?_
  refine g_iloadN w e10_5 (q := 6) rfl rfl ?_
  refine g_icY w e10_6 (by decide) (q := 16) (by decide) (Jvm.Free.XT.ii_lt_t (lt_ofNat hi (by omega))) ?_
  refine g_iloadN w e10_16 (q := 17) rfl rfl ?_
  exact g_reti w e10_17 rfl (by decide) (by decide) ⟨rfl, rfl⟩
theorem e11_0 : decode jdk_42_method_155_code 0 = .ok (.iload_n 0, 1) := by decide +kernel
theorem e11_1 : decode jdk_42_method_155_code 1 = .ok (.iload_n 1, 1) := by decide +kernel
theorem e11_2 : decode jdk_42_method_155_code 2 = .ok (.getstatic 1053, 3) := by decide +kernel
theorem e11_5 : decode jdk_42_method_155_code 5 = .ok (.invokestatic 1059, 3) := by decide +kernel
theorem e11_8 : decode jdk_42_method_155_code 8 = .ok (.pop, 1) := by decide +kernel
theorem e11_9 : decode jdk_42_method_155_code 9 = .ok (.return_, 1) := by decide +kernel
theorem pd8 : parseMethodDescriptor "(IILjava/util/function/BiFunction;)I" = some ⟨[.int, .int, (.object "java/util/function/BiFunction")], some .int⟩ := by decide +kernel
set_option maxRecDepth 65536 in
set_option maxHeartbeats 40000000 in
theorem con_sck (l : Launch) (Z : State) (a0 : Array Value) (hw : ∀ d ∈ tables_1, d.before a0 Z = true) (fm : Value) (i_ : Nat) (cs : List Int32) (h0 : Heap) (O0 : Ext Z.heap h0) (hi : i_ < cs.length) (hn : cs.length ≤ 20) (SFm : Sta Z Z.heap "jdk/internal/util/Preconditions" "SIOOBE_FORMATTER" "Ljava/util/function/BiFunction;" fm) (rfm : fm.isRef = true) :
    Con l Z consts_1 false (⟨"java/lang/String", "checkIndex", "(II)V"⟩ : MethodName) jdk_42_method_155_code 2 none [] ({ frames := 1, cells := 0, slots := 0, locals := 14 } : Room) #[(.int (Int32.ofNat i_)), (.int (Int32.ofNat cs.length))] [] h0 (fun v h => v = none ∧ h = h0) := by
  refine Con.intro (Ls := #[.val (.int (Int32.ofNat i_)), .val (.int (Int32.ofNat cs.length))]) (plainFor_of_name pn1) (own_EL hw) O0 (fun m => by first | (simp [entryFrame, mkF, argsToLocals, Value.category]; done) | rfl) (fun p e s m below meth cc_ T w sf_ => ?_)
  have E0 := ext_refl h0
  refine g_iloadN w e11_0 (q := 1) rfl rfl ?_
  refine g_iloadN w e11_1 (q := 2) rfl rfl ?_
  refine g_getS w e11_2 (q := 5) rfl (hw _ (List.mem_of_getElem? (i := 114) rfl)) Via.refl SFm (fun T w => ?_)
  refine g_staticP w (con_pci l Z a0 hw fm i_ cs _ w.old hi hn rfm) no0 e11_5 (q := 8) rfl rfl (hw _ (List.mem_of_getElem? (i := 116) rfl)) (hw _ (List.mem_of_getElem? (i := 117) rfl)) (hw _ (List.mem_of_getElem? (i := 115) rfl)) (hw _ (List.mem_of_getElem? (i := 118) rfl)) (by decide) pd8 rfl rfl (W := 0) (Nat.le_of_eq rfl) (by decide) (by decide) (by decide) (by decide) (fun T v w C q => ?_)
  obtain rfl := q
  show Go p e below _ (State.setTop T (mkF m 8 #[.val (.int (Int32.ofNat i_)), .val (.int (Int32.ofNat cs.length))] [(.int (Int32.ofNat i_))]))
  refine g_pop w e11_8 (q := 9) rfl rfl ?_
  exact g_return w e11_9 rfl (by decide) (by decide) ⟨rfl, rfl⟩
theorem e12_0 : decode jdk_43_method_2_code 0 = .ok (.iload_n 1, 1) := by decide +kernel
theorem e12_1 : decode jdk_43_method_2_code 1 = .ok (.aload_n 0, 1) := by decide +kernel
theorem e12_2 : decode jdk_43_method_2_code 2 = .ok (.arraylength, 1) := by decide +kernel
theorem e12_3 : decode jdk_43_method_2_code 3 = .ok (.invokestatic 9, 3) := by decide +kernel
theorem e12_6 : decode jdk_43_method_2_code 6 = .ok (.aload_n 0, 1) := by decide +kernel
theorem e12_7 : decode jdk_43_method_2_code 7 = .ok (.iload_n 1, 1) := by decide +kernel
theorem e12_8 : decode jdk_43_method_2_code 8 = .ok (.baload, 1) := by decide +kernel
theorem e12_9 : decode jdk_43_method_2_code 9 = .ok (.sipush 255, 3) := by decide +kernel
theorem e12_12 : decode jdk_43_method_2_code 12 = .ok (.iand, 1) := by decide +kernel
theorem e12_13 : decode jdk_43_method_2_code 13 = .ok (.i2c, 1) := by decide +kernel
theorem e12_14 : decode jdk_43_method_2_code 14 = .ok (.ireturn, 1) := by decide +kernel
theorem pd9 : parseMethodDescriptor "(II)V" = some ⟨[.int, .int], none⟩ := by decide +kernel
theorem pn3 : plainName "java/lang/StringLatin1" = true := by first | (simp [plainName, overriddenIn]; done) | decide +kernel
set_option maxRecDepth 65536 in
set_option maxHeartbeats 40000000 in
theorem con_lch (l : Launch) (Z : State) (a0 : Array Value) (hw : ∀ d ∈ tables_1, d.before a0 Z = true) (fm : Value) (t : Addr) (i_ : Nat) (cs : List Int32) (h0 : Heap) (O0 : Ext Z.heap h0) (A_t : Ar Z h0 t .byte ((cs.map fun c => c.toInt8.toInt32).map Value.int)) (hl8 : ∀ c ∈ cs, Lt8 c) (hi : i_ < cs.length) (hn : cs.length ≤ 20) (SFm : Sta Z Z.heap "jdk/internal/util/Preconditions" "SIOOBE_FORMATTER" "Ljava/util/function/BiFunction;" fm) (rfm : fm.isRef = true) :
    Con l Z consts_1 false (⟨"java/lang/StringLatin1", "charAt", "([BI)C"⟩ : MethodName) jdk_43_method_2_code 2 (some .char) [] ({ frames := 2, cells := 0, slots := 0, locals := 27 } : Room) #[(.ref t), (.int (Int32.ofNat i_))] [] h0 (fun v h => v = some (.int (cs.getD i_ 0)) ∧ h = h0) := by
  refine Con.intro (Ls := #[.val (.ref t), .val (.int (Int32.ofNat i_))]) (plainFor_of_name pn3) (own_EL hw) O0 (fun m => by first | (simp [entryFrame, mkF, argsToLocals, Value.category]; done) | rfl) (fun p e s m below meth cc_ T w sf_ => ?_)
  have E0 := ext_refl h0
  refine g_iloadN w e12_0 (q := 1) rfl rfl ?_
  refine g_aloadN w e12_1 (q := 2) rfl rfl rfl ?_
  refine g_alen w e12_2 (q := 3) rfl A_t ?_
  rw [List.length_map, List.length_map]
  show Go p e below _ (State.setTop T (mkF m 3 #[.val (.ref t), .val (.int (Int32.ofNat i_))] [(.int (Int32.ofNat cs.length)), (.int (Int32.ofNat i_))]))
  refine g_staticP w (con_sck l Z a0 hw fm i_ cs _ w.old hi hn SFm rfm) no0 e12_3 (q := 6) rfl rfl (hw _ (List.mem_of_getElem? (i := 111) rfl)) (hw _ (List.mem_of_getElem? (i := 112) rfl)) (hw _ (List.mem_of_getElem? (i := 5) rfl)) (hw _ (List.mem_of_getElem? (i := 113) rfl)) (by decide) pd9 rfl rfl (W := 0) (Nat.le_of_eq rfl) (by decide) (by decide) (by decide) (by decide) (fun T v w C q => ?_)
  obtain rfl := q
  show Go p e below _ (State.setTop T (mkF m 6 #[.val (.ref t), .val (.int (Int32.ofNat i_))] []))
  refine g_aloadN w e12_6 (q := 7) rfl rfl rfl ?_
  refine g_iloadN w e12_7 (q := 8) rfl rfl ?_
  refine g_baload w e12_8 (q := 9) rfl A_t (i := i_) rfl (by simp; omega) (lat_at hi) ?_
  refine g_sipush w e12_9 (q := 12) rfl (v := (255 : Int32)) (by decide) ?_
  refine g_iand w e12_12 (q := 13) rfl ?_
  rw [lo8_back (lat_all hl8 hi)]
  show Go p e below _ (State.setTop T (mkF m 13 #[.val (.ref t), .val (.int (Int32.ofNat i_))] [(.int (cs.getD i_ 0))]))
  refine g_i2c w e12_13 (q := 14) rfl ?_
  rw [show (cs.getD i_ 0).toUInt32.toUInt16.toUInt32.toInt32 = (cs.getD i_ 0) from nar_lat (lat_all hl8 hi)]
  exact g_retn w e12_14 rfl (by simp) (nar_lat (lat_all hl8 hi)) (by decide) (by decide) ⟨rfl, rfl⟩
theorem e13_0 : decode jdk_52_method_6_code 0 = .ok (.aload_n 0, 1) := by decide +kernel
theorem e13_1 : decode jdk_52_method_6_code 1 = .ok (.arraylength, 1) := by decide +kernel
theorem e13_2 : decode jdk_52_method_6_code 2 = .ok (.iconst 1, 1) := by decide +kernel
theorem e13_3 : decode jdk_52_method_6_code 3 = .ok (.ishr, 1) := by decide +kernel
theorem e13_4 : decode jdk_52_method_6_code 4 = .ok (.ireturn, 1) := by decide +kernel
set_option maxRecDepth 65536 in
set_option maxHeartbeats 40000000 in
theorem con_uln (l : Launch) (Z : State) (a0 : Array Value) (hw : ∀ d ∈ tables_1, d.before a0 Z = true) (t : Addr) (cs : List Int32) (h0 : Heap) (O0 : Ext Z.heap h0) (A_t : Ar Z h0 t .byte (StrChars.Road.wideBytes cs)) (hn : cs.length ≤ 20) :
    Con l Z consts_1 false (⟨"java/lang/StringUTF16", "length", "([B)I"⟩ : MethodName) jdk_52_method_6_code 1 (some .int) [] ({ frames := 0, cells := 0, slots := 0, locals := 0 } : Room) #[(.ref t)] [] h0 (fun v h => v = some (.int (Int32.ofNat cs.length)) ∧ h = h0) := by
  refine Con.intro (Ls := #[.val (.ref t)]) (plainFor_of_name pn0) (own_EL hw) O0 (fun m => by first | (simp [entryFrame, mkF, argsToLocals, Value.category]; done) | rfl) (fun p e s m below meth cc_ T w sf_ => ?_)
  have E0 := ext_refl h0
  refine g_aloadN w e13_0 (q := 1) rfl rfl rfl ?_
  refine g_alen w e13_1 (q := 2) rfl A_t ?_
  rw [wide_len]
  show Go p e below _ (State.setTop T (mkF m 2 #[.val (.ref t)] [(.int (Int32.ofNat (2 * cs.length)))]))
  refine g_iconst w e13_2 (q := 3) rfl (v := (1 : Int32)) (by decide) ?_
  refine g_ishr w e13_3 (q := 4) rfl ?_
  rw [shr1 _ (by omega)]
  show Go p e below _ (State.setTop T (mkF m 4 #[.val (.ref t)] [(.int (Int32.ofNat cs.length))]))
  exact g_reti w e13_4 rfl (by decide) (by decide) ⟨rfl, rfl⟩
theorem e14_0 : decode jdk_52_method_91_code 0 = .ok (.iload_n 0, 1) := by decide +kernel
theorem e14_1 : decode jdk_52_method_91_code 1 = .ok (.aload_n 1, 1) := by decide +kernel
theorem e14_2 : decode jdk_52_method_91_code 2 = .ok (.invokestatic 48, 3) := by decide +kernel
theorem e14_5 : decode jdk_52_method_91_code 5 = .ok (.invokestatic 414, 3) := by decide +kernel
theorem e14_8 : decode jdk_52_method_91_code 8 = .ok (.return_, 1) := by decide +kernel
theorem pd10 : parseMethodDescriptor "([B)I" = some ⟨[(.array .byte)], some .int⟩ := by decide +kernel
set_option maxRecDepth 65536 in
set_option maxHeartbeats 40000000 in
theorem con_uck (l : Launch) (Z : State) (a0 : Array Value) (hw : ∀ d ∈ tables_1, d.before a0 Z = true) (fm : Value) (t : Addr) (i_ : Nat) (cs : List Int32) (h0 : Heap) (O0 : Ext Z.heap h0) (A_t : Ar Z h0 t .byte (StrChars.Road.wideBytes cs)) (hi : i_ < cs.length) (hn : cs.length ≤ 20) (SFm : Sta Z Z.heap "jdk/internal/util/Preconditions" "SIOOBE_FORMATTER" "Ljava/util/function/BiFunction;" fm) (rfm : fm.isRef = true) :
    Con l Z consts_1 false (⟨"java/lang/StringUTF16", "checkIndex", "(I[B)V"⟩ : MethodName) jdk_52_method_91_code 2 none [] ({ frames := 2, cells := 0, slots := 0, locals := 27 } : Room) #[(.int (Int32.ofNat i_)), (.ref t)] [] h0 (fun v h => v = none ∧ h = h0) := by
  refine Con.intro (Ls := #[.val (.int (Int32.ofNat i_)), .val (.ref t)]) (plainFor_of_name pn0) (own_EL hw) O0 (fun m => by first | (simp [entryFrame, mkF, argsToLocals, Value.category]; done) | rfl) (fun p e s m below meth cc_ T w sf_ => ?_)
  have E0 := ext_refl h0
  refine g_iloadN w e14_0 (q := 1) rfl rfl ?_
  refine g_aloadN w e14_1 (q := 2) rfl rfl rfl ?_
  refine g_staticP w (con_uln l Z a0 hw t cs _ w.old A_t hn) no0 e14_2 (q := 5) rfl rfl (hw _ (List.mem_of_getElem? (i := 179) rfl)) (hw _ (List.mem_of_getElem? (i := 180) rfl)) (hw _ (List.mem_of_getElem? (i := 78) rfl)) (hw _ (List.mem_of_getElem? (i := 181) rfl)) (by decide) pd10 rfl rfl (W := 1) (Nat.le_of_eq rfl) (by decide) (by decide) (by decide) (by decide) (fun T v w C q => ?_)
  obtain rfl := q
  show Go p e below _ (State.setTop T (mkF m 5 #[.val (.int (Int32.ofNat i_)), .val (.ref t)] [(.int (Int32.ofNat cs.length)), (.int (Int32.ofNat i_))]))
  refine g_staticP w (con_sck l Z a0 hw fm i_ cs _ w.old hi hn SFm rfm) no0 e14_5 (q := 8) rfl rfl (hw _ (List.mem_of_getElem? (i := 182) rfl)) (hw _ (List.mem_of_getElem? (i := 112) rfl)) (hw _ (List.mem_of_getElem? (i := 5) rfl)) (hw _ (List.mem_of_getElem? (i := 113) rfl)) (by decide) pd9 rfl rfl (W := 0) (Nat.le_of_eq rfl) (by decide) (by decide) (by decide) (by decide) (fun T v w C q => ?_)
  obtain rfl := q
  show Go p e below _ (State.setTop T (mkF m 8 #[.val (.int (Int32.ofNat i_)), .val (.ref t)] []))
  exact g_return w e14_8 rfl (by decide) (by decide) ⟨rfl, rfl⟩
theorem e15_0 : decode jdk_52_method_83_code 0 = .ok (.iload_n 1, 1) := by decide +kernel
theorem e15_1 : decode jdk_52_method_83_code 1 = .ok (.aload_n 0, 1) := by decide +kernel
theorem e15_2 : decode jdk_52_method_83_code 2 = .ok (.invokestatic 67, 3) := by decide +kernel
theorem e15_5 : decode jdk_52_method_83_code 5 = .ok (.aload_n 0, 1) := by decide +kernel
theorem e15_6 : decode jdk_52_method_83_code 6 = .ok (.iload_n 1, 1) := by decide +kernel
theorem e15_7 : decode jdk_52_method_83_code 7 = .ok (.invokestatic 71, 3) := by decide +kernel
theorem e15_10 : decode jdk_52_method_83_code 10 = .ok (.ireturn, 1) := by decide +kernel
theorem pd11 : parseMethodDescriptor "(I[B)V" = some ⟨[.int, (.array .byte)], none⟩ := by decide +kernel
set_option maxRecDepth 65536 in
set_option maxHeartbeats 40000000 in
theorem con_uch (l : Launch) (Z : State) (a0 : Array Value) (hw : ∀ d ∈ tables_1, d.before a0 Z = true) (fm : Value) (t : Addr) (i_ : Nat) (cs : List Int32) (h0 : Heap) (O0 : Ext Z.heap h0) (A_t : Ar Z h0 t .byte (StrChars.Road.wideBytes cs)) (hi : i_ < cs.length) (hn : cs.length ≤ 20) (hl : ∀ c ∈ cs, Lt16 c) (SFm : Sta Z Z.heap "jdk/internal/util/Preconditions" "SIOOBE_FORMATTER" "Ljava/util/function/BiFunction;" fm) (rfm : fm.isRef = true) (SA_ : Sta Z Z.heap "java/lang/StringUTF16" "$assertionsDisabled" "Z" (.int 1)) (SH_ : Sta Z Z.heap "java/lang/StringUTF16" "HI_BYTE_SHIFT" "I" (.int 0)) (SL_ : Sta Z Z.heap "java/lang/StringUTF16" "LO_BYTE_SHIFT" "I" (.int 8)) :
    Con l Z consts_1 false (⟨"java/lang/StringUTF16", "charAt", "([BI)C"⟩ : MethodName) jdk_52_method_83_code 2 (some .char) [] ({ frames := 3, cells := 0, slots := 0, locals := 40 } : Room) #[(.ref t), (.int (Int32.ofNat i_))] [] h0 (fun v h => v = some (.int (cs.getD i_ 0)) ∧ h = h0) := by
  refine Con.intro (Ls := #[.val (.ref t), .val (.int (Int32.ofNat i_))]) (plainFor_of_name pn0) (own_EL hw) O0 (fun m => by first | (simp [entryFrame, mkF, argsToLocals, Value.category]; done) | rfl) (fun p e s m below meth cc_ T w sf_ => ?_)
  have E0 := ext_refl h0
  refine g_iloadN w e15_0 (q := 1) rfl rfl ?_
  refine g_aloadN w e15_1 (q := 2) rfl rfl rfl ?_
  refine g_staticP w (con_uck l Z a0 hw fm t i_ cs _ w.old A_t hi hn SFm rfm) no0 e15_2 (q := 5) rfl rfl (hw _ (List.mem_of_getElem? (i := 176) rfl)) (hw _ (List.mem_of_getElem? (i := 177) rfl)) (hw _ (List.mem_of_getElem? (i := 78) rfl)) (hw _ (List.mem_of_getElem? (i := 178) rfl)) (by decide) pd11 rfl rfl (W := 0) (Nat.le_of_eq rfl) (by decide) (by decide) (by decide) (by decide) (fun T v w C q => ?_)
  obtain rfl := q
  show Go p e below _ (State.setTop T (mkF m 5 #[.val (.ref t), .val (.int (Int32.ofNat i_))] []))
  refine g_aloadN w e15_5 (q := 6) rfl rfl rfl ?_
  refine g_iloadN w e15_6 (q := 7) rfl rfl ?_
  refine g_staticP w (con_get l Z a0 hw t i_ cs _ w.old A_t hi hn hl SA_ SH_ SL_) no0 e15_7 (q := 10) rfl rfl (hw _ (List.mem_of_getElem? (i := 170) rfl)) (hw _ (List.mem_of_getElem? (i := 171) rfl)) (hw _ (List.mem_of_getElem? (i := 78) rfl)) (hw _ (List.mem_of_getElem? (i := 172) rfl)) (by decide) pd5 rfl rfl (W := 0) (Nat.le_of_eq rfl) (by decide) (by decide) (by decide) (by decide) (fun T v w C q => ?_)
  obtain rfl := q
  show Go p e below _ (State.setTop T (mkF m 10 #[.val (.ref t), .val (.int (Int32.ofNat i_))] [(.int (cs.getD i_ 0))]))
  exact g_retn w e15_10 rfl (by simp) (nar_chr (chr_all hl hi)) (by decide) (by decide) ⟨rfl, rfl⟩
theorem e16_0 : decode jdk_42_method_154_code 0 = .ok (.getstatic 38, 3) := by decide +kernel
theorem e16_3 : decode jdk_42_method_154_code 3 = .ok (.ifCond .eq 14, 3) := by decide +kernel
theorem e16_6 : decode jdk_42_method_154_code 6 = .ok (.aload_n 0, 1) := by decide +kernel
theorem e16_7 : decode jdk_42_method_154_code 7 = .ok (.getfield 15, 3) := by decide +kernel
theorem e16_10 : decode jdk_42_method_154_code 10 = .ok (.ifCond .ne 7, 3) := by decide +kernel
theorem e16_13 : decode jdk_42_method_154_code 13 = .ok (.iconst 1, 1) := by decide +kernel
theorem e16_14 : decode jdk_42_method_154_code 14 = .ok (.goto 4, 3) := by decide +kernel
theorem e16_17 : decode jdk_42_method_154_code 17 = .ok (.iconst 0, 1) := by decide +kernel
theorem e16_18 : decode jdk_42_method_154_code 18 = .ok (.ireturn, 1) := by decide +kernel
set_option maxRecDepth 65536 in
set_option maxHeartbeats 40000000 in
theorem con_il2 (l : Launch) (Z : State) (a0 : Array Value) (hw : ∀ d ∈ tables_1, d.before a0 Z = true) (x : Addr) (cd : Int32) (h0 : Heap) (O0 : Ext Z.heap h0) (F_c : Fld Z h0 x "java/lang/String" "coder" "B" (.int cd)) (hcm : Cpt Z) :
    Con l Z consts_1 false (⟨"java/lang/String", "isLatin1", "()Z"⟩ : MethodName) jdk_42_method_154_code 1 (some .boolean) [] ({ frames := 0, cells := 0, slots := 0, locals := 0 } : Room) #[(.ref x)] [] h0 (fun v h => ((v = some (.int 1) ∧ cd = 0) ∨ (v = some (.int 0) ∧ ¬ cd = 0)) ∧ h = h0) := by
  refine Con.intro (Ls := #[.val (.ref x)]) (plainFor_of_name pn1) (own_EL hw) O0 (fun m => by first | (simp [entryFrame, mkF, argsToLocals, Value.category]; done) | rfl) (fun p e s m below meth cc_ T w sf_ => ?_)
  have E0 := ext_refl h0
  obtain ⟨z_, hz_, SC_⟩ := id hcm
  refine g_getS w e16_0 (q := 3) rfl (hw _ (List.mem_of_getElem? (i := 75) rfl)) Via.refl SC_ (fun T w => ?_)
  refine g_ifN w e16_3 (q := 6) rfl (Jvm.Free.XT.i0_eq_f hz_) ?_
  refine g_aloadN w e16_6 (q := 7) rfl rfl rfl ?_
  refine g_getF w e16_7 (q := 10) rfl (host := "") (Or.inl (hw _ (List.mem_of_getElem? (i := 86) rfl))) Via.refl F_c (fun T w => ?_)
  refine g_if_ne w e16_10 (by decide) (q := 17) (by decide) (q' := 13) rfl (fun cd1 => ?_) (fun cd1 => ?_)
  · refine g_iconst w e16_17 (q := 18) rfl (v := (0 : Int32)) (by decide) ?_
    exact g_retn w e16_18 rfl (by simp) rfl (by decide) (by decide) ⟨Or.inr ⟨rfl, cd1⟩, rfl⟩
  · refine g_iconst w e16_13 (q := 14) rfl (v := (1 : Int32)) (by decide) ?_
    refine g_goto w e16_14 (by decide) (q := 18) (by decide) ?_
    exact g_retn w e16_18 rfl (by simp) rfl (by decide) (by decide) ⟨Or.inl ⟨rfl, cd1⟩, rfl⟩
theorem e17_0 : decode jdk_42_method_56_code 0 = .ok (.aload_n 0, 1) := by decide +kernel
theorem e17_1 : decode jdk_42_method_56_code 1 = .ok (.invokevirtual 492, 3) := by decide +kernel
theorem e17_4 : decode jdk_42_method_56_code 4 = .ok (.ifCond .eq 12, 3) := by decide +kernel
theorem e17_7 : decode jdk_42_method_56_code 7 = .ok (.aload_n 0, 1) := by decide +kernel
theorem e17_8 : decode jdk_42_method_56_code 8 = .ok (.getfield 9, 3) := by decide +kernel
theorem e17_11 : decode jdk_42_method_56_code 11 = .ok (.iload_n 1, 1) := by decide +kernel
theorem e17_12 : decode jdk_42_method_56_code 12 = .ok (.invokestatic 495, 3) := by decide +kernel
theorem e17_15 : decode jdk_42_method_56_code 15 = .ok (.ireturn, 1) := by decide +kernel
theorem e17_16 : decode jdk_42_method_56_code 16 = .ok (.aload_n 0, 1) := by decide +kernel
theorem e17_17 : decode jdk_42_method_56_code 17 = .ok (.getfield 9, 3) := by decide +kernel
theorem e17_20 : decode jdk_42_method_56_code 20 = .ok (.iload_n 1, 1) := by decide +kernel
theorem e17_21 : decode jdk_42_method_56_code 21 = .ok (.invokestatic 498, 3) := by decide +kernel
theorem e17_24 : decode jdk_42_method_56_code 24 = .ok (.ireturn, 1) := by decide +kernel
theorem pd12 : parseMethodDescriptor "()Z" = some ⟨[], some .boolean⟩ := by decide +kernel
set_option maxRecDepth 65536 in
set_option maxHeartbeats 40000000 in
theorem con_sch (l : Launch) (Z : State) (a0 : Array Value) (hw : ∀ d ∈ tables_1, d.before a0 Z = true) (fm : Value) (x : Addr) (i_ : Nat) (cs : List Int32) (h0 : Heap) (O0 : Ext Z.heap h0) (U_x : Su Z h0 x cs) (hi : i_ < cs.length) (hn : cs.length ≤ 20) (hcm : Cpt Z) (SFm : Sta Z Z.heap "jdk/internal/util/Preconditions" "SIOOBE_FORMATTER" "Ljava/util/function/BiFunction;" fm) (rfm : fm.isRef = true) (SA_ : Sta Z Z.heap "java/lang/StringUTF16" "$assertionsDisabled" "Z" (.int 1)) (SH_ : Sta Z Z.heap "java/lang/StringUTF16" "HI_BYTE_SHIFT" "I" (.int 0)) (SL_ : Sta Z Z.heap "java/lang/StringUTF16" "LO_BYTE_SHIFT" "I" (.int 8)) :
    Con l Z consts_1 false (⟨"java/lang/String", "charAt", "(I)C"⟩ : MethodName) jdk_42_method_56_code 2 (some .char) [] ({ frames := 4, cells := 0, slots := 0, locals := 53 } : Room) #[(.ref x), (.int (Int32.ofNat i_))] [] h0 (fun v h => v = some (.int (cs.getD i_ 0)) ∧ h = h0) := by
  refine Con.intro (Ls := #[.val (.ref x), .val (.int (Int32.ofNat i_))]) (plainFor_of_name pn1) (own_EL hw) O0 (fun m => by first | (simp [entryFrame, mkF, argsToLocals, Value.category]; done) | rfl) (fun p e s m below meth cc_ T w sf_ => ?_)
  have E0 := ext_refl h0
  obtain ⟨z_, hz_, SC_⟩ := id hcm
  obtain ⟨-, hl, -, t, kb, cd, N2, vs, F_v, F_c, K_t, hc⟩ := id U_x
  refine g_aloadN w e17_0 (q := 1) rfl rfl rfl ?_
  refine g_virtualP w (con_il2 l Z a0 hw x cd _ w.old F_c hcm) no0 U_x.exa e17_1 (q := 4) rfl rfl (hw _ (List.mem_of_getElem? (i := 102) rfl)) (hw _ (List.mem_of_getElem? (i := 103) rfl)) (hw _ (List.mem_of_getElem? (i := 105) rfl)) (hw _ (List.mem_of_getElem? (i := 104) rfl)) (hw _ (List.mem_of_getElem? (i := 5) rfl)) (hw _ (List.mem_of_getElem? (i := 106) rfl)) (by decide) (nf (hw _ (List.mem_of_getElem? (i := 105) rfl))) pd12 rfl rfl (W := 0) (Nat.le_of_eq rfl) (by decide) (by decide) (by decide) (by decide) (fun T v w C q => ?_)
  rcases q with ⟨rfl, hcd⟩ | ⟨rfl, hcd⟩
  · rcases hc.symm with ⟨e, -⟩ | ⟨-, e2, e3, hb⟩
    · exact absurd (hcd.symm.trans e) (by decide)
    subst e2 e3
    have hl8 : ∀ c ∈ cs, Lt8 c := fun c q => ⟨(hl c q).1, hb c q⟩
    have A_t : Ar Z h0 t .byte ((cs.map fun c => c.toInt8.toInt32).map Value.int) := ⟨by simp; omega, kb, .int 0, by simp only [List.length_map, List.map_map]; exact K_t⟩
    show Go p e below _ (State.setTop T (mkF m 4 #[.val (.ref x), .val (.int (Int32.ofNat i_))] [(.int (1 : Int32))]))
    refine g_ifN w e17_4 (q := 7) rfl (by decide) ?_
    refine g_aloadN w e17_7 (q := 8) rfl rfl rfl ?_
    refine g_getF w e17_8 (q := 11) rfl (host := "") (Or.inl (hw _ (List.mem_of_getElem? (i := 35) rfl))) Via.refl F_v (fun T w => ?_)
    refine g_iloadN w e17_11 (q := 12) rfl rfl ?_
    refine g_staticP w (con_lch l Z a0 hw fm t i_ cs _ w.old A_t hl8 hi hn SFm rfm) no0 e17_12 (q := 15) rfl rfl (hw _ (List.mem_of_getElem? (i := 107) rfl)) (hw _ (List.mem_of_getElem? (i := 108) rfl)) (hw _ (List.mem_of_getElem? (i := 109) rfl)) (hw _ (List.mem_of_getElem? (i := 110) rfl)) (by decide) pd5 rfl rfl (W := 0) (Nat.le_of_eq rfl) (by decide) (by decide) (by decide) (by decide) (fun T v w C q => ?_)
    obtain rfl := q
    show Go p e below _ (State.setTop T (mkF m 15 #[.val (.ref x), .val (.int (Int32.ofNat i_))] [(.int (cs.getD i_ 0))]))
    exact g_retn w e17_15 rfl (by simp) (nar_chr (chr_all hl hi)) (by decide) (by decide) ⟨rfl, rfl⟩
  · rcases hc with ⟨e, -⟩ | ⟨-, e2, e3, hb⟩
    · exact absurd e hcd
    subst e2 e3
    have A_t : Ar Z h0 t .byte (StrChars.Road.wideBytes cs) := ⟨by rw [wide_len]; omega, kb, .int 0, by rw [wide_len]; exact K_t⟩
    show Go p e below _ (State.setTop T (mkF m 4 #[.val (.ref x), .val (.int (Int32.ofNat i_))] [(.int (0 : Int32))]))
    refine g_ifY w e17_4 (by decide) (q := 16) (by decide) (by decide) ?_
    refine g_aloadN w e17_16 (q := 17) rfl rfl rfl ?_
    refine g_getF w e17_17 (q := 20) rfl (host := "") (Or.inl (hw _ (List.mem_of_getElem? (i := 35) rfl))) Via.refl F_v (fun T w => ?_)
    refine g_iloadN w e17_20 (q := 21) rfl rfl ?_
    refine g_staticP w (con_uch l Z a0 hw fm t i_ cs _ w.old A_t hi hn hl SFm rfm SA_ SH_ SL_) no0 e17_21 (q := 24) rfl rfl (hw _ (List.mem_of_getElem? (i := 173) rfl)) (hw _ (List.mem_of_getElem? (i := 174) rfl)) (hw _ (List.mem_of_getElem? (i := 78) rfl)) (hw _ (List.mem_of_getElem? (i := 175) rfl)) (by decide) pd5 rfl rfl (W := 0) (Nat.le_of_eq rfl) (by decide) (by decide) (by decide) (by decide) (fun T v w C q => ?_)
    obtain rfl := q
    show Go p e below _ (State.setTop T (mkF m 24 #[.val (.ref x), .val (.int (Int32.ofNat i_))] [(.int (cs.getD i_ 0))]))
    exact g_retn w e17_24 rfl (by simp) (nar_chr (chr_all hl hi)) (by decide) (by decide) ⟨rfl, rfl⟩
theorem own_lenU {p : Program} {l : Launch} {e : Env} {R : Room} {args : Array Value} {below : List Frame} {W : Nat} {Z : State} {a0 : Array Value} {h : Heap} (hw : ∀ d ∈ tables_1, d.before a0 Z = true) {x : Addr} {cs : List Int32} {z : Int32} (S1 : Su Z h x cs) (S : Sta Z h "java/lang/String" "COMPACT_STRINGS" "Z" (.int z)) (hz : ¬ z = 0) (hfr : 2 ≤ R.frames) (hlo : W + 25 ≤ R.locals) (s' : State) (hZ' : Z.Warmed39 s'.vm) :
    Back l R p e below s' args (⟨"java/lang/String", "length", "()I"⟩ : MethodName) 3 W (fun P a' => a' = #[.ref x] ∧ P.U.heap = h ∧ P.cells + 0 ≤ R.cells ∧ P.slots + 0 ≤ R.slots) (fun P _ v B => ∃ L, (v = some (.int (Int32.ofNat cs.length)) ∧ L = [] ∧ B.U.heap = h) ∧ B.locs = P.locs ++ L ∧ B.cells = P.cells + 0 ∧ B.slots = P.slots + 0) := by
  obtain ⟨l1, b1, E1, t1, k1, cd, N2, vs, V1, C1, A1, hc⟩ := S1
  exact StrChars.Road.lenW hZ' (own_hLen hw) (kI := 4) (hw _ (List.mem_of_getElem? (i := 6) rfl)) E1 V1 C1 A1 hc b1 S hz l1 hfr hlo
theorem own_empU {p : Program} {l : Launch} {e : Env} {R : Room} {args : Array Value} {below : List Frame} {W : Nat} {Z : State} {a0 : Array Value} {h : Heap} (hw : ∀ d ∈ tables_1, d.before a0 Z = true) {x : Addr} {cs : List Int32} (S1 : Su Z h x cs) (hfr : 1 ≤ R.frames) (hlo : W + 12 ≤ R.locals) (s' : State) (hZ' : Z.Warmed39 s'.vm) :
    Back l R p e below s' args (⟨"java/lang/String", "isEmpty", "()Z"⟩ : MethodName) 3 W (fun P a' => a' = #[.ref x] ∧ P.U.heap = h ∧ P.cells + 0 ≤ R.cells ∧ P.slots + 0 ≤ R.slots) (fun P _ v B => ∃ L, (v = some (.int (if cs.length = 0 then 1 else 0)) ∧ L = [] ∧ B.U.heap = h) ∧ B.locs = P.locs ++ L ∧ B.cells = P.cells + 0 ∧ B.slots = P.slots + 0) := by
  obtain ⟨l1, b1, E1, t1, k1, cd, N2, vs, V1, C1, A1, hc⟩ := S1
  exact StrChars.Road.empW hZ' (own_hEmp hw) (kI := 4) (hw _ (List.mem_of_getElem? (i := 6) rfl)) E1 V1 C1 A1 hc b1 l1 hfr hlo
/-- the plain law of l823-m1: a row of chars read as a number, step by step -/
def dv (c : Int32) : Nat := (c - 48).toInt.toNat
def Dg (c : Int32) : Prop := ¬ c < 48 ∧ ¬ 57 < c
def scan : List Int32 → Nat → Option Nat
  | [], n => some n
  | c :: r, n => if c < 48 ∨ 57 < c then none else if 2147483647 < n * 10 + dv c then none else scan r (n * 10 + dv c)
def fval : List Int32 → Nat → Nat
  | [], n => n
  | c :: r, n => fval r (n * 10 + dv c)
theorem fval_ge : ∀ (cs : List Int32) (n : Nat), n ≤ fval cs n
  | [], n => Nat.le_refl n
  | c :: r, n => Nat.le_trans (by omega) (fval_ge r (n * 10 + dv c))
theorem scan_dig : ∀ (cs : List Int32) (n : Nat), (∀ c ∈ cs, Dg c) → n ≤ 2147483647 → scan cs n = if fval cs n ≤ 2147483647 then some (fval cs n) else none
  | [], n, _, h => by rw [if_pos (show fval [] n ≤ 2147483647 from h)]; rfl
  | c :: r, n, hd, h => by
    have hc := hd c (List.mem_cons_self ..)
    have hc' : ¬ (c < 48 ∨ 57 < c) := fun q => q.elim hc.1 hc.2
    rw [scan, if_neg hc']
    by_cases q : 2147483647 < n * 10 + dv c
    · have g := fval_ge r (n * 10 + dv c)
      have q' : ¬ fval (c :: r) n ≤ 2147483647 := by show ¬ fval r (n * 10 + dv c) ≤ 2147483647; omega
      rw [if_pos q, if_neg q']
    · rw [if_neg q, scan_dig r _ (fun c hc => hd c (List.mem_cons_of_mem _ hc)) (by omega)]; rfl
theorem scan_bad : ∀ (cs : List Int32) (n : Nat), (∃ c ∈ cs, ¬ Dg c) → scan cs n = none
  | [], _, ⟨_, h, _⟩ => nomatch h
  | c :: r, n, ⟨d, hd, hb⟩ => by
    rw [scan]
    by_cases q : c < 48 ∨ 57 < c
    · rw [if_pos q]
    · rw [if_neg q]; split
      · rfl
      · refine scan_bad r _ ⟨d, ?_, hb⟩
        rcases List.mem_cons.mp hd with rfl | h
        · exact absurd ⟨fun a => q (Or.inl a), fun a => q (Or.inr a)⟩ hb
        · exact h
theorem fval_lin : ∀ (cs : List Int32) (n : Nat), fval cs n = n * 10 ^ cs.length + fval cs 0
  | [], n => by simp [fval]
  | c :: r, n => by
    show fval r (n * 10 + dv c) = n * 10 ^ (r.length + 1) + fval r (0 * 10 + dv c)
    rw [fval_lin r (n * 10 + dv c), fval_lin r (0 * 10 + dv c), Nat.pow_succ, Nat.add_mul, Nat.add_mul, Nat.mul_assoc n 10, Nat.mul_comm 10 (10 ^ r.length)]
    omega
theorem fval_set : ∀ (cs : List Int32) (n i : Nat) (c : Int32), i < cs.length → fval (cs.set i c) n + dv (cs.getD i 0) * 10 ^ (cs.length - 1 - i) = fval cs n + dv c * 10 ^ (cs.length - 1 - i)
  | [], _, _, _, h => absurd h (Nat.not_lt_zero _)
  | a :: r, n, 0, c, _ => by
    show fval r (n * 10 + dv c) + dv a * 10 ^ (r.length + 1 - 1 - 0) = fval r (n * 10 + dv a) + dv c * 10 ^ (r.length + 1 - 1 - 0)
    rw [fval_lin r (n * 10 + dv c), fval_lin r (n * 10 + dv a), Nat.add_mul, Nat.add_mul, show r.length + 1 - 1 - 0 = r.length from by omega]
    omega
  | a :: r, n, i + 1, c, h => by
    have q := fval_set r (n * 10 + dv a) i c (by simpa using h)
    show fval (r.set i c) (n * 10 + dv a) + dv (r.getD i 0) * 10 ^ (r.length + 1 - 1 - (i + 1)) = fval r (n * 10 + dv a) + dv c * 10 ^ (r.length + 1 - 1 - (i + 1))
    rw [show r.length + 1 - 1 - (i + 1) = r.length - 1 - i from by omega]
    exact q
def fv : List Nat → Nat → Nat
  | [], n => n
  | d :: r, n => fv r (n * 10 + d)
theorem fval_fv : ∀ (cs : List Int32) (n : Nat), fval cs n = fv (cs.map dv) n
  | [], _ => rfl
  | c :: r, n => fval_fv r (n * 10 + dv c)
theorem fv_app : ∀ (a b : List Nat) (n : Nat), fv (a ++ b) n = fv b (fv a n)
  | [], _, _ => rfl
  | d :: a, b, n => fv_app a b (n * 10 + d)
def digs : Nat → Nat → List Nat
  | 0, _ => []
  | k + 1, V => V / 10 ^ k % 10 :: digs k V
theorem fv_digs : ∀ (k V n : Nat), fv (digs k V) n = n * 10 ^ k + V % 10 ^ k
  | 0, V, n => by simp [digs, fv, Nat.mod_one]
  | k + 1, V, n => by
    show fv (digs k V) (n * 10 + V / 10 ^ k % 10) = _
    rw [fv_digs k V, Nat.mod_pow_succ, Nat.pow_succ, Nat.add_mul, Nat.mul_assoc n 10, Nat.mul_comm 10 (10 ^ k), Nat.mul_comm (10 ^ k) (V / 10 ^ k % 10)]
    omega
theorem dv_dig : ∀ d < 10, dv (Int32.ofNat (48 + d)) = d ∧ Dg (Int32.ofNat (48 + d)) := by unfold Dg; decide +kernel

theorem e18_0 : decode jdk_43_method_3_code 0 = .ok (.iload_n 0, 1) := by decide +kernel
theorem e18_1 : decode jdk_43_method_3_code 1 = .ok (.sipush 255, 3) := by decide +kernel
theorem e18_4 : decode jdk_43_method_3_code 4 = .ok (.if_icmp .gt 7, 3) := by decide +kernel
theorem e18_7 : decode jdk_43_method_3_code 7 = .ok (.iconst 1, 1) := by decide +kernel
theorem e18_8 : decode jdk_43_method_3_code 8 = .ok (.goto 4, 3) := by decide +kernel
theorem e18_11 : decode jdk_43_method_3_code 11 = .ok (.iconst 0, 1) := by decide +kernel
theorem e18_12 : decode jdk_43_method_3_code 12 = .ok (.ireturn, 1) := by decide +kernel
set_option maxRecDepth 65536 in
set_option maxHeartbeats 40000000 in
theorem con_can2 (l : Launch) (Z : State) (a0 : Array Value) (hw : ∀ d ∈ tables_1, d.before a0 Z = true) (c : Int32) (h0 : Heap) (O0 : Ext Z.heap h0) :
    Con l Z consts_1 false (⟨"java/lang/StringLatin1", "canEncode", "(C)Z"⟩ : MethodName) jdk_43_method_3_code 1 (some .boolean) [] ({ frames := 0, cells := 0, slots := 0, locals := 0 } : Room) #[(.int c)] [] h0 (fun v h => ((v = some (.int 1) ∧ ¬ 255 < c) ∨ (v = some (.int 0) ∧ 255 < c)) ∧ h = h0) := by
  refine Con.intro (Ls := #[.val (.int c)]) (plainFor_of_name pn3) (own_EL hw) O0 (fun m => by first | (simp [entryFrame, mkF, argsToLocals, Value.category]; done) | rfl) (fun p e s m below meth cc_ T w sf_ => ?_)
  have E0 := ext_refl h0
  refine g_iloadN w e18_0 (q := 1) rfl rfl ?_
  refine g_sipush w e18_1 (q := 4) rfl (v := (255 : Int32)) (by decide) ?_
  refine g_ic_gt w e18_4 (by decide) (q := 11) (by decide) (q' := 7) rfl (fun cd1 => ?_) (fun cd1 => ?_)
  · refine g_iconst w e18_11 (q := 12) rfl (v := (0 : Int32)) (by decide) ?_
    exact g_retn w e18_12 rfl (by simp) rfl (by decide) (by decide) ⟨Or.inr ⟨rfl, cd1⟩, rfl⟩
  · refine g_iconst w e18_7 (q := 8) rfl (v := (1 : Int32)) (by decide) ?_
    refine g_goto w e18_8 (by decide) (q := 12) (by decide) ?_
    exact g_retn w e18_12 rfl (by simp) rfl (by decide) (by decide) ⟨Or.inl ⟨rfl, cd1⟩, rfl⟩
theorem e19_0 : decode jdk_43_method_46_code 0 = .ok (.iconst 1, 1) := by decide +kernel
theorem e19_1 : decode jdk_43_method_46_code 1 = .ok (.newarray .byte, 2) := by decide +kernel
theorem e19_3 : decode jdk_43_method_46_code 3 = .ok (.dup, 1) := by decide +kernel
theorem e19_4 : decode jdk_43_method_46_code 4 = .ok (.iconst 0, 1) := by decide +kernel
theorem e19_5 : decode jdk_43_method_46_code 5 = .ok (.iload_n 0, 1) := by decide +kernel
theorem e19_6 : decode jdk_43_method_46_code 6 = .ok (.i2b, 1) := by decide +kernel
theorem e19_7 : decode jdk_43_method_46_code 7 = .ok (.bastore, 1) := by decide +kernel
theorem e19_8 : decode jdk_43_method_46_code 8 = .ok (.areturn, 1) := by decide +kernel
set_option maxRecDepth 65536 in
set_option maxHeartbeats 40000000 in
theorem con_tb (l : Launch) (Z : State) (a0 : Array Value) (hw : ∀ d ∈ tables_1, d.before a0 Z = true) (c : Int32) (h0 : Heap) (O0 : Ext Z.heap h0) :
    Con l Z consts_1 false (⟨"java/lang/StringLatin1", "toBytes", "(C)[B"⟩ : MethodName) jdk_43_method_46_code 1 (some (.array .byte)) [] ({ frames := 0, cells := 1, slots := 1, locals := 0 } : Room) #[(.int c)] [] h0 (fun v h => ∃ t, v = some (.ref t) ∧ Ext h0 h ∧ h0.size ≤ t ∧ Ar Z h t .byte [.int c.toInt8.toInt32]) := by
  refine Con.intro (Ls := #[.val (.int c)]) (plainFor_of_name pn3) (own_EL hw) O0 (fun m => by first | (simp [entryFrame, mkF, argsToLocals, Value.category]; done) | rfl) (fun p e s m below meth cc_ T w sf_ => ?_)
  have E0 := ext_refl h0
  refine g_iconst w e19_0 (q := 1) rfl (v := (1 : Int32)) (by decide) ?_
  refine g_newarr w e19_1 (q := 3) rfl (hw _ (List.mem_of_getElem? (i := 7) rfl)) (len := 1) (cap := 1) (by decide) (by decide) (by decide) (by decide) (by decide) (fun T h a1 w E g_a1 n_a1 A_a1 s_a1 => ?_)
  have z_a1 := Nat.le_trans E0.1 g_a1
  replace E0 := ext_trans E0 E
  replace A_a1 : Ar Z h a1 .byte [(.int (0 : Int32))] := A_a1
  refine g_dup w e19_3 (q := 4) rfl rfl ?_
  refine g_iconst w e19_4 (q := 5) rfl (v := (0 : Int32)) (by decide) ?_
  refine g_iloadN w e19_5 (q := 6) rfl rfl ?_
  refine g_i2b w e19_6 (q := 7) rfl ?_
  refine g_bastore w e19_7 (q := 8) rfl A_a1 (i := 0) (by decide) (Nat.le_of_ble_eq_true rfl) (x' := c.toInt8.toInt32) (by simp [nar]) n_a1 s_a1 (fun T h w W V => ?_)
  replace E0 := ext_wr E0 W z_a1
  replace A_a1 : Ar Z h a1 .byte [(.int c.toInt8.toInt32)] := V
  exact g_reta w e19_8 rfl rfl rfl (by decide) (by decide) ⟨_, rfl, E0, z_a1, A_a1⟩
theorem e20_0 : decode jdk_52_method_24_code 0 = .ok (.iconst 2, 1) := by decide +kernel
theorem e20_1 : decode jdk_52_method_24_code 1 = .ok (.newarray .byte, 2) := by decide +kernel
theorem e20_3 : decode jdk_52_method_24_code 3 = .ok (.astore_n 1, 1) := by decide +kernel
theorem e20_4 : decode jdk_52_method_24_code 4 = .ok (.aload_n 1, 1) := by decide +kernel
theorem e20_5 : decode jdk_52_method_24_code 5 = .ok (.iconst 0, 1) := by decide +kernel
theorem e20_6 : decode jdk_52_method_24_code 6 = .ok (.iload_n 0, 1) := by decide +kernel
theorem e20_7 : decode jdk_52_method_24_code 7 = .ok (.invokestatic 111, 3) := by decide +kernel
theorem e20_10 : decode jdk_52_method_24_code 10 = .ok (.aload_n 1, 1) := by decide +kernel
theorem e20_11 : decode jdk_52_method_24_code 11 = .ok (.areturn, 1) := by decide +kernel
set_option maxRecDepth 65536 in
set_option maxHeartbeats 40000000 in
theorem con_utc (l : Launch) (Z : State) (a0 : Array Value) (hw : ∀ d ∈ tables_1, d.before a0 Z = true) (c : Int32) (h0 : Heap) (O0 : Ext Z.heap h0) (SA_ : Sta Z Z.heap "java/lang/StringUTF16" "$assertionsDisabled" "Z" (.int 1)) (SH_ : Sta Z Z.heap "java/lang/StringUTF16" "HI_BYTE_SHIFT" "I" (.int 0)) (SL_ : Sta Z Z.heap "java/lang/StringUTF16" "LO_BYTE_SHIFT" "I" (.int 8)) :
    Con l Z consts_1 false (⟨"java/lang/StringUTF16", "toBytes", "(C)[B"⟩ : MethodName) jdk_52_method_24_code 2 (some (.array .byte)) [] ({ frames := 1, cells := 1, slots := 2, locals := 14 } : Room) #[(.int c)] [] h0 (fun v h => ∃ t, v = some (.ref t) ∧ Ext h0 h ∧ h0.size ≤ t ∧ Ar Z h t .byte (StrChars.Road.wideBytes [c])) := by
  refine Con.intro (Ls := #[.val (.int c), .unset]) (plainFor_of_name pn0) (own_EL hw) O0 (fun m => by first | (simp [entryFrame, mkF, argsToLocals, Value.category]; done) | rfl) (fun p e s m below meth cc_ T w sf_ => ?_)
  have E0 := ext_refl h0
  refine g_iconst w e20_0 (q := 1) rfl (v := (2 : Int32)) (by decide) ?_
  refine g_newarr w e20_1 (q := 3) rfl (hw _ (List.mem_of_getElem? (i := 7) rfl)) (len := 2) (cap := 2) (by decide) (by decide) (by decide) (by decide) (by decide) (fun T h a1 w E g_a1 n_a1 A_a1 s_a1 => ?_)
  have z_a1 := Nat.le_trans E0.1 g_a1
  replace E0 := ext_trans E0 E
  replace A_a1 : Ar Z h a1 .byte [(.int (0 : Int32)), (.int (0 : Int32))] := A_a1
  refine g_astoreN w e20_3 (q := 4) rfl rfl (Ls' := #[.val (.int c), .val (.ref a1)]) rfl ?_
  refine g_aloadN w e20_4 (q := 5) rfl rfl rfl ?_
  refine g_iconst w e20_5 (q := 6) rfl (v := (0 : Int32)) (by decide) ?_
  refine g_iloadN w e20_6 (q := 7) rfl rfl ?_
  refine g_static w (con_put l Z a0 hw a1 0 c _ _ w.old A_a1 (by decide) (by decide) n_a1 SA_ SH_ SL_) (in1 ⟨A_a1.lt, s_a1⟩) e20_7 (q := 10) rfl rfl (hw _ (List.mem_of_getElem? (i := 164) rfl)) (hw _ (List.mem_of_getElem? (i := 165) rfl)) (hw _ (List.mem_of_getElem? (i := 78) rfl)) (hw _ (List.mem_of_getElem? (i := 166) rfl)) (by decide) pd2 rfl rfl (W := 0) (Nat.le_of_eq rfl) (by decide) (by decide) (by decide) (by decide) (fun T h v w gs C q => ?_)
  obtain ⟨rfl, K, V⟩ := q
  replace E0 := ext_keep E0 K z_a1
  replace A_a1 := V
  show Go p e below _ (State.setTop T (mkF m 10 #[.val (.int c), .val (.ref a1)] []))
  refine g_aloadN w e20_10 (q := 11) rfl rfl rfl ?_
  exact g_reta w e20_11 rfl rfl rfl (by decide) (by decide) ⟨_, rfl, E0, z_a1, A_a1⟩
theorem e21_0 : decode jdk_42_method_151_code 0 = .ok (.aload_n 0, 1) := by decide +kernel
theorem e21_1 : decode jdk_42_method_151_code 1 = .ok (.invokespecial 1, 3) := by decide +kernel
theorem e21_4 : decode jdk_42_method_151_code 4 = .ok (.aload_n 0, 1) := by decide +kernel
theorem e21_5 : decode jdk_42_method_151_code 5 = .ok (.aload_n 1, 1) := by decide +kernel
theorem e21_6 : decode jdk_42_method_151_code 6 = .ok (.putfield 9, 3) := by decide +kernel
theorem e21_9 : decode jdk_42_method_151_code 9 = .ok (.aload_n 0, 1) := by decide +kernel
theorem e21_10 : decode jdk_42_method_151_code 10 = .ok (.iload_n 2, 1) := by decide +kernel
theorem e21_11 : decode jdk_42_method_151_code 11 = .ok (.putfield 15, 3) := by decide +kernel
theorem e21_14 : decode jdk_42_method_151_code 14 = .ok (.return_, 1) := by decide +kernel
set_option maxRecDepth 65536 in
set_option maxHeartbeats 40000000 in
theorem con_newBB0 (l : Launch) (Z : State) (a0 : Array Value) (hw : ∀ d ∈ tables_1, d.before a0 Z = true) (x t : Addr) (h0 : Heap) (O0 : Ext Z.heap h0) (X_x : Exa Z h0 x "java/lang/String") (F_value_x : Fld Z h0 x "java/lang/String" "value" "[B" .null) (F_coder_x : Fld Z h0 x "java/lang/String" "coder" "B" (.int (0 : Int32))) (n_x : Z.heap.size ≤ x) :
    Con l Z consts_1 false (⟨"java/lang/String", "<init>", "([BB)V"⟩ : MethodName) jdk_42_method_151_code 3 none [] ({ frames := 1, cells := 0, slots := 0, locals := 12 } : Room) #[(.ref x), (.ref t), (.int (0 : Int32))] [] h0 (fun v h => v = none ∧ Keep h0 h [x] ∧ Exa Z h x "java/lang/String" ∧ Fld Z h x "java/lang/String" "value" "[B" (.ref t) ∧ Fld Z h x "java/lang/String" "coder" "B" (.int 0)) := by
  refine Con.intro (Ls := #[.val (.ref x), .val (.ref t), .val (.int (0 : Int32))]) (plainFor_of_name pn1) (own_EL hw) O0 (fun m => by first | (simp [entryFrame, mkF, argsToLocals, Value.category]; done) | rfl) (fun p e s m below meth cc_ T w sf_ => ?_)
  have K0 := Keep.refl h0 [x]
  have s_x := safe_null (EL := consts_1) (vm := s.vm) w.wz.alike (hw _ (List.mem_of_getElem? (i := 6) rfl)) X_x F_value_x
  refine g_aloadN w e21_0 (q := 1) rfl rfl rfl ?_
  refine g_initO w e21_1 (q := 4) rfl rfl (hw _ (List.mem_of_getElem? (i := 74) rfl)) (hw _ (List.mem_of_getElem? (i := 21) rfl)) (hw _ (List.mem_of_getElem? (i := 22) rfl)) (W := 0) (Nat.le_of_eq rfl) (by decide) (by decide) (fun T w => ?_)
  refine g_aloadN w e21_4 (q := 5) rfl rfl rfl ?_
  refine g_aloadN w e21_5 (q := 6) rfl rfl rfl ?_
  have g_ := w.chv
  refine g_putF w e21_6 (q := 9) rfl (hw _ (List.mem_of_getElem? (i := 35) rfl)) Via.refl F_value_x X_x (Or.inr ⟨(hw _ (List.mem_of_getElem? (i := 8) rfl)), rfl, rfl⟩) (hw _ (List.mem_of_getElem? (i := 6) rfl)) (ty := (.array .byte)) (by decide) (v' := (.ref t)) rfl rfl n_x s_x (fun T h w W => ?_)
  replace K0 := K0.wr W (Or.inl (List.mem_singleton.mpr rfl))
  replace s_x := Safe.wr W s_x g_ s_x
  replace X_x := X_x.wr W
  replace F_value_x := F_value_x.same W
  replace F_coder_x := F_coder_x.other W (Or.inr (slot_ne (Or.inr (hw _ (List.mem_of_getElem? (i := 9) rfl))) (Or.inr (hw _ (List.mem_of_getElem? (i := 8) rfl))) (by decide) (t := .byte) (t' := (.array .byte)) (by decide) (by decide)))
  refine g_aloadN w e21_9 (q := 10) rfl rfl rfl ?_
  refine g_iloadN w e21_10 (q := 11) rfl rfl ?_
  have g_ := w.chv
  refine g_putF w e21_11 (q := 14) rfl (hw _ (List.mem_of_getElem? (i := 86) rfl)) Via.refl F_coder_x X_x (Or.inr ⟨(hw _ (List.mem_of_getElem? (i := 9) rfl)), rfl, rfl⟩) (hw _ (List.mem_of_getElem? (i := 6) rfl)) (ty := .byte) (by decide) (v' := (.int (0 : Int32))) rfl rfl n_x s_x (fun T h w W => ?_)
  replace K0 := K0.wr W (Or.inl (List.mem_singleton.mpr rfl))
  replace s_x := Safe.wr W s_x g_ s_x
  replace X_x := X_x.wr W
  replace F_value_x := F_value_x.other W (Or.inr (slot_ne (Or.inr (hw _ (List.mem_of_getElem? (i := 8) rfl))) (Or.inr (hw _ (List.mem_of_getElem? (i := 9) rfl))) (by decide) (t := (.array .byte)) (t' := .byte) (by decide) (by decide)))
  replace F_coder_x := F_coder_x.same W
  exact g_return w e21_14 rfl (by decide) (by decide) ⟨rfl, K0, X_x, F_value_x, F_coder_x⟩
set_option maxRecDepth 65536 in
set_option maxHeartbeats 40000000 in
theorem con_newBB1 (l : Launch) (Z : State) (a0 : Array Value) (hw : ∀ d ∈ tables_1, d.before a0 Z = true) (x t : Addr) (h0 : Heap) (O0 : Ext Z.heap h0) (X_x : Exa Z h0 x "java/lang/String") (F_value_x : Fld Z h0 x "java/lang/String" "value" "[B" .null) (F_coder_x : Fld Z h0 x "java/lang/String" "coder" "B" (.int (0 : Int32))) (n_x : Z.heap.size ≤ x) :
    Con l Z consts_1 false (⟨"java/lang/String", "<init>", "([BB)V"⟩ : MethodName) jdk_42_method_151_code 3 none [] ({ frames := 1, cells := 0, slots := 0, locals := 12 } : Room) #[(.ref x), (.ref t), (.int (1 : Int32))] [] h0 (fun v h => v = none ∧ Keep h0 h [x] ∧ Exa Z h x "java/lang/String" ∧ Fld Z h x "java/lang/String" "value" "[B" (.ref t) ∧ Fld Z h x "java/lang/String" "coder" "B" (.int 1)) := by
  refine Con.intro (Ls := #[.val (.ref x), .val (.ref t), .val (.int (1 : Int32))]) (plainFor_of_name pn1) (own_EL hw) O0 (fun m => by first | (simp [entryFrame, mkF, argsToLocals, Value.category]; done) | rfl) (fun p e s m below meth cc_ T w sf_ => ?_)
  have K0 := Keep.refl h0 [x]
  have s_x := safe_null (EL := consts_1) (vm := s.vm) w.wz.alike (hw _ (List.mem_of_getElem? (i := 6) rfl)) X_x F_value_x
  refine g_aloadN w e21_0 (q := 1) rfl rfl rfl ?_
  refine g_initO w e21_1 (q := 4) rfl rfl (hw _ (List.mem_of_getElem? (i := 74) rfl)) (hw _ (List.mem_of_getElem? (i := 21) rfl)) (hw _ (List.mem_of_getElem? (i := 22) rfl)) (W := 0) (Nat.le_of_eq rfl) (by decide) (by decide) (fun T w => ?_)
  refine g_aloadN w e21_4 (q := 5) rfl rfl rfl ?_
  refine g_aloadN w e21_5 (q := 6) rfl rfl rfl ?_
  have g_ := w.chv
  refine g_putF w e21_6 (q := 9) rfl (hw _ (List.mem_of_getElem? (i := 35) rfl)) Via.refl F_value_x X_x (Or.inr ⟨(hw _ (List.mem_of_getElem? (i := 8) rfl)), rfl, rfl⟩) (hw _ (List.mem_of_getElem? (i := 6) rfl)) (ty := (.array .byte)) (by decide) (v' := (.ref t)) rfl rfl n_x s_x (fun T h w W => ?_)
  replace K0 := K0.wr W (Or.inl (List.mem_singleton.mpr rfl))
  replace s_x := Safe.wr W s_x g_ s_x
  replace X_x := X_x.wr W
  replace F_value_x := F_value_x.same W
  replace F_coder_x := F_coder_x.other W (Or.inr (slot_ne (Or.inr (hw _ (List.mem_of_getElem? (i := 9) rfl))) (Or.inr (hw _ (List.mem_of_getElem? (i := 8) rfl))) (by decide) (t := .byte) (t' := (.array .byte)) (by decide) (by decide)))
  refine g_aloadN w e21_9 (q := 10) rfl rfl rfl ?_
  refine g_iloadN w e21_10 (q := 11) rfl rfl ?_
  have g_ := w.chv
  refine g_putF w e21_11 (q := 14) rfl (hw _ (List.mem_of_getElem? (i := 86) rfl)) Via.refl F_coder_x X_x (Or.inr ⟨(hw _ (List.mem_of_getElem? (i := 9) rfl)), rfl, rfl⟩) (hw _ (List.mem_of_getElem? (i := 6) rfl)) (ty := .byte) (by decide) (v' := (.int (1 : Int32))) rfl rfl n_x s_x (fun T h w W => ?_)
  replace K0 := K0.wr W (Or.inl (List.mem_singleton.mpr rfl))
  replace s_x := Safe.wr W s_x g_ s_x
  replace X_x := X_x.wr W
  replace F_value_x := F_value_x.other W (Or.inr (slot_ne (Or.inr (hw _ (List.mem_of_getElem? (i := 8) rfl))) (Or.inr (hw _ (List.mem_of_getElem? (i := 9) rfl))) (by decide) (t := (.array .byte)) (t' := .byte) (by decide) (by decide)))
  replace F_coder_x := F_coder_x.same W
  exact g_return w e21_14 rfl (by decide) (by decide) ⟨rfl, K0, X_x, F_value_x, F_coder_x⟩
theorem e22_0 : decode jdk_42_method_139_code 0 = .ok (.getstatic 38, 3) := by decide +kernel
theorem e22_3 : decode jdk_42_method_139_code 3 = .ok (.ifCond .eq 23, 3) := by decide +kernel
theorem e22_6 : decode jdk_42_method_139_code 6 = .ok (.iload_n 0, 1) := by decide +kernel
theorem e22_7 : decode jdk_42_method_139_code 7 = .ok (.invokestatic 1015, 3) := by decide +kernel
theorem e22_10 : decode jdk_42_method_139_code 10 = .ok (.ifCond .eq 16, 3) := by decide +kernel
theorem e22_13 : decode jdk_42_method_139_code 13 = .ok (.new 10, 3) := by decide +kernel
theorem e22_16 : decode jdk_42_method_139_code 16 = .ok (.dup, 1) := by decide +kernel
theorem e22_17 : decode jdk_42_method_139_code 17 = .ok (.iload_n 0, 1) := by decide +kernel
theorem e22_18 : decode jdk_42_method_139_code 18 = .ok (.invokestatic 1018, 3) := by decide +kernel
theorem e22_21 : decode jdk_42_method_139_code 21 = .ok (.iconst 0, 1) := by decide +kernel
theorem e22_22 : decode jdk_42_method_139_code 22 = .ok (.invokespecial 209, 3) := by decide +kernel
theorem e22_25 : decode jdk_42_method_139_code 25 = .ok (.areturn, 1) := by decide +kernel
theorem e22_26 : decode jdk_42_method_139_code 26 = .ok (.new 10, 3) := by decide +kernel
theorem e22_29 : decode jdk_42_method_139_code 29 = .ok (.dup, 1) := by decide +kernel
theorem e22_30 : decode jdk_42_method_139_code 30 = .ok (.iload_n 0, 1) := by decide +kernel
theorem e22_31 : decode jdk_42_method_139_code 31 = .ok (.invokestatic 1021, 3) := by decide +kernel
theorem e22_34 : decode jdk_42_method_139_code 34 = .ok (.iconst 1, 1) := by decide +kernel
theorem e22_35 : decode jdk_42_method_139_code 35 = .ok (.invokespecial 209, 3) := by decide +kernel
theorem e22_38 : decode jdk_42_method_139_code 38 = .ok (.areturn, 1) := by decide +kernel
theorem pd13 : parseMethodDescriptor "(C)Z" = some ⟨[.char], some .boolean⟩ := by decide +kernel
theorem pd14 : parseMethodDescriptor "(C)[B" = some ⟨[.char], some (.array .byte)⟩ := by decide +kernel
theorem pd15 : parseMethodDescriptor "([BB)V" = some ⟨[(.array .byte), .byte], none⟩ := by decide +kernel
set_option maxRecDepth 65536 in
set_option maxHeartbeats 40000000 in
theorem con_vU (l : Launch) (Z : State) (a0 : Array Value) (hw : ∀ d ∈ tables_1, d.before a0 Z = true) (c : Int32) (h0 : Heap) (O0 : Ext Z.heap h0) (hc : Lt16 c) (hcm : Cpt Z) (SA_ : Sta Z Z.heap "java/lang/StringUTF16" "$assertionsDisabled" "Z" (.int 1)) (SH_ : Sta Z Z.heap "java/lang/StringUTF16" "HI_BYTE_SHIFT" "I" (.int 0)) (SL_ : Sta Z Z.heap "java/lang/StringUTF16" "LO_BYTE_SHIFT" "I" (.int 8)) :
    Con l Z consts_1 false (⟨"java/lang/String", "valueOf", "(C)Ljava/lang/String;"⟩ : MethodName) jdk_42_method_139_code 1 (some (.object "java/lang/String")) [] ({ frames := 2, cells := 2, slots := 6, locals := 29 } : Room) #[(.int c)] [] h0 (fun v h => ∃ x, v = some (.ref x) ∧ Ext h0 h ∧ h0.size ≤ x ∧ Su Z h x [c]) := by
  refine Con.intro (Ls := #[.val (.int c)]) (plainFor_of_name pn1) (own_EL hw) O0 (fun m => by first | (simp [entryFrame, mkF, argsToLocals, Value.category]; done) | rfl) (fun p e s m below meth cc_ T w sf_ => ?_)
  have E0 := ext_refl h0
  obtain ⟨z_, hz_, SC_⟩ := id hcm
  refine g_getS w e22_0 (q := 3) rfl (hw _ (List.mem_of_getElem? (i := 75) rfl)) Via.refl SC_ (fun T w => ?_)
  refine g_ifN w e22_3 (q := 6) rfl (Jvm.Free.XT.i0_eq_f hz_) ?_
  refine g_iloadN w e22_6 (q := 7) rfl rfl ?_
  refine g_staticP w (con_can2 l Z a0 hw c _ w.old) no0 e22_7 (q := 10) rfl rfl (hw _ (List.mem_of_getElem? (i := 124) rfl)) (hw _ (List.mem_of_getElem? (i := 125) rfl)) (hw _ (List.mem_of_getElem? (i := 109) rfl)) (hw _ (List.mem_of_getElem? (i := 126) rfl)) (by decide) pd13 rfl rfl (W := 0) (Nat.le_of_eq rfl) (by decide) (by decide) (by decide) (by decide) (fun T v w C q => ?_)
  rcases q with ⟨rfl, hcc⟩ | ⟨rfl, hcc⟩
  · show Go p e below _ (State.setTop T (mkF m 10 #[.val (.int c)] [(.int (1 : Int32))]))
    refine g_ifN w e22_10 (q := 13) rfl (by decide) ?_
    refine g_new w e22_13 (q := 16) rfl (hw _ (List.mem_of_getElem? (i := 127) rfl)) (hw _ (List.mem_of_getElem? (i := 6) rfl)) (hw _ (List.mem_of_getElem? (i := 5) rfl)) (by decide) (by decide) (fun T h a2 w E g_a2 n_a2 X_a2 D_a2 s_a2 => ?_)
    have z_a2 := Nat.le_trans E0.1 g_a2
    replace E0 := ext_trans E0 E
    have F_value_a2 := D_a2 (Or.inr (hw _ (List.mem_of_getElem? (i := 8) rfl))) (ty := (.array .byte)) (by decide)
    replace F_value_a2 : Fld Z h a2 "java/lang/String" "value" "[B" .null := F_value_a2
    have F_coder_a2 := D_a2 (Or.inr (hw _ (List.mem_of_getElem? (i := 9) rfl))) (ty := .byte) (by decide)
    replace F_coder_a2 : Fld Z h a2 "java/lang/String" "coder" "B" (.int (0 : Int32)) := F_coder_a2
    refine g_dup w e22_16 (q := 17) rfl rfl ?_
    refine g_iloadN w e22_17 (q := 18) rfl rfl ?_
    refine g_static w (con_tb l Z a0 hw c _ w.old) no0 e22_18 (q := 21) rfl rfl (hw _ (List.mem_of_getElem? (i := 128) rfl)) (hw _ (List.mem_of_getElem? (i := 129) rfl)) (hw _ (List.mem_of_getElem? (i := 109) rfl)) (hw _ (List.mem_of_getElem? (i := 130) rfl)) (by decide) pd14 rfl rfl (W := 2) (Nat.le_of_eq rfl) (by decide) (by decide) (by decide) (by decide) (fun T h v w gs C q => ?_)
    obtain ⟨t, rfl, E, g_t, A_t⟩ := q
    have z_t := Nat.le_trans E0.1 g_t
    have ne_a2_t : a2 ≠ t := Nat.ne_of_lt (Nat.lt_of_lt_of_le X_a2.lt g_t)
    replace E0 := ext_trans E0 E
    replace X_a2 := X_a2.ext E
    replace F_value_a2 := F_value_a2.ext E
    replace F_coder_a2 := F_coder_a2.ext E
    show Go p e below _ (State.setTop T (mkF m 21 #[.val (.int c)] [(.ref t), (.ref a2), (.ref a2)]))
    refine g_iconst w e22_21 (q := 22) rfl (v := (0 : Int32)) (by decide) ?_
    refine g_special w (con_newBB0 l Z a0 hw a2 t _ w.old X_a2 F_value_a2 F_coder_a2 n_a2) no0 e22_22 (q := 25) rfl rfl rfl (hw _ (List.mem_of_getElem? (i := 131) rfl)) (hw _ (List.mem_of_getElem? (i := 132) rfl)) (hw _ (List.mem_of_getElem? (i := 5) rfl)) (hw _ (List.mem_of_getElem? (i := 133) rfl)) (by decide) pd15 rfl rfl (W := 1) (Nat.le_of_eq rfl) (by decide) (by decide) (by decide) (by decide) (fun T h v w gs C q => ?_)
    obtain ⟨rfl, K, X_t, F_v, F_c⟩ := q
    replace E0 := ext_keep E0 K z_a2
    have X0 := X_a2
    replace X_a2 := X_a2.keep K
    replace A_t := A_t.keep K (not1 ne_a2_t.symm)
    have U_a2 : Su Z h a2 [c] := Sg.su (sg_of (Nat.le_of_ble_eq_true rfl) (csS ⟨hc.1, hcc⟩ cs0) X_t F_v F_c A_t)
    show Go p e below _ (State.setTop T (mkF m 25 #[.val (.int c)] [(.ref a2)]))
    exact g_reta w e22_25 rfl rfl rfl (by decide) (by decide) ⟨_, rfl, E0, z_a2, U_a2⟩
  · show Go p e below _ (State.setTop T (mkF m 10 #[.val (.int c)] [(.int (0 : Int32))]))
    refine g_ifY w e22_10 (by decide) (q := 26) (by decide) (by decide) ?_
    refine g_new w e22_26 (q := 29) rfl (hw _ (List.mem_of_getElem? (i := 127) rfl)) (hw _ (List.mem_of_getElem? (i := 6) rfl)) (hw _ (List.mem_of_getElem? (i := 5) rfl)) (by decide) (by decide) (fun T h a4 w E g_a4 n_a4 X_a4 D_a4 s_a4 => ?_)
    have z_a4 := Nat.le_trans E0.1 g_a4
    replace E0 := ext_trans E0 E
    have F_value_a4 := D_a4 (Or.inr (hw _ (List.mem_of_getElem? (i := 8) rfl))) (ty := (.array .byte)) (by decide)
    replace F_value_a4 : Fld Z h a4 "java/lang/String" "value" "[B" .null := F_value_a4
    have F_coder_a4 := D_a4 (Or.inr (hw _ (List.mem_of_getElem? (i := 9) rfl))) (ty := .byte) (by decide)
    replace F_coder_a4 : Fld Z h a4 "java/lang/String" "coder" "B" (.int (0 : Int32)) := F_coder_a4
    refine g_dup w e22_29 (q := 30) rfl rfl ?_
    refine g_iloadN w e22_30 (q := 31) rfl rfl ?_
    refine g_static w (con_utc l Z a0 hw c _ w.old SA_ SH_ SL_) no0 e22_31 (q := 34) rfl rfl (hw _ (List.mem_of_getElem? (i := 183) rfl)) (hw _ (List.mem_of_getElem? (i := 184) rfl)) (hw _ (List.mem_of_getElem? (i := 78) rfl)) (hw _ (List.mem_of_getElem? (i := 185) rfl)) (by decide) pd14 rfl rfl (W := 2) (Nat.le_of_eq rfl) (by decide) (by decide) (by decide) (by decide) (fun T h v w gs C q => ?_)
    obtain ⟨t, rfl, E, g_t, A_t⟩ := q
    have z_t := Nat.le_trans E0.1 g_t
    have ne_a4_t : a4 ≠ t := Nat.ne_of_lt (Nat.lt_of_lt_of_le X_a4.lt g_t)
    replace E0 := ext_trans E0 E
    replace X_a4 := X_a4.ext E
    replace F_value_a4 := F_value_a4.ext E
    replace F_coder_a4 := F_coder_a4.ext E
    show Go p e below _ (State.setTop T (mkF m 34 #[.val (.int c)] [(.ref t), (.ref a4), (.ref a4)]))
    refine g_iconst w e22_34 (q := 35) rfl (v := (1 : Int32)) (by decide) ?_
    refine g_special w (con_newBB1 l Z a0 hw a4 t _ w.old X_a4 F_value_a4 F_coder_a4 n_a4) no0 e22_35 (q := 38) rfl rfl rfl (hw _ (List.mem_of_getElem? (i := 131) rfl)) (hw _ (List.mem_of_getElem? (i := 132) rfl)) (hw _ (List.mem_of_getElem? (i := 5) rfl)) (hw _ (List.mem_of_getElem? (i := 133) rfl)) (by decide) pd15 rfl rfl (W := 1) (Nat.le_of_eq rfl) (by decide) (by decide) (by decide) (by decide) (fun T h v w gs C q => ?_)
    obtain ⟨rfl, K, X_t, F_v, F_c⟩ := q
    replace E0 := ext_keep E0 K z_a4
    have X0 := X_a4
    replace X_a4 := X_a4.keep K
    replace A_t := A_t.keep K (not1 ne_a4_t.symm)
    have U_a4 : Su Z h a4 [c] := su_of (Nat.le_of_ble_eq_true rfl) (csS hc cs0) X_t F_v F_c A_t ⟨c, List.mem_singleton.mpr rfl, hcc⟩
    show Go p e below _ (State.setTop T (mkF m 38 #[.val (.int c)] [(.ref a4)]))
    exact g_reta w e22_38 rfl rfl rfl (by decide) (by decide) ⟨_, rfl, E0, z_a4, U_a4⟩
theorem e23_0 : decode jdk_2649_method_2_code 0 = .ok (.getstatic 17, 3) := by decide +kernel
theorem e23_3 : decode jdk_2649_method_2_code 3 = .ok (.areturn, 1) := by decide +kernel
theorem pn4 : plainName "java/util/OptionalInt" = true := by first | (simp [plainName, overriddenIn]; done) | decide +kernel
set_option maxRecDepth 65536 in
set_option maxHeartbeats 40000000 in
theorem con_emp (l : Launch) (Z : State) (a0 : Array Value) (hw : ∀ d ∈ tables_1, d.before a0 Z = true) (em : Addr) (h0 : Heap) (O0 : Ext Z.heap h0) (SE_ : Sta Z Z.heap "java/util/OptionalInt" "EMPTY" "Ljava/util/OptionalInt;" (.ref em)) :
    Con l Z consts_1 false (⟨"java/util/OptionalInt", "empty", "()Ljava/util/OptionalInt;"⟩ : MethodName) jdk_2649_method_2_code 0 (some (.object "java/util/OptionalInt")) [] ({ frames := 0, cells := 0, slots := 0, locals := 0 } : Room) #[] [] h0 (fun v h => v = some (.ref em) ∧ h = h0) := by
  refine Con.intro (Ls := #[]) (plainFor_of_name pn4) (own_EL hw) O0 (fun m => by first | (simp [entryFrame, mkF, argsToLocals, Value.category]; done) | rfl) (fun p e s m below meth cc_ T w sf_ => ?_)
  have E0 := ext_refl h0
  refine g_getS w e23_0 (q := 3) rfl (hw _ (List.mem_of_getElem? (i := 40) rfl)) Via.refl SE_ (fun T w => ?_)
  exact g_reta w e23_3 rfl rfl rfl (by decide) (by decide) ⟨rfl, rfl⟩
theorem e24_0 : decode jdk_2649_method_3_code 0 = .ok (.aload_n 0, 1) := by decide +kernel
theorem e24_1 : decode jdk_2649_method_3_code 1 = .ok (.invokespecial 1, 3) := by decide +kernel
theorem e24_4 : decode jdk_2649_method_3_code 4 = .ok (.aload_n 0, 1) := by decide +kernel
theorem e24_5 : decode jdk_2649_method_3_code 5 = .ok (.iconst 1, 1) := by decide +kernel
theorem e24_6 : decode jdk_2649_method_3_code 6 = .ok (.putfield 7, 3) := by decide +kernel
theorem e24_9 : decode jdk_2649_method_3_code 9 = .ok (.aload_n 0, 1) := by decide +kernel
theorem e24_10 : decode jdk_2649_method_3_code 10 = .ok (.iload_n 1, 1) := by decide +kernel
theorem e24_11 : decode jdk_2649_method_3_code 11 = .ok (.putfield 13, 3) := by decide +kernel
theorem e24_14 : decode jdk_2649_method_3_code 14 = .ok (.return_, 1) := by decide +kernel
set_option maxRecDepth 65536 in
set_option maxHeartbeats 40000000 in
theorem con_oi (l : Launch) (Z : State) (a0 : Array Value) (hw : ∀ d ∈ tables_1, d.before a0 Z = true) (x : Addr) (v_ : Int32) (h0 : Heap) (O0 : Ext Z.heap h0) (X_x : Exa Z h0 x "java/util/OptionalInt") (F_isPresent_x : Fld Z h0 x "java/util/OptionalInt" "isPresent" "Z" (.int 0)) (F_value_x : Fld Z h0 x "java/util/OptionalInt" "value" "I" (.int 0)) (n_x : Z.heap.size ≤ x) :
    Con l Z consts_1 false (⟨"java/util/OptionalInt", "<init>", "(I)V"⟩ : MethodName) jdk_2649_method_3_code 2 none [] ({ frames := 1, cells := 0, slots := 0, locals := 12 } : Room) #[(.ref x), (.int v_)] [] h0 (fun v h => v = none ∧ Keep h0 h [x] ∧ Exa Z h x "java/util/OptionalInt" ∧ Fld Z h x "java/util/OptionalInt" "isPresent" "Z" (.int 1) ∧ Fld Z h x "java/util/OptionalInt" "value" "I" (.int v_)) := by
  refine Con.intro (Ls := #[.val (.ref x), .val (.int v_)]) (plainFor_of_name pn4) (own_EL hw) O0 (fun m => by first | (simp [entryFrame, mkF, argsToLocals, Value.category]; done) | rfl) (fun p e s m below meth cc_ T w sf_ => ?_)
  have K0 := Keep.refl h0 [x]
  refine g_aloadN w e24_0 (q := 1) rfl rfl rfl ?_
  refine g_initO w e24_1 (q := 4) rfl rfl (hw _ (List.mem_of_getElem? (i := 146) rfl)) (hw _ (List.mem_of_getElem? (i := 21) rfl)) (hw _ (List.mem_of_getElem? (i := 22) rfl)) (W := 0) (Nat.le_of_eq rfl) (by decide) (by decide) (fun T w => ?_)
  refine g_aloadN w e24_4 (q := 5) rfl rfl rfl ?_
  refine g_iconst w e24_5 (q := 6) rfl (v := (1 : Int32)) (by decide) ?_
  have g_ := w.chv
  refine g_putF w e24_6 (q := 9) rfl (hw _ (List.mem_of_getElem? (i := 46) rfl)) Via.refl F_isPresent_x X_x (Or.inr ⟨(hw _ (List.mem_of_getElem? (i := 47) rfl)), rfl, rfl⟩) (hw _ (List.mem_of_getElem? (i := 141) rfl)) (ty := .boolean) (by decide) (v' := (.int (1 : Int32))) rfl rfl n_x (w.safe X_x (by decide) (by decide)) (fun T h w W => ?_)
  replace K0 := K0.wr W (Or.inl (List.mem_singleton.mpr rfl))
  replace X_x := X_x.wr W
  replace F_isPresent_x := F_isPresent_x.same W
  replace F_value_x := F_value_x.other W (Or.inr (slot_ne (Or.inr (hw _ (List.mem_of_getElem? (i := 148) rfl))) (Or.inr (hw _ (List.mem_of_getElem? (i := 47) rfl))) (by decide) (t := .int) (t' := .boolean) (by decide) (by decide)))
  refine g_aloadN w e24_9 (q := 10) rfl rfl rfl ?_
  refine g_iloadN w e24_10 (q := 11) rfl rfl ?_
  have g_ := w.chv
  refine g_putF w e24_11 (q := 14) rfl (hw _ (List.mem_of_getElem? (i := 147) rfl)) Via.refl F_value_x X_x (Or.inr ⟨(hw _ (List.mem_of_getElem? (i := 148) rfl)), rfl, rfl⟩) (hw _ (List.mem_of_getElem? (i := 141) rfl)) (ty := .int) (by decide) (v' := (.int v_)) rfl rfl n_x (w.safe X_x (by decide) (by decide)) (fun T h w W => ?_)
  replace K0 := K0.wr W (Or.inl (List.mem_singleton.mpr rfl))
  replace X_x := X_x.wr W
  replace F_isPresent_x := F_isPresent_x.other W (Or.inr (slot_ne (Or.inr (hw _ (List.mem_of_getElem? (i := 47) rfl))) (Or.inr (hw _ (List.mem_of_getElem? (i := 148) rfl))) (by decide) (t := .boolean) (t' := .int) (by decide) (by decide)))
  replace F_value_x := F_value_x.same W
  exact g_return w e24_14 rfl (by decide) (by decide) ⟨rfl, K0, X_x, F_isPresent_x, F_value_x⟩
theorem e25_0 : decode jdk_2649_method_4_code 0 = .ok (.new 8, 3) := by decide +kernel
theorem e25_3 : decode jdk_2649_method_4_code 3 = .ok (.dup, 1) := by decide +kernel
theorem e25_4 : decode jdk_2649_method_4_code 4 = .ok (.iload_n 0, 1) := by decide +kernel
theorem e25_5 : decode jdk_2649_method_4_code 5 = .ok (.invokespecial 21, 3) := by decide +kernel
theorem e25_8 : decode jdk_2649_method_4_code 8 = .ok (.areturn, 1) := by decide +kernel
theorem pd16 : parseMethodDescriptor "(I)V" = some ⟨[.int], none⟩ := by decide +kernel
set_option maxRecDepth 65536 in
set_option maxHeartbeats 40000000 in
theorem con_of (l : Launch) (Z : State) (a0 : Array Value) (hw : ∀ d ∈ tables_1, d.before a0 Z = true) (v_ : Int32) (h0 : Heap) (O0 : Ext Z.heap h0) :
    Con l Z consts_1 false (⟨"java/util/OptionalInt", "of", "(I)Ljava/util/OptionalInt;"⟩ : MethodName) jdk_2649_method_4_code 1 (some (.object "java/util/OptionalInt")) [] ({ frames := 2, cells := 1, slots := 2, locals := 26 } : Room) #[(.int v_)] [] h0 (fun v h => ∃ o, v = some (.ref o) ∧ Ext h0 h ∧ h0.size ≤ o ∧ Exa Z h o "java/util/OptionalInt" ∧ Fld Z h o "java/util/OptionalInt" "isPresent" "Z" (.int 1) ∧ Fld Z h o "java/util/OptionalInt" "value" "I" (.int v_)) := by
  refine Con.intro (Ls := #[.val (.int v_)]) (plainFor_of_name pn4) (own_EL hw) O0 (fun m => by first | (simp [entryFrame, mkF, argsToLocals, Value.category]; done) | rfl) (fun p e s m below meth cc_ T w sf_ => ?_)
  have E0 := ext_refl h0
  refine g_new w e25_0 (q := 3) rfl (hw _ (List.mem_of_getElem? (i := 140) rfl)) (hw _ (List.mem_of_getElem? (i := 141) rfl)) (hw _ (List.mem_of_getElem? (i := 38) rfl)) (by decide) (by decide) (fun T h a1 w E g_a1 n_a1 X_a1 D_a1 s_a1 => ?_)
  have z_a1 := Nat.le_trans E0.1 g_a1
  replace E0 := ext_trans E0 E
  have F_isPresent_a1 := D_a1 (Or.inr (hw _ (List.mem_of_getElem? (i := 47) rfl))) (ty := .boolean) (by decide)
  replace F_isPresent_a1 : Fld Z h a1 "java/util/OptionalInt" "isPresent" "Z" (.int (0 : Int32)) := F_isPresent_a1
  have F_value_a1 := D_a1 (Or.inr (hw _ (List.mem_of_getElem? (i := 148) rfl))) (ty := .int) (by decide)
  replace F_value_a1 : Fld Z h a1 "java/util/OptionalInt" "value" "I" (.int (0 : Int32)) := F_value_a1
  refine g_dup w e25_3 (q := 4) rfl rfl ?_
  refine g_iloadN w e25_4 (q := 5) rfl rfl ?_
  refine g_special w (con_oi l Z a0 hw a1 v_ _ w.old X_a1 F_isPresent_a1 F_value_a1 n_a1) no0 e25_5 (q := 8) rfl rfl rfl (hw _ (List.mem_of_getElem? (i := 142) rfl)) (hw _ (List.mem_of_getElem? (i := 143) rfl)) (hw _ (List.mem_of_getElem? (i := 38) rfl)) (hw _ (List.mem_of_getElem? (i := 145) rfl)) (by decide) pd16 rfl rfl (W := 1) (Nat.le_of_eq rfl) (by decide) (by decide) (by decide) (by decide) (fun T h v w gs C q => ?_)
  obtain ⟨rfl, K, X_t, F_p, F_v⟩ := q
  replace E0 := ext_keep E0 K z_a1
  have X0 := X_a1
  replace X_a1 := X_a1.keep K
  show Go p e below _ (State.setTop T (mkF m 8 #[.val (.int v_)] [(.ref a1)]))
  exact g_reta w e25_8 rfl rfl rfl (by decide) (by decide) ⟨_, rfl, E0, z_a1, X_t, F_p, F_v⟩
theorem e26_0 : decode jdk_2649_method_6_code 0 = .ok (.aload_n 0, 1) := by decide +kernel
theorem e26_1 : decode jdk_2649_method_6_code 1 = .ok (.getfield 7, 3) := by decide +kernel
theorem e26_4 : decode jdk_2649_method_6_code 4 = .ok (.ireturn, 1) := by decide +kernel
set_option maxRecDepth 65536 in
set_option maxHeartbeats 40000000 in
theorem con_ip0 (l : Launch) (Z : State) (a0 : Array Value) (hw : ∀ d ∈ tables_1, d.before a0 Z = true) (x : Addr) (h0 : Heap) (O0 : Ext Z.heap h0) (F_p : Fld Z h0 x "java/util/OptionalInt" "isPresent" "Z" (.int 0)) :
    Con l Z consts_1 false (⟨"java/util/OptionalInt", "isPresent", "()Z"⟩ : MethodName) jdk_2649_method_6_code 1 (some .boolean) [] ({ frames := 0, cells := 0, slots := 0, locals := 0 } : Room) #[(.ref x)] [] h0 (fun v h => v = some (.int 0) ∧ h = h0) := by
  refine Con.intro (Ls := #[.val (.ref x)]) (plainFor_of_name pn4) (own_EL hw) O0 (fun m => by first | (simp [entryFrame, mkF, argsToLocals, Value.category]; done) | rfl) (fun p e s m below meth cc_ T w sf_ => ?_)
  have E0 := ext_refl h0
  refine g_aloadN w e26_0 (q := 1) rfl rfl rfl ?_
  refine g_getF w e26_1 (q := 4) rfl (host := "") (Or.inl (hw _ (List.mem_of_getElem? (i := 46) rfl))) Via.refl F_p (fun T w => ?_)
  exact g_retn w e26_4 rfl (by simp) rfl (by decide) (by decide) ⟨rfl, rfl⟩
set_option maxRecDepth 65536 in
set_option maxHeartbeats 40000000 in
theorem con_ip1 (l : Launch) (Z : State) (a0 : Array Value) (hw : ∀ d ∈ tables_1, d.before a0 Z = true) (x : Addr) (h0 : Heap) (O0 : Ext Z.heap h0) (F_p : Fld Z h0 x "java/util/OptionalInt" "isPresent" "Z" (.int 1)) :
    Con l Z consts_1 false (⟨"java/util/OptionalInt", "isPresent", "()Z"⟩ : MethodName) jdk_2649_method_6_code 1 (some .boolean) [] ({ frames := 0, cells := 0, slots := 0, locals := 0 } : Room) #[(.ref x)] [] h0 (fun v h => v = some (.int 1) ∧ h = h0) := by
  refine Con.intro (Ls := #[.val (.ref x)]) (plainFor_of_name pn4) (own_EL hw) O0 (fun m => by first | (simp [entryFrame, mkF, argsToLocals, Value.category]; done) | rfl) (fun p e s m below meth cc_ T w sf_ => ?_)
  have E0 := ext_refl h0
  refine g_aloadN w e26_0 (q := 1) rfl rfl rfl ?_
  refine g_getF w e26_1 (q := 4) rfl (host := "") (Or.inl (hw _ (List.mem_of_getElem? (i := 46) rfl))) Via.refl F_p (fun T w => ?_)
  exact g_retn w e26_4 rfl (by simp) rfl (by decide) (by decide) ⟨rfl, rfl⟩
theorem e27_0 : decode jdk_2649_method_5_code 0 = .ok (.aload_n 0, 1) := by decide +kernel
theorem e27_1 : decode jdk_2649_method_5_code 1 = .ok (.getfield 7, 3) := by decide +kernel
theorem e27_4 : decode jdk_2649_method_5_code 4 = .ok (.ifCond .ne 13, 3) := by decide +kernel
theorem e27_7 : decode jdk_2649_method_5_code 7 = .ok (.new 24, 3) := by decide +kernel
theorem e27_10 : decode jdk_2649_method_5_code 10 = .ok (.dup, 1) := by decide +kernel
theorem e27_11 : decode jdk_2649_method_5_code 11 = .ok (.ldc 26, 2) := by decide +kernel
theorem e27_13 : decode jdk_2649_method_5_code 13 = .ok (.invokespecial 28, 3) := by decide +kernel
theorem e27_16 : decode jdk_2649_method_5_code 16 = .ok (.athrow, 1) := by decide +kernel
theorem e27_17 : decode jdk_2649_method_5_code 17 = .ok (.aload_n 0, 1) := by decide +kernel
theorem e27_18 : decode jdk_2649_method_5_code 18 = .ok (.getfield 13, 3) := by decide +kernel
theorem e27_21 : decode jdk_2649_method_5_code 21 = .ok (.ireturn, 1) := by decide +kernel
set_option maxRecDepth 65536 in
set_option maxHeartbeats 40000000 in
theorem con_gai (l : Launch) (Z : State) (a0 : Array Value) (hw : ∀ d ∈ tables_1, d.before a0 Z = true) (x : Addr) (v_ : Int32) (h0 : Heap) (O0 : Ext Z.heap h0) (F_p : Fld Z h0 x "java/util/OptionalInt" "isPresent" "Z" (.int 1)) (F_v : Fld Z h0 x "java/util/OptionalInt" "value" "I" (.int v_)) :
    Con l Z consts_1 false (⟨"java/util/OptionalInt", "getAsInt", "()I"⟩ : MethodName) jdk_2649_method_5_code 1 (some .int) [] ({ frames := 0, cells := 0, slots := 0, locals := 0 } : Room) #[(.ref x)] [] h0 (fun v h => v = some (.int v_) ∧ h = h0) := by
  refine Con.intro (Ls := #[.val (.ref x)]) (plainFor_of_name pn4) (own_EL hw) O0 (fun m => by first | (simp [entryFrame, mkF, argsToLocals, Value.category]; done) | rfl) (fun p e s m below meth cc_ T w sf_ => ?_)
  have E0 := ext_refl h0
  refine g_aloadN w e27_0 (q := 1) rfl rfl rfl ?_
  refine g_getF w e27_1 (q := 4) rfl (host := "") (Or.inl (hw _ (List.mem_of_getElem? (i := 46) rfl))) Via.refl F_p (fun T w => ?_)
  refine g_ifY w e27_4 (by decide) (q := 17) (by decide) (by decide) ?_
  refine g_aloadN w e27_17 (q := 18) rfl rfl rfl ?_
  refine g_getF w e27_18 (q := 21) rfl (host := "") (Or.inl (hw _ (List.mem_of_getElem? (i := 147) rfl))) Via.refl F_v (fun T w => ?_)
  exact g_reti w e27_21 rfl (by decide) (by decide) ⟨rfl, rfl⟩
theorem e28_0 : decode jdk_30_method_1_code 0 = .ok (.aload_n 0, 1) := by decide +kernel
theorem e28_1 : decode jdk_30_method_1_code 1 = .ok (.invokespecial 1, 3) := by decide +kernel
theorem e28_4 : decode jdk_30_method_1_code 4 = .ok (.return_, 1) := by decide +kernel
theorem pn5 : plainName "java/lang/Record" = true := by first | (simp [plainName, overriddenIn]; done) | decide +kernel
set_option maxRecDepth 65536 in
set_option maxHeartbeats 40000000 in
theorem con_rec (l : Launch) (Z : State) (a0 : Array Value) (hw : ∀ d ∈ tables_1, d.before a0 Z = true) (x : Addr) (h0 : Heap) (O0 : Ext Z.heap h0) :
    Con l Z consts_1 false (⟨"java/lang/Record", "<init>", "()V"⟩ : MethodName) jdk_30_method_1_code 1 none [] ({ frames := 1, cells := 0, slots := 0, locals := 12 } : Room) #[(.ref x)] [] h0 (fun v h => v = none ∧ h = h0) := by
  refine Con.intro (Ls := #[.val (.ref x)]) (plainFor_of_name pn5) (own_EL hw) O0 (fun m => by first | (simp [entryFrame, mkF, argsToLocals, Value.category]; done) | rfl) (fun p e s m below meth cc_ T w sf_ => ?_)
  have E0 := ext_refl h0
  refine g_aloadN w e28_0 (q := 1) rfl rfl rfl ?_
  refine g_initO w e28_1 (q := 4) rfl rfl (hw _ (List.mem_of_getElem? (i := 20) rfl)) (hw _ (List.mem_of_getElem? (i := 21) rfl)) (hw _ (List.mem_of_getElem? (i := 22) rfl)) (W := 0) (Nat.le_of_eq rfl) (by decide) (by decide) (fun T w => ?_)
  exact g_return w e28_4 rfl (by decide) (by decide) ⟨rfl, rfl⟩
theorem e29_0 : decode prog_15_method_1_code 0 = .ok (.aload_n 0, 1) := by decide +kernel
theorem e29_1 : decode prog_15_method_1_code 1 = .ok (.invokespecial 1, 3) := by decide +kernel
theorem e29_4 : decode prog_15_method_1_code 4 = .ok (.aload_n 0, 1) := by decide +kernel
theorem e29_5 : decode prog_15_method_1_code 5 = .ok (.aload_n 1, 1) := by decide +kernel
theorem e29_6 : decode prog_15_method_1_code 6 = .ok (.putfield 7, 3) := by decide +kernel
theorem e29_9 : decode prog_15_method_1_code 9 = .ok (.return_, 1) := by decide +kernel
theorem pd17 : parseMethodDescriptor "()V" = some ⟨[], none⟩ := by decide +kernel
theorem pn6 : plainName "com/example/stepwize/stepwize/binding/PropertyPath$Element" = true := by first | (simp [plainName, overriddenIn]; done) | decide +kernel
set_option maxRecDepth 65536 in
set_option maxHeartbeats 40000000 in
theorem con_el (l : Launch) (Z : State) (a0 : Array Value) (hw : ∀ d ∈ tables_1, d.before a0 Z = true) (x : Addr) (k : Addr) (h0 : Heap) (O0 : Ext Z.heap h0) (X_x : Exa Z h0 x "com/example/stepwize/stepwize/binding/PropertyPath$Element") (F_key_x : Fld Z h0 x "com/example/stepwize/stepwize/binding/PropertyPath$Element" "key" "Ljava/lang/String;" .null) (n_x : Z.heap.size ≤ x) :
    Con l Z consts_1 false (⟨"com/example/stepwize/stepwize/binding/PropertyPath$Element", "<init>", "(Ljava/lang/String;)V"⟩ : MethodName) prog_15_method_1_code 2 none [] ({ frames := 2, cells := 0, slots := 0, locals := 24 } : Room) #[(.ref x), (.ref k)] [] h0 (fun v h => v = none ∧ Keep h0 h [x] ∧ Fld Z h x "com/example/stepwize/stepwize/binding/PropertyPath$Element" "key" "Ljava/lang/String;" (.ref k)) := by
  refine Con.intro (Ls := #[.val (.ref x), .val (.ref k)]) (plainFor_of_name pn6) (own_EL hw) O0 (fun m => by first | (simp [entryFrame, mkF, argsToLocals, Value.category]; done) | rfl) (fun p e s m below meth cc_ T w sf_ => ?_)
  have K0 := Keep.refl h0 [x]
  refine g_aloadN w e29_0 (q := 1) rfl rfl rfl ?_
  refine g_specialP w (con_rec l Z a0 hw x _ w.old) no0 e29_1 (q := 4) rfl rfl rfl (hw _ (List.mem_of_getElem? (i := 15) rfl)) (hw _ (List.mem_of_getElem? (i := 16) rfl)) (hw _ (List.mem_of_getElem? (i := 18) rfl)) (hw _ (List.mem_of_getElem? (i := 19) rfl)) (by decide) pd17 rfl rfl (W := 0) (Nat.le_of_eq rfl) (by decide) (by decide) (by decide) (by decide) (fun T v w C q => ?_)
  obtain rfl := q
  show Go p e below _ (State.setTop T (mkF m 4 #[.val (.ref x), .val (.ref k)] []))
  refine g_aloadN w e29_4 (q := 5) rfl rfl rfl ?_
  refine g_aloadN w e29_5 (q := 6) rfl rfl rfl ?_
  have g_ := w.chv
  refine g_putF w e29_6 (q := 9) rfl (hw _ (List.mem_of_getElem? (i := 23) rfl)) Via.refl F_key_x X_x (Or.inr ⟨(hw _ (List.mem_of_getElem? (i := 24) rfl)), rfl, rfl⟩) (hw _ (List.mem_of_getElem? (i := 2) rfl)) (ty := (.object "java/lang/String")) (by decide) (v' := (.ref k)) rfl rfl n_x (w.safe X_x (by decide) (by decide)) (fun T h w W => ?_)
  replace K0 := K0.wr W (Or.inl (List.mem_singleton.mpr rfl))
  replace X_x := X_x.wr W
  replace F_key_x := F_key_x.same W
  exact g_return w e29_9 rfl (by decide) (by decide) ⟨rfl, K0, F_key_x⟩
theorem i64_step {n : Nat} {c : Int32} (hn : n ≤ 2147483647) (h1 : ¬ c < 48) (h2 : ¬ 57 < c) : (Int64.ofNat n * 10) + (c - 48).toInt64 = Int64.ofNat (n * 10 + dv c) ∧ dv c < 10 := by
  have a1 : (48 : Int32).toInt = 48 := rfl
  have a2 : (57 : Int32).toInt = 57 := rfl
  rw [Int32.lt_iff_toInt_lt] at h1 h2
  have e : (c - 48).toInt = c.toInt - 48 := by
    rw [Int32.toInt_sub, a1]; exact Int.bmod_eq_of_le (by omega) (by omega)
  have ed : (c - 48).toInt = (dv c : Int) := by unfold dv; omega
  refine ⟨?_, by unfold dv; omega⟩
  have e2 : (c - 48).toInt64 = Int64.ofNat (dv c) := by
    apply Int64.toInt_inj.mp
    rw [Int32.toInt_toInt64, ed, Int64.toInt_ofNat_of_lt (by unfold dv; omega)]
  rw [e2, Int64.ofNat_add, Int64.ofNat_mul]; rfl
theorem i64_le {m : Nat} (hm : m < 9223372036854775808) : ¬ (2147483647 : Int64) < Int64.ofNat m ↔ m ≤ 2147483647 := by
  rw [Int64.lt_iff_toInt_lt, Int64.toInt_ofNat_of_lt (by omega), show (2147483647 : Int64).toInt = 2147483647 from rfl]; omega
theorem scan_at {cs : List Int32} {i n : Nat} (hi : i < cs.length) (h1 : ¬ cs.getD i 0 < 48) (h2 : ¬ 57 < cs.getD i 0) (h3 : n * 10 + dv (cs.getD i 0) ≤ 2147483647) : scan (cs.drop i) n = scan (cs.drop (i + 1)) (n * 10 + dv (cs.getD i 0)) := by
  rw [drop_at hi, scan, if_neg (fun q => q.elim h1 h2), if_neg (by omega)]
theorem scan_no {cs : List Int32} {i n : Nat} (hi : i < cs.length) (h : (cs.getD i 0 < 48 ∨ 57 < cs.getD i 0) ∨ (¬ cs.getD i 0 < 48 ∧ ¬ 57 < cs.getD i 0 ∧ 2147483647 < n * 10 + dv (cs.getD i 0))) : scan (cs.drop i) n = none := by
  rw [drop_at hi, scan]
  rcases h with h | ⟨h1, h2, h3⟩
  · rw [if_pos h]
  · rw [if_neg (fun q => q.elim h1 h2), if_pos h3]
theorem scan_end {cs : List Int32} {i n : Nat} (hi : cs.length ≤ i) : scan (cs.drop i) n = some n := by rw [List.drop_of_length_le hi]; rfl
theorem l2i_nat {n : Nat} (hn : n ≤ 2147483647) : (Int64.ofNat n).toInt32 = Int32.ofNat n := by
  apply Int32.toInt_inj.mp
  rw [Int64.toInt_toInt32, Int64.toInt_ofNat_of_lt (by omega), Int32.toInt_ofNat_of_lt (by omega)]
  exact Int.bmod_eq_of_le (by omega) (by omega)
def ix (cs : List Int32) : Option Nat := if cs.length = 0 then none else scan cs 0
theorem e30_0 : decode prog_15_method_2_code 0 = .ok (.aload_n 0, 1) := by decide +kernel
theorem e30_1 : decode prog_15_method_2_code 1 = .ok (.getfield 7, 3) := by decide +kernel
theorem e30_4 : decode prog_15_method_2_code 4 = .ok (.invokevirtual 13, 3) := by decide +kernel
theorem e30_7 : decode prog_15_method_2_code 7 = .ok (.ifCond .eq 7, 3) := by decide +kernel
theorem e30_10 : decode prog_15_method_2_code 10 = .ok (.invokestatic 19, 3) := by decide +kernel
theorem e30_13 : decode prog_15_method_2_code 13 = .ok (.areturn, 1) := by decide +kernel
theorem e30_14 : decode prog_15_method_2_code 14 = .ok (.lconst 0, 1) := by decide +kernel
theorem e30_15 : decode prog_15_method_2_code 15 = .ok (.lstore_n 1, 1) := by decide +kernel
theorem e30_16 : decode prog_15_method_2_code 16 = .ok (.iconst 0, 1) := by decide +kernel
theorem e30_17 : decode prog_15_method_2_code 17 = .ok (.istore_n 3, 1) := by decide +kernel
theorem e30_18 : decode prog_15_method_2_code 18 = .ok (.iload_n 3, 1) := by decide +kernel
theorem e30_19 : decode prog_15_method_2_code 19 = .ok (.aload_n 0, 1) := by decide +kernel
theorem e30_20 : decode prog_15_method_2_code 20 = .ok (.getfield 7, 3) := by decide +kernel
theorem e30_23 : decode prog_15_method_2_code 23 = .ok (.invokevirtual 25, 3) := by decide +kernel
theorem e30_26 : decode prog_15_method_2_code 26 = .ok (.if_icmp .ge 62, 3) := by decide +kernel
theorem e30_29 : decode prog_15_method_2_code 29 = .ok (.aload_n 0, 1) := by decide +kernel
theorem e30_30 : decode prog_15_method_2_code 30 = .ok (.getfield 7, 3) := by decide +kernel
theorem e30_33 : decode prog_15_method_2_code 33 = .ok (.iload_n 3, 1) := by decide +kernel
theorem e30_34 : decode prog_15_method_2_code 34 = .ok (.invokevirtual 29, 3) := by decide +kernel
theorem e30_37 : decode prog_15_method_2_code 37 = .ok (.istore 4, 2) := by decide +kernel
theorem e30_39 : decode prog_15_method_2_code 39 = .ok (.iload 4, 2) := by decide +kernel
theorem e30_41 : decode prog_15_method_2_code 41 = .ok (.bipush 48, 2) := by decide +kernel
theorem e30_43 : decode prog_15_method_2_code 43 = .ok (.if_icmp .lt 10, 3) := by decide +kernel
theorem e30_46 : decode prog_15_method_2_code 46 = .ok (.iload 4, 2) := by decide +kernel
theorem e30_48 : decode prog_15_method_2_code 48 = .ok (.bipush 57, 2) := by decide +kernel
theorem e30_50 : decode prog_15_method_2_code 50 = .ok (.if_icmp .le 7, 3) := by decide +kernel
theorem e30_53 : decode prog_15_method_2_code 53 = .ok (.invokestatic 19, 3) := by decide +kernel
theorem e30_56 : decode prog_15_method_2_code 56 = .ok (.areturn, 1) := by decide +kernel
theorem e30_57 : decode prog_15_method_2_code 57 = .ok (.lload_n 1, 1) := by decide +kernel
theorem e30_58 : decode prog_15_method_2_code 58 = .ok (.ldc2_w 33, 3) := by decide +kernel
theorem e30_61 : decode prog_15_method_2_code 61 = .ok (.lmul, 1) := by decide +kernel
theorem e30_62 : decode prog_15_method_2_code 62 = .ok (.iload 4, 2) := by decide +kernel
theorem e30_64 : decode prog_15_method_2_code 64 = .ok (.bipush 48, 2) := by decide +kernel
theorem e30_66 : decode prog_15_method_2_code 66 = .ok (.isub, 1) := by decide +kernel
theorem e30_67 : decode prog_15_method_2_code 67 = .ok (.i2l, 1) := by decide +kernel
theorem e30_68 : decode prog_15_method_2_code 68 = .ok (.ladd, 1) := by decide +kernel
theorem e30_69 : decode prog_15_method_2_code 69 = .ok (.lstore_n 1, 1) := by decide +kernel
theorem e30_70 : decode prog_15_method_2_code 70 = .ok (.lload_n 1, 1) := by decide +kernel
theorem e30_71 : decode prog_15_method_2_code 71 = .ok (.ldc2_w 37, 3) := by decide +kernel
theorem e30_74 : decode prog_15_method_2_code 74 = .ok (.lcmp, 1) := by decide +kernel
theorem e30_75 : decode prog_15_method_2_code 75 = .ok (.ifCond .le 7, 3) := by decide +kernel
theorem e30_78 : decode prog_15_method_2_code 78 = .ok (.invokestatic 19, 3) := by decide +kernel
theorem e30_81 : decode prog_15_method_2_code 81 = .ok (.areturn, 1) := by decide +kernel
theorem e30_82 : decode prog_15_method_2_code 82 = .ok (.iinc 3 1, 3) := by decide +kernel
theorem e30_85 : decode prog_15_method_2_code 85 = .ok (.goto (-67), 3) := by decide +kernel
theorem e30_88 : decode prog_15_method_2_code 88 = .ok (.lload_n 1, 1) := by decide +kernel
theorem e30_89 : decode prog_15_method_2_code 89 = .ok (.l2i, 1) := by decide +kernel
theorem e30_90 : decode prog_15_method_2_code 90 = .ok (.invokestatic 39, 3) := by decide +kernel
theorem e30_93 : decode prog_15_method_2_code 93 = .ok (.areturn, 1) := by decide +kernel
theorem pd18 : parseMethodDescriptor "()Ljava/util/OptionalInt;" = some ⟨[], some (.object "java/util/OptionalInt")⟩ := by decide +kernel
theorem pd19 : parseMethodDescriptor "()I" = some ⟨[], some .int⟩ := by decide +kernel
theorem pd20 : parseMethodDescriptor "(I)Ljava/util/OptionalInt;" = some ⟨[.int], some (.object "java/util/OptionalInt")⟩ := by decide +kernel
theorem pd21 : parseMethodDescriptor "(I)C" = some ⟨[.int], some .char⟩ := by decide +kernel
set_option maxRecDepth 65536 in
set_option maxHeartbeats 40000000 in
theorem con_index (l : Launch) (Z : State) (a0 : Array Value) (hw : ∀ d ∈ tables_1, d.before a0 Z = true) (fm : Value) (em x ks : Addr) (cs : List Int32) (h0 : Heap) (O0 : Ext Z.heap h0) (X_x : Exa Z h0 x "com/example/stepwize/stepwize/binding/PropertyPath$Element") (F_k : Fld Z h0 x "com/example/stepwize/stepwize/binding/PropertyPath$Element" "key" "Ljava/lang/String;" (.ref ks)) (U_ks : Su Z h0 ks cs) (hn : cs.length ≤ 20) (hcm : Cpt Z) (SFm : Sta Z Z.heap "jdk/internal/util/Preconditions" "SIOOBE_FORMATTER" "Ljava/util/function/BiFunction;" fm) (rfm : fm.isRef = true) (SA_ : Sta Z Z.heap "java/lang/StringUTF16" "$assertionsDisabled" "Z" (.int 1)) (SH_ : Sta Z Z.heap "java/lang/StringUTF16" "HI_BYTE_SHIFT" "I" (.int 0)) (SL_ : Sta Z Z.heap "java/lang/StringUTF16" "LO_BYTE_SHIFT" "I" (.int 8)) (SE_ : Sta Z Z.heap "java/util/OptionalInt" "EMPTY" "Ljava/util/OptionalInt;" (.ref em)) :
    Con l Z consts_1 false (⟨"com/example/stepwize/stepwize/binding/PropertyPath$Element", "index", "()Ljava/util/OptionalInt;"⟩ : MethodName) prog_15_method_2_code 5 (some (.object "java/util/OptionalInt")) [] ({ frames := 5, cells := 1, slots := 2, locals := 66 } : Room) #[(.ref x)] [] h0 (fun v h => ∃ o, v = some (.ref o) ∧ Ext h0 h ∧ ((ix cs = none ∧ o = em) ∨ (∃ n, ix cs = some n ∧ n ≤ 2147483647 ∧ h0.size ≤ o ∧ Exa Z h o "java/util/OptionalInt" ∧ Fld Z h o "java/util/OptionalInt" "isPresent" "Z" (.int 1) ∧ Fld Z h o "java/util/OptionalInt" "value" "I" (.int (Int32.ofNat n))))) := by
  refine Con.intro (Ls := #[.val (.ref x), .unset, .unset, .unset, .unset]) (plainFor_of_name pn6) (own_EL hw) O0 (fun m => by first | (simp [entryFrame, mkF, argsToLocals, Value.category]; done) | rfl) (fun p e s m below meth cc_ T w sf_ => ?_)
  have E0 := ext_refl h0
  obtain ⟨z_, hz_, SC_⟩ := id hcm
  refine g_aloadN w e30_0 (q := 1) rfl rfl rfl ?_
  refine g_getF w e30_1 (q := 4) rfl (host := "") (Or.inl (hw _ (List.mem_of_getElem? (i := 23) rfl))) Via.refl F_k (fun T w => ?_)
  refine g_virtualB w (a := ks) (argsL := []) (own_empU hw U_ks (by decide) (by decide)) U_ks.exa e30_4 (q := 7) rfl rfl (hw _ (List.mem_of_getElem? (i := 30) rfl)) (hw _ (List.mem_of_getElem? (i := 31) rfl)) (hw _ (List.mem_of_getElem? (i := 33) rfl)) (hw _ (List.mem_of_getElem? (i := 32) rfl)) (by decide) (nf (hw _ (List.mem_of_getElem? (i := 33) rfl))) pd12 rfl rfl (W := 0) (Nat.le_of_eq rfl) (by decide) (by decide) (fun T v w hq => ?_)
  obtain rfl := hq
  show Go p e below _ (State.setTop T (mkF m 7 #[.val (.ref x), .unset, .unset, .unset, .unset] [(.int (if cs.length = 0 then (1 : Int32) else 0))]))
  rcases Decidable.em (cs.length = 0) with hne | hne
  · refine g_ifN w e30_7 (q := 10) rfl (Jvm.Free.XT.i0_eq_f (by rw [if_pos hne]; decide)) ?_
    refine g_staticP w (con_emp l Z a0 hw em _ w.old SE_) no0 e30_10 (q := 13) rfl rfl (hw _ (List.mem_of_getElem? (i := 36) rfl)) (hw _ (List.mem_of_getElem? (i := 37) rfl)) (hw _ (List.mem_of_getElem? (i := 38) rfl)) (hw _ (List.mem_of_getElem? (i := 39) rfl)) (by decide) pd18 rfl rfl (W := 0) (Nat.le_of_eq rfl) (by decide) (by decide) (by decide) (by decide) (fun T v w C q => ?_)
    obtain rfl := q
    show Go p e below _ (State.setTop T (mkF m 13 #[.val (.ref x), .unset, .unset, .unset, .unset] [(.ref em)]))
    exact g_reta w e30_13 rfl rfl rfl (by decide) (by decide) ⟨_, rfl, E0, Or.inl ⟨if_pos hne, rfl⟩⟩
  · refine g_ifY w e30_7 (by decide) (q := 14) (by decide) (Jvm.Free.XT.i0_eq_t (if_neg hne)) ?_
    refine g_lconst w e30_14 (q := 15) rfl (v := (0 : Int64)) (by decide) ?_
    refine g_lstoreN w e30_15 (q := 16) rfl (Ls' := #[.val (.ref x), .val (.long (0 : Int64)), .second, .unset, .unset]) rfl ?_
    refine g_iconst w e30_16 (q := 17) rfl (v := (0 : Int32)) (by decide) ?_
    refine g_istoreN w e30_17 (q := 18) rfl (Ls' := #[.val (.ref x), .val (.long (0 : Int64)), .second, .val (.int (0 : Int32)), .unset]) rfl ?_
    have LP : ∀ (r : Nat) (i : Nat) (n : Nat) (l4 : Slot) (T : State) (vm : Vm), (i + r = cs.length) → (n ≤ 2147483647) → (scan cs 0 = scan (cs.drop i) n) → (l4 = .unset ∨ ∃ w, l4 = .val w ∧ w.category = 1) → Wk p l e ({ frames := 5, cells := 1, slots := 2, locals := 66 } : Room) s m #[(.ref x)] below meth cc_ Z a0 consts_1 false (⟨"com/example/stepwize/stepwize/binding/PropertyPath$Element", "index", "()Ljava/util/OptionalInt;"⟩ : MethodName) prog_15_method_2_code 5 (some (.object "java/util/OptionalInt")) T vm h0 0 0 → Go p e below (Fini Z consts_1 false ({ frames := 5, cells := 1, slots := 2, locals := 66 } : Room).cells ({ frames := 5, cells := 1, slots := 2, locals := 66 } : Room).slots (fun v h => ∃ o, v = some (.ref o) ∧ Ext h0 h ∧ ((ix cs = none ∧ o = em) ∨ (∃ n, ix cs = some n ∧ n ≤ 2147483647 ∧ h0.size ≤ o ∧ Exa Z h o "java/util/OptionalInt" ∧ Fld Z h o "java/util/OptionalInt" "isPresent" "Z" (.int 1) ∧ Fld Z h o "java/util/OptionalInt" "value" "I" (.int (Int32.ofNat n))))) s) (State.setTop T (mkF m 18 #[.val (.ref x), .val (.long (Int64.ofNat n)), .second, .val (.int (Int32.ofNat i)), l4] [])) := by
      intro r
      induction r with
      | zero =>
        intro i n l4 T vm hi hm hs hl4  w
        refine g_iloadN w e30_18 (q := 19) rfl rfl ?_
        refine g_aloadN w e30_19 (q := 20) rfl rfl rfl ?_
        refine g_getF w e30_20 (q := 23) rfl (host := "") (Or.inl (hw _ (List.mem_of_getElem? (i := 23) rfl))) Via.refl F_k (fun T w => ?_)
        refine g_virtualB w (a := ks) (argsL := []) (own_lenU hw U_ks (w.sta SC_) hz_ (by decide) (by decide)) U_ks.exa e30_23 (q := 26) rfl rfl (hw _ (List.mem_of_getElem? (i := 87) rfl)) (hw _ (List.mem_of_getElem? (i := 88) rfl)) (hw _ (List.mem_of_getElem? (i := 90) rfl)) (hw _ (List.mem_of_getElem? (i := 89) rfl)) (by decide) (nf (hw _ (List.mem_of_getElem? (i := 90) rfl))) pd19 rfl rfl (W := 1) (Nat.le_of_eq rfl) (by decide) (by decide) (fun T v w hq => ?_)
        obtain rfl := hq
        show Go p e below _ (State.setTop T (mkF m 26 #[.val (.ref x), .val (.long (Int64.ofNat n)), .second, .val (.int (Int32.ofNat i)), l4] [(.int (Int32.ofNat cs.length)), (.int (Int32.ofNat i))]))
        refine g_icY w e30_26 (by decide) (q := 88) (by decide) (Jvm.Free.XT.ii_ge_t (not_lt_ofNat (by omega) (by omega))) ?_
        refine g_lloadN w e30_88 (q := 89) rfl rfl ?_
        refine g_l2i w e30_89 (q := 90) rfl ?_
        refine g_static w (con_of l Z a0 hw (Int64.ofNat n).toInt32 _ w.old) no0 e30_90 (q := 93) rfl rfl (hw _ (List.mem_of_getElem? (i := 137) rfl)) (hw _ (List.mem_of_getElem? (i := 138) rfl)) (hw _ (List.mem_of_getElem? (i := 38) rfl)) (hw _ (List.mem_of_getElem? (i := 139) rfl)) (by decide) pd20 rfl rfl (W := 0) (Nat.le_of_eq rfl) (by decide) (by decide) (by decide) (by decide) (fun T h v w gs C q => ?_)
        obtain ⟨o, rfl, E, g_o, X_o, F_po, F_vo⟩ := q
        have z_o := Nat.le_trans E0.1 g_o
        have ne_ks_o : ks ≠ o := Nat.ne_of_lt (Nat.lt_of_lt_of_le U_ks.lt g_o)
        have ne_x_o : x ≠ o := Nat.ne_of_lt (Nat.lt_of_lt_of_le X_x.lt g_o)
        replace E0 := ext_trans E0 E
        replace X_x := X_x.ext E
        replace F_k := F_k.ext E
        replace U_ks := U_ks.ext E
        show Go p e below _ (State.setTop T (mkF m 93 #[.val (.ref x), .val (.long (Int64.ofNat n)), .second, .val (.int (Int32.ofNat i)), l4] [(.ref o)]))
        exact g_reta w e30_93 rfl rfl rfl (by decide) (by decide) ⟨_, rfl, E0, Or.inr ⟨n, by rw [ix, if_neg hne, hs, scan_end (by omega)], hm, z_o, X_o, F_po, by rw [← l2i_nat hm]; exact F_vo⟩⟩
      | succ r ih =>
        intro i n l4 T vm hi hm hs hl4  w
        refine g_iloadN w e30_18 (q := 19) rfl rfl ?_
        refine g_aloadN w e30_19 (q := 20) rfl rfl rfl ?_
        refine g_getF w e30_20 (q := 23) rfl (host := "") (Or.inl (hw _ (List.mem_of_getElem? (i := 23) rfl))) Via.refl F_k (fun T w => ?_)
        refine g_virtualB w (a := ks) (argsL := []) (own_lenU hw U_ks (w.sta SC_) hz_ (by decide) (by decide)) U_ks.exa e30_23 (q := 26) rfl rfl (hw _ (List.mem_of_getElem? (i := 87) rfl)) (hw _ (List.mem_of_getElem? (i := 88) rfl)) (hw _ (List.mem_of_getElem? (i := 90) rfl)) (hw _ (List.mem_of_getElem? (i := 89) rfl)) (by decide) (nf (hw _ (List.mem_of_getElem? (i := 90) rfl))) pd19 rfl rfl (W := 1) (Nat.le_of_eq rfl) (by decide) (by decide) (fun T v w hq => ?_)
        obtain rfl := hq
        show Go p e below _ (State.setTop T (mkF m 26 #[.val (.ref x), .val (.long (Int64.ofNat n)), .second, .val (.int (Int32.ofNat i)), l4] [(.int (Int32.ofNat cs.length)), (.int (Int32.ofNat i))]))
        refine g_icN w e30_26 (q := 29) rfl (Jvm.Free.XT.ii_ge_f (lt_ofNat (by omega) (by omega))) ?_
        refine g_aloadN w e30_29 (q := 30) rfl rfl rfl ?_
        refine g_getF w e30_30 (q := 33) rfl (host := "") (Or.inl (hw _ (List.mem_of_getElem? (i := 23) rfl))) Via.refl F_k (fun T w => ?_)
        refine g_iloadN w e30_33 (q := 34) rfl rfl ?_
        refine g_virtualP w (con_sch l Z a0 hw fm ks i cs _ w.old U_ks (by omega) hn hcm SFm rfm SA_ SH_ SL_) no0 U_ks.exa e30_34 (q := 37) rfl rfl (hw _ (List.mem_of_getElem? (i := 97) rfl)) (hw _ (List.mem_of_getElem? (i := 98) rfl)) (hw _ (List.mem_of_getElem? (i := 100) rfl)) (hw _ (List.mem_of_getElem? (i := 99) rfl)) (hw _ (List.mem_of_getElem? (i := 5) rfl)) (hw _ (List.mem_of_getElem? (i := 101) rfl)) (by decide) (nf (hw _ (List.mem_of_getElem? (i := 100) rfl))) pd21 rfl rfl (W := 0) (Nat.le_of_eq rfl) (by decide) (by decide) (by decide) (by decide) (fun T v w C q => ?_)
        obtain rfl := q
        show Go p e below _ (State.setTop T (mkF m 37 #[.val (.ref x), .val (.long (Int64.ofNat n)), .second, .val (.int (Int32.ofNat i)), l4] [(.int (cs.getD i 0))]))
        refine g_istore w e30_37 (q := 39) rfl (Ls' := #[.val (.ref x), .val (.long (Int64.ofNat n)), .second, .val (.int (Int32.ofNat i)), .val (.int (cs.getD i 0))]) ((Jvm.Free.XS.store1 rfl hl4 rfl).trans rfl) ?_
        refine g_iload w e30_39 (q := 41) rfl rfl ?_
        refine g_bipush w e30_41 (q := 43) rfl (v := (48 : Int32)) (by decide) ?_
        refine g_ic_lt w e30_43 (by decide) (q := 53) (by decide) (q' := 46) rfl (fun cd1 => ?_) (fun cd1 => ?_)
        · refine g_staticP w (con_emp l Z a0 hw em _ w.old SE_) no0 e30_53 (q := 56) rfl rfl (hw _ (List.mem_of_getElem? (i := 36) rfl)) (hw _ (List.mem_of_getElem? (i := 37) rfl)) (hw _ (List.mem_of_getElem? (i := 38) rfl)) (hw _ (List.mem_of_getElem? (i := 39) rfl)) (by decide) pd18 rfl rfl (W := 0) (Nat.le_of_eq rfl) (by decide) (by decide) (by decide) (by decide) (fun T v w C q => ?_)
          obtain rfl := q
          show Go p e below _ (State.setTop T (mkF m 56 #[.val (.ref x), .val (.long (Int64.ofNat n)), .second, .val (.int (Int32.ofNat i)), .val (.int (cs.getD i 0))] [(.ref em)]))
          exact g_reta w e30_56 rfl rfl rfl (by decide) (by decide) ⟨_, rfl, E0, Or.inl ⟨by rw [ix, if_neg hne, hs]; exact scan_no (by omega) (Or.inl (Or.inl cd1)), rfl⟩⟩
        · refine g_iload w e30_46 (q := 48) rfl rfl ?_
          refine g_bipush w e30_48 (q := 50) rfl (v := (57 : Int32)) (by decide) ?_
          refine g_ic_le w e30_50 (by decide) (q := 57) (by decide) (q' := 53) rfl (fun cd2 => ?_) (fun cd2 => ?_)
          · refine g_lloadN w e30_57 (q := 58) rfl rfl ?_
            refine g_ldc2J w e30_58 (q := 61) rfl (v := (10 : Int64)) (hw _ (List.mem_of_getElem? (i := 119) rfl)) ?_
            refine g_lmul w e30_61 (q := 62) rfl ?_
            refine g_iload w e30_62 (q := 64) rfl rfl ?_
            refine g_bipush w e30_64 (q := 66) rfl (v := (48 : Int32)) (by decide) ?_
            refine g_isub w e30_66 (q := 67) rfl ?_
            refine g_i2l w e30_67 (q := 68) rfl ?_
            refine g_ladd w e30_68 (q := 69) rfl ?_
            rw [(i64_step hm cd1 cd2).1]
            have hd9 := (i64_step hm cd1 cd2).2
            show Go p e below _ (State.setTop T (mkF m 69 #[.val (.ref x), .val (.long (Int64.ofNat n)), .second, .val (.int (Int32.ofNat i)), .val (.int (cs.getD i 0))] [(.long (Int64.ofNat (n * 10 + dv (cs.getD i 0))))]))
            refine g_lstoreN w e30_69 (q := 70) rfl (Ls' := #[.val (.ref x), .val (.long (Int64.ofNat (n * 10 + dv (cs.getD i 0)))), .second, .val (.int (Int32.ofNat i)), .val (.int (cs.getD i 0))]) rfl ?_
            refine g_lloadN w e30_70 (q := 71) rfl rfl ?_
            refine g_ldc2J w e30_71 (q := 74) rfl (v := (2147483647 : Int64)) (hw _ (List.mem_of_getElem? (i := 120) rfl)) ?_
            refine g_lcmp w e30_74 (q := 75) rfl ?_
            refine g_lc_le w e30_75 (by decide) (q := 82) (by decide) (q' := 78) rfl (fun cd3 => ?_) (fun cd3 => ?_)
            · refine g_iinc w e30_82 (q := 85) rfl (v := (1 : Int32)) (by decide) rfl rfl ?_
              rw [ofNat_succ]
              show Go p e below _ (State.setTop T (mkF m 85 #[.val (.ref x), .val (.long (Int64.ofNat (n * 10 + dv (cs.getD i 0)))), .second, .val (.int (Int32.ofNat (i + 1))), .val (.int (cs.getD i 0))] []))
              refine g_goto w e30_85 (by decide) (q := 18) (by decide) ?_
              exact ih (i + 1) (n * 10 + dv (cs.getD i 0)) _ T _ (by omega) ((i64_le (by omega)).mp cd3) (by rw [hs]; exact scan_at (by omega) cd1 cd2 ((i64_le (by omega)).mp cd3)) (Or.inr ⟨_, rfl, rfl⟩) w
            · refine g_staticP w (con_emp l Z a0 hw em _ w.old SE_) no0 e30_78 (q := 81) rfl rfl (hw _ (List.mem_of_getElem? (i := 36) rfl)) (hw _ (List.mem_of_getElem? (i := 37) rfl)) (hw _ (List.mem_of_getElem? (i := 38) rfl)) (hw _ (List.mem_of_getElem? (i := 39) rfl)) (by decide) pd18 rfl rfl (W := 0) (Nat.le_of_eq rfl) (by decide) (by decide) (by decide) (by decide) (fun T v w C q => ?_)
              obtain rfl := q
              show Go p e below _ (State.setTop T (mkF m 81 #[.val (.ref x), .val (.long (Int64.ofNat (n * 10 + dv (cs.getD i 0)))), .second, .val (.int (Int32.ofNat i)), .val (.int (cs.getD i 0))] [(.ref em)]))
              exact g_reta w e30_81 rfl rfl rfl (by decide) (by decide) ⟨_, rfl, E0, Or.inl ⟨by rw [ix, if_neg hne, hs]; exact scan_no (by omega) (Or.inr ⟨cd1, cd2, Nat.lt_of_not_le (fun g => (i64_le (by omega)).mpr g cd3)⟩), rfl⟩⟩
          · refine g_staticP w (con_emp l Z a0 hw em _ w.old SE_) no0 e30_53 (q := 56) rfl rfl (hw _ (List.mem_of_getElem? (i := 36) rfl)) (hw _ (List.mem_of_getElem? (i := 37) rfl)) (hw _ (List.mem_of_getElem? (i := 38) rfl)) (hw _ (List.mem_of_getElem? (i := 39) rfl)) (by decide) pd18 rfl rfl (W := 0) (Nat.le_of_eq rfl) (by decide) (by decide) (by decide) (by decide) (fun T v w C q => ?_)
            obtain rfl := q
            show Go p e below _ (State.setTop T (mkF m 56 #[.val (.ref x), .val (.long (Int64.ofNat n)), .second, .val (.int (Int32.ofNat i)), .val (.int (cs.getD i 0))] [(.ref em)]))
            exact g_reta w e30_56 rfl rfl rfl (by decide) (by decide) ⟨_, rfl, E0, Or.inl ⟨by rw [ix, if_neg hne, hs]; exact scan_no (by omega) (Or.inl (Or.inr cd2)), rfl⟩⟩
    exact LP cs.length 0 0 _ T _ (by omega) (by decide) rfl (Or.inl rfl) w
theorem bm64 {D V : Nat} (h : D ≤ V) (hV : V < 9223372036854775808) : ((D : Int)).bmod (2 ^ 64) = D := Int.bmod_eq_of_le (by omega) (by omega)
theorem div_nat {V P : Nat} (hV : V < 4611686018427387904) (hP : 0 < P) (hP2 : P < 4611686018427387904) : Int64.ofNat V / Int64.ofNat P = Int64.ofNat (V / P) := by
  apply Int64.toInt_inj.mp
  have hq : V / P ≤ V := Nat.div_le_self V P
  rw [Int64.toInt_div, Int64.toInt_ofNat_of_lt (by omega), Int64.toInt_ofNat_of_lt (by omega), Int64.toInt_ofNat_of_lt (by omega), ← Int.ofNat_tdiv]
  exact bm64 hq (by omega)
theorem rem_nat {V P : Nat} (hV : V < 4611686018427387904) (hP : 0 < P) (hP2 : P < 4611686018427387904) : Int64.ofNat V - (Int64.ofNat V / Int64.ofNat P) * Int64.ofNat P = Int64.ofNat (V % P) := by
  rw [div_nat hV hP hP2, ← Int64.ofNat_mul, ← Int64.ofNat_sub _ _ (Nat.div_mul_le_self V P)]
  congr 1
  have := Nat.div_add_mod V P
  rw [Nat.mul_comm] at this
  omega
theorem i2c16 (x : Int32) : Lt16 x.toUInt32.toUInt16.toUInt32.toInt32 := by
  have h1 : (x.toUInt32.toUInt16.toUInt32.toInt32).toBitVec.toNat < 65536 := by
    have := x.toUInt32.toUInt16.toNat_lt
    have e : (x.toUInt32.toUInt16.toUInt32.toInt32).toBitVec.toNat = x.toUInt32.toUInt16.toUInt32.toNat := rfl
    rw [e, UInt16.toNat_toUInt32]; omega
  have h3 : (x.toUInt32.toUInt16.toUInt32.toInt32).toInt = (x.toUInt32.toUInt16.toUInt32.toInt32).toBitVec.toInt := rfl
  have e : (x.toUInt32.toUInt16.toUInt32.toInt32).toInt = ((x.toUInt32.toUInt16.toUInt32.toInt32).toBitVec.toNat : Int) := by rw [h3, BitVec.toInt_eq_toNat_cond, if_pos (by omega)]
  exact Lt16.of (by omega) (by omega)
/-- what dig(v, p) makes -/
def dgc (v p : Int64) : Int32 := ((48 : Int32) + ((v / p) - ((v / p) / (10 : Int64)) * (10 : Int64)).toInt32).toUInt32.toUInt16.toUInt32.toInt32
theorem dgc16 (v p : Int64) : Lt16 (dgc v p) := i2c16 _
theorem nar48 : ∀ d < 10, (Int32.ofNat (48 + d)).toUInt32.toUInt16.toUInt32.toInt32 = Int32.ofNat (48 + d) := by decide +kernel
theorem dgc_nat {V P : Nat} (hV : V < 4611686018427387904) (hP : 0 < P) (hP2 : P < 4611686018427387904) : dgc (Int64.ofNat V) (Int64.ofNat P) = Int32.ofNat (48 + V / P % 10) := by
  have hq : V / P ≤ V := Nat.div_le_self V P
  unfold dgc
  rw [div_nat hV hP hP2, show (10 : Int64) = Int64.ofNat 10 from rfl, rem_nat (by omega) (by decide) (by decide), l2i_nat (by omega), show (48 : Int32) = Int32.ofNat 48 from rfl, ← Int32.ofNat_add]
  exact nar48 _ (Nat.mod_lt _ (by decide))
def pw8 : List Nat := [10000000, 1000000, 100000, 10000, 1000, 100, 10, 1]
def pw12 : List Nat := [100000000000, 10000000000, 1000000000, 100000000, 10000000, 1000000, 100000, 10000, 1000, 100, 10, 1]
def bs20 (hi lo : Int64) : List Int32 := (pw8.map fun P => dgc hi (Int64.ofNat P)) ++ (pw12.map fun P => dgc lo (Int64.ofNat P))
theorem pw8_ok : ∀ P ∈ pw8, 0 < P ∧ P < 4611686018427387904 := by decide
theorem pw12_ok : ∀ P ∈ pw12, 0 < P ∧ P < 4611686018427387904 := by decide
theorem dgc_dv {V P : Nat} (hV : V < 4611686018427387904) (hP : 0 < P ∧ P < 4611686018427387904) : dv (dgc (Int64.ofNat V) (Int64.ofNat P)) = V / P % 10 ∧ Dg (dgc (Int64.ofNat V) (Int64.ofNat P)) := by
  rw [dgc_nat hV hP.1 hP.2]; exact dv_dig _ (Nat.mod_lt _ (by decide))
theorem bs_map {H L : Nat} (hH : H < 100000000) (hL : L < 1000000000000) : (bs20 (Int64.ofNat H) (Int64.ofNat L)).map dv = digs 8 H ++ digs 12 L := by
  unfold bs20
  rw [List.map_append, List.map_map, List.map_map]
  have e1 : pw8.map (dv ∘ fun P => dgc (Int64.ofNat H) (Int64.ofNat P)) = pw8.map fun P => H / P % 10 := List.map_congr_left fun P hP => (dgc_dv (by omega) (pw8_ok P hP)).1
  have e2 : pw12.map (dv ∘ fun P => dgc (Int64.ofNat L) (Int64.ofNat P)) = pw12.map fun P => L / P % 10 := List.map_congr_left fun P hP => (dgc_dv (by omega) (pw12_ok P hP)).1
  rw [e1, e2]; rfl
theorem bs_dg {H L : Nat} (hH : H < 100000000) (hL : L < 1000000000000) : ∀ c ∈ bs20 (Int64.ofNat H) (Int64.ofNat L), Dg c := fun c hc => by
  rcases List.mem_append.mp hc with h | h
  · obtain ⟨P, hP, rfl⟩ := List.mem_map.mp h; exact (dgc_dv (by omega) (pw8_ok P hP)).2
  · obtain ⟨P, hP, rfl⟩ := List.mem_map.mp h; exact (dgc_dv (by omega) (pw12_ok P hP)).2
theorem bs_16 (hi lo : Int64) : ∀ c ∈ bs20 hi lo, Lt16 c := fun c hc => by
  rcases List.mem_append.mp hc with h | h
  · obtain ⟨P, hP, rfl⟩ := List.mem_map.mp h; exact dgc16 _ _
  · obtain ⟨P, hP, rfl⟩ := List.mem_map.mp h; exact dgc16 _ _
theorem bs_val {H L : Nat} (hH : H < 100000000) (hL : L < 1000000000000) : fval (bs20 (Int64.ofNat H) (Int64.ofNat L)) 0 = H * 1000000000000 + L := by
  rw [fval_fv, bs_map hH hL, fv_app, fv_digs, fv_digs, show 10 ^ 8 = 100000000 from rfl, show 10 ^ 12 = 1000000000000 from rfl, Nat.mod_eq_of_lt hH, Nat.mod_eq_of_lt hL]; omega
def Good (cs : List Int32) (hi lo : Int64) : Prop := ∃ H L : Nat, hi = Int64.ofNat H ∧ lo = Int64.ofNat L ∧ H < 100000000 ∧ L < 1000000000000 ∧ fval cs 0 = H * 1000000000000 + L ∧ (∀ c ∈ cs, Dg c) ∧ cs.length = 20
theorem good_base {H L : Nat} (hH : H < 100000000) (hL : L < 1000000000000) : Good (bs20 (Int64.ofNat H) (Int64.ofNat L)) (Int64.ofNat H) (Int64.ofNat L) := ⟨H, L, rfl, rfl, hH, hL, bs_val hH hL, bs_dg hH hL, rfl⟩
theorem i64_zero {H : Nat} (hH : H < 4611686018427387904) : Int64.ofNat H = 0 ↔ H = 0 := by
  rw [← Int64.toInt_inj, Int64.toInt_ofNat_of_lt (by omega), show (0 : Int64).toInt = 0 from rfl]; omega
theorem ix_good {cs : List Int32} {hi lo : Int64} (G : Good cs hi lo) : ∃ H L : Nat, hi = Int64.ofNat H ∧ lo = Int64.ofNat L ∧ H < 100000000 ∧ L < 1000000000000 ∧ ix cs = if H * 1000000000000 + L ≤ 2147483647 then some (H * 1000000000000 + L) else none := by
  obtain ⟨H, L, e1, e2, h1, h2, h3, h4, h5⟩ := G
  exact ⟨H, L, e1, e2, h1, h2, by rw [ix, if_neg (by rw [h5]; decide), scan_dig cs 0 h4 (by decide), h3]⟩
theorem good_ix1 {cs : List Int32} {hi lo : Int64} (G : Good cs hi lo) (hz : hi = 0) (hm : ¬ (2147483647 : Int64) < lo) : ∃ L : Nat, ix cs = some L ∧ L ≤ 2147483647 ∧ lo = Int64.ofNat L := by
  obtain ⟨H, L, rfl, rfl, h1, h2, h3⟩ := ix_good G
  have a := (i64_zero (by omega)).mp hz
  have b := (i64_le (by omega)).mp hm
  subst a
  exact ⟨L, by rw [h3, if_pos (by omega)]; simp, b, rfl⟩
theorem good_ix0 {cs : List Int32} {hi lo : Int64} (G : Good cs hi lo) (h : ¬ hi = 0 ∨ (2147483647 : Int64) < lo) : ix cs = none := by
  obtain ⟨H, L, rfl, rfl, h1, h2, h3⟩ := ix_good G
  rw [h3, if_neg]
  rcases h with h | h
  · rw [i64_zero (by omega)] at h; omega
  · have b : ¬ L ≤ 2147483647 := fun q => (i64_le (by omega)).mpr q h
    omega
theorem c64 {c : Int32} (h : Dg c) : (c - 48).toInt64 = Int64.ofNat (dv c) ∧ dv c < 10 ∧ Int32.ofNat (dv c) = c - 48 := by
  obtain ⟨h1, h2⟩ := h
  have a1 : (48 : Int32).toInt = 48 := rfl
  have a2 : (57 : Int32).toInt = 57 := rfl
  rw [Int32.lt_iff_toInt_lt] at h1 h2
  have e : (c - 48).toInt = c.toInt - 48 := by
    rw [Int32.toInt_sub, a1]; exact Int.bmod_eq_of_le (by omega) (by omega)
  have ed : (c - 48).toInt = (dv c : Int) := by unfold dv; omega
  refine ⟨?_, by unfold dv; omega, ?_⟩
  · apply Int64.toInt_inj.mp
    rw [Int32.toInt_toInt64, ed, Int64.toInt_ofNat_of_lt (by unfold dv; omega)]
  · apply Int32.toInt_inj.mp
    rw [ed, Int32.toInt_ofNat_of_lt (by unfold dv; omega)]
theorem adj {H d o P : Nat} (h : o * P ≤ d * P + H) : Int64.ofNat H + (Int64.ofNat d - Int64.ofNat o) * Int64.ofNat P = Int64.ofNat (d * P + H - o * P) := by
  rw [Int64.sub_mul, ← Int64.ofNat_mul, ← Int64.ofNat_mul, Int64.ofNat_sub _ _ h, Int64.ofNat_add, Int64.sub_eq_add_neg, Int64.sub_eq_add_neg, ← Int64.add_assoc, Int64.add_comm (Int64.ofNat H)]
theorem set_mem {cs : List Int32} {i : Nat} {c : Int32} {Q : Int32 → Prop} (h : ∀ c ∈ cs, Q c) (hc : Q c) : ∀ d ∈ cs.set i c, Q d := fun d hd => by
  rcases List.mem_or_eq_of_mem_set hd with q | rfl
  · exact h d q
  · exact hc
theorem bs_len (hi lo : Int64) : (bs20 hi lo).length = 20 := rfl
theorem bs_at {H L i : Nat} (hH : H < 100000000) (hL : L < 1000000000000) (hi : i < 20) : dv ((bs20 (Int64.ofNat H) (Int64.ofNat L)).getD i 0) = (digs 8 H ++ digs 12 L).getD i 0 := by
  rw [← bs_map hH hL]
  have : i < (bs20 (Int64.ofNat H) (Int64.ofNat L)).length := hi
  simp [List.getD_eq_getElem?_getD, this]
theorem good_hi {H L ps : Nat} {cc : Int32} (hH : H < 100000000) (hL : L < 1000000000000) (hp : ps < 8) (hd : Dg cc) : Good ((bs20 (Int64.ofNat H) (Int64.ofNat L)).set ps cc) (Int64.ofNat H + ((cc - 48).toInt64 - (Int64.ofNat H / Int64.ofNat (10 ^ (7 - ps)) - (Int64.ofNat H / Int64.ofNat (10 ^ (7 - ps))) / 10 * 10)) * Int64.ofNat (10 ^ (7 - ps))) (Int64.ofNat L) := by
  obtain ⟨c1, c2, -⟩ := c64 hd
  have hs := fval_set (bs20 (Int64.ofNat H) (Int64.ofNat L)) 0 ps cc (by rw [bs_len]; omega)
  rw [bs_len, bs_val hH hL, bs_at hH hL (by omega)] at hs
  have hb := set_mem (i := ps) (bs_dg hH hL) hd
  rw [c1]
  generalize dv cc = d at hs c2 ⊢
  have key : ∀ P : Nat, 0 < P → P < 4611686018427387904 → Int64.ofNat H / Int64.ofNat P - (Int64.ofNat H / Int64.ofNat P) / 10 * 10 = Int64.ofNat (H / P % 10) := fun P h1 h2 => by
    rw [div_nat (by omega) h1 h2]
    exact rem_nat (P := 10) (by have := Nat.div_le_self H P; omega) (by decide) (by decide)
  have e : ps = 0 ∨ ps = 1 ∨ ps = 2 ∨ ps = 3 ∨ ps = 4 ∨ ps = 5 ∨ ps = 6 ∨ ps = 7 := by omega
  rcases e with rfl | rfl | rfl | rfl | rfl | rfl | rfl | rfl
  · have hs : fval ((bs20 (Int64.ofNat H) (Int64.ofNat L)).set 0 cc) 0 + (H / 10000000 % 10) * 10000000000000000000 = H * 1000000000000 + L + d * 10000000000000000000 := hs
    rw [show (10 ^ (7 - 0) : Nat) = 10000000 from rfl, key 10000000 (by decide) (by decide), adj (by omega)]
    exact ⟨_, L, rfl, rfl, by omega, hL, by omega, hb, by rw [List.length_set]; rfl⟩
  · have hs : fval ((bs20 (Int64.ofNat H) (Int64.ofNat L)).set 1 cc) 0 + (H / 1000000 % 10) * 1000000000000000000 = H * 1000000000000 + L + d * 1000000000000000000 := hs
    rw [show (10 ^ (7 - 1) : Nat) = 1000000 from rfl, key 1000000 (by decide) (by decide), adj (by omega)]
    exact ⟨_, L, rfl, rfl, by omega, hL, by omega, hb, by rw [List.length_set]; rfl⟩
  · have hs : fval ((bs20 (Int64.ofNat H) (Int64.ofNat L)).set 2 cc) 0 + (H / 100000 % 10) * 100000000000000000 = H * 1000000000000 + L + d * 100000000000000000 := hs
    rw [show (10 ^ (7 - 2) : Nat) = 100000 from rfl, key 100000 (by decide) (by decide), adj (by omega)]
    exact ⟨_, L, rfl, rfl, by omega, hL, by omega, hb, by rw [List.length_set]; rfl⟩
  · have hs : fval ((bs20 (Int64.ofNat H) (Int64.ofNat L)).set 3 cc) 0 + (H / 10000 % 10) * 10000000000000000 = H * 1000000000000 + L + d * 10000000000000000 := hs
    rw [show (10 ^ (7 - 3) : Nat) = 10000 from rfl, key 10000 (by decide) (by decide), adj (by omega)]
    exact ⟨_, L, rfl, rfl, by omega, hL, by omega, hb, by rw [List.length_set]; rfl⟩
  · have hs : fval ((bs20 (Int64.ofNat H) (Int64.ofNat L)).set 4 cc) 0 + (H / 1000 % 10) * 1000000000000000 = H * 1000000000000 + L + d * 1000000000000000 := hs
    rw [show (10 ^ (7 - 4) : Nat) = 1000 from rfl, key 1000 (by decide) (by decide), adj (by omega)]
    exact ⟨_, L, rfl, rfl, by omega, hL, by omega, hb, by rw [List.length_set]; rfl⟩
  · have hs : fval ((bs20 (Int64.ofNat H) (Int64.ofNat L)).set 5 cc) 0 + (H / 100 % 10) * 100000000000000 = H * 1000000000000 + L + d * 100000000000000 := hs
    rw [show (10 ^ (7 - 5) : Nat) = 100 from rfl, key 100 (by decide) (by decide), adj (by omega)]
    exact ⟨_, L, rfl, rfl, by omega, hL, by omega, hb, by rw [List.length_set]; rfl⟩
  · have hs : fval ((bs20 (Int64.ofNat H) (Int64.ofNat L)).set 6 cc) 0 + (H / 10 % 10) * 10000000000000 = H * 1000000000000 + L + d * 10000000000000 := hs
    rw [show (10 ^ (7 - 6) : Nat) = 10 from rfl, key 10 (by decide) (by decide), adj (by omega)]
    exact ⟨_, L, rfl, rfl, by omega, hL, by omega, hb, by rw [List.length_set]; rfl⟩
  · have hs : fval ((bs20 (Int64.ofNat H) (Int64.ofNat L)).set 7 cc) 0 + (H / 1 % 10) * 1000000000000 = H * 1000000000000 + L + d * 1000000000000 := hs
    rw [show (10 ^ (7 - 7) : Nat) = 1 from rfl, key 1 (by decide) (by decide), adj (by omega)]
    exact ⟨_, L, rfl, rfl, by omega, hL, by omega, hb, by rw [List.length_set]; rfl⟩
theorem good_lo {H L ps : Nat} {cc : Int32} (hH : H < 100000000) (hL : L < 1000000000000) (hp : ¬ ps < 8) (hp2 : ps < 20) (hd : Dg cc) : Good ((bs20 (Int64.ofNat H) (Int64.ofNat L)).set ps cc) (Int64.ofNat H) (Int64.ofNat L + ((cc - 48).toInt64 - (Int64.ofNat L / Int64.ofNat (10 ^ (19 - ps)) - (Int64.ofNat L / Int64.ofNat (10 ^ (19 - ps))) / 10 * 10)) * Int64.ofNat (10 ^ (19 - ps))) := by
  obtain ⟨c1, c2, -⟩ := c64 hd
  have hs := fval_set (bs20 (Int64.ofNat H) (Int64.ofNat L)) 0 ps cc (by rw [bs_len]; omega)
  rw [bs_len, bs_val hH hL, bs_at hH hL (by omega)] at hs
  have hb := set_mem (i := ps) (bs_dg hH hL) hd
  rw [c1]
  generalize dv cc = d at hs c2 ⊢
  have key : ∀ P : Nat, 0 < P → P < 4611686018427387904 → Int64.ofNat L / Int64.ofNat P - (Int64.ofNat L / Int64.ofNat P) / 10 * 10 = Int64.ofNat (L / P % 10) := fun P h1 h2 => by
    rw [div_nat (by omega) h1 h2]
    exact rem_nat (P := 10) (by have := Nat.div_le_self L P; omega) (by decide) (by decide)
  have e : ps = 8 ∨ ps = 9 ∨ ps = 10 ∨ ps = 11 ∨ ps = 12 ∨ ps = 13 ∨ ps = 14 ∨ ps = 15 ∨ ps = 16 ∨ ps = 17 ∨ ps = 18 ∨ ps = 19 := by omega
  rcases e with rfl | rfl | rfl | rfl | rfl | rfl | rfl | rfl | rfl | rfl | rfl | rfl
  · have hs : fval ((bs20 (Int64.ofNat H) (Int64.ofNat L)).set 8 cc) 0 + (L / 100000000000 % 10) * 100000000000 = H * 1000000000000 + L + d * 100000000000 := hs
    rw [show (10 ^ (19 - 8) : Nat) = 100000000000 from rfl, key 100000000000 (by decide) (by decide), adj (by omega)]
    exact ⟨H, _, rfl, rfl, hH, by omega, by omega, hb, by rw [List.length_set]; rfl⟩
  · have hs : fval ((bs20 (Int64.ofNat H) (Int64.ofNat L)).set 9 cc) 0 + (L / 10000000000 % 10) * 10000000000 = H * 1000000000000 + L + d * 10000000000 := hs
    rw [show (10 ^ (19 - 9) : Nat) = 10000000000 from rfl, key 10000000000 (by decide) (by decide), adj (by omega)]
    exact ⟨H, _, rfl, rfl, hH, by omega, by omega, hb, by rw [List.length_set]; rfl⟩
  · have hs : fval ((bs20 (Int64.ofNat H) (Int64.ofNat L)).set 10 cc) 0 + (L / 1000000000 % 10) * 1000000000 = H * 1000000000000 + L + d * 1000000000 := hs
    rw [show (10 ^ (19 - 10) : Nat) = 1000000000 from rfl, key 1000000000 (by decide) (by decide), adj (by omega)]
    exact ⟨H, _, rfl, rfl, hH, by omega, by omega, hb, by rw [List.length_set]; rfl⟩
  · have hs : fval ((bs20 (Int64.ofNat H) (Int64.ofNat L)).set 11 cc) 0 + (L / 100000000 % 10) * 100000000 = H * 1000000000000 + L + d * 100000000 := hs
    rw [show (10 ^ (19 - 11) : Nat) = 100000000 from rfl, key 100000000 (by decide) (by decide), adj (by omega)]
    exact ⟨H, _, rfl, rfl, hH, by omega, by omega, hb, by rw [List.length_set]; rfl⟩
  · have hs : fval ((bs20 (Int64.ofNat H) (Int64.ofNat L)).set 12 cc) 0 + (L / 10000000 % 10) * 10000000 = H * 1000000000000 + L + d * 10000000 := hs
    rw [show (10 ^ (19 - 12) : Nat) = 10000000 from rfl, key 10000000 (by decide) (by decide), adj (by omega)]
    exact ⟨H, _, rfl, rfl, hH, by omega, by omega, hb, by rw [List.length_set]; rfl⟩
  · have hs : fval ((bs20 (Int64.ofNat H) (Int64.ofNat L)).set 13 cc) 0 + (L / 1000000 % 10) * 1000000 = H * 1000000000000 + L + d * 1000000 := hs
    rw [show (10 ^ (19 - 13) : Nat) = 1000000 from rfl, key 1000000 (by decide) (by decide), adj (by omega)]
    exact ⟨H, _, rfl, rfl, hH, by omega, by omega, hb, by rw [List.length_set]; rfl⟩
  · have hs : fval ((bs20 (Int64.ofNat H) (Int64.ofNat L)).set 14 cc) 0 + (L / 100000 % 10) * 100000 = H * 1000000000000 + L + d * 100000 := hs
    rw [show (10 ^ (19 - 14) : Nat) = 100000 from rfl, key 100000 (by decide) (by decide), adj (by omega)]
    exact ⟨H, _, rfl, rfl, hH, by omega, by omega, hb, by rw [List.length_set]; rfl⟩
  · have hs : fval ((bs20 (Int64.ofNat H) (Int64.ofNat L)).set 15 cc) 0 + (L / 10000 % 10) * 10000 = H * 1000000000000 + L + d * 10000 := hs
    rw [show (10 ^ (19 - 15) : Nat) = 10000 from rfl, key 10000 (by decide) (by decide), adj (by omega)]
    exact ⟨H, _, rfl, rfl, hH, by omega, by omega, hb, by rw [List.length_set]; rfl⟩
  · have hs : fval ((bs20 (Int64.ofNat H) (Int64.ofNat L)).set 16 cc) 0 + (L / 1000 % 10) * 1000 = H * 1000000000000 + L + d * 1000 := hs
    rw [show (10 ^ (19 - 16) : Nat) = 1000 from rfl, key 1000 (by decide) (by decide), adj (by omega)]
    exact ⟨H, _, rfl, rfl, hH, by omega, by omega, hb, by rw [List.length_set]; rfl⟩
  · have hs : fval ((bs20 (Int64.ofNat H) (Int64.ofNat L)).set 17 cc) 0 + (L / 100 % 10) * 100 = H * 1000000000000 + L + d * 100 := hs
    rw [show (10 ^ (19 - 17) : Nat) = 100 from rfl, key 100 (by decide) (by decide), adj (by omega)]
    exact ⟨H, _, rfl, rfl, hH, by omega, by omega, hb, by rw [List.length_set]; rfl⟩
  · have hs : fval ((bs20 (Int64.ofNat H) (Int64.ofNat L)).set 18 cc) 0 + (L / 10 % 10) * 10 = H * 1000000000000 + L + d * 10 := hs
    rw [show (10 ^ (19 - 18) : Nat) = 10 from rfl, key 10 (by decide) (by decide), adj (by omega)]
    exact ⟨H, _, rfl, rfl, hH, by omega, by omega, hb, by rw [List.length_set]; rfl⟩
  · have hs : fval ((bs20 (Int64.ofNat H) (Int64.ofNat L)).set 19 cc) 0 + (L / 1 % 10) * 1 = H * 1000000000000 + L + d * 1 := hs
    rw [show (10 ^ (19 - 19) : Nat) = 1 from rfl, key 1 (by decide) (by decide), adj (by omega)]
    exact ⟨H, _, rfl, rfl, hH, by omega, by omega, hb, by rw [List.length_set]; rfl⟩
theorem bad_set {hi lo : Int64} {ps : Nat} {cc : Int32} (hp : ps < 20) (hd : ¬ Dg cc) : ix ((bs20 hi lo).set ps cc) = none := by
  rw [ix, if_neg (by rw [List.length_set, bs_len]; decide)]
  exact scan_bad _ _ ⟨cc, List.mem_set (by rw [bs_len]; exact hp) cc, hd⟩
theorem ix1 {c : Int32} (h : Dg c) : ix [c] = some (dv c) := by
  have := (c64 h).2.1
  show scan [c] 0 = some (dv c)
  rw [scan, if_neg (fun q => q.elim h.1 h.2), if_neg (by omega), scan, Nat.zero_mul, Nat.zero_add]
theorem ix1n {c : Int32} (h : ¬ Dg c) : ix [c] = none := scan_bad [c] 0 ⟨c, List.mem_singleton.mpr rfl, h⟩
theorem mod20 {x : Int32} (hx : ¬ x < 0) : ∃ i, i < 20 ∧ x % 20 = Int32.ofNat i := by
  have h := rem_int (z := 20) hx (by decide)
  rw [show (20 : Int32).toInt = 20 from rfl] at h
  refine ⟨(x % 20).toInt.toNat, by omega, Int32.toInt_inj.mp ?_⟩
  rw [Int32.toInt_ofNat_of_lt (by omega)]; omega
theorem sub7 : ∀ i < 8, (7 : Int32) - Int32.ofNat i = Int32.ofNat (7 - i) := by decide +kernel
theorem sub19 : ∀ i < 20, (19 : Int32) - Int32.ofNat i = Int32.ofNat (19 - i) := by decide +kernel
theorem pw_ne : ∀ k < 12, Int64.ofNat (10 ^ k) ≠ 0 := by decide +kernel
theorem mask_rem {k : Int64} {P : Nat} (hP : 0 < P) (hP2 : P < 4611686018427387904) : ∃ H, H < P ∧ (k &&& 9223372036854775807) - ((k &&& 9223372036854775807) / Int64.ofNat P) * Int64.ofNat P = Int64.ofNat H := by
  have h1 : (k &&& 9223372036854775807).toBitVec.toNat = k.toBitVec.toNat % 9223372036854775808 := by
    rw [Int64.toBitVec_and, BitVec.toNat_and]
    exact Nat.and_two_pow_sub_one_eq_mod _ 63
  have h2 : (k &&& 9223372036854775807).toInt = ((k.toBitVec.toNat % 9223372036854775808 : Nat) : Int) := by
    have h3 : (k &&& 9223372036854775807).toInt = (k &&& 9223372036854775807).toBitVec.toInt := rfl
    rw [h3, BitVec.toInt_eq_toNat_cond, if_pos (by omega), h1]
  generalize hV : k.toBitVec.toNat % 9223372036854775808 = V at h2
  have hV2 : V < 9223372036854775808 := by omega
  refine ⟨V % P, Nat.mod_lt _ hP, Int64.toInt_inj.mp ?_⟩
  have hq : V / P ≤ V := Nat.div_le_self V P
  have hm : V % P < P := Nat.mod_lt _ hP
  have hm2 := Nat.div_mul_le_self V P
  have hm3 := Nat.div_add_mod V P
  rw [Nat.mul_comm] at hm3
  have e1 : ((k &&& 9223372036854775807) / Int64.ofNat P).toInt = ((V / P : Nat) : Int) := by
    rw [Int64.toInt_div, h2, Int64.toInt_ofNat_of_lt (by omega), ← Int.ofNat_tdiv]
    exact bm64 hq (by omega)
  have e2 : (((k &&& 9223372036854775807) / Int64.ofNat P) * Int64.ofNat P).toInt = ((V / P * P : Nat) : Int) := by
    rw [Int64.toInt_mul, e1, Int64.toInt_ofNat_of_lt (by omega), ← Int.natCast_mul]
    exact Int.bmod_eq_of_le (by omega) (by omega)
  rw [Int64.toInt_sub, e2, h2, Int64.toInt_ofNat_of_lt (by omega), Int.bmod_eq_of_le (by omega) (by omega)]
  omega
theorem mask_lo (k : Int64) : ∃ L, L < 1000000000000 ∧ (k &&& 4294967295) = Int64.ofNat L := by
  have h1 : (k &&& 4294967295).toBitVec.toNat = k.toBitVec.toNat % 4294967296 := by
    rw [Int64.toBitVec_and, BitVec.toNat_and]
    exact Nat.and_two_pow_sub_one_eq_mod _ 32
  refine ⟨k.toBitVec.toNat % 4294967296, by omega, Int64.toBitVec_inj.mp (BitVec.eq_of_toNat_eq ?_)⟩
  rw [h1]
  show _ = (BitVec.ofNat 64 (k.toBitVec.toNat % 4294967296)).toNat
  rw [BitVec.toNat_ofNat]; omega

theorem e31_0 : decode method_3_code 0 = .ok (.bipush 48, 2) := by decide +kernel
theorem e31_2 : decode method_3_code 2 = .ok (.lload_n 0, 1) := by decide +kernel
theorem e31_3 : decode method_3_code 3 = .ok (.lload_n 2, 1) := by decide +kernel
theorem e31_4 : decode method_3_code 4 = .ok (.ldiv, 1) := by decide +kernel
theorem e31_5 : decode method_3_code 5 = .ok (.ldc2_w 7, 3) := by decide +kernel
theorem e31_8 : decode method_3_code 8 = .ok (.lrem, 1) := by decide +kernel
theorem e31_9 : decode method_3_code 9 = .ok (.l2i, 1) := by decide +kernel
theorem e31_10 : decode method_3_code 10 = .ok (.iadd, 1) := by decide +kernel
theorem e31_11 : decode method_3_code 11 = .ok (.i2c, 1) := by decide +kernel
theorem e31_12 : decode method_3_code 12 = .ok (.ireturn, 1) := by decide +kernel
theorem pn7 : plainName "com/example/stepwize/stepwize/binding/ElementIndexPinLaw" = true := by first | (simp [plainName, overriddenIn]; done) | decide +kernel
set_option maxRecDepth 65536 in
set_option maxHeartbeats 40000000 in
theorem con_dig (l : Launch) (Z : State) (a0 : Array Value) (hw : ∀ d ∈ tables_1, d.before a0 Z = true) (v_ p_ : Int64) (h0 : Heap) (O0 : Ext Z.heap h0) (hp : p_ ≠ 0) :
    Con l Z consts_1 false (⟨"com/example/stepwize/stepwize/binding/ElementIndexPinLaw", "dig", "(JJ)C"⟩ : MethodName) method_3_code 4 (some .char) [] ({ frames := 0, cells := 0, slots := 0, locals := 0 } : Room) #[(.long v_), (.long p_)] [] h0 (fun v h => v = some (.int (dgc v_ p_)) ∧ h = h0) := by
  refine Con.intro (Ls := #[.val (.long v_), .second, .val (.long p_), .second]) (plainFor_of_name pn7) (own_EL hw) O0 (fun m => by first | (simp [entryFrame, mkF, argsToLocals, Value.category]; done) | rfl) (fun p e s m below meth cc_ T w sf_ => ?_)
  have E0 := ext_refl h0
  refine g_bipush w e31_0 (q := 2) rfl (v := (48 : Int32)) (by decide) ?_
  refine g_lloadN w e31_2 (q := 3) rfl rfl ?_
  refine g_lloadN w e31_3 (q := 4) rfl rfl ?_
  refine g_ldiv w e31_4 (q := 5) rfl hp ?_
  refine g_ldc2J w e31_5 (q := 8) rfl (v := (10 : Int64)) (hw _ (List.mem_of_getElem? (i := 57) rfl)) ?_
  refine g_lrem w e31_8 (q := 9) rfl (by decide) ?_
  refine g_l2i w e31_9 (q := 10) rfl ?_
  refine g_iadd w e31_10 (q := 11) rfl ?_
  refine g_i2c w e31_11 (q := 12) rfl ?_
  exact g_retn w e31_12 rfl (by simp) (nar_chr (i2c16 _)) (by decide) (by decide) ⟨rfl, rfl⟩
theorem pw_at : ∀ k < 12, ([(.long (1 : Int64)), (.long (10 : Int64)), (.long (100 : Int64)), (.long (1000 : Int64)), (.long (10000 : Int64)), (.long (100000 : Int64)), (.long (1000000 : Int64)), (.long (10000000 : Int64)), (.long (100000000 : Int64)), (.long (1000000000 : Int64)), (.long (10000000000 : Int64)), (.long (100000000000 : Int64))] : List Value)[k]? = some (.long (Int64.ofNat (10 ^ k))) := by decide +kernel
theorem e32_0 : decode method_2_code 0 = .ok (.bipush 12, 2) := by decide +kernel
theorem e32_2 : decode method_2_code 2 = .ok (.newarray .long, 2) := by decide +kernel
theorem e32_4 : decode method_2_code 4 = .ok (.dup, 1) := by decide +kernel
theorem e32_5 : decode method_2_code 5 = .ok (.iconst 0, 1) := by decide +kernel
theorem e32_6 : decode method_2_code 6 = .ok (.lconst 1, 1) := by decide +kernel
theorem e32_7 : decode method_2_code 7 = .ok (.lastore, 1) := by decide +kernel
theorem e32_8 : decode method_2_code 8 = .ok (.dup, 1) := by decide +kernel
theorem e32_9 : decode method_2_code 9 = .ok (.iconst 1, 1) := by decide +kernel
theorem e32_10 : decode method_2_code 10 = .ok (.ldc2_w 7, 3) := by decide +kernel
theorem e32_13 : decode method_2_code 13 = .ok (.lastore, 1) := by decide +kernel
theorem e32_14 : decode method_2_code 14 = .ok (.dup, 1) := by decide +kernel
theorem e32_15 : decode method_2_code 15 = .ok (.iconst 2, 1) := by decide +kernel
theorem e32_16 : decode method_2_code 16 = .ok (.ldc2_w 9, 3) := by decide +kernel
theorem e32_19 : decode method_2_code 19 = .ok (.lastore, 1) := by decide +kernel
theorem e32_20 : decode method_2_code 20 = .ok (.dup, 1) := by decide +kernel
theorem e32_21 : decode method_2_code 21 = .ok (.iconst 3, 1) := by decide +kernel
theorem e32_22 : decode method_2_code 22 = .ok (.ldc2_w 11, 3) := by decide +kernel
theorem e32_25 : decode method_2_code 25 = .ok (.lastore, 1) := by decide +kernel
theorem e32_26 : decode method_2_code 26 = .ok (.dup, 1) := by decide +kernel
theorem e32_27 : decode method_2_code 27 = .ok (.iconst 4, 1) := by decide +kernel
theorem e32_28 : decode method_2_code 28 = .ok (.ldc2_w 13, 3) := by decide +kernel
theorem e32_31 : decode method_2_code 31 = .ok (.lastore, 1) := by decide +kernel
theorem e32_32 : decode method_2_code 32 = .ok (.dup, 1) := by decide +kernel
theorem e32_33 : decode method_2_code 33 = .ok (.iconst 5, 1) := by decide +kernel
theorem e32_34 : decode method_2_code 34 = .ok (.ldc2_w 15, 3) := by decide +kernel
theorem e32_37 : decode method_2_code 37 = .ok (.lastore, 1) := by decide +kernel
theorem e32_38 : decode method_2_code 38 = .ok (.dup, 1) := by decide +kernel
theorem e32_39 : decode method_2_code 39 = .ok (.bipush 6, 2) := by decide +kernel
theorem e32_41 : decode method_2_code 41 = .ok (.ldc2_w 17, 3) := by decide +kernel
theorem e32_44 : decode method_2_code 44 = .ok (.lastore, 1) := by decide +kernel
theorem e32_45 : decode method_2_code 45 = .ok (.dup, 1) := by decide +kernel
theorem e32_46 : decode method_2_code 46 = .ok (.bipush 7, 2) := by decide +kernel
theorem e32_48 : decode method_2_code 48 = .ok (.ldc2_w 19, 3) := by decide +kernel
theorem e32_51 : decode method_2_code 51 = .ok (.lastore, 1) := by decide +kernel
theorem e32_52 : decode method_2_code 52 = .ok (.dup, 1) := by decide +kernel
theorem e32_53 : decode method_2_code 53 = .ok (.bipush 8, 2) := by decide +kernel
theorem e32_55 : decode method_2_code 55 = .ok (.ldc2_w 21, 3) := by decide +kernel
theorem e32_58 : decode method_2_code 58 = .ok (.lastore, 1) := by decide +kernel
theorem e32_59 : decode method_2_code 59 = .ok (.dup, 1) := by decide +kernel
theorem e32_60 : decode method_2_code 60 = .ok (.bipush 9, 2) := by decide +kernel
theorem e32_62 : decode method_2_code 62 = .ok (.ldc2_w 23, 3) := by decide +kernel
theorem e32_65 : decode method_2_code 65 = .ok (.lastore, 1) := by decide +kernel
theorem e32_66 : decode method_2_code 66 = .ok (.dup, 1) := by decide +kernel
theorem e32_67 : decode method_2_code 67 = .ok (.bipush 10, 2) := by decide +kernel
theorem e32_69 : decode method_2_code 69 = .ok (.ldc2_w 25, 3) := by decide +kernel
theorem e32_72 : decode method_2_code 72 = .ok (.lastore, 1) := by decide +kernel
theorem e32_73 : decode method_2_code 73 = .ok (.dup, 1) := by decide +kernel
theorem e32_74 : decode method_2_code 74 = .ok (.bipush 11, 2) := by decide +kernel
theorem e32_76 : decode method_2_code 76 = .ok (.ldc2_w 27, 3) := by decide +kernel
theorem e32_79 : decode method_2_code 79 = .ok (.lastore, 1) := by decide +kernel
theorem e32_80 : decode method_2_code 80 = .ok (.astore_n 1, 1) := by decide +kernel
theorem e32_81 : decode method_2_code 81 = .ok (.aload_n 1, 1) := by decide +kernel
theorem e32_82 : decode method_2_code 82 = .ok (.iload_n 0, 1) := by decide +kernel
theorem e32_83 : decode method_2_code 83 = .ok (.laload, 1) := by decide +kernel
theorem e32_84 : decode method_2_code 84 = .ok (.lreturn, 1) := by decide +kernel
set_option maxRecDepth 65536 in
set_option maxHeartbeats 40000000 in
theorem con_pow (l : Launch) (Z : State) (a0 : Array Value) (hw : ∀ d ∈ tables_1, d.before a0 Z = true) (k_ : Nat) (h0 : Heap) (O0 : Ext Z.heap h0) (hk : k_ < 12) :
    Con l Z consts_1 false (⟨"com/example/stepwize/stepwize/binding/ElementIndexPinLaw", "pow10", "(I)J"⟩ : MethodName) method_2_code 2 (some .long) [] ({ frames := 0, cells := 1, slots := 12, locals := 0 } : Room) #[(.int (Int32.ofNat k_))] [] h0 (fun v h => v = some (.long (Int64.ofNat (10 ^ k_))) ∧ Ext h0 h) := by
  refine Con.intro (Ls := #[.val (.int (Int32.ofNat k_)), .unset]) (plainFor_of_name pn7) (own_EL hw) O0 (fun m => by first | (simp [entryFrame, mkF, argsToLocals, Value.category]; done) | rfl) (fun p e s m below meth cc_ T w sf_ => ?_)
  have E0 := ext_refl h0
  refine g_bipush w e32_0 (q := 2) rfl (v := (12 : Int32)) (by decide) ?_
  refine g_newarr w e32_2 (q := 4) rfl (hw _ (List.mem_of_getElem? (i := 189) rfl)) (len := 12) (cap := 12) (by decide) (by decide) (by decide) (by decide) (by decide) (fun T h a1 w E g_a1 n_a1 A_a1 s_a1 => ?_)
  have z_a1 := Nat.le_trans E0.1 g_a1
  replace E0 := ext_trans E0 E
  replace A_a1 : Ar Z h a1 .long [(.long (0 : Int64)), (.long (0 : Int64)), (.long (0 : Int64)), (.long (0 : Int64)), (.long (0 : Int64)), (.long (0 : Int64)), (.long (0 : Int64)), (.long (0 : Int64)), (.long (0 : Int64)), (.long (0 : Int64)), (.long (0 : Int64)), (.long (0 : Int64))] := A_a1
  refine g_dup w e32_4 (q := 5) rfl rfl ?_
  refine g_iconst w e32_5 (q := 6) rfl (v := (0 : Int32)) (by decide) ?_
  refine g_lconst w e32_6 (q := 7) rfl (v := (1 : Int64)) (by decide) ?_
  refine g_lastore w e32_7 (q := 8) rfl A_a1 (i := 0) (by decide) (Nat.le_of_ble_eq_true rfl) n_a1 (w.safeAr A_a1 (by decide)) (fun T h w W V => ?_)
  replace E0 := ext_wr E0 W z_a1
  replace A_a1 : Ar Z h a1 .long [(.long (1 : Int64)), (.long (0 : Int64)), (.long (0 : Int64)), (.long (0 : Int64)), (.long (0 : Int64)), (.long (0 : Int64)), (.long (0 : Int64)), (.long (0 : Int64)), (.long (0 : Int64)), (.long (0 : Int64)), (.long (0 : Int64)), (.long (0 : Int64))] := V
  refine g_dup w e32_8 (q := 9) rfl rfl ?_
  refine g_iconst w e32_9 (q := 10) rfl (v := (1 : Int32)) (by decide) ?_
  refine g_ldc2J w e32_10 (q := 13) rfl (v := (10 : Int64)) (hw _ (List.mem_of_getElem? (i := 57) rfl)) ?_
  refine g_lastore w e32_13 (q := 14) rfl A_a1 (i := 1) (by decide) (Nat.le_of_ble_eq_true rfl) n_a1 (w.safeAr A_a1 (by decide)) (fun T h w W V => ?_)
  replace E0 := ext_wr E0 W z_a1
  replace A_a1 : Ar Z h a1 .long [(.long (1 : Int64)), (.long (10 : Int64)), (.long (0 : Int64)), (.long (0 : Int64)), (.long (0 : Int64)), (.long (0 : Int64)), (.long (0 : Int64)), (.long (0 : Int64)), (.long (0 : Int64)), (.long (0 : Int64)), (.long (0 : Int64)), (.long (0 : Int64))] := V
  refine g_dup w e32_14 (q := 15) rfl rfl ?_
  refine g_iconst w e32_15 (q := 16) rfl (v := (2 : Int32)) (by decide) ?_
  refine g_ldc2J w e32_16 (q := 19) rfl (v := (100 : Int64)) (hw _ (List.mem_of_getElem? (i := 62) rfl)) ?_
  refine g_lastore w e32_19 (q := 20) rfl A_a1 (i := 2) (by decide) (Nat.le_of_ble_eq_true rfl) n_a1 (w.safeAr A_a1 (by decide)) (fun T h w W V => ?_)
  replace E0 := ext_wr E0 W z_a1
  replace A_a1 : Ar Z h a1 .long [(.long (1 : Int64)), (.long (10 : Int64)), (.long (100 : Int64)), (.long (0 : Int64)), (.long (0 : Int64)), (.long (0 : Int64)), (.long (0 : Int64)), (.long (0 : Int64)), (.long (0 : Int64)), (.long (0 : Int64)), (.long (0 : Int64)), (.long (0 : Int64))] := V
  refine g_dup w e32_20 (q := 21) rfl rfl ?_
  refine g_iconst w e32_21 (q := 22) rfl (v := (3 : Int32)) (by decide) ?_
  refine g_ldc2J w e32_22 (q := 25) rfl (v := (1000 : Int64)) (hw _ (List.mem_of_getElem? (i := 61) rfl)) ?_
  refine g_lastore w e32_25 (q := 26) rfl A_a1 (i := 3) (by decide) (Nat.le_of_ble_eq_true rfl) n_a1 (w.safeAr A_a1 (by decide)) (fun T h w W V => ?_)
  replace E0 := ext_wr E0 W z_a1
  replace A_a1 : Ar Z h a1 .long [(.long (1 : Int64)), (.long (10 : Int64)), (.long (100 : Int64)), (.long (1000 : Int64)), (.long (0 : Int64)), (.long (0 : Int64)), (.long (0 : Int64)), (.long (0 : Int64)), (.long (0 : Int64)), (.long (0 : Int64)), (.long (0 : Int64)), (.long (0 : Int64))] := V
  refine g_dup w e32_26 (q := 27) rfl rfl ?_
  refine g_iconst w e32_27 (q := 28) rfl (v := (4 : Int32)) (by decide) ?_
  refine g_ldc2J w e32_28 (q := 31) rfl (v := (10000 : Int64)) (hw _ (List.mem_of_getElem? (i := 60) rfl)) ?_
  refine g_lastore w e32_31 (q := 32) rfl A_a1 (i := 4) (by decide) (Nat.le_of_ble_eq_true rfl) n_a1 (w.safeAr A_a1 (by decide)) (fun T h w W V => ?_)
  replace E0 := ext_wr E0 W z_a1
  replace A_a1 : Ar Z h a1 .long [(.long (1 : Int64)), (.long (10 : Int64)), (.long (100 : Int64)), (.long (1000 : Int64)), (.long (10000 : Int64)), (.long (0 : Int64)), (.long (0 : Int64)), (.long (0 : Int64)), (.long (0 : Int64)), (.long (0 : Int64)), (.long (0 : Int64)), (.long (0 : Int64))] := V
  refine g_dup w e32_32 (q := 33) rfl rfl ?_
  refine g_iconst w e32_33 (q := 34) rfl (v := (5 : Int32)) (by decide) ?_
  refine g_ldc2J w e32_34 (q := 37) rfl (v := (100000 : Int64)) (hw _ (List.mem_of_getElem? (i := 59) rfl)) ?_
  refine g_lastore w e32_37 (q := 38) rfl A_a1 (i := 5) (by decide) (Nat.le_of_ble_eq_true rfl) n_a1 (w.safeAr A_a1 (by decide)) (fun T h w W V => ?_)
  replace E0 := ext_wr E0 W z_a1
  replace A_a1 : Ar Z h a1 .long [(.long (1 : Int64)), (.long (10 : Int64)), (.long (100 : Int64)), (.long (1000 : Int64)), (.long (10000 : Int64)), (.long (100000 : Int64)), (.long (0 : Int64)), (.long (0 : Int64)), (.long (0 : Int64)), (.long (0 : Int64)), (.long (0 : Int64)), (.long (0 : Int64))] := V
  refine g_dup w e32_38 (q := 39) rfl rfl ?_
  refine g_bipush w e32_39 (q := 41) rfl (v := (6 : Int32)) (by decide) ?_
  refine g_ldc2J w e32_41 (q := 44) rfl (v := (1000000 : Int64)) (hw _ (List.mem_of_getElem? (i := 58) rfl)) ?_
  refine g_lastore w e32_44 (q := 45) rfl A_a1 (i := 6) (by decide) (Nat.le_of_ble_eq_true rfl) n_a1 (w.safeAr A_a1 (by decide)) (fun T h w W V => ?_)
  replace E0 := ext_wr E0 W z_a1
  replace A_a1 : Ar Z h a1 .long [(.long (1 : Int64)), (.long (10 : Int64)), (.long (100 : Int64)), (.long (1000 : Int64)), (.long (10000 : Int64)), (.long (100000 : Int64)), (.long (1000000 : Int64)), (.long (0 : Int64)), (.long (0 : Int64)), (.long (0 : Int64)), (.long (0 : Int64)), (.long (0 : Int64))] := V
  refine g_dup w e32_45 (q := 46) rfl rfl ?_
  refine g_bipush w e32_46 (q := 48) rfl (v := (7 : Int32)) (by decide) ?_
  refine g_ldc2J w e32_48 (q := 51) rfl (v := (10000000 : Int64)) (hw _ (List.mem_of_getElem? (i := 52) rfl)) ?_
  refine g_lastore w e32_51 (q := 52) rfl A_a1 (i := 7) (by decide) (Nat.le_of_ble_eq_true rfl) n_a1 (w.safeAr A_a1 (by decide)) (fun T h w W V => ?_)
  replace E0 := ext_wr E0 W z_a1
  replace A_a1 : Ar Z h a1 .long [(.long (1 : Int64)), (.long (10 : Int64)), (.long (100 : Int64)), (.long (1000 : Int64)), (.long (10000 : Int64)), (.long (100000 : Int64)), (.long (1000000 : Int64)), (.long (10000000 : Int64)), (.long (0 : Int64)), (.long (0 : Int64)), (.long (0 : Int64)), (.long (0 : Int64))] := V
  refine g_dup w e32_52 (q := 53) rfl rfl ?_
  refine g_bipush w e32_53 (q := 55) rfl (v := (8 : Int32)) (by decide) ?_
  refine g_ldc2J w e32_55 (q := 58) rfl (v := (100000000 : Int64)) (hw _ (List.mem_of_getElem? (i := 49) rfl)) ?_
  refine g_lastore w e32_58 (q := 59) rfl A_a1 (i := 8) (by decide) (Nat.le_of_ble_eq_true rfl) n_a1 (w.safeAr A_a1 (by decide)) (fun T h w W V => ?_)
  replace E0 := ext_wr E0 W z_a1
  replace A_a1 : Ar Z h a1 .long [(.long (1 : Int64)), (.long (10 : Int64)), (.long (100 : Int64)), (.long (1000 : Int64)), (.long (10000 : Int64)), (.long (100000 : Int64)), (.long (1000000 : Int64)), (.long (10000000 : Int64)), (.long (100000000 : Int64)), (.long (0 : Int64)), (.long (0 : Int64)), (.long (0 : Int64))] := V
  refine g_dup w e32_59 (q := 60) rfl rfl ?_
  refine g_bipush w e32_60 (q := 62) rfl (v := (9 : Int32)) (by decide) ?_
  refine g_ldc2J w e32_62 (q := 65) rfl (v := (1000000000 : Int64)) (hw _ (List.mem_of_getElem? (i := 65) rfl)) ?_
  refine g_lastore w e32_65 (q := 66) rfl A_a1 (i := 9) (by decide) (Nat.le_of_ble_eq_true rfl) n_a1 (w.safeAr A_a1 (by decide)) (fun T h w W V => ?_)
  replace E0 := ext_wr E0 W z_a1
  replace A_a1 : Ar Z h a1 .long [(.long (1 : Int64)), (.long (10 : Int64)), (.long (100 : Int64)), (.long (1000 : Int64)), (.long (10000 : Int64)), (.long (100000 : Int64)), (.long (1000000 : Int64)), (.long (10000000 : Int64)), (.long (100000000 : Int64)), (.long (1000000000 : Int64)), (.long (0 : Int64)), (.long (0 : Int64))] := V
  refine g_dup w e32_66 (q := 67) rfl rfl ?_
  refine g_bipush w e32_67 (q := 69) rfl (v := (10 : Int32)) (by decide) ?_
  refine g_ldc2J w e32_69 (q := 72) rfl (v := (10000000000 : Int64)) (hw _ (List.mem_of_getElem? (i := 64) rfl)) ?_
  refine g_lastore w e32_72 (q := 73) rfl A_a1 (i := 10) (by decide) (Nat.le_of_ble_eq_true rfl) n_a1 (w.safeAr A_a1 (by decide)) (fun T h w W V => ?_)
  replace E0 := ext_wr E0 W z_a1
  replace A_a1 : Ar Z h a1 .long [(.long (1 : Int64)), (.long (10 : Int64)), (.long (100 : Int64)), (.long (1000 : Int64)), (.long (10000 : Int64)), (.long (100000 : Int64)), (.long (1000000 : Int64)), (.long (10000000 : Int64)), (.long (100000000 : Int64)), (.long (1000000000 : Int64)), (.long (10000000000 : Int64)), (.long (0 : Int64))] := V
  refine g_dup w e32_73 (q := 74) rfl rfl ?_
  refine g_bipush w e32_74 (q := 76) rfl (v := (11 : Int32)) (by decide) ?_
  refine g_ldc2J w e32_76 (q := 79) rfl (v := (100000000000 : Int64)) (hw _ (List.mem_of_getElem? (i := 63) rfl)) ?_
  refine g_lastore w e32_79 (q := 80) rfl A_a1 (i := 11) (by decide) (Nat.le_of_ble_eq_true rfl) n_a1 (w.safeAr A_a1 (by decide)) (fun T h w W V => ?_)
  replace E0 := ext_wr E0 W z_a1
  replace A_a1 : Ar Z h a1 .long [(.long (1 : Int64)), (.long (10 : Int64)), (.long (100 : Int64)), (.long (1000 : Int64)), (.long (10000 : Int64)), (.long (100000 : Int64)), (.long (1000000 : Int64)), (.long (10000000 : Int64)), (.long (100000000 : Int64)), (.long (1000000000 : Int64)), (.long (10000000000 : Int64)), (.long (100000000000 : Int64))] := V
  refine g_astoreN w e32_80 (q := 81) rfl rfl (Ls' := #[.val (.int (Int32.ofNat k_)), .val (.ref a1)]) rfl ?_
  refine g_aloadN w e32_81 (q := 82) rfl rfl rfl ?_
  refine g_iloadN w e32_82 (q := 83) rfl rfl ?_
  refine g_laload w e32_83 (q := 84) rfl A_a1 (i := k_) rfl hk (pw_at k_ hk) ?_
  exact g_retl w e32_84 rfl (by decide) (by decide) ⟨rfl, E0⟩
theorem pd22 : parseMethodDescriptor "(JJ)C" = some ⟨[.long, .long], some .char⟩ := by decide +kernel
theorem pd23 : parseMethodDescriptor "([C)V" = some ⟨[(.array .char)], none⟩ := by decide +kernel
theorem pd24 : parseMethodDescriptor "(Ljava/lang/String;)V" = some ⟨[(.object "java/lang/String")], none⟩ := by decide +kernel
theorem pd25 : parseMethodDescriptor "(I)J" = some ⟨[.int], some .long⟩ := by decide +kernel
theorem pd26 : parseMethodDescriptor "(C)Ljava/lang/String;" = some ⟨[.char], some (.object "java/lang/String")⟩ := by decide +kernel
set_option maxRecDepth 65536 in
set_option maxHeartbeats 40000000 in
theorem con_law (l : Launch) (Z : State) (a0 : Array Value) (hw : ∀ d ∈ tables_1, d.before a0 Z = true) (fm : Value) (em : Addr) (j0 : Int32) (k1 k2 : Int64) (j3 j4 : Int32) (h0 : Heap) (O0 : Ext Z.heap h0) (hcm : Cpt Z) (SFm : Sta Z Z.heap "jdk/internal/util/Preconditions" "SIOOBE_FORMATTER" "Ljava/util/function/BiFunction;" fm) (rfm : fm.isRef = true) (SA_ : Sta Z Z.heap "java/lang/StringUTF16" "$assertionsDisabled" "Z" (.int 1)) (SH_ : Sta Z Z.heap "java/lang/StringUTF16" "HI_BYTE_SHIFT" "I" (.int 0)) (SL_ : Sta Z Z.heap "java/lang/StringUTF16" "LO_BYTE_SHIFT" "I" (.int 8)) (SE_ : Sta Z Z.heap "java/util/OptionalInt" "EMPTY" "Ljava/util/OptionalInt;" (.ref em)) (XE_ : Exa Z Z.heap em "java/util/OptionalInt") (FE_ : Fld Z Z.heap em "java/util/OptionalInt" "isPresent" "Z" (.int 0)) :
    Con l Z consts_1 false x code maxLocals ret tables_1 room_1 #[(.int j0), (.long k1), (.long k2), (.int j3), (.int j4)] [] h0 (fun v h => v = some (.int 1)) := by
  refine Con.intro (Ls := #[.val (.int j0), .val (.long k1), .second, .val (.long k2), .second, .val (.int j3), .val (.int j4), .unset, .unset, .unset, .unset, .unset, .unset, .unset, .unset, .unset, .unset, .unset, .unset, .unset, .unset]) (plainFor_of_name pn7) (own_EL hw) O0 (fun m => by first | (simp [entryFrame, mkF, argsToLocals, Value.category, maxLocals]; done) | rfl) (fun p e s m below meth cc_ T w sf_ => ?_)
  have E0 := ext_refl h0
  obtain ⟨z_, hz_, SC_⟩ := id hcm
  refine g_iload w at_0 (q := 2) rfl rfl ?_
  refine g_ldcI w at_2 (q := 4) rfl (v := (65535 : Int32)) (hw _ (List.mem_of_getElem? (i := 0) rfl)) ?_
  refine g_iand w at_4 (q := 5) rfl ?_
  refine g_i2c w at_5 (q := 6) rfl ?_
  obtain ⟨cc, hcc⟩ : ∃ cc, cc = (j4 &&& (65535 : Int32)).toUInt32.toUInt16.toUInt32.toInt32 := ⟨_, rfl⟩
  rw [← hcc]
  have lcc : Lt16 cc := by rw [hcc]; exact i2c16 _
  refine g_istore w at_6 (q := 8) rfl (Ls' := #[.val (.int j0), .val (.long k1), .second, .val (.long k2), .second, .val (.int j3), .val (.int j4), .val (.int cc), .unset, .unset, .unset, .unset, .unset, .unset, .unset, .unset, .unset, .unset, .unset, .unset, .unset]) rfl ?_
  have J29 : ∀ (d8 : Int32), ((d8 = 1 ∧ Dg cc) ∨ (d8 = 0 ∧ ¬ Dg cc)) → Go p e below (Fini Z consts_1 false room_1.cells room_1.slots (fun v h => v = some (.int 1)) s) (State.setTop T (mkF m 29 #[.val (.int j0), .val (.long k1), .second, .val (.long k2), .second, .val (.int j3), .val (.int j4), .val (.int cc), .val (.int d8), .unset, .unset, .unset, .unset, .unset, .unset, .unset, .unset, .unset, .unset, .unset, .unset] [])) := by
    intro d8 hj29_0
    refine g_iloadN w at_29 (q := 30) rfl rfl ?_
    refine g_iconst w at_30 (q := 31) rfl (v := (3 : Int32)) (by decide) ?_
    refine g_iand w at_31 (q := 32) rfl ?_
    refine g_istore w at_32 (q := 34) rfl (Ls' := #[.val (.int j0), .val (.long k1), .second, .val (.long k2), .second, .val (.int j3), .val (.int j4), .val (.int cc), .val (.int d8), .val (.int (j0 &&& (3 : Int32))), .unset, .unset, .unset, .unset, .unset, .unset, .unset, .unset, .unset, .unset, .unset]) rfl ?_
    refine g_iload w at_34 (q := 36) rfl rfl ?_
    refine g_if_ne w at_36 (by decide) (q := 67) (by decide) (q' := 39) rfl (fun cd1 => ?_) (fun cd1 => ?_)
    · refine g_iload w at_67 (q := 69) rfl rfl ?_
      refine g_iconst w at_69 (q := 70) rfl (v := (1 : Int32)) (by decide) ?_
      refine g_ic_ne w at_70 (by decide) (q := 136) (by decide) (q' := 73) rfl (fun cd2 => ?_) (fun cd2 => ?_)
      · have J157 : ∀ (hi : Int64), (∃ H, H < 100000000 ∧ hi = Int64.ofNat H) → Go p e below (Fini Z consts_1 false room_1.cells room_1.slots (fun v h => v = some (.int 1)) s) (State.setTop T (mkF m 157 #[.val (.int j0), .val (.long k1), .second, .val (.long k2), .second, .val (.int j3), .val (.int j4), .val (.int cc), .val (.int d8), .val (.int (j0 &&& (3 : Int32))), .val (.long hi), .second, .unset, .unset, .unset, .unset, .unset, .unset, .unset, .unset, .unset] [])) := by
          intro hi hj157_0
          obtain ⟨H, hH, rfl⟩ := hj157_0
          show Go p e below _ (State.setTop T (mkF m 157 #[.val (.int j0), .val (.long k1), .second, .val (.long k2), .second, .val (.int j3), .val (.int j4), .val (.int cc), .val (.int d8), .val (.int (j0 &&& (3 : Int32))), .val (.long (Int64.ofNat H)), .second, .unset, .unset, .unset, .unset, .unset, .unset, .unset, .unset, .unset] []))
          have J183 : ∀ (lo : Int64), (∃ L, L < 1000000000000 ∧ lo = Int64.ofNat L) → Go p e below (Fini Z consts_1 false room_1.cells room_1.slots (fun v h => v = some (.int 1)) s) (State.setTop T (mkF m 183 #[.val (.int j0), .val (.long k1), .second, .val (.long k2), .second, .val (.int j3), .val (.int j4), .val (.int cc), .val (.int d8), .val (.int (j0 &&& (3 : Int32))), .val (.long (Int64.ofNat H)), .second, .val (.long lo), .second, .unset, .unset, .unset, .unset, .unset, .unset, .unset] [])) := by
            intro lo hj183_0
            obtain ⟨L, hL, rfl⟩ := hj183_0
            show Go p e below _ (State.setTop T (mkF m 183 #[.val (.int j0), .val (.long k1), .second, .val (.long k2), .second, .val (.int j3), .val (.int j4), .val (.int cc), .val (.int d8), .val (.int (j0 &&& (3 : Int32))), .val (.long (Int64.ofNat H)), .second, .val (.long (Int64.ofNat L)), .second, .unset, .unset, .unset, .unset, .unset, .unset, .unset] []))
            refine g_bipush w at_183 (q := 185) rfl (v := (20 : Int32)) (by decide) ?_
            refine g_newarr w at_185 (q := 187) rfl (hw _ (List.mem_of_getElem? (i := 51) rfl)) (len := 20) (cap := 20) (by decide) (by decide) (by decide) (by decide) (by decide) (fun T h a3 w E g_a3 n_a3 A_a3 s_a3 => ?_)
            have z_a3 := Nat.le_trans E0.1 g_a3
            replace E0 := ext_trans E0 E
            replace A_a3 : Ar Z h a3 .char [(.int (0 : Int32)), (.int (0 : Int32)), (.int (0 : Int32)), (.int (0 : Int32)), (.int (0 : Int32)), (.int (0 : Int32)), (.int (0 : Int32)), (.int (0 : Int32)), (.int (0 : Int32)), (.int (0 : Int32)), (.int (0 : Int32)), (.int (0 : Int32)), (.int (0 : Int32)), (.int (0 : Int32)), (.int (0 : Int32)), (.int (0 : Int32)), (.int (0 : Int32)), (.int (0 : Int32)), (.int (0 : Int32)), (.int (0 : Int32))] := A_a3
            refine g_astore w at_187 (q := 189) rfl rfl (Ls' := #[.val (.int j0), .val (.long k1), .second, .val (.long k2), .second, .val (.int j3), .val (.int j4), .val (.int cc), .val (.int d8), .val (.int (j0 &&& (3 : Int32))), .val (.long (Int64.ofNat H)), .second, .val (.long (Int64.ofNat L)), .second, .val (.ref a3), .unset, .unset, .unset, .unset, .unset, .unset]) rfl ?_
            refine g_aload w at_189 (q := 191) rfl rfl rfl ?_
            refine g_iconst w at_191 (q := 192) rfl (v := (0 : Int32)) (by decide) ?_
            refine g_lload w at_192 (q := 194) rfl rfl ?_
            refine g_ldc2J w at_194 (q := 197) rfl (v := (10000000 : Int64)) (hw _ (List.mem_of_getElem? (i := 52) rfl)) ?_
            refine g_staticP w (con_dig l Z a0 hw (Int64.ofNat H) (10000000 : Int64) _ w.old (by decide)) no0 at_197 (q := 200) rfl rfl (hw _ (List.mem_of_getElem? (i := 53) rfl)) (hw _ (List.mem_of_getElem? (i := 54) rfl)) (hw _ (List.mem_of_getElem? (i := 55) rfl)) (hw _ (List.mem_of_getElem? (i := 56) rfl)) (by decide) pd22 rfl rfl (W := 2) (Nat.le_of_eq rfl) (by decide) (by decide) (by decide) (by decide) (fun T v w C q => ?_)
            obtain rfl := q
            show Go p e below _ (State.setTop T (mkF m 200 #[.val (.int j0), .val (.long k1), .second, .val (.long k2), .second, .val (.int j3), .val (.int j4), .val (.int cc), .val (.int d8), .val (.int (j0 &&& (3 : Int32))), .val (.long (Int64.ofNat H)), .second, .val (.long (Int64.ofNat L)), .second, .val (.ref a3), .unset, .unset, .unset, .unset, .unset, .unset] [(.int (dgc (Int64.ofNat H) (10000000 : Int64))), (.int (0 : Int32)), (.ref a3)]))
            refine g_castore w at_200 (q := 201) rfl A_a3 (i := 0) (by decide) (Nat.le_of_ble_eq_true rfl) (x' := (dgc (Int64.ofNat H) (10000000 : Int64))) (nar_chr (dgc16 _ _)) n_a3 (w.safeAr A_a3 (by decide)) (fun T h w W V => ?_)
            replace E0 := ext_wr E0 W z_a3
            replace A_a3 : Ar Z h a3 .char [(.int (dgc (Int64.ofNat H) (10000000 : Int64))), (.int (0 : Int32)), (.int (0 : Int32)), (.int (0 : Int32)), (.int (0 : Int32)), (.int (0 : Int32)), (.int (0 : Int32)), (.int (0 : Int32)), (.int (0 : Int32)), (.int (0 : Int32)), (.int (0 : Int32)), (.int (0 : Int32)), (.int (0 : Int32)), (.int (0 : Int32)), (.int (0 : Int32)), (.int (0 : Int32)), (.int (0 : Int32)), (.int (0 : Int32)), (.int (0 : Int32)), (.int (0 : Int32))] := V
            refine g_aload w at_201 (q := 203) rfl rfl rfl ?_
            refine g_iconst w at_203 (q := 204) rfl (v := (1 : Int32)) (by decide) ?_
            refine g_lload w at_204 (q := 206) rfl rfl ?_
            refine g_ldc2J w at_206 (q := 209) rfl (v := (1000000 : Int64)) (hw _ (List.mem_of_getElem? (i := 58) rfl)) ?_
            refine g_staticP w (con_dig l Z a0 hw (Int64.ofNat H) (1000000 : Int64) _ w.old (by decide)) no0 at_209 (q := 212) rfl rfl (hw _ (List.mem_of_getElem? (i := 53) rfl)) (hw _ (List.mem_of_getElem? (i := 54) rfl)) (hw _ (List.mem_of_getElem? (i := 55) rfl)) (hw _ (List.mem_of_getElem? (i := 56) rfl)) (by decide) pd22 rfl rfl (W := 2) (Nat.le_of_eq rfl) (by decide) (by decide) (by decide) (by decide) (fun T v w C q => ?_)
            obtain rfl := q
            show Go p e below _ (State.setTop T (mkF m 212 #[.val (.int j0), .val (.long k1), .second, .val (.long k2), .second, .val (.int j3), .val (.int j4), .val (.int cc), .val (.int d8), .val (.int (j0 &&& (3 : Int32))), .val (.long (Int64.ofNat H)), .second, .val (.long (Int64.ofNat L)), .second, .val (.ref a3), .unset, .unset, .unset, .unset, .unset, .unset] [(.int (dgc (Int64.ofNat H) (1000000 : Int64))), (.int (1 : Int32)), (.ref a3)]))
            refine g_castore w at_212 (q := 213) rfl A_a3 (i := 1) (by decide) (Nat.le_of_ble_eq_true rfl) (x' := (dgc (Int64.ofNat H) (1000000 : Int64))) (nar_chr (dgc16 _ _)) n_a3 (w.safeAr A_a3 (by decide)) (fun T h w W V => ?_)
            replace E0 := ext_wr E0 W z_a3
            replace A_a3 : Ar Z h a3 .char [(.int (dgc (Int64.ofNat H) (10000000 : Int64))), (.int (dgc (Int64.ofNat H) (1000000 : Int64))), (.int (0 : Int32)), (.int (0 : Int32)), (.int (0 : Int32)), (.int (0 : Int32)), (.int (0 : Int32)), (.int (0 : Int32)), (.int (0 : Int32)), (.int (0 : Int32)), (.int (0 : Int32)), (.int (0 : Int32)), (.int (0 : Int32)), (.int (0 : Int32)), (.int (0 : Int32)), (.int (0 : Int32)), (.int (0 : Int32)), (.int (0 : Int32)), (.int (0 : Int32)), (.int (0 : Int32))] := V
            refine g_aload w at_213 (q := 215) rfl rfl rfl ?_
            refine g_iconst w at_215 (q := 216) rfl (v := (2 : Int32)) (by decide) ?_
            refine g_lload w at_216 (q := 218) rfl rfl ?_
            refine g_ldc2J w at_218 (q := 221) rfl (v := (100000 : Int64)) (hw _ (List.mem_of_getElem? (i := 59) rfl)) ?_
            refine g_staticP w (con_dig l Z a0 hw (Int64.ofNat H) (100000 : Int64) _ w.old (by decide)) no0 at_221 (q := 224) rfl rfl (hw _ (List.mem_of_getElem? (i := 53) rfl)) (hw _ (List.mem_of_getElem? (i := 54) rfl)) (hw _ (List.mem_of_getElem? (i := 55) rfl)) (hw _ (List.mem_of_getElem? (i := 56) rfl)) (by decide) pd22 rfl rfl (W := 2) (Nat.le_of_eq rfl) (by decide) (by decide) (by decide) (by decide) (fun T v w C q => ?_)
            obtain rfl := q
            show Go p e below _ (State.setTop T (mkF m 224 #[.val (.int j0), .val (.long k1), .second, .val (.long k2), .second, .val (.int j3), .val (.int j4), .val (.int cc), .val (.int d8), .val (.int (j0 &&& (3 : Int32))), .val (.long (Int64.ofNat H)), .second, .val (.long (Int64.ofNat L)), .second, .val (.ref a3), .unset, .unset, .unset, .unset, .unset, .unset] [(.int (dgc (Int64.ofNat H) (100000 : Int64))), (.int (2 : Int32)), (.ref a3)]))
            refine g_castore w at_224 (q := 225) rfl A_a3 (i := 2) (by decide) (Nat.le_of_ble_eq_true rfl) (x' := (dgc (Int64.ofNat H) (100000 : Int64))) (nar_chr (dgc16 _ _)) n_a3 (w.safeAr A_a3 (by decide)) (fun T h w W V => ?_)
            replace E0 := ext_wr E0 W z_a3
            replace A_a3 : Ar Z h a3 .char [(.int (dgc (Int64.ofNat H) (10000000 : Int64))), (.int (dgc (Int64.ofNat H) (1000000 : Int64))), (.int (dgc (Int64.ofNat H) (100000 : Int64))), (.int (0 : Int32)), (.int (0 : Int32)), (.int (0 : Int32)), (.int (0 : Int32)), (.int (0 : Int32)), (.int (0 : Int32)), (.int (0 : Int32)), (.int (0 : Int32)), (.int (0 : Int32)), (.int (0 : Int32)), (.int (0 : Int32)), (.int (0 : Int32)), (.int (0 : Int32)), (.int (0 : Int32)), (.int (0 : Int32)), (.int (0 : Int32)), (.int (0 : Int32))] := V
            refine g_aload w at_225 (q := 227) rfl rfl rfl ?_
            refine g_iconst w at_227 (q := 228) rfl (v := (3 : Int32)) (by decide) ?_
            refine g_lload w at_228 (q := 230) rfl rfl ?_
            refine g_ldc2J w at_230 (q := 233) rfl (v := (10000 : Int64)) (hw _ (List.mem_of_getElem? (i := 60) rfl)) ?_
            refine g_staticP w (con_dig l Z a0 hw (Int64.ofNat H) (10000 : Int64) _ w.old (by decide)) no0 at_233 (q := 236) rfl rfl (hw _ (List.mem_of_getElem? (i := 53) rfl)) (hw _ (List.mem_of_getElem? (i := 54) rfl)) (hw _ (List.mem_of_getElem? (i := 55) rfl)) (hw _ (List.mem_of_getElem? (i := 56) rfl)) (by decide) pd22 rfl rfl (W := 2) (Nat.le_of_eq rfl) (by decide) (by decide) (by decide) (by decide) (fun T v w C q => ?_)
            obtain rfl := q
            show Go p e below _ (State.setTop T (mkF m 236 #[.val (.int j0), .val (.long k1), .second, .val (.long k2), .second, .val (.int j3), .val (.int j4), .val (.int cc), .val (.int d8), .val (.int (j0 &&& (3 : Int32))), .val (.long (Int64.ofNat H)), .second, .val (.long (Int64.ofNat L)), .second, .val (.ref a3), .unset, .unset, .unset, .unset, .unset, .unset] [(.int (dgc (Int64.ofNat H) (10000 : Int64))), (.int (3 : Int32)), (.ref a3)]))
            refine g_castore w at_236 (q := 237) rfl A_a3 (i := 3) (by decide) (Nat.le_of_ble_eq_true rfl) (x' := (dgc (Int64.ofNat H) (10000 : Int64))) (nar_chr (dgc16 _ _)) n_a3 (w.safeAr A_a3 (by decide)) (fun T h w W V => ?_)
            replace E0 := ext_wr E0 W z_a3
            replace A_a3 : Ar Z h a3 .char [(.int (dgc (Int64.ofNat H) (10000000 : Int64))), (.int (dgc (Int64.ofNat H) (1000000 : Int64))), (.int (dgc (Int64.ofNat H) (100000 : Int64))), (.int (dgc (Int64.ofNat H) (10000 : Int64))), (.int (0 : Int32)), (.int (0 : Int32)), (.int (0 : Int32)), (.int (0 : Int32)), (.int (0 : Int32)), (.int (0 : Int32)), (.int (0 : Int32)), (.int (0 : Int32)), (.int (0 : Int32)), (.int (0 : Int32)), (.int (0 : Int32)), (.int (0 : Int32)), (.int (0 : Int32)), (.int (0 : Int32)), (.int (0 : Int32)), (.int (0 : Int32))] := V
            refine g_aload w at_237 (q := 239) rfl rfl rfl ?_
            refine g_iconst w at_239 (q := 240) rfl (v := (4 : Int32)) (by decide) ?_
            refine g_lload w at_240 (q := 242) rfl rfl ?_
            refine g_ldc2J w at_242 (q := 245) rfl (v := (1000 : Int64)) (hw _ (List.mem_of_getElem? (i := 61) rfl)) ?_
            refine g_staticP w (con_dig l Z a0 hw (Int64.ofNat H) (1000 : Int64) _ w.old (by decide)) no0 at_245 (q := 248) rfl rfl (hw _ (List.mem_of_getElem? (i := 53) rfl)) (hw _ (List.mem_of_getElem? (i := 54) rfl)) (hw _ (List.mem_of_getElem? (i := 55) rfl)) (hw _ (List.mem_of_getElem? (i := 56) rfl)) (by decide) pd22 rfl rfl (W := 2) (Nat.le_of_eq rfl) (by decide) (by decide) (by decide) (by decide) (fun T v w C q => ?_)
            obtain rfl := q
            show Go p e below _ (State.setTop T (mkF m 248 #[.val (.int j0), .val (.long k1), .second, .val (.long k2), .second, .val (.int j3), .val (.int j4), .val (.int cc), .val (.int d8), .val (.int (j0 &&& (3 : Int32))), .val (.long (Int64.ofNat H)), .second, .val (.long (Int64.ofNat L)), .second, .val (.ref a3), .unset, .unset, .unset, .unset, .unset, .unset] [(.int (dgc (Int64.ofNat H) (1000 : Int64))), (.int (4 : Int32)), (.ref a3)]))
            refine g_castore w at_248 (q := 249) rfl A_a3 (i := 4) (by decide) (Nat.le_of_ble_eq_true rfl) (x' := (dgc (Int64.ofNat H) (1000 : Int64))) (nar_chr (dgc16 _ _)) n_a3 (w.safeAr A_a3 (by decide)) (fun T h w W V => ?_)
            replace E0 := ext_wr E0 W z_a3
            replace A_a3 : Ar Z h a3 .char [(.int (dgc (Int64.ofNat H) (10000000 : Int64))), (.int (dgc (Int64.ofNat H) (1000000 : Int64))), (.int (dgc (Int64.ofNat H) (100000 : Int64))), (.int (dgc (Int64.ofNat H) (10000 : Int64))), (.int (dgc (Int64.ofNat H) (1000 : Int64))), (.int (0 : Int32)), (.int (0 : Int32)), (.int (0 : Int32)), (.int (0 : Int32)), (.int (0 : Int32)), (.int (0 : Int32)), (.int (0 : Int32)), (.int (0 : Int32)), (.int (0 : Int32)), (.int (0 : Int32)), (.int (0 : Int32)), (.int (0 : Int32)), (.int (0 : Int32)), (.int (0 : Int32)), (.int (0 : Int32))] := V
            refine g_aload w at_249 (q := 251) rfl rfl rfl ?_
            refine g_iconst w at_251 (q := 252) rfl (v := (5 : Int32)) (by decide) ?_
            refine g_lload w at_252 (q := 254) rfl rfl ?_
            refine g_ldc2J w at_254 (q := 257) rfl (v := (100 : Int64)) (hw _ (List.mem_of_getElem? (i := 62) rfl)) ?_
            refine g_staticP w (con_dig l Z a0 hw (Int64.ofNat H) (100 : Int64) _ w.old (by decide)) no0 at_257 (q := 260) rfl rfl (hw _ (List.mem_of_getElem? (i := 53) rfl)) (hw _ (List.mem_of_getElem? (i := 54) rfl)) (hw _ (List.mem_of_getElem? (i := 55) rfl)) (hw _ (List.mem_of_getElem? (i := 56) rfl)) (by decide) pd22 rfl rfl (W := 2) (Nat.le_of_eq rfl) (by decide) (by decide) (by decide) (by decide) (fun T v w C q => ?_)
            obtain rfl := q
            show Go p e below _ (State.setTop T (mkF m 260 #[.val (.int j0), .val (.long k1), .second, .val (.long k2), .second, .val (.int j3), .val (.int j4), .val (.int cc), .val (.int d8), .val (.int (j0 &&& (3 : Int32))), .val (.long (Int64.ofNat H)), .second, .val (.long (Int64.ofNat L)), .second, .val (.ref a3), .unset, .unset, .unset, .unset, .unset, .unset] [(.int (dgc (Int64.ofNat H) (100 : Int64))), (.int (5 : Int32)), (.ref a3)]))
            refine g_castore w at_260 (q := 261) rfl A_a3 (i := 5) (by decide) (Nat.le_of_ble_eq_true rfl) (x' := (dgc (Int64.ofNat H) (100 : Int64))) (nar_chr (dgc16 _ _)) n_a3 (w.safeAr A_a3 (by decide)) (fun T h w W V => ?_)
            replace E0 := ext_wr E0 W z_a3
            replace A_a3 : Ar Z h a3 .char [(.int (dgc (Int64.ofNat H) (10000000 : Int64))), (.int (dgc (Int64.ofNat H) (1000000 : Int64))), (.int (dgc (Int64.ofNat H) (100000 : Int64))), (.int (dgc (Int64.ofNat H) (10000 : Int64))), (.int (dgc (Int64.ofNat H) (1000 : Int64))), (.int (dgc (Int64.ofNat H) (100 : Int64))), (.int (0 : Int32)), (.int (0 : Int32)), (.int (0 : Int32)), (.int (0 : Int32)), (.int (0 : Int32)), (.int (0 : Int32)), (.int (0 : Int32)), (.int (0 : Int32)), (.int (0 : Int32)), (.int (0 : Int32)), (.int (0 : Int32)), (.int (0 : Int32)), (.int (0 : Int32)), (.int (0 : Int32))] := V
            refine g_aload w at_261 (q := 263) rfl rfl rfl ?_
            refine g_bipush w at_263 (q := 265) rfl (v := (6 : Int32)) (by decide) ?_
            refine g_lload w at_265 (q := 267) rfl rfl ?_
            refine g_ldc2J w at_267 (q := 270) rfl (v := (10 : Int64)) (hw _ (List.mem_of_getElem? (i := 57) rfl)) ?_
            refine g_staticP w (con_dig l Z a0 hw (Int64.ofNat H) (10 : Int64) _ w.old (by decide)) no0 at_270 (q := 273) rfl rfl (hw _ (List.mem_of_getElem? (i := 53) rfl)) (hw _ (List.mem_of_getElem? (i := 54) rfl)) (hw _ (List.mem_of_getElem? (i := 55) rfl)) (hw _ (List.mem_of_getElem? (i := 56) rfl)) (by decide) pd22 rfl rfl (W := 2) (Nat.le_of_eq rfl) (by decide) (by decide) (by decide) (by decide) (fun T v w C q => ?_)
            obtain rfl := q
            show Go p e below _ (State.setTop T (mkF m 273 #[.val (.int j0), .val (.long k1), .second, .val (.long k2), .second, .val (.int j3), .val (.int j4), .val (.int cc), .val (.int d8), .val (.int (j0 &&& (3 : Int32))), .val (.long (Int64.ofNat H)), .second, .val (.long (Int64.ofNat L)), .second, .val (.ref a3), .unset, .unset, .unset, .unset, .unset, .unset] [(.int (dgc (Int64.ofNat H) (10 : Int64))), (.int (6 : Int32)), (.ref a3)]))
            refine g_castore w at_273 (q := 274) rfl A_a3 (i := 6) (by decide) (Nat.le_of_ble_eq_true rfl) (x' := (dgc (Int64.ofNat H) (10 : Int64))) (nar_chr (dgc16 _ _)) n_a3 (w.safeAr A_a3 (by decide)) (fun T h w W V => ?_)
            replace E0 := ext_wr E0 W z_a3
            replace A_a3 : Ar Z h a3 .char [(.int (dgc (Int64.ofNat H) (10000000 : Int64))), (.int (dgc (Int64.ofNat H) (1000000 : Int64))), (.int (dgc (Int64.ofNat H) (100000 : Int64))), (.int (dgc (Int64.ofNat H) (10000 : Int64))), (.int (dgc (Int64.ofNat H) (1000 : Int64))), (.int (dgc (Int64.ofNat H) (100 : Int64))), (.int (dgc (Int64.ofNat H) (10 : Int64))), (.int (0 : Int32)), (.int (0 : Int32)), (.int (0 : Int32)), (.int (0 : Int32)), (.int (0 : Int32)), (.int (0 : Int32)), (.int (0 : Int32)), (.int (0 : Int32)), (.int (0 : Int32)), (.int (0 : Int32)), (.int (0 : Int32)), (.int (0 : Int32)), (.int (0 : Int32))] := V
            refine g_aload w at_274 (q := 276) rfl rfl rfl ?_
            refine g_bipush w at_276 (q := 278) rfl (v := (7 : Int32)) (by decide) ?_
            refine g_lload w at_278 (q := 280) rfl rfl ?_
            refine g_lconst w at_280 (q := 281) rfl (v := (1 : Int64)) (by decide) ?_
            refine g_staticP w (con_dig l Z a0 hw (Int64.ofNat H) (1 : Int64) _ w.old (by decide)) no0 at_281 (q := 284) rfl rfl (hw _ (List.mem_of_getElem? (i := 53) rfl)) (hw _ (List.mem_of_getElem? (i := 54) rfl)) (hw _ (List.mem_of_getElem? (i := 55) rfl)) (hw _ (List.mem_of_getElem? (i := 56) rfl)) (by decide) pd22 rfl rfl (W := 2) (Nat.le_of_eq rfl) (by decide) (by decide) (by decide) (by decide) (fun T v w C q => ?_)
            obtain rfl := q
            show Go p e below _ (State.setTop T (mkF m 284 #[.val (.int j0), .val (.long k1), .second, .val (.long k2), .second, .val (.int j3), .val (.int j4), .val (.int cc), .val (.int d8), .val (.int (j0 &&& (3 : Int32))), .val (.long (Int64.ofNat H)), .second, .val (.long (Int64.ofNat L)), .second, .val (.ref a3), .unset, .unset, .unset, .unset, .unset, .unset] [(.int (dgc (Int64.ofNat H) (1 : Int64))), (.int (7 : Int32)), (.ref a3)]))
            refine g_castore w at_284 (q := 285) rfl A_a3 (i := 7) (by decide) (Nat.le_of_ble_eq_true rfl) (x' := (dgc (Int64.ofNat H) (1 : Int64))) (nar_chr (dgc16 _ _)) n_a3 (w.safeAr A_a3 (by decide)) (fun T h w W V => ?_)
            replace E0 := ext_wr E0 W z_a3
            replace A_a3 : Ar Z h a3 .char [(.int (dgc (Int64.ofNat H) (10000000 : Int64))), (.int (dgc (Int64.ofNat H) (1000000 : Int64))), (.int (dgc (Int64.ofNat H) (100000 : Int64))), (.int (dgc (Int64.ofNat H) (10000 : Int64))), (.int (dgc (Int64.ofNat H) (1000 : Int64))), (.int (dgc (Int64.ofNat H) (100 : Int64))), (.int (dgc (Int64.ofNat H) (10 : Int64))), (.int (dgc (Int64.ofNat H) (1 : Int64))), (.int (0 : Int32)), (.int (0 : Int32)), (.int (0 : Int32)), (.int (0 : Int32)), (.int (0 : Int32)), (.int (0 : Int32)), (.int (0 : Int32)), (.int (0 : Int32)), (.int (0 : Int32)), (.int (0 : Int32)), (.int (0 : Int32)), (.int (0 : Int32))] := V
            refine g_aload w at_285 (q := 287) rfl rfl rfl ?_
            refine g_bipush w at_287 (q := 289) rfl (v := (8 : Int32)) (by decide) ?_
            refine g_lload w at_289 (q := 291) rfl rfl ?_
            refine g_ldc2J w at_291 (q := 294) rfl (v := (100000000000 : Int64)) (hw _ (List.mem_of_getElem? (i := 63) rfl)) ?_
            refine g_staticP w (con_dig l Z a0 hw (Int64.ofNat L) (100000000000 : Int64) _ w.old (by decide)) no0 at_294 (q := 297) rfl rfl (hw _ (List.mem_of_getElem? (i := 53) rfl)) (hw _ (List.mem_of_getElem? (i := 54) rfl)) (hw _ (List.mem_of_getElem? (i := 55) rfl)) (hw _ (List.mem_of_getElem? (i := 56) rfl)) (by decide) pd22 rfl rfl (W := 2) (Nat.le_of_eq rfl) (by decide) (by decide) (by decide) (by decide) (fun T v w C q => ?_)
            obtain rfl := q
            show Go p e below _ (State.setTop T (mkF m 297 #[.val (.int j0), .val (.long k1), .second, .val (.long k2), .second, .val (.int j3), .val (.int j4), .val (.int cc), .val (.int d8), .val (.int (j0 &&& (3 : Int32))), .val (.long (Int64.ofNat H)), .second, .val (.long (Int64.ofNat L)), .second, .val (.ref a3), .unset, .unset, .unset, .unset, .unset, .unset] [(.int (dgc (Int64.ofNat L) (100000000000 : Int64))), (.int (8 : Int32)), (.ref a3)]))
            refine g_castore w at_297 (q := 298) rfl A_a3 (i := 8) (by decide) (Nat.le_of_ble_eq_true rfl) (x' := (dgc (Int64.ofNat L) (100000000000 : Int64))) (nar_chr (dgc16 _ _)) n_a3 (w.safeAr A_a3 (by decide)) (fun T h w W V => ?_)
            replace E0 := ext_wr E0 W z_a3
            replace A_a3 : Ar Z h a3 .char [(.int (dgc (Int64.ofNat H) (10000000 : Int64))), (.int (dgc (Int64.ofNat H) (1000000 : Int64))), (.int (dgc (Int64.ofNat H) (100000 : Int64))), (.int (dgc (Int64.ofNat H) (10000 : Int64))), (.int (dgc (Int64.ofNat H) (1000 : Int64))), (.int (dgc (Int64.ofNat H) (100 : Int64))), (.int (dgc (Int64.ofNat H) (10 : Int64))), (.int (dgc (Int64.ofNat H) (1 : Int64))), (.int (dgc (Int64.ofNat L) (100000000000 : Int64))), (.int (0 : Int32)), (.int (0 : Int32)), (.int (0 : Int32)), (.int (0 : Int32)), (.int (0 : Int32)), (.int (0 : Int32)), (.int (0 : Int32)), (.int (0 : Int32)), (.int (0 : Int32)), (.int (0 : Int32)), (.int (0 : Int32))] := V
            refine g_aload w at_298 (q := 300) rfl rfl rfl ?_
            refine g_bipush w at_300 (q := 302) rfl (v := (9 : Int32)) (by decide) ?_
            refine g_lload w at_302 (q := 304) rfl rfl ?_
            refine g_ldc2J w at_304 (q := 307) rfl (v := (10000000000 : Int64)) (hw _ (List.mem_of_getElem? (i := 64) rfl)) ?_
            refine g_staticP w (con_dig l Z a0 hw (Int64.ofNat L) (10000000000 : Int64) _ w.old (by decide)) no0 at_307 (q := 310) rfl rfl (hw _ (List.mem_of_getElem? (i := 53) rfl)) (hw _ (List.mem_of_getElem? (i := 54) rfl)) (hw _ (List.mem_of_getElem? (i := 55) rfl)) (hw _ (List.mem_of_getElem? (i := 56) rfl)) (by decide) pd22 rfl rfl (W := 2) (Nat.le_of_eq rfl) (by decide) (by decide) (by decide) (by decide) (fun T v w C q => ?_)
            obtain rfl := q
            show Go p e below _ (State.setTop T (mkF m 310 #[.val (.int j0), .val (.long k1), .second, .val (.long k2), .second, .val (.int j3), .val (.int j4), .val (.int cc), .val (.int d8), .val (.int (j0 &&& (3 : Int32))), .val (.long (Int64.ofNat H)), .second, .val (.long (Int64.ofNat L)), .second, .val (.ref a3), .unset, .unset, .unset, .unset, .unset, .unset] [(.int (dgc (Int64.ofNat L) (10000000000 : Int64))), (.int (9 : Int32)), (.ref a3)]))
            refine g_castore w at_310 (q := 311) rfl A_a3 (i := 9) (by decide) (Nat.le_of_ble_eq_true rfl) (x' := (dgc (Int64.ofNat L) (10000000000 : Int64))) (nar_chr (dgc16 _ _)) n_a3 (w.safeAr A_a3 (by decide)) (fun T h w W V => ?_)
            replace E0 := ext_wr E0 W z_a3
            replace A_a3 : Ar Z h a3 .char [(.int (dgc (Int64.ofNat H) (10000000 : Int64))), (.int (dgc (Int64.ofNat H) (1000000 : Int64))), (.int (dgc (Int64.ofNat H) (100000 : Int64))), (.int (dgc (Int64.ofNat H) (10000 : Int64))), (.int (dgc (Int64.ofNat H) (1000 : Int64))), (.int (dgc (Int64.ofNat H) (100 : Int64))), (.int (dgc (Int64.ofNat H) (10 : Int64))), (.int (dgc (Int64.ofNat H) (1 : Int64))), (.int (dgc (Int64.ofNat L) (100000000000 : Int64))), (.int (dgc (Int64.ofNat L) (10000000000 : Int64))), (.int (0 : Int32)), (.int (0 : Int32)), (.int (0 : Int32)), (.int (0 : Int32)), (.int (0 : Int32)), (.int (0 : Int32)), (.int (0 : Int32)), (.int (0 : Int32)), (.int (0 : Int32)), (.int (0 : Int32))] := V
            refine g_aload w at_311 (q := 313) rfl rfl rfl ?_
            refine g_bipush w at_313 (q := 315) rfl (v := (10 : Int32)) (by decide) ?_
            refine g_lload w at_315 (q := 317) rfl rfl ?_
            refine g_ldc2J w at_317 (q := 320) rfl (v := (1000000000 : Int64)) (hw _ (List.mem_of_getElem? (i := 65) rfl)) ?_
            refine g_staticP w (con_dig l Z a0 hw (Int64.ofNat L) (1000000000 : Int64) _ w.old (by decide)) no0 at_320 (q := 323) rfl rfl (hw _ (List.mem_of_getElem? (i := 53) rfl)) (hw _ (List.mem_of_getElem? (i := 54) rfl)) (hw _ (List.mem_of_getElem? (i := 55) rfl)) (hw _ (List.mem_of_getElem? (i := 56) rfl)) (by decide) pd22 rfl rfl (W := 2) (Nat.le_of_eq rfl) (by decide) (by decide) (by decide) (by decide) (fun T v w C q => ?_)
            obtain rfl := q
            show Go p e below _ (State.setTop T (mkF m 323 #[.val (.int j0), .val (.long k1), .second, .val (.long k2), .second, .val (.int j3), .val (.int j4), .val (.int cc), .val (.int d8), .val (.int (j0 &&& (3 : Int32))), .val (.long (Int64.ofNat H)), .second, .val (.long (Int64.ofNat L)), .second, .val (.ref a3), .unset, .unset, .unset, .unset, .unset, .unset] [(.int (dgc (Int64.ofNat L) (1000000000 : Int64))), (.int (10 : Int32)), (.ref a3)]))
            refine g_castore w at_323 (q := 324) rfl A_a3 (i := 10) (by decide) (Nat.le_of_ble_eq_true rfl) (x' := (dgc (Int64.ofNat L) (1000000000 : Int64))) (nar_chr (dgc16 _ _)) n_a3 (w.safeAr A_a3 (by decide)) (fun T h w W V => ?_)
            replace E0 := ext_wr E0 W z_a3
            replace A_a3 : Ar Z h a3 .char [(.int (dgc (Int64.ofNat H) (10000000 : Int64))), (.int (dgc (Int64.ofNat H) (1000000 : Int64))), (.int (dgc (Int64.ofNat H) (100000 : Int64))), (.int (dgc (Int64.ofNat H) (10000 : Int64))), (.int (dgc (Int64.ofNat H) (1000 : Int64))), (.int (dgc (Int64.ofNat H) (100 : Int64))), (.int (dgc (Int64.ofNat H) (10 : Int64))), (.int (dgc (Int64.ofNat H) (1 : Int64))), (.int (dgc (Int64.ofNat L) (100000000000 : Int64))), (.int (dgc (Int64.ofNat L) (10000000000 : Int64))), (.int (dgc (Int64.ofNat L) (1000000000 : Int64))), (.int (0 : Int32)), (.int (0 : Int32)), (.int (0 : Int32)), (.int (0 : Int32)), (.int (0 : Int32)), (.int (0 : Int32)), (.int (0 : Int32)), (.int (0 : Int32)), (.int (0 : Int32))] := V
            refine g_aload w at_324 (q := 326) rfl rfl rfl ?_
            refine g_bipush w at_326 (q := 328) rfl (v := (11 : Int32)) (by decide) ?_
            refine g_lload w at_328 (q := 330) rfl rfl ?_
            refine g_ldc2J w at_330 (q := 333) rfl (v := (100000000 : Int64)) (hw _ (List.mem_of_getElem? (i := 49) rfl)) ?_
            refine g_staticP w (con_dig l Z a0 hw (Int64.ofNat L) (100000000 : Int64) _ w.old (by decide)) no0 at_333 (q := 336) rfl rfl (hw _ (List.mem_of_getElem? (i := 53) rfl)) (hw _ (List.mem_of_getElem? (i := 54) rfl)) (hw _ (List.mem_of_getElem? (i := 55) rfl)) (hw _ (List.mem_of_getElem? (i := 56) rfl)) (by decide) pd22 rfl rfl (W := 2) (Nat.le_of_eq rfl) (by decide) (by decide) (by decide) (by decide) (fun T v w C q => ?_)
            obtain rfl := q
            show Go p e below _ (State.setTop T (mkF m 336 #[.val (.int j0), .val (.long k1), .second, .val (.long k2), .second, .val (.int j3), .val (.int j4), .val (.int cc), .val (.int d8), .val (.int (j0 &&& (3 : Int32))), .val (.long (Int64.ofNat H)), .second, .val (.long (Int64.ofNat L)), .second, .val (.ref a3), .unset, .unset, .unset, .unset, .unset, .unset] [(.int (dgc (Int64.ofNat L) (100000000 : Int64))), (.int (11 : Int32)), (.ref a3)]))
            refine g_castore w at_336 (q := 337) rfl A_a3 (i := 11) (by decide) (Nat.le_of_ble_eq_true rfl) (x' := (dgc (Int64.ofNat L) (100000000 : Int64))) (nar_chr (dgc16 _ _)) n_a3 (w.safeAr A_a3 (by decide)) (fun T h w W V => ?_)
            replace E0 := ext_wr E0 W z_a3
            replace A_a3 : Ar Z h a3 .char [(.int (dgc (Int64.ofNat H) (10000000 : Int64))), (.int (dgc (Int64.ofNat H) (1000000 : Int64))), (.int (dgc (Int64.ofNat H) (100000 : Int64))), (.int (dgc (Int64.ofNat H) (10000 : Int64))), (.int (dgc (Int64.ofNat H) (1000 : Int64))), (.int (dgc (Int64.ofNat H) (100 : Int64))), (.int (dgc (Int64.ofNat H) (10 : Int64))), (.int (dgc (Int64.ofNat H) (1 : Int64))), (.int (dgc (Int64.ofNat L) (100000000000 : Int64))), (.int (dgc (Int64.ofNat L) (10000000000 : Int64))), (.int (dgc (Int64.ofNat L) (1000000000 : Int64))), (.int (dgc (Int64.ofNat L) (100000000 : Int64))), (.int (0 : Int32)), (.int (0 : Int32)), (.int (0 : Int32)), (.int (0 : Int32)), (.int (0 : Int32)), (.int (0 : Int32)), (.int (0 : Int32)), (.int (0 : Int32))] := V
            refine g_aload w at_337 (q := 339) rfl rfl rfl ?_
            refine g_bipush w at_339 (q := 341) rfl (v := (12 : Int32)) (by decide) ?_
            refine g_lload w at_341 (q := 343) rfl rfl ?_
            refine g_ldc2J w at_343 (q := 346) rfl (v := (10000000 : Int64)) (hw _ (List.mem_of_getElem? (i := 52) rfl)) ?_
            refine g_staticP w (con_dig l Z a0 hw (Int64.ofNat L) (10000000 : Int64) _ w.old (by decide)) no0 at_346 (q := 349) rfl rfl (hw _ (List.mem_of_getElem? (i := 53) rfl)) (hw _ (List.mem_of_getElem? (i := 54) rfl)) (hw _ (List.mem_of_getElem? (i := 55) rfl)) (hw _ (List.mem_of_getElem? (i := 56) rfl)) (by decide) pd22 rfl rfl (W := 2) (Nat.le_of_eq rfl) (by decide) (by decide) (by decide) (by decide) (fun T v w C q => ?_)
            obtain rfl := q
            show Go p e below _ (State.setTop T (mkF m 349 #[.val (.int j0), .val (.long k1), .second, .val (.long k2), .second, .val (.int j3), .val (.int j4), .val (.int cc), .val (.int d8), .val (.int (j0 &&& (3 : Int32))), .val (.long (Int64.ofNat H)), .second, .val (.long (Int64.ofNat L)), .second, .val (.ref a3), .unset, .unset, .unset, .unset, .unset, .unset] [(.int (dgc (Int64.ofNat L) (10000000 : Int64))), (.int (12 : Int32)), (.ref a3)]))
            refine g_castore w at_349 (q := 350) rfl A_a3 (i := 12) (by decide) (Nat.le_of_ble_eq_true rfl) (x' := (dgc (Int64.ofNat L) (10000000 : Int64))) (nar_chr (dgc16 _ _)) n_a3 (w.safeAr A_a3 (by decide)) (fun T h w W V => ?_)
            replace E0 := ext_wr E0 W z_a3
            replace A_a3 : Ar Z h a3 .char [(.int (dgc (Int64.ofNat H) (10000000 : Int64))), (.int (dgc (Int64.ofNat H) (1000000 : Int64))), (.int (dgc (Int64.ofNat H) (100000 : Int64))), (.int (dgc (Int64.ofNat H) (10000 : Int64))), (.int (dgc (Int64.ofNat H) (1000 : Int64))), (.int (dgc (Int64.ofNat H) (100 : Int64))), (.int (dgc (Int64.ofNat H) (10 : Int64))), (.int (dgc (Int64.ofNat H) (1 : Int64))), (.int (dgc (Int64.ofNat L) (100000000000 : Int64))), (.int (dgc (Int64.ofNat L) (10000000000 : Int64))), (.int (dgc (Int64.ofNat L) (1000000000 : Int64))), (.int (dgc (Int64.ofNat L) (100000000 : Int64))), (.int (dgc (Int64.ofNat L) (10000000 : Int64))), (.int (0 : Int32)), (.int (0 : Int32)), (.int (0 : Int32)), (.int (0 : Int32)), (.int (0 : Int32)), (.int (0 : Int32)), (.int (0 : Int32))] := V
            refine g_aload w at_350 (q := 352) rfl rfl rfl ?_
            refine g_bipush w at_352 (q := 354) rfl (v := (13 : Int32)) (by decide) ?_
            refine g_lload w at_354 (q := 356) rfl rfl ?_
            refine g_ldc2J w at_356 (q := 359) rfl (v := (1000000 : Int64)) (hw _ (List.mem_of_getElem? (i := 58) rfl)) ?_
            refine g_staticP w (con_dig l Z a0 hw (Int64.ofNat L) (1000000 : Int64) _ w.old (by decide)) no0 at_359 (q := 362) rfl rfl (hw _ (List.mem_of_getElem? (i := 53) rfl)) (hw _ (List.mem_of_getElem? (i := 54) rfl)) (hw _ (List.mem_of_getElem? (i := 55) rfl)) (hw _ (List.mem_of_getElem? (i := 56) rfl)) (by decide) pd22 rfl rfl (W := 2) (Nat.le_of_eq rfl) (by decide) (by decide) (by decide) (by decide) (fun T v w C q => ?_)
            obtain rfl := q
            show Go p e below _ (State.setTop T (mkF m 362 #[.val (.int j0), .val (.long k1), .second, .val (.long k2), .second, .val (.int j3), .val (.int j4), .val (.int cc), .val (.int d8), .val (.int (j0 &&& (3 : Int32))), .val (.long (Int64.ofNat H)), .second, .val (.long (Int64.ofNat L)), .second, .val (.ref a3), .unset, .unset, .unset, .unset, .unset, .unset] [(.int (dgc (Int64.ofNat L) (1000000 : Int64))), (.int (13 : Int32)), (.ref a3)]))
            refine g_castore w at_362 (q := 363) rfl A_a3 (i := 13) (by decide) (Nat.le_of_ble_eq_true rfl) (x' := (dgc (Int64.ofNat L) (1000000 : Int64))) (nar_chr (dgc16 _ _)) n_a3 (w.safeAr A_a3 (by decide)) (fun T h w W V => ?_)
            replace E0 := ext_wr E0 W z_a3
            replace A_a3 : Ar Z h a3 .char [(.int (dgc (Int64.ofNat H) (10000000 : Int64))), (.int (dgc (Int64.ofNat H) (1000000 : Int64))), (.int (dgc (Int64.ofNat H) (100000 : Int64))), (.int (dgc (Int64.ofNat H) (10000 : Int64))), (.int (dgc (Int64.ofNat H) (1000 : Int64))), (.int (dgc (Int64.ofNat H) (100 : Int64))), (.int (dgc (Int64.ofNat H) (10 : Int64))), (.int (dgc (Int64.ofNat H) (1 : Int64))), (.int (dgc (Int64.ofNat L) (100000000000 : Int64))), (.int (dgc (Int64.ofNat L) (10000000000 : Int64))), (.int (dgc (Int64.ofNat L) (1000000000 : Int64))), (.int (dgc (Int64.ofNat L) (100000000 : Int64))), (.int (dgc (Int64.ofNat L) (10000000 : Int64))), (.int (dgc (Int64.ofNat L) (1000000 : Int64))), (.int (0 : Int32)), (.int (0 : Int32)), (.int (0 : Int32)), (.int (0 : Int32)), (.int (0 : Int32)), (.int (0 : Int32))] := V
            refine g_aload w at_363 (q := 365) rfl rfl rfl ?_
            refine g_bipush w at_365 (q := 367) rfl (v := (14 : Int32)) (by decide) ?_
            refine g_lload w at_367 (q := 369) rfl rfl ?_
            refine g_ldc2J w at_369 (q := 372) rfl (v := (100000 : Int64)) (hw _ (List.mem_of_getElem? (i := 59) rfl)) ?_
            refine g_staticP w (con_dig l Z a0 hw (Int64.ofNat L) (100000 : Int64) _ w.old (by decide)) no0 at_372 (q := 375) rfl rfl (hw _ (List.mem_of_getElem? (i := 53) rfl)) (hw _ (List.mem_of_getElem? (i := 54) rfl)) (hw _ (List.mem_of_getElem? (i := 55) rfl)) (hw _ (List.mem_of_getElem? (i := 56) rfl)) (by decide) pd22 rfl rfl (W := 2) (Nat.le_of_eq rfl) (by decide) (by decide) (by decide) (by decide) (fun T v w C q => ?_)
            obtain rfl := q
            show Go p e below _ (State.setTop T (mkF m 375 #[.val (.int j0), .val (.long k1), .second, .val (.long k2), .second, .val (.int j3), .val (.int j4), .val (.int cc), .val (.int d8), .val (.int (j0 &&& (3 : Int32))), .val (.long (Int64.ofNat H)), .second, .val (.long (Int64.ofNat L)), .second, .val (.ref a3), .unset, .unset, .unset, .unset, .unset, .unset] [(.int (dgc (Int64.ofNat L) (100000 : Int64))), (.int (14 : Int32)), (.ref a3)]))
            refine g_castore w at_375 (q := 376) rfl A_a3 (i := 14) (by decide) (Nat.le_of_ble_eq_true rfl) (x' := (dgc (Int64.ofNat L) (100000 : Int64))) (nar_chr (dgc16 _ _)) n_a3 (w.safeAr A_a3 (by decide)) (fun T h w W V => ?_)
            replace E0 := ext_wr E0 W z_a3
            replace A_a3 : Ar Z h a3 .char [(.int (dgc (Int64.ofNat H) (10000000 : Int64))), (.int (dgc (Int64.ofNat H) (1000000 : Int64))), (.int (dgc (Int64.ofNat H) (100000 : Int64))), (.int (dgc (Int64.ofNat H) (10000 : Int64))), (.int (dgc (Int64.ofNat H) (1000 : Int64))), (.int (dgc (Int64.ofNat H) (100 : Int64))), (.int (dgc (Int64.ofNat H) (10 : Int64))), (.int (dgc (Int64.ofNat H) (1 : Int64))), (.int (dgc (Int64.ofNat L) (100000000000 : Int64))), (.int (dgc (Int64.ofNat L) (10000000000 : Int64))), (.int (dgc (Int64.ofNat L) (1000000000 : Int64))), (.int (dgc (Int64.ofNat L) (100000000 : Int64))), (.int (dgc (Int64.ofNat L) (10000000 : Int64))), (.int (dgc (Int64.ofNat L) (1000000 : Int64))), (.int (dgc (Int64.ofNat L) (100000 : Int64))), (.int (0 : Int32)), (.int (0 : Int32)), (.int (0 : Int32)), (.int (0 : Int32)), (.int (0 : Int32))] := V
            refine g_aload w at_376 (q := 378) rfl rfl rfl ?_
            refine g_bipush w at_378 (q := 380) rfl (v := (15 : Int32)) (by decide) ?_
            refine g_lload w at_380 (q := 382) rfl rfl ?_
            refine g_ldc2J w at_382 (q := 385) rfl (v := (10000 : Int64)) (hw _ (List.mem_of_getElem? (i := 60) rfl)) ?_
            refine g_staticP w (con_dig l Z a0 hw (Int64.ofNat L) (10000 : Int64) _ w.old (by decide)) no0 at_385 (q := 388) rfl rfl (hw _ (List.mem_of_getElem? (i := 53) rfl)) (hw _ (List.mem_of_getElem? (i := 54) rfl)) (hw _ (List.mem_of_getElem? (i := 55) rfl)) (hw _ (List.mem_of_getElem? (i := 56) rfl)) (by decide) pd22 rfl rfl (W := 2) (Nat.le_of_eq rfl) (by decide) (by decide) (by decide) (by decide) (fun T v w C q => ?_)
            obtain rfl := q
            show Go p e below _ (State.setTop T (mkF m 388 #[.val (.int j0), .val (.long k1), .second, .val (.long k2), .second, .val (.int j3), .val (.int j4), .val (.int cc), .val (.int d8), .val (.int (j0 &&& (3 : Int32))), .val (.long (Int64.ofNat H)), .second, .val (.long (Int64.ofNat L)), .second, .val (.ref a3), .unset, .unset, .unset, .unset, .unset, .unset] [(.int (dgc (Int64.ofNat L) (10000 : Int64))), (.int (15 : Int32)), (.ref a3)]))
            refine g_castore w at_388 (q := 389) rfl A_a3 (i := 15) (by decide) (Nat.le_of_ble_eq_true rfl) (x' := (dgc (Int64.ofNat L) (10000 : Int64))) (nar_chr (dgc16 _ _)) n_a3 (w.safeAr A_a3 (by decide)) (fun T h w W V => ?_)
            replace E0 := ext_wr E0 W z_a3
            replace A_a3 : Ar Z h a3 .char [(.int (dgc (Int64.ofNat H) (10000000 : Int64))), (.int (dgc (Int64.ofNat H) (1000000 : Int64))), (.int (dgc (Int64.ofNat H) (100000 : Int64))), (.int (dgc (Int64.ofNat H) (10000 : Int64))), (.int (dgc (Int64.ofNat H) (1000 : Int64))), (.int (dgc (Int64.ofNat H) (100 : Int64))), (.int (dgc (Int64.ofNat H) (10 : Int64))), (.int (dgc (Int64.ofNat H) (1 : Int64))), (.int (dgc (Int64.ofNat L) (100000000000 : Int64))), (.int (dgc (Int64.ofNat L) (10000000000 : Int64))), (.int (dgc (Int64.ofNat L) (1000000000 : Int64))), (.int (dgc (Int64.ofNat L) (100000000 : Int64))), (.int (dgc (Int64.ofNat L) (10000000 : Int64))), (.int (dgc (Int64.ofNat L) (1000000 : Int64))), (.int (dgc (Int64.ofNat L) (100000 : Int64))), (.int (dgc (Int64.ofNat L) (10000 : Int64))), (.int (0 : Int32)), (.int (0 : Int32)), (.int (0 : Int32)), (.int (0 : Int32))] := V
            refine g_aload w at_389 (q := 391) rfl rfl rfl ?_
            refine g_bipush w at_391 (q := 393) rfl (v := (16 : Int32)) (by decide) ?_
            refine g_lload w at_393 (q := 395) rfl rfl ?_
            refine g_ldc2J w at_395 (q := 398) rfl (v := (1000 : Int64)) (hw _ (List.mem_of_getElem? (i := 61) rfl)) ?_
            refine g_staticP w (con_dig l Z a0 hw (Int64.ofNat L) (1000 : Int64) _ w.old (by decide)) no0 at_398 (q := 401) rfl rfl (hw _ (List.mem_of_getElem? (i := 53) rfl)) (hw _ (List.mem_of_getElem? (i := 54) rfl)) (hw _ (List.mem_of_getElem? (i := 55) rfl)) (hw _ (List.mem_of_getElem? (i := 56) rfl)) (by decide) pd22 rfl rfl (W := 2) (Nat.le_of_eq rfl) (by decide) (by decide) (by decide) (by decide) (fun T v w C q => ?_)
            obtain rfl := q
            show Go p e below _ (State.setTop T (mkF m 401 #[.val (.int j0), .val (.long k1), .second, .val (.long k2), .second, .val (.int j3), .val (.int j4), .val (.int cc), .val (.int d8), .val (.int (j0 &&& (3 : Int32))), .val (.long (Int64.ofNat H)), .second, .val (.long (Int64.ofNat L)), .second, .val (.ref a3), .unset, .unset, .unset, .unset, .unset, .unset] [(.int (dgc (Int64.ofNat L) (1000 : Int64))), (.int (16 : Int32)), (.ref a3)]))
            refine g_castore w at_401 (q := 402) rfl A_a3 (i := 16) (by decide) (Nat.le_of_ble_eq_true rfl) (x' := (dgc (Int64.ofNat L) (1000 : Int64))) (nar_chr (dgc16 _ _)) n_a3 (w.safeAr A_a3 (by decide)) (fun T h w W V => ?_)
            replace E0 := ext_wr E0 W z_a3
            replace A_a3 : Ar Z h a3 .char [(.int (dgc (Int64.ofNat H) (10000000 : Int64))), (.int (dgc (Int64.ofNat H) (1000000 : Int64))), (.int (dgc (Int64.ofNat H) (100000 : Int64))), (.int (dgc (Int64.ofNat H) (10000 : Int64))), (.int (dgc (Int64.ofNat H) (1000 : Int64))), (.int (dgc (Int64.ofNat H) (100 : Int64))), (.int (dgc (Int64.ofNat H) (10 : Int64))), (.int (dgc (Int64.ofNat H) (1 : Int64))), (.int (dgc (Int64.ofNat L) (100000000000 : Int64))), (.int (dgc (Int64.ofNat L) (10000000000 : Int64))), (.int (dgc (Int64.ofNat L) (1000000000 : Int64))), (.int (dgc (Int64.ofNat L) (100000000 : Int64))), (.int (dgc (Int64.ofNat L) (10000000 : Int64))), (.int (dgc (Int64.ofNat L) (1000000 : Int64))), (.int (dgc (Int64.ofNat L) (100000 : Int64))), (.int (dgc (Int64.ofNat L) (10000 : Int64))), (.int (dgc (Int64.ofNat L) (1000 : Int64))), (.int (0 : Int32)), (.int (0 : Int32)), (.int (0 : Int32))] := V
            refine g_aload w at_402 (q := 404) rfl rfl rfl ?_
            refine g_bipush w at_404 (q := 406) rfl (v := (17 : Int32)) (by decide) ?_
            refine g_lload w at_406 (q := 408) rfl rfl ?_
            refine g_ldc2J w at_408 (q := 411) rfl (v := (100 : Int64)) (hw _ (List.mem_of_getElem? (i := 62) rfl)) ?_
            refine g_staticP w (con_dig l Z a0 hw (Int64.ofNat L) (100 : Int64) _ w.old (by decide)) no0 at_411 (q := 414) rfl rfl (hw _ (List.mem_of_getElem? (i := 53) rfl)) (hw _ (List.mem_of_getElem? (i := 54) rfl)) (hw _ (List.mem_of_getElem? (i := 55) rfl)) (hw _ (List.mem_of_getElem? (i := 56) rfl)) (by decide) pd22 rfl rfl (W := 2) (Nat.le_of_eq rfl) (by decide) (by decide) (by decide) (by decide) (fun T v w C q => ?_)
            obtain rfl := q
            show Go p e below _ (State.setTop T (mkF m 414 #[.val (.int j0), .val (.long k1), .second, .val (.long k2), .second, .val (.int j3), .val (.int j4), .val (.int cc), .val (.int d8), .val (.int (j0 &&& (3 : Int32))), .val (.long (Int64.ofNat H)), .second, .val (.long (Int64.ofNat L)), .second, .val (.ref a3), .unset, .unset, .unset, .unset, .unset, .unset] [(.int (dgc (Int64.ofNat L) (100 : Int64))), (.int (17 : Int32)), (.ref a3)]))
            refine g_castore w at_414 (q := 415) rfl A_a3 (i := 17) (by decide) (Nat.le_of_ble_eq_true rfl) (x' := (dgc (Int64.ofNat L) (100 : Int64))) (nar_chr (dgc16 _ _)) n_a3 (w.safeAr A_a3 (by decide)) (fun T h w W V => ?_)
            replace E0 := ext_wr E0 W z_a3
            replace A_a3 : Ar Z h a3 .char [(.int (dgc (Int64.ofNat H) (10000000 : Int64))), (.int (dgc (Int64.ofNat H) (1000000 : Int64))), (.int (dgc (Int64.ofNat H) (100000 : Int64))), (.int (dgc (Int64.ofNat H) (10000 : Int64))), (.int (dgc (Int64.ofNat H) (1000 : Int64))), (.int (dgc (Int64.ofNat H) (100 : Int64))), (.int (dgc (Int64.ofNat H) (10 : Int64))), (.int (dgc (Int64.ofNat H) (1 : Int64))), (.int (dgc (Int64.ofNat L) (100000000000 : Int64))), (.int (dgc (Int64.ofNat L) (10000000000 : Int64))), (.int (dgc (Int64.ofNat L) (1000000000 : Int64))), (.int (dgc (Int64.ofNat L) (100000000 : Int64))), (.int (dgc (Int64.ofNat L) (10000000 : Int64))), (.int (dgc (Int64.ofNat L) (1000000 : Int64))), (.int (dgc (Int64.ofNat L) (100000 : Int64))), (.int (dgc (Int64.ofNat L) (10000 : Int64))), (.int (dgc (Int64.ofNat L) (1000 : Int64))), (.int (dgc (Int64.ofNat L) (100 : Int64))), (.int (0 : Int32)), (.int (0 : Int32))] := V
            refine g_aload w at_415 (q := 417) rfl rfl rfl ?_
            refine g_bipush w at_417 (q := 419) rfl (v := (18 : Int32)) (by decide) ?_
            refine g_lload w at_419 (q := 421) rfl rfl ?_
            refine g_ldc2J w at_421 (q := 424) rfl (v := (10 : Int64)) (hw _ (List.mem_of_getElem? (i := 57) rfl)) ?_
            refine g_staticP w (con_dig l Z a0 hw (Int64.ofNat L) (10 : Int64) _ w.old (by decide)) no0 at_424 (q := 427) rfl rfl (hw _ (List.mem_of_getElem? (i := 53) rfl)) (hw _ (List.mem_of_getElem? (i := 54) rfl)) (hw _ (List.mem_of_getElem? (i := 55) rfl)) (hw _ (List.mem_of_getElem? (i := 56) rfl)) (by decide) pd22 rfl rfl (W := 2) (Nat.le_of_eq rfl) (by decide) (by decide) (by decide) (by decide) (fun T v w C q => ?_)
            obtain rfl := q
            show Go p e below _ (State.setTop T (mkF m 427 #[.val (.int j0), .val (.long k1), .second, .val (.long k2), .second, .val (.int j3), .val (.int j4), .val (.int cc), .val (.int d8), .val (.int (j0 &&& (3 : Int32))), .val (.long (Int64.ofNat H)), .second, .val (.long (Int64.ofNat L)), .second, .val (.ref a3), .unset, .unset, .unset, .unset, .unset, .unset] [(.int (dgc (Int64.ofNat L) (10 : Int64))), (.int (18 : Int32)), (.ref a3)]))
            refine g_castore w at_427 (q := 428) rfl A_a3 (i := 18) (by decide) (Nat.le_of_ble_eq_true rfl) (x' := (dgc (Int64.ofNat L) (10 : Int64))) (nar_chr (dgc16 _ _)) n_a3 (w.safeAr A_a3 (by decide)) (fun T h w W V => ?_)
            replace E0 := ext_wr E0 W z_a3
            replace A_a3 : Ar Z h a3 .char [(.int (dgc (Int64.ofNat H) (10000000 : Int64))), (.int (dgc (Int64.ofNat H) (1000000 : Int64))), (.int (dgc (Int64.ofNat H) (100000 : Int64))), (.int (dgc (Int64.ofNat H) (10000 : Int64))), (.int (dgc (Int64.ofNat H) (1000 : Int64))), (.int (dgc (Int64.ofNat H) (100 : Int64))), (.int (dgc (Int64.ofNat H) (10 : Int64))), (.int (dgc (Int64.ofNat H) (1 : Int64))), (.int (dgc (Int64.ofNat L) (100000000000 : Int64))), (.int (dgc (Int64.ofNat L) (10000000000 : Int64))), (.int (dgc (Int64.ofNat L) (1000000000 : Int64))), (.int (dgc (Int64.ofNat L) (100000000 : Int64))), (.int (dgc (Int64.ofNat L) (10000000 : Int64))), (.int (dgc (Int64.ofNat L) (1000000 : Int64))), (.int (dgc (Int64.ofNat L) (100000 : Int64))), (.int (dgc (Int64.ofNat L) (10000 : Int64))), (.int (dgc (Int64.ofNat L) (1000 : Int64))), (.int (dgc (Int64.ofNat L) (100 : Int64))), (.int (dgc (Int64.ofNat L) (10 : Int64))), (.int (0 : Int32))] := V
            refine g_aload w at_428 (q := 430) rfl rfl rfl ?_
            refine g_bipush w at_430 (q := 432) rfl (v := (19 : Int32)) (by decide) ?_
            refine g_lload w at_432 (q := 434) rfl rfl ?_
            refine g_lconst w at_434 (q := 435) rfl (v := (1 : Int64)) (by decide) ?_
            refine g_staticP w (con_dig l Z a0 hw (Int64.ofNat L) (1 : Int64) _ w.old (by decide)) no0 at_435 (q := 438) rfl rfl (hw _ (List.mem_of_getElem? (i := 53) rfl)) (hw _ (List.mem_of_getElem? (i := 54) rfl)) (hw _ (List.mem_of_getElem? (i := 55) rfl)) (hw _ (List.mem_of_getElem? (i := 56) rfl)) (by decide) pd22 rfl rfl (W := 2) (Nat.le_of_eq rfl) (by decide) (by decide) (by decide) (by decide) (fun T v w C q => ?_)
            obtain rfl := q
            show Go p e below _ (State.setTop T (mkF m 438 #[.val (.int j0), .val (.long k1), .second, .val (.long k2), .second, .val (.int j3), .val (.int j4), .val (.int cc), .val (.int d8), .val (.int (j0 &&& (3 : Int32))), .val (.long (Int64.ofNat H)), .second, .val (.long (Int64.ofNat L)), .second, .val (.ref a3), .unset, .unset, .unset, .unset, .unset, .unset] [(.int (dgc (Int64.ofNat L) (1 : Int64))), (.int (19 : Int32)), (.ref a3)]))
            refine g_castore w at_438 (q := 439) rfl A_a3 (i := 19) (by decide) (Nat.le_of_ble_eq_true rfl) (x' := (dgc (Int64.ofNat L) (1 : Int64))) (nar_chr (dgc16 _ _)) n_a3 (w.safeAr A_a3 (by decide)) (fun T h w W V => ?_)
            replace E0 := ext_wr E0 W z_a3
            replace A_a3 : Ar Z h a3 .char [(.int (dgc (Int64.ofNat H) (10000000 : Int64))), (.int (dgc (Int64.ofNat H) (1000000 : Int64))), (.int (dgc (Int64.ofNat H) (100000 : Int64))), (.int (dgc (Int64.ofNat H) (10000 : Int64))), (.int (dgc (Int64.ofNat H) (1000 : Int64))), (.int (dgc (Int64.ofNat H) (100 : Int64))), (.int (dgc (Int64.ofNat H) (10 : Int64))), (.int (dgc (Int64.ofNat H) (1 : Int64))), (.int (dgc (Int64.ofNat L) (100000000000 : Int64))), (.int (dgc (Int64.ofNat L) (10000000000 : Int64))), (.int (dgc (Int64.ofNat L) (1000000000 : Int64))), (.int (dgc (Int64.ofNat L) (100000000 : Int64))), (.int (dgc (Int64.ofNat L) (10000000 : Int64))), (.int (dgc (Int64.ofNat L) (1000000 : Int64))), (.int (dgc (Int64.ofNat L) (100000 : Int64))), (.int (dgc (Int64.ofNat L) (10000 : Int64))), (.int (dgc (Int64.ofNat L) (1000 : Int64))), (.int (dgc (Int64.ofNat L) (100 : Int64))), (.int (dgc (Int64.ofNat L) (10 : Int64))), (.int (dgc (Int64.ofNat L) (1 : Int64)))] := V
            replace A_a3 : Ar Z h a3 .char ((bs20 (Int64.ofNat H) (Int64.ofNat L)).map Value.int) := A_a3
            refine g_iconst w at_439 (q := 440) rfl (v := (1 : Int32)) (by decide) ?_
            refine g_istore w at_440 (q := 442) rfl (Ls' := #[.val (.int j0), .val (.long k1), .second, .val (.long k2), .second, .val (.int j3), .val (.int j4), .val (.int cc), .val (.int d8), .val (.int (j0 &&& (3 : Int32))), .val (.long (Int64.ofNat H)), .second, .val (.long (Int64.ofNat L)), .second, .val (.ref a3), .val (.int (1 : Int32)), .unset, .unset, .unset, .unset, .unset]) rfl ?_
            refine g_iloadN w at_442 (q := 443) rfl rfl ?_
            refine g_bipush w at_443 (q := 445) rfl (v := (16 : Int32)) (by decide) ?_
            refine g_iand w at_445 (q := 446) rfl ?_
            refine g_if_eq w at_446 (by decide) (q := 563) (by decide) (q' := 449) rfl (fun cd4 => ?_) (fun cd4 => ?_)
            · have hG : Good (bs20 (Int64.ofNat H) (Int64.ofNat L)) (Int64.ofNat H) (Int64.ofNat L) := good_base hH hL
              refine g_new w at_563 (q := 566) rfl (hw _ (List.mem_of_getElem? (i := 1) rfl)) (hw _ (List.mem_of_getElem? (i := 2) rfl)) (hw _ (List.mem_of_getElem? (i := 3) rfl)) (by decide) (by decide) (fun T h a5 w E g_a5 n_a5 X_a5 D_a5 s_a5 => ?_)
              have z_a5 := Nat.le_trans E0.1 g_a5
              have ne_a3_a5 : a3 ≠ a5 := Nat.ne_of_lt (Nat.lt_of_lt_of_le A_a3.lt g_a5)
              replace E0 := ext_trans E0 E
              replace A_a3 := A_a3.ext E
              have F_key_a5 := D_a5 (Or.inr (hw _ (List.mem_of_getElem? (i := 24) rfl))) (ty := (.object "java/lang/String")) (by decide)
              replace F_key_a5 : Fld Z h a5 "com/example/stepwize/stepwize/binding/PropertyPath$Element" "key" "Ljava/lang/String;" .null := F_key_a5
              refine g_dup w at_566 (q := 567) rfl rfl ?_
              refine g_new w at_567 (q := 570) rfl (hw _ (List.mem_of_getElem? (i := 66) rfl)) (hw _ (List.mem_of_getElem? (i := 6) rfl)) (hw _ (List.mem_of_getElem? (i := 5) rfl)) (by decide) (by decide) (fun T h a6 w E g_a6 n_a6 X_a6 D_a6 s_a6 => ?_)
              have z_a6 := Nat.le_trans E0.1 g_a6
              have ne_a3_a6 : a3 ≠ a6 := Nat.ne_of_lt (Nat.lt_of_lt_of_le A_a3.lt g_a6)
              have ne_a5_a6 : a5 ≠ a6 := Nat.ne_of_lt (Nat.lt_of_lt_of_le X_a5.lt g_a6)
              replace E0 := ext_trans E0 E
              replace A_a3 := A_a3.ext E
              replace X_a5 := X_a5.ext E
              replace F_key_a5 := F_key_a5.ext E
              have F_value_a6 := D_a6 (Or.inr (hw _ (List.mem_of_getElem? (i := 8) rfl))) (ty := (.array .byte)) (by decide)
              replace F_value_a6 : Fld Z h a6 "java/lang/String" "value" "[B" .null := F_value_a6
              have F_coder_a6 := D_a6 (Or.inr (hw _ (List.mem_of_getElem? (i := 9) rfl))) (ty := .byte) (by decide)
              replace F_coder_a6 : Fld Z h a6 "java/lang/String" "coder" "B" (.int (0 : Int32)) := F_coder_a6
              refine g_dup w at_570 (q := 571) rfl rfl ?_
              refine g_aload w at_571 (q := 573) rfl rfl rfl ?_
              refine g_special w (con_new1U l Z a0 hw a6 a3 (bs20 (Int64.ofNat H) (Int64.ofNat L)) _ w.old X_a6 F_value_a6 F_coder_a6 n_a6 A_a3 ne_a3_a6 (Nat.le_refl 20) (bs_16 _ _) (Nat.zero_lt_succ 19) hcm SA_ SH_ SL_) no0 at_573 (q := 576) rfl rfl rfl (hw _ (List.mem_of_getElem? (i := 67) rfl)) (hw _ (List.mem_of_getElem? (i := 68) rfl)) (hw _ (List.mem_of_getElem? (i := 5) rfl)) (hw _ (List.mem_of_getElem? (i := 69) rfl)) (by decide) pd23 rfl rfl (W := 3) (Nat.le_of_eq rfl) (by decide) (by decide) (by decide) (by decide) (fun T h v w gs C q => ?_)
              obtain ⟨rfl, K, U_a6⟩ := q
              replace E0 := ext_keep E0 K z_a6
              have X0 := X_a6
              replace A_a3 := A_a3.keep K (not1 ne_a3_a6)
              replace X_a5 := X_a5.keep K
              replace F_key_a5 := F_key_a5.keep K (not1 ne_a5_a6)
              replace X_a6 := X_a6.keep K
              show Go p e below _ (State.setTop T (mkF m 576 #[.val (.int j0), .val (.long k1), .second, .val (.long k2), .second, .val (.int j3), .val (.int j4), .val (.int cc), .val (.int d8), .val (.int (j0 &&& (3 : Int32))), .val (.long (Int64.ofNat H)), .second, .val (.long (Int64.ofNat L)), .second, .val (.ref a3), .val (.int (1 : Int32)), .unset, .unset, .unset, .unset, .unset] [(.ref a6), (.ref a5), (.ref a5)]))
              refine g_special w (con_el l Z a0 hw a5 a6 _ w.old X_a5 F_key_a5 n_a5) no0 at_576 (q := 579) rfl rfl rfl (hw _ (List.mem_of_getElem? (i := 12) rfl)) (hw _ (List.mem_of_getElem? (i := 13) rfl)) (hw _ (List.mem_of_getElem? (i := 3) rfl)) (hw _ (List.mem_of_getElem? (i := 14) rfl)) (by decide) pd24 rfl rfl (W := 1) (Nat.le_of_eq rfl) (by decide) (by decide) (by decide) (by decide) (fun T h v w gs C q => ?_)
              obtain ⟨rfl, K, G_key⟩ := q
              replace E0 := ext_keep E0 K z_a5
              have X0 := X_a5
              replace X_a5 := X_a5.keep K
              replace U_a6 := U_a6.keepO K ne_a5_a6.symm X0 (hw _ (List.mem_of_getElem? (i := 2) rfl))
              replace F_key_a5 := G_key
              show Go p e below _ (State.setTop T (mkF m 579 #[.val (.int j0), .val (.long k1), .second, .val (.long k2), .second, .val (.int j3), .val (.int j4), .val (.int cc), .val (.int d8), .val (.int (j0 &&& (3 : Int32))), .val (.long (Int64.ofNat H)), .second, .val (.long (Int64.ofNat L)), .second, .val (.ref a3), .val (.int (1 : Int32)), .unset, .unset, .unset, .unset, .unset] [(.ref a5)]))
              refine g_virtual w (con_index l Z a0 hw fm em a5 a6 (bs20 (Int64.ofNat H) (Int64.ofNat L)) _ w.old X_a5 F_key_a5 U_a6 (Nat.le_refl 20) hcm SFm rfm SA_ SH_ SL_ SE_) no0 X_a5 at_579 (q := 582) rfl rfl (hw _ (List.mem_of_getElem? (i := 25) rfl)) (hw _ (List.mem_of_getElem? (i := 26) rfl)) (hw _ (List.mem_of_getElem? (i := 28) rfl)) (hw _ (List.mem_of_getElem? (i := 27) rfl)) (hw _ (List.mem_of_getElem? (i := 3) rfl)) (hw _ (List.mem_of_getElem? (i := 29) rfl)) (by decide) (nf (hw _ (List.mem_of_getElem? (i := 28) rfl))) pd18 rfl rfl (W := 0) (Nat.le_of_eq rfl) (by decide) (by decide) (by decide) (by decide) (fun T h v w gs C q => ?_)
              obtain ⟨o, rfl, E, hq⟩ := q
              replace E0 := ext_trans E0 E
              replace X_a5 := X_a5.ext E
              replace U_a6 := U_a6.ext E
              replace F_key_a5 := F_key_a5.ext E
              rcases hq with ⟨hix, ho⟩ | ⟨nn, hix, hmx, g_o, X_o, F_po, F_vo⟩
              · rw [ho]
                have X_em := XE_.ext w.old
                have F_em := FE_.ext w.old
                show Go p e below _ (State.setTop T (mkF m 582 #[.val (.int j0), .val (.long k1), .second, .val (.long k2), .second, .val (.int j3), .val (.int j4), .val (.int cc), .val (.int d8), .val (.int (j0 &&& (3 : Int32))), .val (.long (Int64.ofNat H)), .second, .val (.long (Int64.ofNat L)), .second, .val (.ref a3), .val (.int (1 : Int32)), .unset, .unset, .unset, .unset, .unset] [(.ref em)]))
                refine g_astore w at_582 (q := 584) rfl rfl (Ls' := #[.val (.int j0), .val (.long k1), .second, .val (.long k2), .second, .val (.int j3), .val (.int j4), .val (.int cc), .val (.int d8), .val (.int (j0 &&& (3 : Int32))), .val (.long (Int64.ofNat H)), .second, .val (.long (Int64.ofNat L)), .second, .val (.ref a3), .val (.int (1 : Int32)), .val (.ref em), .unset, .unset, .unset, .unset]) rfl ?_
                refine g_iload w at_584 (q := 586) rfl rfl ?_
                refine g_ifN w at_586 (q := 589) rfl (by decide) ?_
                refine g_lload w at_589 (q := 591) rfl rfl ?_
                refine g_lconst w at_591 (q := 592) rfl (v := (0 : Int64)) (by decide) ?_
                refine g_lcmp w at_592 (q := 593) rfl ?_
                refine g_lc_ne w at_593 (by decide) (q := 609) (by decide) (q' := 596) rfl (fun cd8 => ?_) (fun cd8 => ?_)
                · refine g_iconst w at_609 (q := 610) rfl (v := (0 : Int32)) (by decide) ?_
                  refine g_istore w at_610 (q := 612) rfl (Ls' := #[.val (.int j0), .val (.long k1), .second, .val (.long k2), .second, .val (.int j3), .val (.int j4), .val (.int cc), .val (.int d8), .val (.int (j0 &&& (3 : Int32))), .val (.long (Int64.ofNat H)), .second, .val (.long (Int64.ofNat L)), .second, .val (.ref a3), .val (.int (1 : Int32)), .val (.ref em), .val (.int (0 : Int32)), .unset, .unset, .unset]) rfl ?_
                  refine g_iload w at_612 (q := 614) rfl rfl ?_
                  refine g_ifN w at_614 (q := 617) rfl (by decide) ?_
                  refine g_aload w at_617 (q := 619) rfl rfl rfl ?_
                  refine g_virtualP w (con_ip0 l Z a0 hw em _ w.old F_em) no0 X_em at_619 (q := 622) rfl rfl (hw _ (List.mem_of_getElem? (i := 41) rfl)) (hw _ (List.mem_of_getElem? (i := 42) rfl)) (hw _ (List.mem_of_getElem? (i := 44) rfl)) (hw _ (List.mem_of_getElem? (i := 43) rfl)) (hw _ (List.mem_of_getElem? (i := 38) rfl)) (hw _ (List.mem_of_getElem? (i := 45) rfl)) (by decide) (nf (hw _ (List.mem_of_getElem? (i := 44) rfl))) pd12 rfl rfl (W := 0) (Nat.le_of_eq rfl) (by decide) (by decide) (by decide) (by decide) (fun T v w C q => ?_)
                  obtain rfl := q
                  show Go p e below _ (State.setTop T (mkF m 622 #[.val (.int j0), .val (.long k1), .second, .val (.long k2), .second, .val (.int j3), .val (.int j4), .val (.int cc), .val (.int d8), .val (.int (j0 &&& (3 : Int32))), .val (.long (Int64.ofNat H)), .second, .val (.long (Int64.ofNat L)), .second, .val (.ref a3), .val (.int (1 : Int32)), .val (.ref em), .val (.int (0 : Int32)), .unset, .unset, .unset] [(.int (0 : Int32))]))
                  refine g_ifN w at_622 (q := 625) rfl (by decide) ?_
                  refine g_iconst w at_625 (q := 626) rfl (v := (1 : Int32)) (by decide) ?_
                  refine g_goto w at_626 (by decide) (q := 630) (by decide) ?_
                  exact g_retn w at_630 rfl (by simp) rfl (by decide) (by decide) rfl
                · refine g_lload w at_596 (q := 598) rfl rfl ?_
                  refine g_ldc2J w at_598 (q := 601) rfl (v := (2147483647 : Int64)) (hw _ (List.mem_of_getElem? (i := 136) rfl)) ?_
                  refine g_lcmp w at_601 (q := 602) rfl ?_
                  refine g_lc_gt w at_602 (by decide) (q := 609) (by decide) (q' := 605) rfl (fun cd11 => ?_) (fun cd11 => ?_)
                  · refine g_iconst w at_609 (q := 610) rfl (v := (0 : Int32)) (by decide) ?_
                    refine g_istore w at_610 (q := 612) rfl (Ls' := #[.val (.int j0), .val (.long k1), .second, .val (.long k2), .second, .val (.int j3), .val (.int j4), .val (.int cc), .val (.int d8), .val (.int (j0 &&& (3 : Int32))), .val (.long (Int64.ofNat H)), .second, .val (.long (Int64.ofNat L)), .second, .val (.ref a3), .val (.int (1 : Int32)), .val (.ref em), .val (.int (0 : Int32)), .unset, .unset, .unset]) rfl ?_
                    refine g_iload w at_612 (q := 614) rfl rfl ?_
                    refine g_ifN w at_614 (q := 617) rfl (by decide) ?_
                    refine g_aload w at_617 (q := 619) rfl rfl rfl ?_
                    refine g_virtualP w (con_ip0 l Z a0 hw em _ w.old F_em) no0 X_em at_619 (q := 622) rfl rfl (hw _ (List.mem_of_getElem? (i := 41) rfl)) (hw _ (List.mem_of_getElem? (i := 42) rfl)) (hw _ (List.mem_of_getElem? (i := 44) rfl)) (hw _ (List.mem_of_getElem? (i := 43) rfl)) (hw _ (List.mem_of_getElem? (i := 38) rfl)) (hw _ (List.mem_of_getElem? (i := 45) rfl)) (by decide) (nf (hw _ (List.mem_of_getElem? (i := 44) rfl))) pd12 rfl rfl (W := 0) (Nat.le_of_eq rfl) (by decide) (by decide) (by decide) (by decide) (fun T v w C q => ?_)
                    obtain rfl := q
                    show Go p e below _ (State.setTop T (mkF m 622 #[.val (.int j0), .val (.long k1), .second, .val (.long k2), .second, .val (.int j3), .val (.int j4), .val (.int cc), .val (.int d8), .val (.int (j0 &&& (3 : Int32))), .val (.long (Int64.ofNat H)), .second, .val (.long (Int64.ofNat L)), .second, .val (.ref a3), .val (.int (1 : Int32)), .val (.ref em), .val (.int (0 : Int32)), .unset, .unset, .unset] [(.int (0 : Int32))]))
                    refine g_ifN w at_622 (q := 625) rfl (by decide) ?_
                    refine g_iconst w at_625 (q := 626) rfl (v := (1 : Int32)) (by decide) ?_
                    refine g_goto w at_626 (by decide) (q := 630) (by decide) ?_
                    exact g_retn w at_630 rfl (by simp) rfl (by decide) (by decide) rfl
                  · refine g_iconst w at_605 (q := 606) rfl (v := (1 : Int32)) (by decide) ?_
                    refine g_goto w at_606 (by decide) (q := 610) (by decide) ?_
                    refine g_istore w at_610 (q := 612) rfl (Ls' := #[.val (.int j0), .val (.long k1), .second, .val (.long k2), .second, .val (.int j3), .val (.int j4), .val (.int cc), .val (.int d8), .val (.int (j0 &&& (3 : Int32))), .val (.long (Int64.ofNat H)), .second, .val (.long (Int64.ofNat L)), .second, .val (.ref a3), .val (.int (1 : Int32)), .val (.ref em), .val (.int (1 : Int32)), .unset, .unset, .unset]) rfl ?_
                    refine g_iload w at_612 (q := 614) rfl rfl ?_
                    refine g_ifY w at_614 (by decide) (q := 631) (by decide) (by decide) ?_
                    refine g_aload w at_631 (q := 633) rfl rfl rfl ?_
                    refine g_virtualP w (con_ip0 l Z a0 hw em _ w.old F_em) no0 X_em at_633 (q := 636) rfl rfl (hw _ (List.mem_of_getElem? (i := 41) rfl)) (hw _ (List.mem_of_getElem? (i := 42) rfl)) (hw _ (List.mem_of_getElem? (i := 44) rfl)) (hw _ (List.mem_of_getElem? (i := 43) rfl)) (hw _ (List.mem_of_getElem? (i := 38) rfl)) (hw _ (List.mem_of_getElem? (i := 45) rfl)) (by decide) (nf (hw _ (List.mem_of_getElem? (i := 44) rfl))) pd12 rfl rfl (W := 0) (Nat.le_of_eq rfl) (by decide) (by decide) (by decide) (by decide) (fun T v w C q => ?_)
                    obtain rfl := q
                    show Go p e below _ (State.setTop T (mkF m 636 #[.val (.int j0), .val (.long k1), .second, .val (.long k2), .second, .val (.int j3), .val (.int j4), .val (.int cc), .val (.int d8), .val (.int (j0 &&& (3 : Int32))), .val (.long (Int64.ofNat H)), .second, .val (.long (Int64.ofNat L)), .second, .val (.ref a3), .val (.int (1 : Int32)), .val (.ref em), .val (.int (1 : Int32)), .unset, .unset, .unset] [(.int (0 : Int32))]))
                    refine g_ifY w at_636 (by decide) (q := 654) (by decide) (by decide) ?_
                    refine g_iconst w at_654 (q := 655) rfl (v := (0 : Int32)) (by decide) ?_
                    exact g_retn w at_655 rfl (by simp) rfl (by decide) (by decide) (by obtain ⟨L1, q1, -⟩ := good_ix1 hG cd8 cd11; rw [hix] at q1; cases q1)
              · show Go p e below _ (State.setTop T (mkF m 582 #[.val (.int j0), .val (.long k1), .second, .val (.long k2), .second, .val (.int j3), .val (.int j4), .val (.int cc), .val (.int d8), .val (.int (j0 &&& (3 : Int32))), .val (.long (Int64.ofNat H)), .second, .val (.long (Int64.ofNat L)), .second, .val (.ref a3), .val (.int (1 : Int32)), .unset, .unset, .unset, .unset, .unset] [(.ref o)]))
                refine g_astore w at_582 (q := 584) rfl rfl (Ls' := #[.val (.int j0), .val (.long k1), .second, .val (.long k2), .second, .val (.int j3), .val (.int j4), .val (.int cc), .val (.int d8), .val (.int (j0 &&& (3 : Int32))), .val (.long (Int64.ofNat H)), .second, .val (.long (Int64.ofNat L)), .second, .val (.ref a3), .val (.int (1 : Int32)), .val (.ref o), .unset, .unset, .unset, .unset]) rfl ?_
                refine g_iload w at_584 (q := 586) rfl rfl ?_
                refine g_ifN w at_586 (q := 589) rfl (by decide) ?_
                refine g_lload w at_589 (q := 591) rfl rfl ?_
                refine g_lconst w at_591 (q := 592) rfl (v := (0 : Int64)) (by decide) ?_
                refine g_lcmp w at_592 (q := 593) rfl ?_
                refine g_lc_ne w at_593 (by decide) (q := 609) (by decide) (q' := 596) rfl (fun cd17 => ?_) (fun cd17 => ?_)
                · refine g_iconst w at_609 (q := 610) rfl (v := (0 : Int32)) (by decide) ?_
                  refine g_istore w at_610 (q := 612) rfl (Ls' := #[.val (.int j0), .val (.long k1), .second, .val (.long k2), .second, .val (.int j3), .val (.int j4), .val (.int cc), .val (.int d8), .val (.int (j0 &&& (3 : Int32))), .val (.long (Int64.ofNat H)), .second, .val (.long (Int64.ofNat L)), .second, .val (.ref a3), .val (.int (1 : Int32)), .val (.ref o), .val (.int (0 : Int32)), .unset, .unset, .unset]) rfl ?_
                  refine g_iload w at_612 (q := 614) rfl rfl ?_
                  refine g_ifN w at_614 (q := 617) rfl (by decide) ?_
                  refine g_aload w at_617 (q := 619) rfl rfl rfl ?_
                  refine g_virtualP w (con_ip1 l Z a0 hw o _ w.old F_po) no0 X_o at_619 (q := 622) rfl rfl (hw _ (List.mem_of_getElem? (i := 41) rfl)) (hw _ (List.mem_of_getElem? (i := 42) rfl)) (hw _ (List.mem_of_getElem? (i := 44) rfl)) (hw _ (List.mem_of_getElem? (i := 43) rfl)) (hw _ (List.mem_of_getElem? (i := 38) rfl)) (hw _ (List.mem_of_getElem? (i := 45) rfl)) (by decide) (nf (hw _ (List.mem_of_getElem? (i := 44) rfl))) pd12 rfl rfl (W := 0) (Nat.le_of_eq rfl) (by decide) (by decide) (by decide) (by decide) (fun T v w C q => ?_)
                  obtain rfl := q
                  show Go p e below _ (State.setTop T (mkF m 622 #[.val (.int j0), .val (.long k1), .second, .val (.long k2), .second, .val (.int j3), .val (.int j4), .val (.int cc), .val (.int d8), .val (.int (j0 &&& (3 : Int32))), .val (.long (Int64.ofNat H)), .second, .val (.long (Int64.ofNat L)), .second, .val (.ref a3), .val (.int (1 : Int32)), .val (.ref o), .val (.int (0 : Int32)), .unset, .unset, .unset] [(.int (1 : Int32))]))
                  refine g_ifY w at_622 (by decide) (q := 629) (by decide) (by decide) ?_
                  refine g_iconst w at_629 (q := 630) rfl (v := (0 : Int32)) (by decide) ?_
                  exact g_retn w at_630 rfl (by simp) rfl (by decide) (by decide) (absurd (hix.symm.trans (good_ix0 hG (Or.inl cd17))) (by simp))
                · refine g_lload w at_596 (q := 598) rfl rfl ?_
                  refine g_ldc2J w at_598 (q := 601) rfl (v := (2147483647 : Int64)) (hw _ (List.mem_of_getElem? (i := 136) rfl)) ?_
                  refine g_lcmp w at_601 (q := 602) rfl ?_
                  refine g_lc_gt w at_602 (by decide) (q := 609) (by decide) (q' := 605) rfl (fun cd20 => ?_) (fun cd20 => ?_)
                  · refine g_iconst w at_609 (q := 610) rfl (v := (0 : Int32)) (by decide) ?_
                    refine g_istore w at_610 (q := 612) rfl (Ls' := #[.val (.int j0), .val (.long k1), .second, .val (.long k2), .second, .val (.int j3), .val (.int j4), .val (.int cc), .val (.int d8), .val (.int (j0 &&& (3 : Int32))), .val (.long (Int64.ofNat H)), .second, .val (.long (Int64.ofNat L)), .second, .val (.ref a3), .val (.int (1 : Int32)), .val (.ref o), .val (.int (0 : Int32)), .unset, .unset, .unset]) rfl ?_
                    refine g_iload w at_612 (q := 614) rfl rfl ?_
                    refine g_ifN w at_614 (q := 617) rfl (by decide) ?_
                    refine g_aload w at_617 (q := 619) rfl rfl rfl ?_
                    refine g_virtualP w (con_ip1 l Z a0 hw o _ w.old F_po) no0 X_o at_619 (q := 622) rfl rfl (hw _ (List.mem_of_getElem? (i := 41) rfl)) (hw _ (List.mem_of_getElem? (i := 42) rfl)) (hw _ (List.mem_of_getElem? (i := 44) rfl)) (hw _ (List.mem_of_getElem? (i := 43) rfl)) (hw _ (List.mem_of_getElem? (i := 38) rfl)) (hw _ (List.mem_of_getElem? (i := 45) rfl)) (by decide) (nf (hw _ (List.mem_of_getElem? (i := 44) rfl))) pd12 rfl rfl (W := 0) (Nat.le_of_eq rfl) (by decide) (by decide) (by decide) (by decide) (fun T v w C q => ?_)
                    obtain rfl := q
                    show Go p e below _ (State.setTop T (mkF m 622 #[.val (.int j0), .val (.long k1), .second, .val (.long k2), .second, .val (.int j3), .val (.int j4), .val (.int cc), .val (.int d8), .val (.int (j0 &&& (3 : Int32))), .val (.long (Int64.ofNat H)), .second, .val (.long (Int64.ofNat L)), .second, .val (.ref a3), .val (.int (1 : Int32)), .val (.ref o), .val (.int (0 : Int32)), .unset, .unset, .unset] [(.int (1 : Int32))]))
                    refine g_ifY w at_622 (by decide) (q := 629) (by decide) (by decide) ?_
                    refine g_iconst w at_629 (q := 630) rfl (v := (0 : Int32)) (by decide) ?_
                    exact g_retn w at_630 rfl (by simp) rfl (by decide) (by decide) (absurd (hix.symm.trans (good_ix0 hG (Or.inr cd20))) (by simp))
                  · refine g_iconst w at_605 (q := 606) rfl (v := (1 : Int32)) (by decide) ?_
                    refine g_goto w at_606 (by decide) (q := 610) (by decide) ?_
                    refine g_istore w at_610 (q := 612) rfl (Ls' := #[.val (.int j0), .val (.long k1), .second, .val (.long k2), .second, .val (.int j3), .val (.int j4), .val (.int cc), .val (.int d8), .val (.int (j0 &&& (3 : Int32))), .val (.long (Int64.ofNat H)), .second, .val (.long (Int64.ofNat L)), .second, .val (.ref a3), .val (.int (1 : Int32)), .val (.ref o), .val (.int (1 : Int32)), .unset, .unset, .unset]) rfl ?_
                    refine g_iload w at_612 (q := 614) rfl rfl ?_
                    refine g_ifY w at_614 (by decide) (q := 631) (by decide) (by decide) ?_
                    refine g_aload w at_631 (q := 633) rfl rfl rfl ?_
                    refine g_virtualP w (con_ip1 l Z a0 hw o _ w.old F_po) no0 X_o at_633 (q := 636) rfl rfl (hw _ (List.mem_of_getElem? (i := 41) rfl)) (hw _ (List.mem_of_getElem? (i := 42) rfl)) (hw _ (List.mem_of_getElem? (i := 44) rfl)) (hw _ (List.mem_of_getElem? (i := 43) rfl)) (hw _ (List.mem_of_getElem? (i := 38) rfl)) (hw _ (List.mem_of_getElem? (i := 45) rfl)) (by decide) (nf (hw _ (List.mem_of_getElem? (i := 44) rfl))) pd12 rfl rfl (W := 0) (Nat.le_of_eq rfl) (by decide) (by decide) (by decide) (by decide) (fun T v w C q => ?_)
                    obtain rfl := q
                    show Go p e below _ (State.setTop T (mkF m 636 #[.val (.int j0), .val (.long k1), .second, .val (.long k2), .second, .val (.int j3), .val (.int j4), .val (.int cc), .val (.int d8), .val (.int (j0 &&& (3 : Int32))), .val (.long (Int64.ofNat H)), .second, .val (.long (Int64.ofNat L)), .second, .val (.ref a3), .val (.int (1 : Int32)), .val (.ref o), .val (.int (1 : Int32)), .unset, .unset, .unset] [(.int (1 : Int32))]))
                    refine g_ifN w at_636 (q := 639) rfl (by decide) ?_
                    refine g_aload w at_639 (q := 641) rfl rfl rfl ?_
                    refine g_virtualP w (con_gai l Z a0 hw o (Int32.ofNat nn) _ w.old F_po F_vo) no0 X_o at_641 (q := 644) rfl rfl (hw _ (List.mem_of_getElem? (i := 149) rfl)) (hw _ (List.mem_of_getElem? (i := 150) rfl)) (hw _ (List.mem_of_getElem? (i := 152) rfl)) (hw _ (List.mem_of_getElem? (i := 151) rfl)) (hw _ (List.mem_of_getElem? (i := 38) rfl)) (hw _ (List.mem_of_getElem? (i := 153) rfl)) (by decide) (nf (hw _ (List.mem_of_getElem? (i := 152) rfl))) pd19 rfl rfl (W := 0) (Nat.le_of_eq rfl) (by decide) (by decide) (by decide) (by decide) (fun T v w C q => ?_)
                    obtain rfl := q
                    show Go p e below _ (State.setTop T (mkF m 644 #[.val (.int j0), .val (.long k1), .second, .val (.long k2), .second, .val (.int j3), .val (.int j4), .val (.int cc), .val (.int d8), .val (.int (j0 &&& (3 : Int32))), .val (.long (Int64.ofNat H)), .second, .val (.long (Int64.ofNat L)), .second, .val (.ref a3), .val (.int (1 : Int32)), .val (.ref o), .val (.int (1 : Int32)), .unset, .unset, .unset] [(.int (Int32.ofNat nn))]))
                    refine g_lload w at_644 (q := 646) rfl rfl ?_
                    refine g_l2i w at_646 (q := 647) rfl ?_
                    refine g_icN w at_647 (q := 650) rfl (Jvm.Free.XT.ii_ne_f (by obtain ⟨L1, q1, q2, q3⟩ := good_ix1 hG cd17 cd20; rw [hix] at q1; cases q1; rw [q3, l2i_nat q2])) ?_
                    refine g_iconst w at_650 (q := 651) rfl (v := (1 : Int32)) (by decide) ?_
                    refine g_goto w at_651 (by decide) (q := 655) (by decide) ?_
                    exact g_retn w at_655 rfl (by simp) rfl (by decide) (by decide) rfl
            · refine g_iload w at_449 (q := 451) rfl rfl ?_
              refine g_ldcI w at_451 (q := 453) rfl (v := (2147483647 : Int32)) (hw _ (List.mem_of_getElem? (i := 134) rfl)) ?_
              refine g_iand w at_453 (q := 454) rfl ?_
              refine g_bipush w at_454 (q := 456) rfl (v := (20 : Int32)) (by decide) ?_
              refine g_irem w at_456 (q := 457) rfl (by decide) ?_
              obtain ⟨ps, hps, eps⟩ := mod20 (mask31 j3)
              rw [eps]
              show Go p e below _ (State.setTop T (mkF m 457 #[.val (.int j0), .val (.long k1), .second, .val (.long k2), .second, .val (.int j3), .val (.int j4), .val (.int cc), .val (.int d8), .val (.int (j0 &&& (3 : Int32))), .val (.long (Int64.ofNat H)), .second, .val (.long (Int64.ofNat L)), .second, .val (.ref a3), .val (.int (1 : Int32)), .unset, .unset, .unset, .unset, .unset] [(.int (Int32.ofNat ps))]))
              refine g_istore w at_457 (q := 459) rfl (Ls' := #[.val (.int j0), .val (.long k1), .second, .val (.long k2), .second, .val (.int j3), .val (.int j4), .val (.int cc), .val (.int d8), .val (.int (j0 &&& (3 : Int32))), .val (.long (Int64.ofNat H)), .second, .val (.long (Int64.ofNat L)), .second, .val (.ref a3), .val (.int (1 : Int32)), .val (.int (Int32.ofNat ps)), .unset, .unset, .unset, .unset]) rfl ?_
              refine g_iload w at_459 (q := 461) rfl rfl ?_
              rcases hj29_0 with ⟨rfl, hdg⟩ | ⟨rfl, hdg⟩
              · show Go p e below _ (State.setTop T (mkF m 461 #[.val (.int j0), .val (.long k1), .second, .val (.long k2), .second, .val (.int j3), .val (.int j4), .val (.int cc), .val (.int (1 : Int32)), .val (.int (j0 &&& (3 : Int32))), .val (.long (Int64.ofNat H)), .second, .val (.long (Int64.ofNat L)), .second, .val (.ref a3), .val (.int (1 : Int32)), .val (.int (Int32.ofNat ps)), .unset, .unset, .unset, .unset] [(.int (1 : Int32))]))
                refine g_ifN w at_461 (q := 464) rfl (by decide) ?_
                refine g_iload w at_464 (q := 466) rfl rfl ?_
                refine g_bipush w at_466 (q := 468) rfl (v := (8 : Int32)) (by decide) ?_
                rcases Decidable.em (ps < 8) with hp8 | hp8
                · refine g_icN w at_468 (q := 471) rfl (Jvm.Free.XT.ii_ge_f (lt_ofNat (n := 8) hp8 (by decide))) ?_
                  refine g_bipush w at_471 (q := 473) rfl (v := (7 : Int32)) (by decide) ?_
                  refine g_iload w at_473 (q := 475) rfl rfl ?_
                  refine g_isub w at_475 (q := 476) rfl ?_
                  rw [sub7 ps hp8]
                  show Go p e below _ (State.setTop T (mkF m 476 #[.val (.int j0), .val (.long k1), .second, .val (.long k2), .second, .val (.int j3), .val (.int j4), .val (.int cc), .val (.int (1 : Int32)), .val (.int (j0 &&& (3 : Int32))), .val (.long (Int64.ofNat H)), .second, .val (.long (Int64.ofNat L)), .second, .val (.ref a3), .val (.int (1 : Int32)), .val (.int (Int32.ofNat ps)), .unset, .unset, .unset, .unset] [(.int (Int32.ofNat (7 - ps)))]))
                  refine g_static w (con_pow l Z a0 hw (7 - ps) _ w.old (by omega)) no0 at_476 (q := 479) rfl rfl (hw _ (List.mem_of_getElem? (i := 186) rfl)) (hw _ (List.mem_of_getElem? (i := 187) rfl)) (hw _ (List.mem_of_getElem? (i := 55) rfl)) (hw _ (List.mem_of_getElem? (i := 188) rfl)) (by decide) pd25 rfl rfl (W := 0) (Nat.le_of_eq rfl) (by decide) (by decide) (by decide) (by decide) (fun T h v w gs C q => ?_)
                  obtain ⟨rfl, E⟩ := q
                  replace E0 := ext_trans E0 E
                  replace A_a3 := A_a3.ext E
                  show Go p e below _ (State.setTop T (mkF m 479 #[.val (.int j0), .val (.long k1), .second, .val (.long k2), .second, .val (.int j3), .val (.int j4), .val (.int cc), .val (.int (1 : Int32)), .val (.int (j0 &&& (3 : Int32))), .val (.long (Int64.ofNat H)), .second, .val (.long (Int64.ofNat L)), .second, .val (.ref a3), .val (.int (1 : Int32)), .val (.int (Int32.ofNat ps)), .unset, .unset, .unset, .unset] [(.long (Int64.ofNat (10 ^ (7 - ps))))]))
                  refine g_lstore w at_479 (q := 481) rfl (Ls' := #[.val (.int j0), .val (.long k1), .second, .val (.long k2), .second, .val (.int j3), .val (.int j4), .val (.int cc), .val (.int (1 : Int32)), .val (.int (j0 &&& (3 : Int32))), .val (.long (Int64.ofNat H)), .second, .val (.long (Int64.ofNat L)), .second, .val (.ref a3), .val (.int (1 : Int32)), .val (.int (Int32.ofNat ps)), .val (.long (Int64.ofNat (10 ^ (7 - ps)))), .second, .unset, .unset]) rfl ?_
                  refine g_lload w at_481 (q := 483) rfl rfl ?_
                  refine g_lload w at_483 (q := 485) rfl rfl ?_
                  refine g_ldiv w at_485 (q := 486) rfl (pw_ne _ (by omega)) ?_
                  refine g_ldc2J w at_486 (q := 489) rfl (v := (10 : Int64)) (hw _ (List.mem_of_getElem? (i := 57) rfl)) ?_
                  refine g_lrem w at_489 (q := 490) rfl (by decide) ?_
                  refine g_lstore w at_490 (q := 492) rfl (Ls' := #[.val (.int j0), .val (.long k1), .second, .val (.long k2), .second, .val (.int j3), .val (.int j4), .val (.int cc), .val (.int (1 : Int32)), .val (.int (j0 &&& (3 : Int32))), .val (.long (Int64.ofNat H)), .second, .val (.long (Int64.ofNat L)), .second, .val (.ref a3), .val (.int (1 : Int32)), .val (.int (Int32.ofNat ps)), .val (.long (Int64.ofNat (10 ^ (7 - ps)))), .second, .val (.long (((Int64.ofNat H) / (Int64.ofNat (10 ^ (7 - ps)))) - (((Int64.ofNat H) / (Int64.ofNat (10 ^ (7 - ps)))) / (10 : Int64)) * (10 : Int64))), .second]) rfl ?_
                  refine g_lload w at_492 (q := 494) rfl rfl ?_
                  refine g_iload w at_494 (q := 496) rfl rfl ?_
                  refine g_bipush w at_496 (q := 498) rfl (v := (48 : Int32)) (by decide) ?_
                  refine g_isub w at_498 (q := 499) rfl ?_
                  refine g_i2l w at_499 (q := 500) rfl ?_
                  refine g_lload w at_500 (q := 502) rfl rfl ?_
                  refine g_lsub w at_502 (q := 503) rfl ?_
                  refine g_lload w at_503 (q := 505) rfl rfl ?_
                  refine g_lmul w at_505 (q := 506) rfl ?_
                  refine g_ladd w at_506 (q := 507) rfl ?_
                  refine g_lstore w at_507 (q := 509) rfl (Ls' := #[.val (.int j0), .val (.long k1), .second, .val (.long k2), .second, .val (.int j3), .val (.int j4), .val (.int cc), .val (.int (1 : Int32)), .val (.int (j0 &&& (3 : Int32))), .val (.long ((Int64.ofNat H) + (((cc - (48 : Int32)).toInt64 - (((Int64.ofNat H) / (Int64.ofNat (10 ^ (7 - ps)))) - (((Int64.ofNat H) / (Int64.ofNat (10 ^ (7 - ps)))) / (10 : Int64)) * (10 : Int64))) * (Int64.ofNat (10 ^ (7 - ps)))))), .second, .val (.long (Int64.ofNat L)), .second, .val (.ref a3), .val (.int (1 : Int32)), .val (.int (Int32.ofNat ps)), .val (.long (Int64.ofNat (10 ^ (7 - ps)))), .second, .val (.long (((Int64.ofNat H) / (Int64.ofNat (10 ^ (7 - ps)))) - (((Int64.ofNat H) / (Int64.ofNat (10 ^ (7 - ps)))) / (10 : Int64)) * (10 : Int64))), .second]) rfl ?_
                  refine g_goto w at_509 (by decide) (q := 556) (by decide) ?_
                  refine g_aload w at_556 (q := 558) rfl rfl rfl ?_
                  refine g_iload w at_558 (q := 560) rfl rfl ?_
                  refine g_iload w at_560 (q := 562) rfl rfl ?_
                  refine g_castore w at_562 (q := 563) rfl A_a3 (i := ps) rfl hps (x' := cc) (nar_chr lcc) n_a3 (w.safeAr A_a3 (by decide)) (fun T h w W V => ?_)
                  replace E0 := ext_wr E0 W z_a3
                  rw [← List.map_set] at V
                  replace A_a3 := V
                  have hG : Good ((bs20 (Int64.ofNat H) (Int64.ofNat L)).set ps cc) ((Int64.ofNat H) + (((cc - (48 : Int32)).toInt64 - (((Int64.ofNat H) / (Int64.ofNat (10 ^ (7 - ps)))) - (((Int64.ofNat H) / (Int64.ofNat (10 ^ (7 - ps)))) / (10 : Int64)) * (10 : Int64))) * (Int64.ofNat (10 ^ (7 - ps))))) (Int64.ofNat L) := good_hi hH hL hp8 hdg
                  refine g_new w at_563 (q := 566) rfl (hw _ (List.mem_of_getElem? (i := 1) rfl)) (hw _ (List.mem_of_getElem? (i := 2) rfl)) (hw _ (List.mem_of_getElem? (i := 3) rfl)) (by decide) (by decide) (fun T h a26 w E g_a26 n_a26 X_a26 D_a26 s_a26 => ?_)
                  have z_a26 := Nat.le_trans E0.1 g_a26
                  have ne_a3_a26 : a3 ≠ a26 := Nat.ne_of_lt (Nat.lt_of_lt_of_le A_a3.lt g_a26)
                  replace E0 := ext_trans E0 E
                  replace A_a3 := A_a3.ext E
                  have F_key_a26 := D_a26 (Or.inr (hw _ (List.mem_of_getElem? (i := 24) rfl))) (ty := (.object "java/lang/String")) (by decide)
                  replace F_key_a26 : Fld Z h a26 "com/example/stepwize/stepwize/binding/PropertyPath$Element" "key" "Ljava/lang/String;" .null := F_key_a26
                  refine g_dup w at_566 (q := 567) rfl rfl ?_
                  refine g_new w at_567 (q := 570) rfl (hw _ (List.mem_of_getElem? (i := 66) rfl)) (hw _ (List.mem_of_getElem? (i := 6) rfl)) (hw _ (List.mem_of_getElem? (i := 5) rfl)) (by decide) (by decide) (fun T h a27 w E g_a27 n_a27 X_a27 D_a27 s_a27 => ?_)
                  have z_a27 := Nat.le_trans E0.1 g_a27
                  have ne_a26_a27 : a26 ≠ a27 := Nat.ne_of_lt (Nat.lt_of_lt_of_le X_a26.lt g_a27)
                  have ne_a3_a27 : a3 ≠ a27 := Nat.ne_of_lt (Nat.lt_of_lt_of_le A_a3.lt g_a27)
                  replace E0 := ext_trans E0 E
                  replace A_a3 := A_a3.ext E
                  replace X_a26 := X_a26.ext E
                  replace F_key_a26 := F_key_a26.ext E
                  have F_value_a27 := D_a27 (Or.inr (hw _ (List.mem_of_getElem? (i := 8) rfl))) (ty := (.array .byte)) (by decide)
                  replace F_value_a27 : Fld Z h a27 "java/lang/String" "value" "[B" .null := F_value_a27
                  have F_coder_a27 := D_a27 (Or.inr (hw _ (List.mem_of_getElem? (i := 9) rfl))) (ty := .byte) (by decide)
                  replace F_coder_a27 : Fld Z h a27 "java/lang/String" "coder" "B" (.int (0 : Int32)) := F_coder_a27
                  refine g_dup w at_570 (q := 571) rfl rfl ?_
                  refine g_aload w at_571 (q := 573) rfl rfl rfl ?_
                  refine g_special w (con_new1U l Z a0 hw a27 a3 ((bs20 (Int64.ofNat H) (Int64.ofNat L)).set ps cc) _ w.old X_a27 F_value_a27 F_coder_a27 n_a27 A_a3 ne_a3_a27 (by rw [List.length_set]; exact Nat.le_refl 20) (set_mem (bs_16 _ _) lcc) (by rw [List.length_set]; exact Nat.zero_lt_succ 19) hcm SA_ SH_ SL_) no0 at_573 (q := 576) rfl rfl rfl (hw _ (List.mem_of_getElem? (i := 67) rfl)) (hw _ (List.mem_of_getElem? (i := 68) rfl)) (hw _ (List.mem_of_getElem? (i := 5) rfl)) (hw _ (List.mem_of_getElem? (i := 69) rfl)) (by decide) pd23 rfl rfl (W := 3) (Nat.le_of_eq rfl) (by decide) (by decide) (by decide) (by decide) (fun T h v w gs C q => ?_)
                  obtain ⟨rfl, K, U_a27⟩ := q
                  replace E0 := ext_keep E0 K z_a27
                  have X0 := X_a27
                  replace A_a3 := A_a3.keep K (not1 ne_a3_a27)
                  replace X_a26 := X_a26.keep K
                  replace F_key_a26 := F_key_a26.keep K (not1 ne_a26_a27)
                  replace X_a27 := X_a27.keep K
                  show Go p e below _ (State.setTop T (mkF m 576 #[.val (.int j0), .val (.long k1), .second, .val (.long k2), .second, .val (.int j3), .val (.int j4), .val (.int cc), .val (.int (1 : Int32)), .val (.int (j0 &&& (3 : Int32))), .val (.long ((Int64.ofNat H) + (((cc - (48 : Int32)).toInt64 - (((Int64.ofNat H) / (Int64.ofNat (10 ^ (7 - ps)))) - (((Int64.ofNat H) / (Int64.ofNat (10 ^ (7 - ps)))) / (10 : Int64)) * (10 : Int64))) * (Int64.ofNat (10 ^ (7 - ps)))))), .second, .val (.long (Int64.ofNat L)), .second, .val (.ref a3), .val (.int (1 : Int32)), .val (.int (Int32.ofNat ps)), .val (.long (Int64.ofNat (10 ^ (7 - ps)))), .second, .val (.long (((Int64.ofNat H) / (Int64.ofNat (10 ^ (7 - ps)))) - (((Int64.ofNat H) / (Int64.ofNat (10 ^ (7 - ps)))) / (10 : Int64)) * (10 : Int64))), .second] [(.ref a27), (.ref a26), (.ref a26)]))
                  refine g_special w (con_el l Z a0 hw a26 a27 _ w.old X_a26 F_key_a26 n_a26) no0 at_576 (q := 579) rfl rfl rfl (hw _ (List.mem_of_getElem? (i := 12) rfl)) (hw _ (List.mem_of_getElem? (i := 13) rfl)) (hw _ (List.mem_of_getElem? (i := 3) rfl)) (hw _ (List.mem_of_getElem? (i := 14) rfl)) (by decide) pd24 rfl rfl (W := 1) (Nat.le_of_eq rfl) (by decide) (by decide) (by decide) (by decide) (fun T h v w gs C q => ?_)
                  obtain ⟨rfl, K, G_key⟩ := q
                  replace E0 := ext_keep E0 K z_a26
                  have X0 := X_a26
                  replace X_a26 := X_a26.keep K
                  replace U_a27 := U_a27.keepO K ne_a26_a27.symm X0 (hw _ (List.mem_of_getElem? (i := 2) rfl))
                  replace F_key_a26 := G_key
                  show Go p e below _ (State.setTop T (mkF m 579 #[.val (.int j0), .val (.long k1), .second, .val (.long k2), .second, .val (.int j3), .val (.int j4), .val (.int cc), .val (.int (1 : Int32)), .val (.int (j0 &&& (3 : Int32))), .val (.long ((Int64.ofNat H) + (((cc - (48 : Int32)).toInt64 - (((Int64.ofNat H) / (Int64.ofNat (10 ^ (7 - ps)))) - (((Int64.ofNat H) / (Int64.ofNat (10 ^ (7 - ps)))) / (10 : Int64)) * (10 : Int64))) * (Int64.ofNat (10 ^ (7 - ps)))))), .second, .val (.long (Int64.ofNat L)), .second, .val (.ref a3), .val (.int (1 : Int32)), .val (.int (Int32.ofNat ps)), .val (.long (Int64.ofNat (10 ^ (7 - ps)))), .second, .val (.long (((Int64.ofNat H) / (Int64.ofNat (10 ^ (7 - ps)))) - (((Int64.ofNat H) / (Int64.ofNat (10 ^ (7 - ps)))) / (10 : Int64)) * (10 : Int64))), .second] [(.ref a26)]))
                  refine g_virtual w (con_index l Z a0 hw fm em a26 a27 ((bs20 (Int64.ofNat H) (Int64.ofNat L)).set ps cc) _ w.old X_a26 F_key_a26 U_a27 (by rw [List.length_set]; exact Nat.le_refl 20) hcm SFm rfm SA_ SH_ SL_ SE_) no0 X_a26 at_579 (q := 582) rfl rfl (hw _ (List.mem_of_getElem? (i := 25) rfl)) (hw _ (List.mem_of_getElem? (i := 26) rfl)) (hw _ (List.mem_of_getElem? (i := 28) rfl)) (hw _ (List.mem_of_getElem? (i := 27) rfl)) (hw _ (List.mem_of_getElem? (i := 3) rfl)) (hw _ (List.mem_of_getElem? (i := 29) rfl)) (by decide) (nf (hw _ (List.mem_of_getElem? (i := 28) rfl))) pd18 rfl rfl (W := 0) (Nat.le_of_eq rfl) (by decide) (by decide) (by decide) (by decide) (fun T h v w gs C q => ?_)
                  obtain ⟨o, rfl, E, hq⟩ := q
                  replace E0 := ext_trans E0 E
                  replace X_a26 := X_a26.ext E
                  replace U_a27 := U_a27.ext E
                  replace F_key_a26 := F_key_a26.ext E
                  rcases hq with ⟨hix, ho⟩ | ⟨nn, hix, hmx, g_o, X_o, F_po, F_vo⟩
                  · rw [ho]
                    have X_em := XE_.ext w.old
                    have F_em := FE_.ext w.old
                    show Go p e below _ (State.setTop T (mkF m 582 #[.val (.int j0), .val (.long k1), .second, .val (.long k2), .second, .val (.int j3), .val (.int j4), .val (.int cc), .val (.int (1 : Int32)), .val (.int (j0 &&& (3 : Int32))), .val (.long ((Int64.ofNat H) + (((cc - (48 : Int32)).toInt64 - (((Int64.ofNat H) / (Int64.ofNat (10 ^ (7 - ps)))) - (((Int64.ofNat H) / (Int64.ofNat (10 ^ (7 - ps)))) / (10 : Int64)) * (10 : Int64))) * (Int64.ofNat (10 ^ (7 - ps)))))), .second, .val (.long (Int64.ofNat L)), .second, .val (.ref a3), .val (.int (1 : Int32)), .val (.int (Int32.ofNat ps)), .val (.long (Int64.ofNat (10 ^ (7 - ps)))), .second, .val (.long (((Int64.ofNat H) / (Int64.ofNat (10 ^ (7 - ps)))) - (((Int64.ofNat H) / (Int64.ofNat (10 ^ (7 - ps)))) / (10 : Int64)) * (10 : Int64))), .second] [(.ref em)]))
                    refine g_astore w at_582 (q := 584) rfl rfl (Ls' := #[.val (.int j0), .val (.long k1), .second, .val (.long k2), .second, .val (.int j3), .val (.int j4), .val (.int cc), .val (.int (1 : Int32)), .val (.int (j0 &&& (3 : Int32))), .val (.long ((Int64.ofNat H) + (((cc - (48 : Int32)).toInt64 - (((Int64.ofNat H) / (Int64.ofNat (10 ^ (7 - ps)))) - (((Int64.ofNat H) / (Int64.ofNat (10 ^ (7 - ps)))) / (10 : Int64)) * (10 : Int64))) * (Int64.ofNat (10 ^ (7 - ps)))))), .second, .val (.long (Int64.ofNat L)), .second, .val (.ref a3), .val (.int (1 : Int32)), .val (.ref em), .val (.long (Int64.ofNat (10 ^ (7 - ps)))), .second, .val (.long (((Int64.ofNat H) / (Int64.ofNat (10 ^ (7 - ps)))) - (((Int64.ofNat H) / (Int64.ofNat (10 ^ (7 - ps)))) / (10 : Int64)) * (10 : Int64))), .second]) rfl ?_
                    refine g_iload w at_584 (q := 586) rfl rfl ?_
                    refine g_ifN w at_586 (q := 589) rfl (by decide) ?_
                    refine g_lload w at_589 (q := 591) rfl rfl ?_
                    refine g_lconst w at_591 (q := 592) rfl (v := (0 : Int64)) (by decide) ?_
                    refine g_lcmp w at_592 (q := 593) rfl ?_
                    refine g_lc_ne w at_593 (by decide) (q := 609) (by decide) (q' := 596) rfl (fun cd29 => ?_) (fun cd29 => ?_)
                    · refine g_iconst w at_609 (q := 610) rfl (v := (0 : Int32)) (by decide) ?_
                      refine g_istore w at_610 (q := 612) rfl (Ls' := #[.val (.int j0), .val (.long k1), .second, .val (.long k2), .second, .val (.int j3), .val (.int j4), .val (.int cc), .val (.int (1 : Int32)), .val (.int (j0 &&& (3 : Int32))), .val (.long ((Int64.ofNat H) + (((cc - (48 : Int32)).toInt64 - (((Int64.ofNat H) / (Int64.ofNat (10 ^ (7 - ps)))) - (((Int64.ofNat H) / (Int64.ofNat (10 ^ (7 - ps)))) / (10 : Int64)) * (10 : Int64))) * (Int64.ofNat (10 ^ (7 - ps)))))), .second, .val (.long (Int64.ofNat L)), .second, .val (.ref a3), .val (.int (1 : Int32)), .val (.ref em), .val (.int (0 : Int32)), .unset, .val (.long (((Int64.ofNat H) / (Int64.ofNat (10 ^ (7 - ps)))) - (((Int64.ofNat H) / (Int64.ofNat (10 ^ (7 - ps)))) / (10 : Int64)) * (10 : Int64))), .second]) rfl ?_
                      refine g_iload w at_612 (q := 614) rfl rfl ?_
                      refine g_ifN w at_614 (q := 617) rfl (by decide) ?_
                      refine g_aload w at_617 (q := 619) rfl rfl rfl ?_
                      refine g_virtualP w (con_ip0 l Z a0 hw em _ w.old F_em) no0 X_em at_619 (q := 622) rfl rfl (hw _ (List.mem_of_getElem? (i := 41) rfl)) (hw _ (List.mem_of_getElem? (i := 42) rfl)) (hw _ (List.mem_of_getElem? (i := 44) rfl)) (hw _ (List.mem_of_getElem? (i := 43) rfl)) (hw _ (List.mem_of_getElem? (i := 38) rfl)) (hw _ (List.mem_of_getElem? (i := 45) rfl)) (by decide) (nf (hw _ (List.mem_of_getElem? (i := 44) rfl))) pd12 rfl rfl (W := 0) (Nat.le_of_eq rfl) (by decide) (by decide) (by decide) (by decide) (fun T v w C q => ?_)
                      obtain rfl := q
                      show Go p e below _ (State.setTop T (mkF m 622 #[.val (.int j0), .val (.long k1), .second, .val (.long k2), .second, .val (.int j3), .val (.int j4), .val (.int cc), .val (.int (1 : Int32)), .val (.int (j0 &&& (3 : Int32))), .val (.long ((Int64.ofNat H) + (((cc - (48 : Int32)).toInt64 - (((Int64.ofNat H) / (Int64.ofNat (10 ^ (7 - ps)))) - (((Int64.ofNat H) / (Int64.ofNat (10 ^ (7 - ps)))) / (10 : Int64)) * (10 : Int64))) * (Int64.ofNat (10 ^ (7 - ps)))))), .second, .val (.long (Int64.ofNat L)), .second, .val (.ref a3), .val (.int (1 : Int32)), .val (.ref em), .val (.int (0 : Int32)), .unset, .val (.long (((Int64.ofNat H) / (Int64.ofNat (10 ^ (7 - ps)))) - (((Int64.ofNat H) / (Int64.ofNat (10 ^ (7 - ps)))) / (10 : Int64)) * (10 : Int64))), .second] [(.int (0 : Int32))]))
                      refine g_ifN w at_622 (q := 625) rfl (by decide) ?_
                      refine g_iconst w at_625 (q := 626) rfl (v := (1 : Int32)) (by decide) ?_
                      refine g_goto w at_626 (by decide) (q := 630) (by decide) ?_
                      exact g_retn w at_630 rfl (by simp) rfl (by decide) (by decide) rfl
                    · refine g_lload w at_596 (q := 598) rfl rfl ?_
                      refine g_ldc2J w at_598 (q := 601) rfl (v := (2147483647 : Int64)) (hw _ (List.mem_of_getElem? (i := 136) rfl)) ?_
                      refine g_lcmp w at_601 (q := 602) rfl ?_
                      refine g_lc_gt w at_602 (by decide) (q := 609) (by decide) (q' := 605) rfl (fun cd32 => ?_) (fun cd32 => ?_)
                      · refine g_iconst w at_609 (q := 610) rfl (v := (0 : Int32)) (by decide) ?_
                        refine g_istore w at_610 (q := 612) rfl (Ls' := #[.val (.int j0), .val (.long k1), .second, .val (.long k2), .second, .val (.int j3), .val (.int j4), .val (.int cc), .val (.int (1 : Int32)), .val (.int (j0 &&& (3 : Int32))), .val (.long ((Int64.ofNat H) + (((cc - (48 : Int32)).toInt64 - (((Int64.ofNat H) / (Int64.ofNat (10 ^ (7 - ps)))) - (((Int64.ofNat H) / (Int64.ofNat (10 ^ (7 - ps)))) / (10 : Int64)) * (10 : Int64))) * (Int64.ofNat (10 ^ (7 - ps)))))), .second, .val (.long (Int64.ofNat L)), .second, .val (.ref a3), .val (.int (1 : Int32)), .val (.ref em), .val (.int (0 : Int32)), .unset, .val (.long (((Int64.ofNat H) / (Int64.ofNat (10 ^ (7 - ps)))) - (((Int64.ofNat H) / (Int64.ofNat (10 ^ (7 - ps)))) / (10 : Int64)) * (10 : Int64))), .second]) rfl ?_
                        refine g_iload w at_612 (q := 614) rfl rfl ?_
                        refine g_ifN w at_614 (q := 617) rfl (by decide) ?_
                        refine g_aload w at_617 (q := 619) rfl rfl rfl ?_
                        refine g_virtualP w (con_ip0 l Z a0 hw em _ w.old F_em) no0 X_em at_619 (q := 622) rfl rfl (hw _ (List.mem_of_getElem? (i := 41) rfl)) (hw _ (List.mem_of_getElem? (i := 42) rfl)) (hw _ (List.mem_of_getElem? (i := 44) rfl)) (hw _ (List.mem_of_getElem? (i := 43) rfl)) (hw _ (List.mem_of_getElem? (i := 38) rfl)) (hw _ (List.mem_of_getElem? (i := 45) rfl)) (by decide) (nf (hw _ (List.mem_of_getElem? (i := 44) rfl))) pd12 rfl rfl (W := 0) (Nat.le_of_eq rfl) (by decide) (by decide) (by decide) (by decide) (fun T v w C q => ?_)
                        obtain rfl := q
                        show Go p e below _ (State.setTop T (mkF m 622 #[.val (.int j0), .val (.long k1), .second, .val (.long k2), .second, .val (.int j3), .val (.int j4), .val (.int cc), .val (.int (1 : Int32)), .val (.int (j0 &&& (3 : Int32))), .val (.long ((Int64.ofNat H) + (((cc - (48 : Int32)).toInt64 - (((Int64.ofNat H) / (Int64.ofNat (10 ^ (7 - ps)))) - (((Int64.ofNat H) / (Int64.ofNat (10 ^ (7 - ps)))) / (10 : Int64)) * (10 : Int64))) * (Int64.ofNat (10 ^ (7 - ps)))))), .second, .val (.long (Int64.ofNat L)), .second, .val (.ref a3), .val (.int (1 : Int32)), .val (.ref em), .val (.int (0 : Int32)), .unset, .val (.long (((Int64.ofNat H) / (Int64.ofNat (10 ^ (7 - ps)))) - (((Int64.ofNat H) / (Int64.ofNat (10 ^ (7 - ps)))) / (10 : Int64)) * (10 : Int64))), .second] [(.int (0 : Int32))]))
                        refine g_ifN w at_622 (q := 625) rfl (by decide) ?_
                        refine g_iconst w at_625 (q := 626) rfl (v := (1 : Int32)) (by decide) ?_
                        refine g_goto w at_626 (by decide) (q := 630) (by decide) ?_
                        exact g_retn w at_630 rfl (by simp) rfl (by decide) (by decide) rfl
                      · refine g_iconst w at_605 (q := 606) rfl (v := (1 : Int32)) (by decide) ?_
                        refine g_goto w at_606 (by decide) (q := 610) (by decide) ?_
                        refine g_istore w at_610 (q := 612) rfl (Ls' := #[.val (.int j0), .val (.long k1), .second, .val (.long k2), .second, .val (.int j3), .val (.int j4), .val (.int cc), .val (.int (1 : Int32)), .val (.int (j0 &&& (3 : Int32))), .val (.long ((Int64.ofNat H) + (((cc - (48 : Int32)).toInt64 - (((Int64.ofNat H) / (Int64.ofNat (10 ^ (7 - ps)))) - (((Int64.ofNat H) / (Int64.ofNat (10 ^ (7 - ps)))) / (10 : Int64)) * (10 : Int64))) * (Int64.ofNat (10 ^ (7 - ps)))))), .second, .val (.long (Int64.ofNat L)), .second, .val (.ref a3), .val (.int (1 : Int32)), .val (.ref em), .val (.int (1 : Int32)), .unset, .val (.long (((Int64.ofNat H) / (Int64.ofNat (10 ^ (7 - ps)))) - (((Int64.ofNat H) / (Int64.ofNat (10 ^ (7 - ps)))) / (10 : Int64)) * (10 : Int64))), .second]) rfl ?_
                        refine g_iload w at_612 (q := 614) rfl rfl ?_
                        refine g_ifY w at_614 (by decide) (q := 631) (by decide) (by decide) ?_
                        refine g_aload w at_631 (q := 633) rfl rfl rfl ?_
                        refine g_virtualP w (con_ip0 l Z a0 hw em _ w.old F_em) no0 X_em at_633 (q := 636) rfl rfl (hw _ (List.mem_of_getElem? (i := 41) rfl)) (hw _ (List.mem_of_getElem? (i := 42) rfl)) (hw _ (List.mem_of_getElem? (i := 44) rfl)) (hw _ (List.mem_of_getElem? (i := 43) rfl)) (hw _ (List.mem_of_getElem? (i := 38) rfl)) (hw _ (List.mem_of_getElem? (i := 45) rfl)) (by decide) (nf (hw _ (List.mem_of_getElem? (i := 44) rfl))) pd12 rfl rfl (W := 0) (Nat.le_of_eq rfl) (by decide) (by decide) (by decide) (by decide) (fun T v w C q => ?_)
                        obtain rfl := q
                        show Go p e below _ (State.setTop T (mkF m 636 #[.val (.int j0), .val (.long k1), .second, .val (.long k2), .second, .val (.int j3), .val (.int j4), .val (.int cc), .val (.int (1 : Int32)), .val (.int (j0 &&& (3 : Int32))), .val (.long ((Int64.ofNat H) + (((cc - (48 : Int32)).toInt64 - (((Int64.ofNat H) / (Int64.ofNat (10 ^ (7 - ps)))) - (((Int64.ofNat H) / (Int64.ofNat (10 ^ (7 - ps)))) / (10 : Int64)) * (10 : Int64))) * (Int64.ofNat (10 ^ (7 - ps)))))), .second, .val (.long (Int64.ofNat L)), .second, .val (.ref a3), .val (.int (1 : Int32)), .val (.ref em), .val (.int (1 : Int32)), .unset, .val (.long (((Int64.ofNat H) / (Int64.ofNat (10 ^ (7 - ps)))) - (((Int64.ofNat H) / (Int64.ofNat (10 ^ (7 - ps)))) / (10 : Int64)) * (10 : Int64))), .second] [(.int (0 : Int32))]))
                        refine g_ifY w at_636 (by decide) (q := 654) (by decide) (by decide) ?_
                        refine g_iconst w at_654 (q := 655) rfl (v := (0 : Int32)) (by decide) ?_
                        exact g_retn w at_655 rfl (by simp) rfl (by decide) (by decide) (by obtain ⟨L1, q1, -⟩ := good_ix1 hG cd29 cd32; rw [hix] at q1; cases q1)
                  · show Go p e below _ (State.setTop T (mkF m 582 #[.val (.int j0), .val (.long k1), .second, .val (.long k2), .second, .val (.int j3), .val (.int j4), .val (.int cc), .val (.int (1 : Int32)), .val (.int (j0 &&& (3 : Int32))), .val (.long ((Int64.ofNat H) + (((cc - (48 : Int32)).toInt64 - (((Int64.ofNat H) / (Int64.ofNat (10 ^ (7 - ps)))) - (((Int64.ofNat H) / (Int64.ofNat (10 ^ (7 - ps)))) / (10 : Int64)) * (10 : Int64))) * (Int64.ofNat (10 ^ (7 - ps)))))), .second, .val (.long (Int64.ofNat L)), .second, .val (.ref a3), .val (.int (1 : Int32)), .val (.int (Int32.ofNat ps)), .val (.long (Int64.ofNat (10 ^ (7 - ps)))), .second, .val (.long (((Int64.ofNat H) / (Int64.ofNat (10 ^ (7 - ps)))) - (((Int64.ofNat H) / (Int64.ofNat (10 ^ (7 - ps)))) / (10 : Int64)) * (10 : Int64))), .second] [(.ref o)]))
                    refine g_astore w at_582 (q := 584) rfl rfl (Ls' := #[.val (.int j0), .val (.long k1), .second, .val (.long k2), .second, .val (.int j3), .val (.int j4), .val (.int cc), .val (.int (1 : Int32)), .val (.int (j0 &&& (3 : Int32))), .val (.long ((Int64.ofNat H) + (((cc - (48 : Int32)).toInt64 - (((Int64.ofNat H) / (Int64.ofNat (10 ^ (7 - ps)))) - (((Int64.ofNat H) / (Int64.ofNat (10 ^ (7 - ps)))) / (10 : Int64)) * (10 : Int64))) * (Int64.ofNat (10 ^ (7 - ps)))))), .second, .val (.long (Int64.ofNat L)), .second, .val (.ref a3), .val (.int (1 : Int32)), .val (.ref o), .val (.long (Int64.ofNat (10 ^ (7 - ps)))), .second, .val (.long (((Int64.ofNat H) / (Int64.ofNat (10 ^ (7 - ps)))) - (((Int64.ofNat H) / (Int64.ofNat (10 ^ (7 - ps)))) / (10 : Int64)) * (10 : Int64))), .second]) rfl ?_
                    refine g_iload w at_584 (q := 586) rfl rfl ?_
                    refine g_ifN w at_586 (q := 589) rfl (by decide) ?_
                    refine g_lload w at_589 (q := 591) rfl rfl ?_
                    refine g_lconst w at_591 (q := 592) rfl (v := (0 : Int64)) (by decide) ?_
                    refine g_lcmp w at_592 (q := 593) rfl ?_
                    refine g_lc_ne w at_593 (by decide) (q := 609) (by decide) (q' := 596) rfl (fun cd38 => ?_) (fun cd38 => ?_)
                    · refine g_iconst w at_609 (q := 610) rfl (v := (0 : Int32)) (by decide) ?_
                      refine g_istore w at_610 (q := 612) rfl (Ls' := #[.val (.int j0), .val (.long k1), .second, .val (.long k2), .second, .val (.int j3), .val (.int j4), .val (.int cc), .val (.int (1 : Int32)), .val (.int (j0 &&& (3 : Int32))), .val (.long ((Int64.ofNat H) + (((cc - (48 : Int32)).toInt64 - (((Int64.ofNat H) / (Int64.ofNat (10 ^ (7 - ps)))) - (((Int64.ofNat H) / (Int64.ofNat (10 ^ (7 - ps)))) / (10 : Int64)) * (10 : Int64))) * (Int64.ofNat (10 ^ (7 - ps)))))), .second, .val (.long (Int64.ofNat L)), .second, .val (.ref a3), .val (.int (1 : Int32)), .val (.ref o), .val (.int (0 : Int32)), .unset, .val (.long (((Int64.ofNat H) / (Int64.ofNat (10 ^ (7 - ps)))) - (((Int64.ofNat H) / (Int64.ofNat (10 ^ (7 - ps)))) / (10 : Int64)) * (10 : Int64))), .second]) rfl ?_
                      refine g_iload w at_612 (q := 614) rfl rfl ?_
                      refine g_ifN w at_614 (q := 617) rfl (by decide) ?_
                      refine g_aload w at_617 (q := 619) rfl rfl rfl ?_
                      refine g_virtualP w (con_ip1 l Z a0 hw o _ w.old F_po) no0 X_o at_619 (q := 622) rfl rfl (hw _ (List.mem_of_getElem? (i := 41) rfl)) (hw _ (List.mem_of_getElem? (i := 42) rfl)) (hw _ (List.mem_of_getElem? (i := 44) rfl)) (hw _ (List.mem_of_getElem? (i := 43) rfl)) (hw _ (List.mem_of_getElem? (i := 38) rfl)) (hw _ (List.mem_of_getElem? (i := 45) rfl)) (by decide) (nf (hw _ (List.mem_of_getElem? (i := 44) rfl))) pd12 rfl rfl (W := 0) (Nat.le_of_eq rfl) (by decide) (by decide) (by decide) (by decide) (fun T v w C q => ?_)
                      obtain rfl := q
                      show Go p e below _ (State.setTop T (mkF m 622 #[.val (.int j0), .val (.long k1), .second, .val (.long k2), .second, .val (.int j3), .val (.int j4), .val (.int cc), .val (.int (1 : Int32)), .val (.int (j0 &&& (3 : Int32))), .val (.long ((Int64.ofNat H) + (((cc - (48 : Int32)).toInt64 - (((Int64.ofNat H) / (Int64.ofNat (10 ^ (7 - ps)))) - (((Int64.ofNat H) / (Int64.ofNat (10 ^ (7 - ps)))) / (10 : Int64)) * (10 : Int64))) * (Int64.ofNat (10 ^ (7 - ps)))))), .second, .val (.long (Int64.ofNat L)), .second, .val (.ref a3), .val (.int (1 : Int32)), .val (.ref o), .val (.int (0 : Int32)), .unset, .val (.long (((Int64.ofNat H) / (Int64.ofNat (10 ^ (7 - ps)))) - (((Int64.ofNat H) / (Int64.ofNat (10 ^ (7 - ps)))) / (10 : Int64)) * (10 : Int64))), .second] [(.int (1 : Int32))]))
                      refine g_ifY w at_622 (by decide) (q := 629) (by decide) (by decide) ?_
                      refine g_iconst w at_629 (q := 630) rfl (v := (0 : Int32)) (by decide) ?_
                      exact g_retn w at_630 rfl (by simp) rfl (by decide) (by decide) (absurd (hix.symm.trans (good_ix0 hG (Or.inl cd38))) (by simp))
                    · refine g_lload w at_596 (q := 598) rfl rfl ?_
                      refine g_ldc2J w at_598 (q := 601) rfl (v := (2147483647 : Int64)) (hw _ (List.mem_of_getElem? (i := 136) rfl)) ?_
                      refine g_lcmp w at_601 (q := 602) rfl ?_
                      refine g_lc_gt w at_602 (by decide) (q := 609) (by decide) (q' := 605) rfl (fun cd41 => ?_) (fun cd41 => ?_)
                      · refine g_iconst w at_609 (q := 610) rfl (v := (0 : Int32)) (by decide) ?_
                        refine g_istore w at_610 (q := 612) rfl (Ls' := #[.val (.int j0), .val (.long k1), .second, .val (.long k2), .second, .val (.int j3), .val (.int j4), .val (.int cc), .val (.int (1 : Int32)), .val (.int (j0 &&& (3 : Int32))), .val (.long ((Int64.ofNat H) + (((cc - (48 : Int32)).toInt64 - (((Int64.ofNat H) / (Int64.ofNat (10 ^ (7 - ps)))) - (((Int64.ofNat H) / (Int64.ofNat (10 ^ (7 - ps)))) / (10 : Int64)) * (10 : Int64))) * (Int64.ofNat (10 ^ (7 - ps)))))), .second, .val (.long (Int64.ofNat L)), .second, .val (.ref a3), .val (.int (1 : Int32)), .val (.ref o), .val (.int (0 : Int32)), .unset, .val (.long (((Int64.ofNat H) / (Int64.ofNat (10 ^ (7 - ps)))) - (((Int64.ofNat H) / (Int64.ofNat (10 ^ (7 - ps)))) / (10 : Int64)) * (10 : Int64))), .second]) rfl ?_
                        refine g_iload w at_612 (q := 614) rfl rfl ?_
                        refine g_ifN w at_614 (q := 617) rfl (by decide) ?_
                        refine g_aload w at_617 (q := 619) rfl rfl rfl ?_
                        refine g_virtualP w (con_ip1 l Z a0 hw o _ w.old F_po) no0 X_o at_619 (q := 622) rfl rfl (hw _ (List.mem_of_getElem? (i := 41) rfl)) (hw _ (List.mem_of_getElem? (i := 42) rfl)) (hw _ (List.mem_of_getElem? (i := 44) rfl)) (hw _ (List.mem_of_getElem? (i := 43) rfl)) (hw _ (List.mem_of_getElem? (i := 38) rfl)) (hw _ (List.mem_of_getElem? (i := 45) rfl)) (by decide) (nf (hw _ (List.mem_of_getElem? (i := 44) rfl))) pd12 rfl rfl (W := 0) (Nat.le_of_eq rfl) (by decide) (by decide) (by decide) (by decide) (fun T v w C q => ?_)
                        obtain rfl := q
                        show Go p e below _ (State.setTop T (mkF m 622 #[.val (.int j0), .val (.long k1), .second, .val (.long k2), .second, .val (.int j3), .val (.int j4), .val (.int cc), .val (.int (1 : Int32)), .val (.int (j0 &&& (3 : Int32))), .val (.long ((Int64.ofNat H) + (((cc - (48 : Int32)).toInt64 - (((Int64.ofNat H) / (Int64.ofNat (10 ^ (7 - ps)))) - (((Int64.ofNat H) / (Int64.ofNat (10 ^ (7 - ps)))) / (10 : Int64)) * (10 : Int64))) * (Int64.ofNat (10 ^ (7 - ps)))))), .second, .val (.long (Int64.ofNat L)), .second, .val (.ref a3), .val (.int (1 : Int32)), .val (.ref o), .val (.int (0 : Int32)), .unset, .val (.long (((Int64.ofNat H) / (Int64.ofNat (10 ^ (7 - ps)))) - (((Int64.ofNat H) / (Int64.ofNat (10 ^ (7 - ps)))) / (10 : Int64)) * (10 : Int64))), .second] [(.int (1 : Int32))]))
                        refine g_ifY w at_622 (by decide) (q := 629) (by decide) (by decide) ?_
                        refine g_iconst w at_629 (q := 630) rfl (v := (0 : Int32)) (by decide) ?_
                        exact g_retn w at_630 rfl (by simp) rfl (by decide) (by decide) (absurd (hix.symm.trans (good_ix0 hG (Or.inr cd41))) (by simp))
                      · refine g_iconst w at_605 (q := 606) rfl (v := (1 : Int32)) (by decide) ?_
                        refine g_goto w at_606 (by decide) (q := 610) (by decide) ?_
                        refine g_istore w at_610 (q := 612) rfl (Ls' := #[.val (.int j0), .val (.long k1), .second, .val (.long k2), .second, .val (.int j3), .val (.int j4), .val (.int cc), .val (.int (1 : Int32)), .val (.int (j0 &&& (3 : Int32))), .val (.long ((Int64.ofNat H) + (((cc - (48 : Int32)).toInt64 - (((Int64.ofNat H) / (Int64.ofNat (10 ^ (7 - ps)))) - (((Int64.ofNat H) / (Int64.ofNat (10 ^ (7 - ps)))) / (10 : Int64)) * (10 : Int64))) * (Int64.ofNat (10 ^ (7 - ps)))))), .second, .val (.long (Int64.ofNat L)), .second, .val (.ref a3), .val (.int (1 : Int32)), .val (.ref o), .val (.int (1 : Int32)), .unset, .val (.long (((Int64.ofNat H) / (Int64.ofNat (10 ^ (7 - ps)))) - (((Int64.ofNat H) / (Int64.ofNat (10 ^ (7 - ps)))) / (10 : Int64)) * (10 : Int64))), .second]) rfl ?_
                        refine g_iload w at_612 (q := 614) rfl rfl ?_
                        refine g_ifY w at_614 (by decide) (q := 631) (by decide) (by decide) ?_
                        refine g_aload w at_631 (q := 633) rfl rfl rfl ?_
                        refine g_virtualP w (con_ip1 l Z a0 hw o _ w.old F_po) no0 X_o at_633 (q := 636) rfl rfl (hw _ (List.mem_of_getElem? (i := 41) rfl)) (hw _ (List.mem_of_getElem? (i := 42) rfl)) (hw _ (List.mem_of_getElem? (i := 44) rfl)) (hw _ (List.mem_of_getElem? (i := 43) rfl)) (hw _ (List.mem_of_getElem? (i := 38) rfl)) (hw _ (List.mem_of_getElem? (i := 45) rfl)) (by decide) (nf (hw _ (List.mem_of_getElem? (i := 44) rfl))) pd12 rfl rfl (W := 0) (Nat.le_of_eq rfl) (by decide) (by decide) (by decide) (by decide) (fun T v w C q => ?_)
                        obtain rfl := q
                        show Go p e below _ (State.setTop T (mkF m 636 #[.val (.int j0), .val (.long k1), .second, .val (.long k2), .second, .val (.int j3), .val (.int j4), .val (.int cc), .val (.int (1 : Int32)), .val (.int (j0 &&& (3 : Int32))), .val (.long ((Int64.ofNat H) + (((cc - (48 : Int32)).toInt64 - (((Int64.ofNat H) / (Int64.ofNat (10 ^ (7 - ps)))) - (((Int64.ofNat H) / (Int64.ofNat (10 ^ (7 - ps)))) / (10 : Int64)) * (10 : Int64))) * (Int64.ofNat (10 ^ (7 - ps)))))), .second, .val (.long (Int64.ofNat L)), .second, .val (.ref a3), .val (.int (1 : Int32)), .val (.ref o), .val (.int (1 : Int32)), .unset, .val (.long (((Int64.ofNat H) / (Int64.ofNat (10 ^ (7 - ps)))) - (((Int64.ofNat H) / (Int64.ofNat (10 ^ (7 - ps)))) / (10 : Int64)) * (10 : Int64))), .second] [(.int (1 : Int32))]))
                        refine g_ifN w at_636 (q := 639) rfl (by decide) ?_
                        refine g_aload w at_639 (q := 641) rfl rfl rfl ?_
                        refine g_virtualP w (con_gai l Z a0 hw o (Int32.ofNat nn) _ w.old F_po F_vo) no0 X_o at_641 (q := 644) rfl rfl (hw _ (List.mem_of_getElem? (i := 149) rfl)) (hw _ (List.mem_of_getElem? (i := 150) rfl)) (hw _ (List.mem_of_getElem? (i := 152) rfl)) (hw _ (List.mem_of_getElem? (i := 151) rfl)) (hw _ (List.mem_of_getElem? (i := 38) rfl)) (hw _ (List.mem_of_getElem? (i := 153) rfl)) (by decide) (nf (hw _ (List.mem_of_getElem? (i := 152) rfl))) pd19 rfl rfl (W := 0) (Nat.le_of_eq rfl) (by decide) (by decide) (by decide) (by decide) (fun T v w C q => ?_)
                        obtain rfl := q
                        show Go p e below _ (State.setTop T (mkF m 644 #[.val (.int j0), .val (.long k1), .second, .val (.long k2), .second, .val (.int j3), .val (.int j4), .val (.int cc), .val (.int (1 : Int32)), .val (.int (j0 &&& (3 : Int32))), .val (.long ((Int64.ofNat H) + (((cc - (48 : Int32)).toInt64 - (((Int64.ofNat H) / (Int64.ofNat (10 ^ (7 - ps)))) - (((Int64.ofNat H) / (Int64.ofNat (10 ^ (7 - ps)))) / (10 : Int64)) * (10 : Int64))) * (Int64.ofNat (10 ^ (7 - ps)))))), .second, .val (.long (Int64.ofNat L)), .second, .val (.ref a3), .val (.int (1 : Int32)), .val (.ref o), .val (.int (1 : Int32)), .unset, .val (.long (((Int64.ofNat H) / (Int64.ofNat (10 ^ (7 - ps)))) - (((Int64.ofNat H) / (Int64.ofNat (10 ^ (7 - ps)))) / (10 : Int64)) * (10 : Int64))), .second] [(.int (Int32.ofNat nn))]))
                        refine g_lload w at_644 (q := 646) rfl rfl ?_
                        refine g_l2i w at_646 (q := 647) rfl ?_
                        refine g_icN w at_647 (q := 650) rfl (Jvm.Free.XT.ii_ne_f (by obtain ⟨L1, q1, q2, q3⟩ := good_ix1 hG cd38 cd41; rw [hix] at q1; cases q1; rw [q3, l2i_nat q2])) ?_
                        refine g_iconst w at_650 (q := 651) rfl (v := (1 : Int32)) (by decide) ?_
                        refine g_goto w at_651 (by decide) (q := 655) (by decide) ?_
                        exact g_retn w at_655 rfl (by simp) rfl (by decide) (by decide) rfl
                · refine g_icY w at_468 (by decide) (q := 512) (by decide) (Jvm.Free.XT.ii_ge_t (not_lt_ofNat (n := 8) (by omega) (by omega))) ?_
                  refine g_bipush w at_512 (q := 514) rfl (v := (19 : Int32)) (by decide) ?_
                  refine g_iload w at_514 (q := 516) rfl rfl ?_
                  refine g_isub w at_516 (q := 517) rfl ?_
                  rw [sub19 ps hps]
                  show Go p e below _ (State.setTop T (mkF m 517 #[.val (.int j0), .val (.long k1), .second, .val (.long k2), .second, .val (.int j3), .val (.int j4), .val (.int cc), .val (.int (1 : Int32)), .val (.int (j0 &&& (3 : Int32))), .val (.long (Int64.ofNat H)), .second, .val (.long (Int64.ofNat L)), .second, .val (.ref a3), .val (.int (1 : Int32)), .val (.int (Int32.ofNat ps)), .unset, .unset, .unset, .unset] [(.int (Int32.ofNat (19 - ps)))]))
                  refine g_static w (con_pow l Z a0 hw (19 - ps) _ w.old (by omega)) no0 at_517 (q := 520) rfl rfl (hw _ (List.mem_of_getElem? (i := 186) rfl)) (hw _ (List.mem_of_getElem? (i := 187) rfl)) (hw _ (List.mem_of_getElem? (i := 55) rfl)) (hw _ (List.mem_of_getElem? (i := 188) rfl)) (by decide) pd25 rfl rfl (W := 0) (Nat.le_of_eq rfl) (by decide) (by decide) (by decide) (by decide) (fun T h v w gs C q => ?_)
                  obtain ⟨rfl, E⟩ := q
                  replace E0 := ext_trans E0 E
                  replace A_a3 := A_a3.ext E
                  show Go p e below _ (State.setTop T (mkF m 520 #[.val (.int j0), .val (.long k1), .second, .val (.long k2), .second, .val (.int j3), .val (.int j4), .val (.int cc), .val (.int (1 : Int32)), .val (.int (j0 &&& (3 : Int32))), .val (.long (Int64.ofNat H)), .second, .val (.long (Int64.ofNat L)), .second, .val (.ref a3), .val (.int (1 : Int32)), .val (.int (Int32.ofNat ps)), .unset, .unset, .unset, .unset] [(.long (Int64.ofNat (10 ^ (19 - ps))))]))
                  refine g_lstore w at_520 (q := 522) rfl (Ls' := #[.val (.int j0), .val (.long k1), .second, .val (.long k2), .second, .val (.int j3), .val (.int j4), .val (.int cc), .val (.int (1 : Int32)), .val (.int (j0 &&& (3 : Int32))), .val (.long (Int64.ofNat H)), .second, .val (.long (Int64.ofNat L)), .second, .val (.ref a3), .val (.int (1 : Int32)), .val (.int (Int32.ofNat ps)), .val (.long (Int64.ofNat (10 ^ (19 - ps)))), .second, .unset, .unset]) rfl ?_
                  refine g_lload w at_522 (q := 524) rfl rfl ?_
                  refine g_lload w at_524 (q := 526) rfl rfl ?_
                  refine g_ldiv w at_526 (q := 527) rfl (pw_ne _ (by omega)) ?_
                  refine g_ldc2J w at_527 (q := 530) rfl (v := (10 : Int64)) (hw _ (List.mem_of_getElem? (i := 57) rfl)) ?_
                  refine g_lrem w at_530 (q := 531) rfl (by decide) ?_
                  refine g_lstore w at_531 (q := 533) rfl (Ls' := #[.val (.int j0), .val (.long k1), .second, .val (.long k2), .second, .val (.int j3), .val (.int j4), .val (.int cc), .val (.int (1 : Int32)), .val (.int (j0 &&& (3 : Int32))), .val (.long (Int64.ofNat H)), .second, .val (.long (Int64.ofNat L)), .second, .val (.ref a3), .val (.int (1 : Int32)), .val (.int (Int32.ofNat ps)), .val (.long (Int64.ofNat (10 ^ (19 - ps)))), .second, .val (.long (((Int64.ofNat L) / (Int64.ofNat (10 ^ (19 - ps)))) - (((Int64.ofNat L) / (Int64.ofNat (10 ^ (19 - ps)))) / (10 : Int64)) * (10 : Int64))), .second]) rfl ?_
                  refine g_lload w at_533 (q := 535) rfl rfl ?_
                  refine g_iload w at_535 (q := 537) rfl rfl ?_
                  refine g_bipush w at_537 (q := 539) rfl (v := (48 : Int32)) (by decide) ?_
                  refine g_isub w at_539 (q := 540) rfl ?_
                  refine g_i2l w at_540 (q := 541) rfl ?_
                  refine g_lload w at_541 (q := 543) rfl rfl ?_
                  refine g_lsub w at_543 (q := 544) rfl ?_
                  refine g_lload w at_544 (q := 546) rfl rfl ?_
                  refine g_lmul w at_546 (q := 547) rfl ?_
                  refine g_ladd w at_547 (q := 548) rfl ?_
                  refine g_lstore w at_548 (q := 550) rfl (Ls' := #[.val (.int j0), .val (.long k1), .second, .val (.long k2), .second, .val (.int j3), .val (.int j4), .val (.int cc), .val (.int (1 : Int32)), .val (.int (j0 &&& (3 : Int32))), .val (.long (Int64.ofNat H)), .second, .val (.long ((Int64.ofNat L) + (((cc - (48 : Int32)).toInt64 - (((Int64.ofNat L) / (Int64.ofNat (10 ^ (19 - ps)))) - (((Int64.ofNat L) / (Int64.ofNat (10 ^ (19 - ps)))) / (10 : Int64)) * (10 : Int64))) * (Int64.ofNat (10 ^ (19 - ps)))))), .second, .val (.ref a3), .val (.int (1 : Int32)), .val (.int (Int32.ofNat ps)), .val (.long (Int64.ofNat (10 ^ (19 - ps)))), .second, .val (.long (((Int64.ofNat L) / (Int64.ofNat (10 ^ (19 - ps)))) - (((Int64.ofNat L) / (Int64.ofNat (10 ^ (19 - ps)))) / (10 : Int64)) * (10 : Int64))), .second]) rfl ?_
                  refine g_goto w at_550 (by decide) (q := 556) (by decide) ?_
                  refine g_aload w at_556 (q := 558) rfl rfl rfl ?_
                  refine g_iload w at_558 (q := 560) rfl rfl ?_
                  refine g_iload w at_560 (q := 562) rfl rfl ?_
                  refine g_castore w at_562 (q := 563) rfl A_a3 (i := ps) rfl hps (x' := cc) (nar_chr lcc) n_a3 (w.safeAr A_a3 (by decide)) (fun T h w W V => ?_)
                  replace E0 := ext_wr E0 W z_a3
                  rw [← List.map_set] at V
                  replace A_a3 := V
                  have hG : Good ((bs20 (Int64.ofNat H) (Int64.ofNat L)).set ps cc) (Int64.ofNat H) ((Int64.ofNat L) + (((cc - (48 : Int32)).toInt64 - (((Int64.ofNat L) / (Int64.ofNat (10 ^ (19 - ps)))) - (((Int64.ofNat L) / (Int64.ofNat (10 ^ (19 - ps)))) / (10 : Int64)) * (10 : Int64))) * (Int64.ofNat (10 ^ (19 - ps))))) := good_lo hH hL hp8 hps hdg
                  refine g_new w at_563 (q := 566) rfl (hw _ (List.mem_of_getElem? (i := 1) rfl)) (hw _ (List.mem_of_getElem? (i := 2) rfl)) (hw _ (List.mem_of_getElem? (i := 3) rfl)) (by decide) (by decide) (fun T h a46 w E g_a46 n_a46 X_a46 D_a46 s_a46 => ?_)
                  have z_a46 := Nat.le_trans E0.1 g_a46
                  have ne_a3_a46 : a3 ≠ a46 := Nat.ne_of_lt (Nat.lt_of_lt_of_le A_a3.lt g_a46)
                  replace E0 := ext_trans E0 E
                  replace A_a3 := A_a3.ext E
                  have F_key_a46 := D_a46 (Or.inr (hw _ (List.mem_of_getElem? (i := 24) rfl))) (ty := (.object "java/lang/String")) (by decide)
                  replace F_key_a46 : Fld Z h a46 "com/example/stepwize/stepwize/binding/PropertyPath$Element" "key" "Ljava/lang/String;" .null := F_key_a46
                  refine g_dup w at_566 (q := 567) rfl rfl ?_
                  refine g_new w at_567 (q := 570) rfl (hw _ (List.mem_of_getElem? (i := 66) rfl)) (hw _ (List.mem_of_getElem? (i := 6) rfl)) (hw _ (List.mem_of_getElem? (i := 5) rfl)) (by decide) (by decide) (fun T h a47 w E g_a47 n_a47 X_a47 D_a47 s_a47 => ?_)
                  have z_a47 := Nat.le_trans E0.1 g_a47
                  have ne_a46_a47 : a46 ≠ a47 := Nat.ne_of_lt (Nat.lt_of_lt_of_le X_a46.lt g_a47)
                  have ne_a3_a47 : a3 ≠ a47 := Nat.ne_of_lt (Nat.lt_of_lt_of_le A_a3.lt g_a47)
                  replace E0 := ext_trans E0 E
                  replace A_a3 := A_a3.ext E
                  replace X_a46 := X_a46.ext E
                  replace F_key_a46 := F_key_a46.ext E
                  have F_value_a47 := D_a47 (Or.inr (hw _ (List.mem_of_getElem? (i := 8) rfl))) (ty := (.array .byte)) (by decide)
                  replace F_value_a47 : Fld Z h a47 "java/lang/String" "value" "[B" .null := F_value_a47
                  have F_coder_a47 := D_a47 (Or.inr (hw _ (List.mem_of_getElem? (i := 9) rfl))) (ty := .byte) (by decide)
                  replace F_coder_a47 : Fld Z h a47 "java/lang/String" "coder" "B" (.int (0 : Int32)) := F_coder_a47
                  refine g_dup w at_570 (q := 571) rfl rfl ?_
                  refine g_aload w at_571 (q := 573) rfl rfl rfl ?_
                  refine g_special w (con_new1U l Z a0 hw a47 a3 ((bs20 (Int64.ofNat H) (Int64.ofNat L)).set ps cc) _ w.old X_a47 F_value_a47 F_coder_a47 n_a47 A_a3 ne_a3_a47 (by rw [List.length_set]; exact Nat.le_refl 20) (set_mem (bs_16 _ _) lcc) (by rw [List.length_set]; exact Nat.zero_lt_succ 19) hcm SA_ SH_ SL_) no0 at_573 (q := 576) rfl rfl rfl (hw _ (List.mem_of_getElem? (i := 67) rfl)) (hw _ (List.mem_of_getElem? (i := 68) rfl)) (hw _ (List.mem_of_getElem? (i := 5) rfl)) (hw _ (List.mem_of_getElem? (i := 69) rfl)) (by decide) pd23 rfl rfl (W := 3) (Nat.le_of_eq rfl) (by decide) (by decide) (by decide) (by decide) (fun T h v w gs C q => ?_)
                  obtain ⟨rfl, K, U_a47⟩ := q
                  replace E0 := ext_keep E0 K z_a47
                  have X0 := X_a47
                  replace A_a3 := A_a3.keep K (not1 ne_a3_a47)
                  replace X_a46 := X_a46.keep K
                  replace F_key_a46 := F_key_a46.keep K (not1 ne_a46_a47)
                  replace X_a47 := X_a47.keep K
                  show Go p e below _ (State.setTop T (mkF m 576 #[.val (.int j0), .val (.long k1), .second, .val (.long k2), .second, .val (.int j3), .val (.int j4), .val (.int cc), .val (.int (1 : Int32)), .val (.int (j0 &&& (3 : Int32))), .val (.long (Int64.ofNat H)), .second, .val (.long ((Int64.ofNat L) + (((cc - (48 : Int32)).toInt64 - (((Int64.ofNat L) / (Int64.ofNat (10 ^ (19 - ps)))) - (((Int64.ofNat L) / (Int64.ofNat (10 ^ (19 - ps)))) / (10 : Int64)) * (10 : Int64))) * (Int64.ofNat (10 ^ (19 - ps)))))), .second, .val (.ref a3), .val (.int (1 : Int32)), .val (.int (Int32.ofNat ps)), .val (.long (Int64.ofNat (10 ^ (19 - ps)))), .second, .val (.long (((Int64.ofNat L) / (Int64.ofNat (10 ^ (19 - ps)))) - (((Int64.ofNat L) / (Int64.ofNat (10 ^ (19 - ps)))) / (10 : Int64)) * (10 : Int64))), .second] [(.ref a47), (.ref a46), (.ref a46)]))
                  refine g_special w (con_el l Z a0 hw a46 a47 _ w.old X_a46 F_key_a46 n_a46) no0 at_576 (q := 579) rfl rfl rfl (hw _ (List.mem_of_getElem? (i := 12) rfl)) (hw _ (List.mem_of_getElem? (i := 13) rfl)) (hw _ (List.mem_of_getElem? (i := 3) rfl)) (hw _ (List.mem_of_getElem? (i := 14) rfl)) (by decide) pd24 rfl rfl (W := 1) (Nat.le_of_eq rfl) (by decide) (by decide) (by decide) (by decide) (fun T h v w gs C q => ?_)
                  obtain ⟨rfl, K, G_key⟩ := q
                  replace E0 := ext_keep E0 K z_a46
                  have X0 := X_a46
                  replace X_a46 := X_a46.keep K
                  replace U_a47 := U_a47.keepO K ne_a46_a47.symm X0 (hw _ (List.mem_of_getElem? (i := 2) rfl))
                  replace F_key_a46 := G_key
                  show Go p e below _ (State.setTop T (mkF m 579 #[.val (.int j0), .val (.long k1), .second, .val (.long k2), .second, .val (.int j3), .val (.int j4), .val (.int cc), .val (.int (1 : Int32)), .val (.int (j0 &&& (3 : Int32))), .val (.long (Int64.ofNat H)), .second, .val (.long ((Int64.ofNat L) + (((cc - (48 : Int32)).toInt64 - (((Int64.ofNat L) / (Int64.ofNat (10 ^ (19 - ps)))) - (((Int64.ofNat L) / (Int64.ofNat (10 ^ (19 - ps)))) / (10 : Int64)) * (10 : Int64))) * (Int64.ofNat (10 ^ (19 - ps)))))), .second, .val (.ref a3), .val (.int (1 : Int32)), .val (.int (Int32.ofNat ps)), .val (.long (Int64.ofNat (10 ^ (19 - ps)))), .second, .val (.long (((Int64.ofNat L) / (Int64.ofNat (10 ^ (19 - ps)))) - (((Int64.ofNat L) / (Int64.ofNat (10 ^ (19 - ps)))) / (10 : Int64)) * (10 : Int64))), .second] [(.ref a46)]))
                  refine g_virtual w (con_index l Z a0 hw fm em a46 a47 ((bs20 (Int64.ofNat H) (Int64.ofNat L)).set ps cc) _ w.old X_a46 F_key_a46 U_a47 (by rw [List.length_set]; exact Nat.le_refl 20) hcm SFm rfm SA_ SH_ SL_ SE_) no0 X_a46 at_579 (q := 582) rfl rfl (hw _ (List.mem_of_getElem? (i := 25) rfl)) (hw _ (List.mem_of_getElem? (i := 26) rfl)) (hw _ (List.mem_of_getElem? (i := 28) rfl)) (hw _ (List.mem_of_getElem? (i := 27) rfl)) (hw _ (List.mem_of_getElem? (i := 3) rfl)) (hw _ (List.mem_of_getElem? (i := 29) rfl)) (by decide) (nf (hw _ (List.mem_of_getElem? (i := 28) rfl))) pd18 rfl rfl (W := 0) (Nat.le_of_eq rfl) (by decide) (by decide) (by decide) (by decide) (fun T h v w gs C q => ?_)
                  obtain ⟨o, rfl, E, hq⟩ := q
                  replace E0 := ext_trans E0 E
                  replace X_a46 := X_a46.ext E
                  replace U_a47 := U_a47.ext E
                  replace F_key_a46 := F_key_a46.ext E
                  rcases hq with ⟨hix, ho⟩ | ⟨nn, hix, hmx, g_o, X_o, F_po, F_vo⟩
                  · rw [ho]
                    have X_em := XE_.ext w.old
                    have F_em := FE_.ext w.old
                    show Go p e below _ (State.setTop T (mkF m 582 #[.val (.int j0), .val (.long k1), .second, .val (.long k2), .second, .val (.int j3), .val (.int j4), .val (.int cc), .val (.int (1 : Int32)), .val (.int (j0 &&& (3 : Int32))), .val (.long (Int64.ofNat H)), .second, .val (.long ((Int64.ofNat L) + (((cc - (48 : Int32)).toInt64 - (((Int64.ofNat L) / (Int64.ofNat (10 ^ (19 - ps)))) - (((Int64.ofNat L) / (Int64.ofNat (10 ^ (19 - ps)))) / (10 : Int64)) * (10 : Int64))) * (Int64.ofNat (10 ^ (19 - ps)))))), .second, .val (.ref a3), .val (.int (1 : Int32)), .val (.int (Int32.ofNat ps)), .val (.long (Int64.ofNat (10 ^ (19 - ps)))), .second, .val (.long (((Int64.ofNat L) / (Int64.ofNat (10 ^ (19 - ps)))) - (((Int64.ofNat L) / (Int64.ofNat (10 ^ (19 - ps)))) / (10 : Int64)) * (10 : Int64))), .second] [(.ref em)]))
                    refine g_astore w at_582 (q := 584) rfl rfl (Ls' := #[.val (.int j0), .val (.long k1), .second, .val (.long k2), .second, .val (.int j3), .val (.int j4), .val (.int cc), .val (.int (1 : Int32)), .val (.int (j0 &&& (3 : Int32))), .val (.long (Int64.ofNat H)), .second, .val (.long ((Int64.ofNat L) + (((cc - (48 : Int32)).toInt64 - (((Int64.ofNat L) / (Int64.ofNat (10 ^ (19 - ps)))) - (((Int64.ofNat L) / (Int64.ofNat (10 ^ (19 - ps)))) / (10 : Int64)) * (10 : Int64))) * (Int64.ofNat (10 ^ (19 - ps)))))), .second, .val (.ref a3), .val (.int (1 : Int32)), .val (.ref em), .val (.long (Int64.ofNat (10 ^ (19 - ps)))), .second, .val (.long (((Int64.ofNat L) / (Int64.ofNat (10 ^ (19 - ps)))) - (((Int64.ofNat L) / (Int64.ofNat (10 ^ (19 - ps)))) / (10 : Int64)) * (10 : Int64))), .second]) rfl ?_
                    refine g_iload w at_584 (q := 586) rfl rfl ?_
                    refine g_ifN w at_586 (q := 589) rfl (by decide) ?_
                    refine g_lload w at_589 (q := 591) rfl rfl ?_
                    refine g_lconst w at_591 (q := 592) rfl (v := (0 : Int64)) (by decide) ?_
                    refine g_lcmp w at_592 (q := 593) rfl ?_
                    refine g_lc_ne w at_593 (by decide) (q := 609) (by decide) (q' := 596) rfl (fun cd49 => ?_) (fun cd49 => ?_)
                    · refine g_iconst w at_609 (q := 610) rfl (v := (0 : Int32)) (by decide) ?_
                      refine g_istore w at_610 (q := 612) rfl (Ls' := #[.val (.int j0), .val (.long k1), .second, .val (.long k2), .second, .val (.int j3), .val (.int j4), .val (.int cc), .val (.int (1 : Int32)), .val (.int (j0 &&& (3 : Int32))), .val (.long (Int64.ofNat H)), .second, .val (.long ((Int64.ofNat L) + (((cc - (48 : Int32)).toInt64 - (((Int64.ofNat L) / (Int64.ofNat (10 ^ (19 - ps)))) - (((Int64.ofNat L) / (Int64.ofNat (10 ^ (19 - ps)))) / (10 : Int64)) * (10 : Int64))) * (Int64.ofNat (10 ^ (19 - ps)))))), .second, .val (.ref a3), .val (.int (1 : Int32)), .val (.ref em), .val (.int (0 : Int32)), .unset, .val (.long (((Int64.ofNat L) / (Int64.ofNat (10 ^ (19 - ps)))) - (((Int64.ofNat L) / (Int64.ofNat (10 ^ (19 - ps)))) / (10 : Int64)) * (10 : Int64))), .second]) rfl ?_
                      refine g_iload w at_612 (q := 614) rfl rfl ?_
                      refine g_ifN w at_614 (q := 617) rfl (by decide) ?_
                      refine g_aload w at_617 (q := 619) rfl rfl rfl ?_
                      refine g_virtualP w (con_ip0 l Z a0 hw em _ w.old F_em) no0 X_em at_619 (q := 622) rfl rfl (hw _ (List.mem_of_getElem? (i := 41) rfl)) (hw _ (List.mem_of_getElem? (i := 42) rfl)) (hw _ (List.mem_of_getElem? (i := 44) rfl)) (hw _ (List.mem_of_getElem? (i := 43) rfl)) (hw _ (List.mem_of_getElem? (i := 38) rfl)) (hw _ (List.mem_of_getElem? (i := 45) rfl)) (by decide) (nf (hw _ (List.mem_of_getElem? (i := 44) rfl))) pd12 rfl rfl (W := 0) (Nat.le_of_eq rfl) (by decide) (by decide) (by decide) (by decide) (fun T v w C q => ?_)
                      obtain rfl := q
                      show Go p e below _ (State.setTop T (mkF m 622 #[.val (.int j0), .val (.long k1), .second, .val (.long k2), .second, .val (.int j3), .val (.int j4), .val (.int cc), .val (.int (1 : Int32)), .val (.int (j0 &&& (3 : Int32))), .val (.long (Int64.ofNat H)), .second, .val (.long ((Int64.ofNat L) + (((cc - (48 : Int32)).toInt64 - (((Int64.ofNat L) / (Int64.ofNat (10 ^ (19 - ps)))) - (((Int64.ofNat L) / (Int64.ofNat (10 ^ (19 - ps)))) / (10 : Int64)) * (10 : Int64))) * (Int64.ofNat (10 ^ (19 - ps)))))), .second, .val (.ref a3), .val (.int (1 : Int32)), .val (.ref em), .val (.int (0 : Int32)), .unset, .val (.long (((Int64.ofNat L) / (Int64.ofNat (10 ^ (19 - ps)))) - (((Int64.ofNat L) / (Int64.ofNat (10 ^ (19 - ps)))) / (10 : Int64)) * (10 : Int64))), .second] [(.int (0 : Int32))]))
                      refine g_ifN w at_622 (q := 625) rfl (by decide) ?_
                      refine g_iconst w at_625 (q := 626) rfl (v := (1 : Int32)) (by decide) ?_
                      refine g_goto w at_626 (by decide) (q := 630) (by decide) ?_
                      exact g_retn w at_630 rfl (by simp) rfl (by decide) (by decide) rfl
                    · refine g_lload w at_596 (q := 598) rfl rfl ?_
                      refine g_ldc2J w at_598 (q := 601) rfl (v := (2147483647 : Int64)) (hw _ (List.mem_of_getElem? (i := 136) rfl)) ?_
                      refine g_lcmp w at_601 (q := 602) rfl ?_
                      refine g_lc_gt w at_602 (by decide) (q := 609) (by decide) (q' := 605) rfl (fun cd52 => ?_) (fun cd52 => ?_)
                      · refine g_iconst w at_609 (q := 610) rfl (v := (0 : Int32)) (by decide) ?_
                        refine g_istore w at_610 (q := 612) rfl (Ls' := #[.val (.int j0), .val (.long k1), .second, .val (.long k2), .second, .val (.int j3), .val (.int j4), .val (.int cc), .val (.int (1 : Int32)), .val (.int (j0 &&& (3 : Int32))), .val (.long (Int64.ofNat H)), .second, .val (.long ((Int64.ofNat L) + (((cc - (48 : Int32)).toInt64 - (((Int64.ofNat L) / (Int64.ofNat (10 ^ (19 - ps)))) - (((Int64.ofNat L) / (Int64.ofNat (10 ^ (19 - ps)))) / (10 : Int64)) * (10 : Int64))) * (Int64.ofNat (10 ^ (19 - ps)))))), .second, .val (.ref a3), .val (.int (1 : Int32)), .val (.ref em), .val (.int (0 : Int32)), .unset, .val (.long (((Int64.ofNat L) / (Int64.ofNat (10 ^ (19 - ps)))) - (((Int64.ofNat L) / (Int64.ofNat (10 ^ (19 - ps)))) / (10 : Int64)) * (10 : Int64))), .second]) rfl ?_
                        refine g_iload w at_612 (q := 614) rfl rfl ?_
                        refine g_ifN w at_614 (q := 617) rfl (by decide) ?_
                        refine g_aload w at_617 (q := 619) rfl rfl rfl ?_
                        refine g_virtualP w (con_ip0 l Z a0 hw em _ w.old F_em) no0 X_em at_619 (q := 622) rfl rfl (hw _ (List.mem_of_getElem? (i := 41) rfl)) (hw _ (List.mem_of_getElem? (i := 42) rfl)) (hw _ (List.mem_of_getElem? (i := 44) rfl)) (hw _ (List.mem_of_getElem? (i := 43) rfl)) (hw _ (List.mem_of_getElem? (i := 38) rfl)) (hw _ (List.mem_of_getElem? (i := 45) rfl)) (by decide) (nf (hw _ (List.mem_of_getElem? (i := 44) rfl))) pd12 rfl rfl (W := 0) (Nat.le_of_eq rfl) (by decide) (by decide) (by decide) (by decide) (fun T v w C q => ?_)
                        obtain rfl := q
                        show Go p e below _ (State.setTop T (mkF m 622 #[.val (.int j0), .val (.long k1), .second, .val (.long k2), .second, .val (.int j3), .val (.int j4), .val (.int cc), .val (.int (1 : Int32)), .val (.int (j0 &&& (3 : Int32))), .val (.long (Int64.ofNat H)), .second, .val (.long ((Int64.ofNat L) + (((cc - (48 : Int32)).toInt64 - (((Int64.ofNat L) / (Int64.ofNat (10 ^ (19 - ps)))) - (((Int64.ofNat L) / (Int64.ofNat (10 ^ (19 - ps)))) / (10 : Int64)) * (10 : Int64))) * (Int64.ofNat (10 ^ (19 - ps)))))), .second, .val (.ref a3), .val (.int (1 : Int32)), .val (.ref em), .val (.int (0 : Int32)), .unset, .val (.long (((Int64.ofNat L) / (Int64.ofNat (10 ^ (19 - ps)))) - (((Int64.ofNat L) / (Int64.ofNat (10 ^ (19 - ps)))) / (10 : Int64)) * (10 : Int64))), .second] [(.int (0 : Int32))]))
                        refine g_ifN w at_622 (q := 625) rfl (by decide) ?_
                        refine g_iconst w at_625 (q := 626) rfl (v := (1 : Int32)) (by decide) ?_
                        refine g_goto w at_626 (by decide) (q := 630) (by decide) ?_
                        exact g_retn w at_630 rfl (by simp) rfl (by decide) (by decide) rfl
                      · refine g_iconst w at_605 (q := 606) rfl (v := (1 : Int32)) (by decide) ?_
                        refine g_goto w at_606 (by decide) (q := 610) (by decide) ?_
                        refine g_istore w at_610 (q := 612) rfl (Ls' := #[.val (.int j0), .val (.long k1), .second, .val (.long k2), .second, .val (.int j3), .val (.int j4), .val (.int cc), .val (.int (1 : Int32)), .val (.int (j0 &&& (3 : Int32))), .val (.long (Int64.ofNat H)), .second, .val (.long ((Int64.ofNat L) + (((cc - (48 : Int32)).toInt64 - (((Int64.ofNat L) / (Int64.ofNat (10 ^ (19 - ps)))) - (((Int64.ofNat L) / (Int64.ofNat (10 ^ (19 - ps)))) / (10 : Int64)) * (10 : Int64))) * (Int64.ofNat (10 ^ (19 - ps)))))), .second, .val (.ref a3), .val (.int (1 : Int32)), .val (.ref em), .val (.int (1 : Int32)), .unset, .val (.long (((Int64.ofNat L) / (Int64.ofNat (10 ^ (19 - ps)))) - (((Int64.ofNat L) / (Int64.ofNat (10 ^ (19 - ps)))) / (10 : Int64)) * (10 : Int64))), .second]) rfl ?_
                        refine g_iload w at_612 (q := 614) rfl rfl ?_
                        refine g_ifY w at_614 (by decide) (q := 631) (by decide) (by decide) ?_
                        refine g_aload w at_631 (q := 633) rfl rfl rfl ?_
                        refine g_virtualP w (con_ip0 l Z a0 hw em _ w.old F_em) no0 X_em at_633 (q := 636) rfl rfl (hw _ (List.mem_of_getElem? (i := 41) rfl)) (hw _ (List.mem_of_getElem? (i := 42) rfl)) (hw _ (List.mem_of_getElem? (i := 44) rfl)) (hw _ (List.mem_of_getElem? (i := 43) rfl)) (hw _ (List.mem_of_getElem? (i := 38) rfl)) (hw _ (List.mem_of_getElem? (i := 45) rfl)) (by decide) (nf (hw _ (List.mem_of_getElem? (i := 44) rfl))) pd12 rfl rfl (W := 0) (Nat.le_of_eq rfl) (by decide) (by decide) (by decide) (by decide) (fun T v w C q => ?_)
                        obtain rfl := q
                        show Go p e below _ (State.setTop T (mkF m 636 #[.val (.int j0), .val (.long k1), .second, .val (.long k2), .second, .val (.int j3), .val (.int j4), .val (.int cc), .val (.int (1 : Int32)), .val (.int (j0 &&& (3 : Int32))), .val (.long (Int64.ofNat H)), .second, .val (.long ((Int64.ofNat L) + (((cc - (48 : Int32)).toInt64 - (((Int64.ofNat L) / (Int64.ofNat (10 ^ (19 - ps)))) - (((Int64.ofNat L) / (Int64.ofNat (10 ^ (19 - ps)))) / (10 : Int64)) * (10 : Int64))) * (Int64.ofNat (10 ^ (19 - ps)))))), .second, .val (.ref a3), .val (.int (1 : Int32)), .val (.ref em), .val (.int (1 : Int32)), .unset, .val (.long (((Int64.ofNat L) / (Int64.ofNat (10 ^ (19 - ps)))) - (((Int64.ofNat L) / (Int64.ofNat (10 ^ (19 - ps)))) / (10 : Int64)) * (10 : Int64))), .second] [(.int (0 : Int32))]))
                        refine g_ifY w at_636 (by decide) (q := 654) (by decide) (by decide) ?_
                        refine g_iconst w at_654 (q := 655) rfl (v := (0 : Int32)) (by decide) ?_
                        exact g_retn w at_655 rfl (by simp) rfl (by decide) (by decide) (by obtain ⟨L1, q1, -⟩ := good_ix1 hG cd49 cd52; rw [hix] at q1; cases q1)
                  · show Go p e below _ (State.setTop T (mkF m 582 #[.val (.int j0), .val (.long k1), .second, .val (.long k2), .second, .val (.int j3), .val (.int j4), .val (.int cc), .val (.int (1 : Int32)), .val (.int (j0 &&& (3 : Int32))), .val (.long (Int64.ofNat H)), .second, .val (.long ((Int64.ofNat L) + (((cc - (48 : Int32)).toInt64 - (((Int64.ofNat L) / (Int64.ofNat (10 ^ (19 - ps)))) - (((Int64.ofNat L) / (Int64.ofNat (10 ^ (19 - ps)))) / (10 : Int64)) * (10 : Int64))) * (Int64.ofNat (10 ^ (19 - ps)))))), .second, .val (.ref a3), .val (.int (1 : Int32)), .val (.int (Int32.ofNat ps)), .val (.long (Int64.ofNat (10 ^ (19 - ps)))), .second, .val (.long (((Int64.ofNat L) / (Int64.ofNat (10 ^ (19 - ps)))) - (((Int64.ofNat L) / (Int64.ofNat (10 ^ (19 - ps)))) / (10 : Int64)) * (10 : Int64))), .second] [(.ref o)]))
                    refine g_astore w at_582 (q := 584) rfl rfl (Ls' := #[.val (.int j0), .val (.long k1), .second, .val (.long k2), .second, .val (.int j3), .val (.int j4), .val (.int cc), .val (.int (1 : Int32)), .val (.int (j0 &&& (3 : Int32))), .val (.long (Int64.ofNat H)), .second, .val (.long ((Int64.ofNat L) + (((cc - (48 : Int32)).toInt64 - (((Int64.ofNat L) / (Int64.ofNat (10 ^ (19 - ps)))) - (((Int64.ofNat L) / (Int64.ofNat (10 ^ (19 - ps)))) / (10 : Int64)) * (10 : Int64))) * (Int64.ofNat (10 ^ (19 - ps)))))), .second, .val (.ref a3), .val (.int (1 : Int32)), .val (.ref o), .val (.long (Int64.ofNat (10 ^ (19 - ps)))), .second, .val (.long (((Int64.ofNat L) / (Int64.ofNat (10 ^ (19 - ps)))) - (((Int64.ofNat L) / (Int64.ofNat (10 ^ (19 - ps)))) / (10 : Int64)) * (10 : Int64))), .second]) rfl ?_
                    refine g_iload w at_584 (q := 586) rfl rfl ?_
                    refine g_ifN w at_586 (q := 589) rfl (by decide) ?_
                    refine g_lload w at_589 (q := 591) rfl rfl ?_
                    refine g_lconst w at_591 (q := 592) rfl (v := (0 : Int64)) (by decide) ?_
                    refine g_lcmp w at_592 (q := 593) rfl ?_
                    refine g_lc_ne w at_593 (by decide) (q := 609) (by decide) (q' := 596) rfl (fun cd58 => ?_) (fun cd58 => ?_)
                    · refine g_iconst w at_609 (q := 610) rfl (v := (0 : Int32)) (by decide) ?_
                      refine g_istore w at_610 (q := 612) rfl (Ls' := #[.val (.int j0), .val (.long k1), .second, .val (.long k2), .second, .val (.int j3), .val (.int j4), .val (.int cc), .val (.int (1 : Int32)), .val (.int (j0 &&& (3 : Int32))), .val (.long (Int64.ofNat H)), .second, .val (.long ((Int64.ofNat L) + (((cc - (48 : Int32)).toInt64 - (((Int64.ofNat L) / (Int64.ofNat (10 ^ (19 - ps)))) - (((Int64.ofNat L) / (Int64.ofNat (10 ^ (19 - ps)))) / (10 : Int64)) * (10 : Int64))) * (Int64.ofNat (10 ^ (19 - ps)))))), .second, .val (.ref a3), .val (.int (1 : Int32)), .val (.ref o), .val (.int (0 : Int32)), .unset, .val (.long (((Int64.ofNat L) / (Int64.ofNat (10 ^ (19 - ps)))) - (((Int64.ofNat L) / (Int64.ofNat (10 ^ (19 - ps)))) / (10 : Int64)) * (10 : Int64))), .second]) rfl ?_
                      refine g_iload w at_612 (q := 614) rfl rfl ?_
                      refine g_ifN w at_614 (q := 617) rfl (by decide) ?_
                      refine g_aload w at_617 (q := 619) rfl rfl rfl ?_
                      refine g_virtualP w (con_ip1 l Z a0 hw o _ w.old F_po) no0 X_o at_619 (q := 622) rfl rfl (hw _ (List.mem_of_getElem? (i := 41) rfl)) (hw _ (List.mem_of_getElem? (i := 42) rfl)) (hw _ (List.mem_of_getElem? (i := 44) rfl)) (hw _ (List.mem_of_getElem? (i := 43) rfl)) (hw _ (List.mem_of_getElem? (i := 38) rfl)) (hw _ (List.mem_of_getElem? (i := 45) rfl)) (by decide) (nf (hw _ (List.mem_of_getElem? (i := 44) rfl))) pd12 rfl rfl (W := 0) (Nat.le_of_eq rfl) (by decide) (by decide) (by decide) (by decide) (fun T v w C q => ?_)
                      obtain rfl := q
                      show Go p e below _ (State.setTop T (mkF m 622 #[.val (.int j0), .val (.long k1), .second, .val (.long k2), .second, .val (.int j3), .val (.int j4), .val (.int cc), .val (.int (1 : Int32)), .val (.int (j0 &&& (3 : Int32))), .val (.long (Int64.ofNat H)), .second, .val (.long ((Int64.ofNat L) + (((cc - (48 : Int32)).toInt64 - (((Int64.ofNat L) / (Int64.ofNat (10 ^ (19 - ps)))) - (((Int64.ofNat L) / (Int64.ofNat (10 ^ (19 - ps)))) / (10 : Int64)) * (10 : Int64))) * (Int64.ofNat (10 ^ (19 - ps)))))), .second, .val (.ref a3), .val (.int (1 : Int32)), .val (.ref o), .val (.int (0 : Int32)), .unset, .val (.long (((Int64.ofNat L) / (Int64.ofNat (10 ^ (19 - ps)))) - (((Int64.ofNat L) / (Int64.ofNat (10 ^ (19 - ps)))) / (10 : Int64)) * (10 : Int64))), .second] [(.int (1 : Int32))]))
                      refine g_ifY w at_622 (by decide) (q := 629) (by decide) (by decide) ?_
                      refine g_iconst w at_629 (q := 630) rfl (v := (0 : Int32)) (by decide) ?_
                      exact g_retn w at_630 rfl (by simp) rfl (by decide) (by decide) (absurd (hix.symm.trans (good_ix0 hG (Or.inl cd58))) (by simp))
                    · refine g_lload w at_596 (q := 598) rfl rfl ?_
                      refine g_ldc2J w at_598 (q := 601) rfl (v := (2147483647 : Int64)) (hw _ (List.mem_of_getElem? (i := 136) rfl)) ?_
                      refine g_lcmp w at_601 (q := 602) rfl ?_
                      refine g_lc_gt w at_602 (by decide) (q := 609) (by decide) (q' := 605) rfl (fun cd61 => ?_) (fun cd61 => ?_)
                      · refine g_iconst w at_609 (q := 610) rfl (v := (0 : Int32)) (by decide) ?_
                        refine g_istore w at_610 (q := 612) rfl (Ls' := #[.val (.int j0), .val (.long k1), .second, .val (.long k2), .second, .val (.int j3), .val (.int j4), .val (.int cc), .val (.int (1 : Int32)), .val (.int (j0 &&& (3 : Int32))), .val (.long (Int64.ofNat H)), .second, .val (.long ((Int64.ofNat L) + (((cc - (48 : Int32)).toInt64 - (((Int64.ofNat L) / (Int64.ofNat (10 ^ (19 - ps)))) - (((Int64.ofNat L) / (Int64.ofNat (10 ^ (19 - ps)))) / (10 : Int64)) * (10 : Int64))) * (Int64.ofNat (10 ^ (19 - ps)))))), .second, .val (.ref a3), .val (.int (1 : Int32)), .val (.ref o), .val (.int (0 : Int32)), .unset, .val (.long (((Int64.ofNat L) / (Int64.ofNat (10 ^ (19 - ps)))) - (((Int64.ofNat L) / (Int64.ofNat (10 ^ (19 - ps)))) / (10 : Int64)) * (10 : Int64))), .second]) rfl ?_
                        refine g_iload w at_612 (q := 614) rfl rfl ?_
                        refine g_ifN w at_614 (q := 617) rfl (by decide) ?_
                        refine g_aload w at_617 (q := 619) rfl rfl rfl ?_
                        refine g_virtualP w (con_ip1 l Z a0 hw o _ w.old F_po) no0 X_o at_619 (q := 622) rfl rfl (hw _ (List.mem_of_getElem? (i := 41) rfl)) (hw _ (List.mem_of_getElem? (i := 42) rfl)) (hw _ (List.mem_of_getElem? (i := 44) rfl)) (hw _ (List.mem_of_getElem? (i := 43) rfl)) (hw _ (List.mem_of_getElem? (i := 38) rfl)) (hw _ (List.mem_of_getElem? (i := 45) rfl)) (by decide) (nf (hw _ (List.mem_of_getElem? (i := 44) rfl))) pd12 rfl rfl (W := 0) (Nat.le_of_eq rfl) (by decide) (by decide) (by decide) (by decide) (fun T v w C q => ?_)
                        obtain rfl := q
                        show Go p e below _ (State.setTop T (mkF m 622 #[.val (.int j0), .val (.long k1), .second, .val (.long k2), .second, .val (.int j3), .val (.int j4), .val (.int cc), .val (.int (1 : Int32)), .val (.int (j0 &&& (3 : Int32))), .val (.long (Int64.ofNat H)), .second, .val (.long ((Int64.ofNat L) + (((cc - (48 : Int32)).toInt64 - (((Int64.ofNat L) / (Int64.ofNat (10 ^ (19 - ps)))) - (((Int64.ofNat L) / (Int64.ofNat (10 ^ (19 - ps)))) / (10 : Int64)) * (10 : Int64))) * (Int64.ofNat (10 ^ (19 - ps)))))), .second, .val (.ref a3), .val (.int (1 : Int32)), .val (.ref o), .val (.int (0 : Int32)), .unset, .val (.long (((Int64.ofNat L) / (Int64.ofNat (10 ^ (19 - ps)))) - (((Int64.ofNat L) / (Int64.ofNat (10 ^ (19 - ps)))) / (10 : Int64)) * (10 : Int64))), .second] [(.int (1 : Int32))]))
                        refine g_ifY w at_622 (by decide) (q := 629) (by decide) (by decide) ?_
                        refine g_iconst w at_629 (q := 630) rfl (v := (0 : Int32)) (by decide) ?_
                        exact g_retn w at_630 rfl (by simp) rfl (by decide) (by decide) (absurd (hix.symm.trans (good_ix0 hG (Or.inr cd61))) (by simp))
                      · refine g_iconst w at_605 (q := 606) rfl (v := (1 : Int32)) (by decide) ?_
                        refine g_goto w at_606 (by decide) (q := 610) (by decide) ?_
                        refine g_istore w at_610 (q := 612) rfl (Ls' := #[.val (.int j0), .val (.long k1), .second, .val (.long k2), .second, .val (.int j3), .val (.int j4), .val (.int cc), .val (.int (1 : Int32)), .val (.int (j0 &&& (3 : Int32))), .val (.long (Int64.ofNat H)), .second, .val (.long ((Int64.ofNat L) + (((cc - (48 : Int32)).toInt64 - (((Int64.ofNat L) / (Int64.ofNat (10 ^ (19 - ps)))) - (((Int64.ofNat L) / (Int64.ofNat (10 ^ (19 - ps)))) / (10 : Int64)) * (10 : Int64))) * (Int64.ofNat (10 ^ (19 - ps)))))), .second, .val (.ref a3), .val (.int (1 : Int32)), .val (.ref o), .val (.int (1 : Int32)), .unset, .val (.long (((Int64.ofNat L) / (Int64.ofNat (10 ^ (19 - ps)))) - (((Int64.ofNat L) / (Int64.ofNat (10 ^ (19 - ps)))) / (10 : Int64)) * (10 : Int64))), .second]) rfl ?_
                        refine g_iload w at_612 (q := 614) rfl rfl ?_
                        refine g_ifY w at_614 (by decide) (q := 631) (by decide) (by decide) ?_
                        refine g_aload w at_631 (q := 633) rfl rfl rfl ?_
                        refine g_virtualP w (con_ip1 l Z a0 hw o _ w.old F_po) no0 X_o at_633 (q := 636) rfl rfl (hw _ (List.mem_of_getElem? (i := 41) rfl)) (hw _ (List.mem_of_getElem? (i := 42) rfl)) (hw _ (List.mem_of_getElem? (i := 44) rfl)) (hw _ (List.mem_of_getElem? (i := 43) rfl)) (hw _ (List.mem_of_getElem? (i := 38) rfl)) (hw _ (List.mem_of_getElem? (i := 45) rfl)) (by decide) (nf (hw _ (List.mem_of_getElem? (i := 44) rfl))) pd12 rfl rfl (W := 0) (Nat.le_of_eq rfl) (by decide) (by decide) (by decide) (by decide) (fun T v w C q => ?_)
                        obtain rfl := q
                        show Go p e below _ (State.setTop T (mkF m 636 #[.val (.int j0), .val (.long k1), .second, .val (.long k2), .second, .val (.int j3), .val (.int j4), .val (.int cc), .val (.int (1 : Int32)), .val (.int (j0 &&& (3 : Int32))), .val (.long (Int64.ofNat H)), .second, .val (.long ((Int64.ofNat L) + (((cc - (48 : Int32)).toInt64 - (((Int64.ofNat L) / (Int64.ofNat (10 ^ (19 - ps)))) - (((Int64.ofNat L) / (Int64.ofNat (10 ^ (19 - ps)))) / (10 : Int64)) * (10 : Int64))) * (Int64.ofNat (10 ^ (19 - ps)))))), .second, .val (.ref a3), .val (.int (1 : Int32)), .val (.ref o), .val (.int (1 : Int32)), .unset, .val (.long (((Int64.ofNat L) / (Int64.ofNat (10 ^ (19 - ps)))) - (((Int64.ofNat L) / (Int64.ofNat (10 ^ (19 - ps)))) / (10 : Int64)) * (10 : Int64))), .second] [(.int (1 : Int32))]))
                        refine g_ifN w at_636 (q := 639) rfl (by decide) ?_
                        refine g_aload w at_639 (q := 641) rfl rfl rfl ?_
                        refine g_virtualP w (con_gai l Z a0 hw o (Int32.ofNat nn) _ w.old F_po F_vo) no0 X_o at_641 (q := 644) rfl rfl (hw _ (List.mem_of_getElem? (i := 149) rfl)) (hw _ (List.mem_of_getElem? (i := 150) rfl)) (hw _ (List.mem_of_getElem? (i := 152) rfl)) (hw _ (List.mem_of_getElem? (i := 151) rfl)) (hw _ (List.mem_of_getElem? (i := 38) rfl)) (hw _ (List.mem_of_getElem? (i := 153) rfl)) (by decide) (nf (hw _ (List.mem_of_getElem? (i := 152) rfl))) pd19 rfl rfl (W := 0) (Nat.le_of_eq rfl) (by decide) (by decide) (by decide) (by decide) (fun T v w C q => ?_)
                        obtain rfl := q
                        show Go p e below _ (State.setTop T (mkF m 644 #[.val (.int j0), .val (.long k1), .second, .val (.long k2), .second, .val (.int j3), .val (.int j4), .val (.int cc), .val (.int (1 : Int32)), .val (.int (j0 &&& (3 : Int32))), .val (.long (Int64.ofNat H)), .second, .val (.long ((Int64.ofNat L) + (((cc - (48 : Int32)).toInt64 - (((Int64.ofNat L) / (Int64.ofNat (10 ^ (19 - ps)))) - (((Int64.ofNat L) / (Int64.ofNat (10 ^ (19 - ps)))) / (10 : Int64)) * (10 : Int64))) * (Int64.ofNat (10 ^ (19 - ps)))))), .second, .val (.ref a3), .val (.int (1 : Int32)), .val (.ref o), .val (.int (1 : Int32)), .unset, .val (.long (((Int64.ofNat L) / (Int64.ofNat (10 ^ (19 - ps)))) - (((Int64.ofNat L) / (Int64.ofNat (10 ^ (19 - ps)))) / (10 : Int64)) * (10 : Int64))), .second] [(.int (Int32.ofNat nn))]))
                        refine g_lload w at_644 (q := 646) rfl rfl ?_
                        refine g_l2i w at_646 (q := 647) rfl ?_
                        refine g_icN w at_647 (q := 650) rfl (Jvm.Free.XT.ii_ne_f (by obtain ⟨L1, q1, q2, q3⟩ := good_ix1 hG cd58 cd61; rw [hix] at q1; cases q1; rw [q3, l2i_nat q2])) ?_
                        refine g_iconst w at_650 (q := 651) rfl (v := (1 : Int32)) (by decide) ?_
                        refine g_goto w at_651 (by decide) (q := 655) (by decide) ?_
                        exact g_retn w at_655 rfl (by simp) rfl (by decide) (by decide) rfl
              · show Go p e below _ (State.setTop T (mkF m 461 #[.val (.int j0), .val (.long k1), .second, .val (.long k2), .second, .val (.int j3), .val (.int j4), .val (.int cc), .val (.int (0 : Int32)), .val (.int (j0 &&& (3 : Int32))), .val (.long (Int64.ofNat H)), .second, .val (.long (Int64.ofNat L)), .second, .val (.ref a3), .val (.int (1 : Int32)), .val (.int (Int32.ofNat ps)), .unset, .unset, .unset, .unset] [(.int (0 : Int32))]))
                refine g_ifY w at_461 (by decide) (q := 553) (by decide) (by decide) ?_
                refine g_iconst w at_553 (q := 554) rfl (v := (0 : Int32)) (by decide) ?_
                refine g_istore w at_554 (q := 556) rfl (Ls' := #[.val (.int j0), .val (.long k1), .second, .val (.long k2), .second, .val (.int j3), .val (.int j4), .val (.int cc), .val (.int (0 : Int32)), .val (.int (j0 &&& (3 : Int32))), .val (.long (Int64.ofNat H)), .second, .val (.long (Int64.ofNat L)), .second, .val (.ref a3), .val (.int (0 : Int32)), .val (.int (Int32.ofNat ps)), .unset, .unset, .unset, .unset]) rfl ?_
                refine g_aload w at_556 (q := 558) rfl rfl rfl ?_
                refine g_iload w at_558 (q := 560) rfl rfl ?_
                refine g_iload w at_560 (q := 562) rfl rfl ?_
                refine g_castore w at_562 (q := 563) rfl A_a3 (i := ps) rfl hps (x' := cc) (nar_chr lcc) n_a3 (w.safeAr A_a3 (by decide)) (fun T h w W V => ?_)
                replace E0 := ext_wr E0 W z_a3
                rw [← List.map_set] at V
                replace A_a3 := V
                refine g_new w at_563 (q := 566) rfl (hw _ (List.mem_of_getElem? (i := 1) rfl)) (hw _ (List.mem_of_getElem? (i := 2) rfl)) (hw _ (List.mem_of_getElem? (i := 3) rfl)) (by decide) (by decide) (fun T h a67 w E g_a67 n_a67 X_a67 D_a67 s_a67 => ?_)
                have z_a67 := Nat.le_trans E0.1 g_a67
                have ne_a3_a67 : a3 ≠ a67 := Nat.ne_of_lt (Nat.lt_of_lt_of_le A_a3.lt g_a67)
                replace E0 := ext_trans E0 E
                replace A_a3 := A_a3.ext E
                have F_key_a67 := D_a67 (Or.inr (hw _ (List.mem_of_getElem? (i := 24) rfl))) (ty := (.object "java/lang/String")) (by decide)
                replace F_key_a67 : Fld Z h a67 "com/example/stepwize/stepwize/binding/PropertyPath$Element" "key" "Ljava/lang/String;" .null := F_key_a67
                refine g_dup w at_566 (q := 567) rfl rfl ?_
                refine g_new w at_567 (q := 570) rfl (hw _ (List.mem_of_getElem? (i := 66) rfl)) (hw _ (List.mem_of_getElem? (i := 6) rfl)) (hw _ (List.mem_of_getElem? (i := 5) rfl)) (by decide) (by decide) (fun T h a68 w E g_a68 n_a68 X_a68 D_a68 s_a68 => ?_)
                have z_a68 := Nat.le_trans E0.1 g_a68
                have ne_a67_a68 : a67 ≠ a68 := Nat.ne_of_lt (Nat.lt_of_lt_of_le X_a67.lt g_a68)
                have ne_a3_a68 : a3 ≠ a68 := Nat.ne_of_lt (Nat.lt_of_lt_of_le A_a3.lt g_a68)
                replace E0 := ext_trans E0 E
                replace A_a3 := A_a3.ext E
                replace X_a67 := X_a67.ext E
                replace F_key_a67 := F_key_a67.ext E
                have F_value_a68 := D_a68 (Or.inr (hw _ (List.mem_of_getElem? (i := 8) rfl))) (ty := (.array .byte)) (by decide)
                replace F_value_a68 : Fld Z h a68 "java/lang/String" "value" "[B" .null := F_value_a68
                have F_coder_a68 := D_a68 (Or.inr (hw _ (List.mem_of_getElem? (i := 9) rfl))) (ty := .byte) (by decide)
                replace F_coder_a68 : Fld Z h a68 "java/lang/String" "coder" "B" (.int (0 : Int32)) := F_coder_a68
                refine g_dup w at_570 (q := 571) rfl rfl ?_
                refine g_aload w at_571 (q := 573) rfl rfl rfl ?_
                refine g_special w (con_new1U l Z a0 hw a68 a3 ((bs20 (Int64.ofNat H) (Int64.ofNat L)).set ps cc) _ w.old X_a68 F_value_a68 F_coder_a68 n_a68 A_a3 ne_a3_a68 (by rw [List.length_set]; exact Nat.le_refl 20) (set_mem (bs_16 _ _) lcc) (by rw [List.length_set]; exact Nat.zero_lt_succ 19) hcm SA_ SH_ SL_) no0 at_573 (q := 576) rfl rfl rfl (hw _ (List.mem_of_getElem? (i := 67) rfl)) (hw _ (List.mem_of_getElem? (i := 68) rfl)) (hw _ (List.mem_of_getElem? (i := 5) rfl)) (hw _ (List.mem_of_getElem? (i := 69) rfl)) (by decide) pd23 rfl rfl (W := 3) (Nat.le_of_eq rfl) (by decide) (by decide) (by decide) (by decide) (fun T h v w gs C q => ?_)
                obtain ⟨rfl, K, U_a68⟩ := q
                replace E0 := ext_keep E0 K z_a68
                have X0 := X_a68
                replace A_a3 := A_a3.keep K (not1 ne_a3_a68)
                replace X_a67 := X_a67.keep K
                replace F_key_a67 := F_key_a67.keep K (not1 ne_a67_a68)
                replace X_a68 := X_a68.keep K
                show Go p e below _ (State.setTop T (mkF m 576 #[.val (.int j0), .val (.long k1), .second, .val (.long k2), .second, .val (.int j3), .val (.int j4), .val (.int cc), .val (.int (0 : Int32)), .val (.int (j0 &&& (3 : Int32))), .val (.long (Int64.ofNat H)), .second, .val (.long (Int64.ofNat L)), .second, .val (.ref a3), .val (.int (0 : Int32)), .val (.int (Int32.ofNat ps)), .unset, .unset, .unset, .unset] [(.ref a68), (.ref a67), (.ref a67)]))
                refine g_special w (con_el l Z a0 hw a67 a68 _ w.old X_a67 F_key_a67 n_a67) no0 at_576 (q := 579) rfl rfl rfl (hw _ (List.mem_of_getElem? (i := 12) rfl)) (hw _ (List.mem_of_getElem? (i := 13) rfl)) (hw _ (List.mem_of_getElem? (i := 3) rfl)) (hw _ (List.mem_of_getElem? (i := 14) rfl)) (by decide) pd24 rfl rfl (W := 1) (Nat.le_of_eq rfl) (by decide) (by decide) (by decide) (by decide) (fun T h v w gs C q => ?_)
                obtain ⟨rfl, K, G_key⟩ := q
                replace E0 := ext_keep E0 K z_a67
                have X0 := X_a67
                replace X_a67 := X_a67.keep K
                replace U_a68 := U_a68.keepO K ne_a67_a68.symm X0 (hw _ (List.mem_of_getElem? (i := 2) rfl))
                replace F_key_a67 := G_key
                show Go p e below _ (State.setTop T (mkF m 579 #[.val (.int j0), .val (.long k1), .second, .val (.long k2), .second, .val (.int j3), .val (.int j4), .val (.int cc), .val (.int (0 : Int32)), .val (.int (j0 &&& (3 : Int32))), .val (.long (Int64.ofNat H)), .second, .val (.long (Int64.ofNat L)), .second, .val (.ref a3), .val (.int (0 : Int32)), .val (.int (Int32.ofNat ps)), .unset, .unset, .unset, .unset] [(.ref a67)]))
                refine g_virtual w (con_index l Z a0 hw fm em a67 a68 ((bs20 (Int64.ofNat H) (Int64.ofNat L)).set ps cc) _ w.old X_a67 F_key_a67 U_a68 (by rw [List.length_set]; exact Nat.le_refl 20) hcm SFm rfm SA_ SH_ SL_ SE_) no0 X_a67 at_579 (q := 582) rfl rfl (hw _ (List.mem_of_getElem? (i := 25) rfl)) (hw _ (List.mem_of_getElem? (i := 26) rfl)) (hw _ (List.mem_of_getElem? (i := 28) rfl)) (hw _ (List.mem_of_getElem? (i := 27) rfl)) (hw _ (List.mem_of_getElem? (i := 3) rfl)) (hw _ (List.mem_of_getElem? (i := 29) rfl)) (by decide) (nf (hw _ (List.mem_of_getElem? (i := 28) rfl))) pd18 rfl rfl (W := 0) (Nat.le_of_eq rfl) (by decide) (by decide) (by decide) (by decide) (fun T h v w gs C q => ?_)
                obtain ⟨o, rfl, E, hq⟩ := q
                replace E0 := ext_trans E0 E
                replace X_a67 := X_a67.ext E
                replace U_a68 := U_a68.ext E
                replace F_key_a67 := F_key_a67.ext E
                rcases hq with ⟨hix, ho⟩ | ⟨nn, hix, hmx, g_o, X_o, F_po, F_vo⟩
                · rw [ho]
                  have X_em := XE_.ext w.old
                  have F_em := FE_.ext w.old
                  show Go p e below _ (State.setTop T (mkF m 582 #[.val (.int j0), .val (.long k1), .second, .val (.long k2), .second, .val (.int j3), .val (.int j4), .val (.int cc), .val (.int (0 : Int32)), .val (.int (j0 &&& (3 : Int32))), .val (.long (Int64.ofNat H)), .second, .val (.long (Int64.ofNat L)), .second, .val (.ref a3), .val (.int (0 : Int32)), .val (.int (Int32.ofNat ps)), .unset, .unset, .unset, .unset] [(.ref em)]))
                  refine g_astore w at_582 (q := 584) rfl rfl (Ls' := #[.val (.int j0), .val (.long k1), .second, .val (.long k2), .second, .val (.int j3), .val (.int j4), .val (.int cc), .val (.int (0 : Int32)), .val (.int (j0 &&& (3 : Int32))), .val (.long (Int64.ofNat H)), .second, .val (.long (Int64.ofNat L)), .second, .val (.ref a3), .val (.int (0 : Int32)), .val (.ref em), .unset, .unset, .unset, .unset]) rfl ?_
                  refine g_iload w at_584 (q := 586) rfl rfl ?_
                  refine g_ifY w at_586 (by decide) (q := 609) (by decide) (by decide) ?_
                  refine g_iconst w at_609 (q := 610) rfl (v := (0 : Int32)) (by decide) ?_
                  refine g_istore w at_610 (q := 612) rfl (Ls' := #[.val (.int j0), .val (.long k1), .second, .val (.long k2), .second, .val (.int j3), .val (.int j4), .val (.int cc), .val (.int (0 : Int32)), .val (.int (j0 &&& (3 : Int32))), .val (.long (Int64.ofNat H)), .second, .val (.long (Int64.ofNat L)), .second, .val (.ref a3), .val (.int (0 : Int32)), .val (.ref em), .val (.int (0 : Int32)), .unset, .unset, .unset]) rfl ?_
                  refine g_iload w at_612 (q := 614) rfl rfl ?_
                  refine g_ifN w at_614 (q := 617) rfl (by decide) ?_
                  refine g_aload w at_617 (q := 619) rfl rfl rfl ?_
                  refine g_virtualP w (con_ip0 l Z a0 hw em _ w.old F_em) no0 X_em at_619 (q := 622) rfl rfl (hw _ (List.mem_of_getElem? (i := 41) rfl)) (hw _ (List.mem_of_getElem? (i := 42) rfl)) (hw _ (List.mem_of_getElem? (i := 44) rfl)) (hw _ (List.mem_of_getElem? (i := 43) rfl)) (hw _ (List.mem_of_getElem? (i := 38) rfl)) (hw _ (List.mem_of_getElem? (i := 45) rfl)) (by decide) (nf (hw _ (List.mem_of_getElem? (i := 44) rfl))) pd12 rfl rfl (W := 0) (Nat.le_of_eq rfl) (by decide) (by decide) (by decide) (by decide) (fun T v w C q => ?_)
                  obtain rfl := q
                  show Go p e below _ (State.setTop T (mkF m 622 #[.val (.int j0), .val (.long k1), .second, .val (.long k2), .second, .val (.int j3), .val (.int j4), .val (.int cc), .val (.int (0 : Int32)), .val (.int (j0 &&& (3 : Int32))), .val (.long (Int64.ofNat H)), .second, .val (.long (Int64.ofNat L)), .second, .val (.ref a3), .val (.int (0 : Int32)), .val (.ref em), .val (.int (0 : Int32)), .unset, .unset, .unset] [(.int (0 : Int32))]))
                  refine g_ifN w at_622 (q := 625) rfl (by decide) ?_
                  refine g_iconst w at_625 (q := 626) rfl (v := (1 : Int32)) (by decide) ?_
                  refine g_goto w at_626 (by decide) (q := 630) (by decide) ?_
                  exact g_retn w at_630 rfl (by simp) rfl (by decide) (by decide) rfl
                · show Go p e below _ (State.setTop T (mkF m 582 #[.val (.int j0), .val (.long k1), .second, .val (.long k2), .second, .val (.int j3), .val (.int j4), .val (.int cc), .val (.int (0 : Int32)), .val (.int (j0 &&& (3 : Int32))), .val (.long (Int64.ofNat H)), .second, .val (.long (Int64.ofNat L)), .second, .val (.ref a3), .val (.int (0 : Int32)), .val (.int (Int32.ofNat ps)), .unset, .unset, .unset, .unset] [(.ref o)]))
                  refine g_astore w at_582 (q := 584) rfl rfl (Ls' := #[.val (.int j0), .val (.long k1), .second, .val (.long k2), .second, .val (.int j3), .val (.int j4), .val (.int cc), .val (.int (0 : Int32)), .val (.int (j0 &&& (3 : Int32))), .val (.long (Int64.ofNat H)), .second, .val (.long (Int64.ofNat L)), .second, .val (.ref a3), .val (.int (0 : Int32)), .val (.ref o), .unset, .unset, .unset, .unset]) rfl ?_
                  refine g_iload w at_584 (q := 586) rfl rfl ?_
                  refine g_ifY w at_586 (by decide) (q := 609) (by decide) (by decide) ?_
                  refine g_iconst w at_609 (q := 610) rfl (v := (0 : Int32)) (by decide) ?_
                  refine g_istore w at_610 (q := 612) rfl (Ls' := #[.val (.int j0), .val (.long k1), .second, .val (.long k2), .second, .val (.int j3), .val (.int j4), .val (.int cc), .val (.int (0 : Int32)), .val (.int (j0 &&& (3 : Int32))), .val (.long (Int64.ofNat H)), .second, .val (.long (Int64.ofNat L)), .second, .val (.ref a3), .val (.int (0 : Int32)), .val (.ref o), .val (.int (0 : Int32)), .unset, .unset, .unset]) rfl ?_
                  refine g_iload w at_612 (q := 614) rfl rfl ?_
                  refine g_ifN w at_614 (q := 617) rfl (by decide) ?_
                  refine g_aload w at_617 (q := 619) rfl rfl rfl ?_
                  refine g_virtualP w (con_ip1 l Z a0 hw o _ w.old F_po) no0 X_o at_619 (q := 622) rfl rfl (hw _ (List.mem_of_getElem? (i := 41) rfl)) (hw _ (List.mem_of_getElem? (i := 42) rfl)) (hw _ (List.mem_of_getElem? (i := 44) rfl)) (hw _ (List.mem_of_getElem? (i := 43) rfl)) (hw _ (List.mem_of_getElem? (i := 38) rfl)) (hw _ (List.mem_of_getElem? (i := 45) rfl)) (by decide) (nf (hw _ (List.mem_of_getElem? (i := 44) rfl))) pd12 rfl rfl (W := 0) (Nat.le_of_eq rfl) (by decide) (by decide) (by decide) (by decide) (fun T v w C q => ?_)
                  obtain rfl := q
                  show Go p e below _ (State.setTop T (mkF m 622 #[.val (.int j0), .val (.long k1), .second, .val (.long k2), .second, .val (.int j3), .val (.int j4), .val (.int cc), .val (.int (0 : Int32)), .val (.int (j0 &&& (3 : Int32))), .val (.long (Int64.ofNat H)), .second, .val (.long (Int64.ofNat L)), .second, .val (.ref a3), .val (.int (0 : Int32)), .val (.ref o), .val (.int (0 : Int32)), .unset, .unset, .unset] [(.int (1 : Int32))]))
                  refine g_ifY w at_622 (by decide) (q := 629) (by decide) (by decide) ?_
                  refine g_iconst w at_629 (q := 630) rfl (v := (0 : Int32)) (by decide) ?_
                  exact g_retn w at_630 rfl (by simp) rfl (by decide) (by decide) (absurd (hix.symm.trans (bad_set hps hdg)) (by simp))
          refine g_iloadN w at_157 (q := 158) rfl rfl ?_
          refine g_bipush w at_158 (q := 160) rfl (v := (8 : Int32)) (by decide) ?_
          refine g_iand w at_160 (q := 161) rfl ?_
          refine g_if_eq w at_161 (by decide) (q := 176) (by decide) (q' := 164) rfl (fun cd75 => ?_) (fun cd75 => ?_)
          · refine g_lloadN w at_176 (q := 177) rfl rfl ?_
            refine g_ldc2J w at_177 (q := 180) rfl (v := (4294967295 : Int64)) (hw _ (List.mem_of_getElem? (i := 135) rfl)) ?_
            refine g_land w at_180 (q := 181) rfl ?_
            refine g_lstore w at_181 (q := 183) rfl (Ls' := #[.val (.int j0), .val (.long k1), .second, .val (.long k2), .second, .val (.int j3), .val (.int j4), .val (.int cc), .val (.int d8), .val (.int (j0 &&& (3 : Int32))), .val (.long (Int64.ofNat H)), .second, .val (.long (k2 &&& (4294967295 : Int64))), .second, .unset, .unset, .unset, .unset, .unset, .unset, .unset]) rfl ?_
            exact J183 _ (mask_lo _)
          · refine g_lloadN w at_164 (q := 165) rfl rfl ?_
            refine g_ldc2J w at_165 (q := 168) rfl (v := (9223372036854775807 : Int64)) (hw _ (List.mem_of_getElem? (i := 48) rfl)) ?_
            refine g_land w at_168 (q := 169) rfl ?_
            refine g_ldc2J w at_169 (q := 172) rfl (v := (1000000000000 : Int64)) (hw _ (List.mem_of_getElem? (i := 50) rfl)) ?_
            refine g_lrem w at_172 (q := 173) rfl (by decide) ?_
            refine g_goto w at_173 (by decide) (q := 181) (by decide) ?_
            refine g_lstore w at_181 (q := 183) rfl (Ls' := #[.val (.int j0), .val (.long k1), .second, .val (.long k2), .second, .val (.int j3), .val (.int j4), .val (.int cc), .val (.int d8), .val (.int (j0 &&& (3 : Int32))), .val (.long (Int64.ofNat H)), .second, .val (.long ((k2 &&& (9223372036854775807 : Int64)) - ((k2 &&& (9223372036854775807 : Int64)) / (1000000000000 : Int64)) * (1000000000000 : Int64))), .second, .unset, .unset, .unset, .unset, .unset, .unset, .unset]) rfl ?_
            exact J183 _ (mask_rem (P := 1000000000000) (by decide) (by decide))
        refine g_iloadN w at_136 (q := 137) rfl rfl ?_
        refine g_iconst w at_137 (q := 138) rfl (v := (4 : Int32)) (by decide) ?_
        refine g_iand w at_138 (q := 139) rfl ?_
        refine g_if_eq w at_139 (by decide) (q := 154) (by decide) (q' := 142) rfl (fun cd76 => ?_) (fun cd76 => ?_)
        · refine g_lconst w at_154 (q := 155) rfl (v := (0 : Int64)) (by decide) ?_
          refine g_lstore w at_155 (q := 157) rfl (Ls' := #[.val (.int j0), .val (.long k1), .second, .val (.long k2), .second, .val (.int j3), .val (.int j4), .val (.int cc), .val (.int d8), .val (.int (j0 &&& (3 : Int32))), .val (.long (0 : Int64)), .second, .unset, .unset, .unset, .unset, .unset, .unset, .unset, .unset, .unset]) rfl ?_
          exact J157 _ ⟨0, by decide, rfl⟩
        · refine g_lloadN w at_142 (q := 143) rfl rfl ?_
          refine g_ldc2J w at_143 (q := 146) rfl (v := (9223372036854775807 : Int64)) (hw _ (List.mem_of_getElem? (i := 48) rfl)) ?_
          refine g_land w at_146 (q := 147) rfl ?_
          refine g_ldc2J w at_147 (q := 150) rfl (v := (100000000 : Int64)) (hw _ (List.mem_of_getElem? (i := 49) rfl)) ?_
          refine g_lrem w at_150 (q := 151) rfl (by decide) ?_
          refine g_goto w at_151 (by decide) (q := 155) (by decide) ?_
          refine g_lstore w at_155 (q := 157) rfl (Ls' := #[.val (.int j0), .val (.long k1), .second, .val (.long k2), .second, .val (.int j3), .val (.int j4), .val (.int cc), .val (.int d8), .val (.int (j0 &&& (3 : Int32))), .val (.long ((k1 &&& (9223372036854775807 : Int64)) - ((k1 &&& (9223372036854775807 : Int64)) / (100000000 : Int64)) * (100000000 : Int64))), .second, .unset, .unset, .unset, .unset, .unset, .unset, .unset, .unset, .unset]) rfl ?_
          exact J157 _ (mask_rem (P := 100000000) (by decide) (by decide))
      · refine g_new w at_73 (q := 76) rfl (hw _ (List.mem_of_getElem? (i := 1) rfl)) (hw _ (List.mem_of_getElem? (i := 2) rfl)) (hw _ (List.mem_of_getElem? (i := 3) rfl)) (by decide) (by decide) (fun T h a77 w E g_a77 n_a77 X_a77 D_a77 s_a77 => ?_)
        have z_a77 := Nat.le_trans E0.1 g_a77
        replace E0 := ext_trans E0 E
        have F_key_a77 := D_a77 (Or.inr (hw _ (List.mem_of_getElem? (i := 24) rfl))) (ty := (.object "java/lang/String")) (by decide)
        replace F_key_a77 : Fld Z h a77 "com/example/stepwize/stepwize/binding/PropertyPath$Element" "key" "Ljava/lang/String;" .null := F_key_a77
        refine g_dup w at_76 (q := 77) rfl rfl ?_
        refine g_iload w at_77 (q := 79) rfl rfl ?_
        refine g_static w (con_vU l Z a0 hw cc _ w.old lcc hcm SA_ SH_ SL_) no0 at_79 (q := 82) rfl rfl (hw _ (List.mem_of_getElem? (i := 121) rfl)) (hw _ (List.mem_of_getElem? (i := 122) rfl)) (hw _ (List.mem_of_getElem? (i := 5) rfl)) (hw _ (List.mem_of_getElem? (i := 123) rfl)) (by decide) pd26 rfl rfl (W := 2) (Nat.le_of_eq rfl) (by decide) (by decide) (by decide) (by decide) (fun T h v w gs C q => ?_)
        obtain ⟨x78, rfl, E, g_x78, U_x78⟩ := q
        have z_x78 := Nat.le_trans E0.1 g_x78
        have ne_a77_x78 : a77 ≠ x78 := Nat.ne_of_lt (Nat.lt_of_lt_of_le X_a77.lt g_x78)
        replace E0 := ext_trans E0 E
        replace X_a77 := X_a77.ext E
        replace F_key_a77 := F_key_a77.ext E
        show Go p e below _ (State.setTop T (mkF m 82 #[.val (.int j0), .val (.long k1), .second, .val (.long k2), .second, .val (.int j3), .val (.int j4), .val (.int cc), .val (.int d8), .val (.int (j0 &&& (3 : Int32))), .unset, .unset, .unset, .unset, .unset, .unset, .unset, .unset, .unset, .unset, .unset] [(.ref x78), (.ref a77), (.ref a77)]))
        refine g_special w (con_el l Z a0 hw a77 x78 _ w.old X_a77 F_key_a77 n_a77) no0 at_82 (q := 85) rfl rfl rfl (hw _ (List.mem_of_getElem? (i := 12) rfl)) (hw _ (List.mem_of_getElem? (i := 13) rfl)) (hw _ (List.mem_of_getElem? (i := 3) rfl)) (hw _ (List.mem_of_getElem? (i := 14) rfl)) (by decide) pd24 rfl rfl (W := 1) (Nat.le_of_eq rfl) (by decide) (by decide) (by decide) (by decide) (fun T h v w gs C q => ?_)
        obtain ⟨rfl, K, G_key⟩ := q
        replace E0 := ext_keep E0 K z_a77
        have X0 := X_a77
        replace X_a77 := X_a77.keep K
        replace U_x78 := U_x78.keepO K ne_a77_x78.symm X0 (hw _ (List.mem_of_getElem? (i := 2) rfl))
        replace F_key_a77 := G_key
        show Go p e below _ (State.setTop T (mkF m 85 #[.val (.int j0), .val (.long k1), .second, .val (.long k2), .second, .val (.int j3), .val (.int j4), .val (.int cc), .val (.int d8), .val (.int (j0 &&& (3 : Int32))), .unset, .unset, .unset, .unset, .unset, .unset, .unset, .unset, .unset, .unset, .unset] [(.ref a77)]))
        refine g_virtual w (con_index l Z a0 hw fm em a77 x78 [cc] _ w.old X_a77 F_key_a77 U_x78 (Nat.le_of_ble_eq_true rfl) hcm SFm rfm SA_ SH_ SL_ SE_) no0 X_a77 at_85 (q := 88) rfl rfl (hw _ (List.mem_of_getElem? (i := 25) rfl)) (hw _ (List.mem_of_getElem? (i := 26) rfl)) (hw _ (List.mem_of_getElem? (i := 28) rfl)) (hw _ (List.mem_of_getElem? (i := 27) rfl)) (hw _ (List.mem_of_getElem? (i := 3) rfl)) (hw _ (List.mem_of_getElem? (i := 29) rfl)) (by decide) (nf (hw _ (List.mem_of_getElem? (i := 28) rfl))) pd18 rfl rfl (W := 0) (Nat.le_of_eq rfl) (by decide) (by decide) (by decide) (by decide) (fun T h v w gs C q => ?_)
        obtain ⟨o, rfl, E, hq⟩ := q
        replace E0 := ext_trans E0 E
        replace X_a77 := X_a77.ext E
        replace U_x78 := U_x78.ext E
        replace F_key_a77 := F_key_a77.ext E
        rcases hq with ⟨hix, ho⟩ | ⟨nn, hix, hmx, g_o, X_o, F_po, F_vo⟩
        · rw [ho]
          have X_em := XE_.ext w.old
          have F_em := FE_.ext w.old
          show Go p e below _ (State.setTop T (mkF m 88 #[.val (.int j0), .val (.long k1), .second, .val (.long k2), .second, .val (.int j3), .val (.int j4), .val (.int cc), .val (.int d8), .val (.int (j0 &&& (3 : Int32))), .unset, .unset, .unset, .unset, .unset, .unset, .unset, .unset, .unset, .unset, .unset] [(.ref em)]))
          refine g_astore w at_88 (q := 90) rfl rfl (Ls' := #[.val (.int j0), .val (.long k1), .second, .val (.long k2), .second, .val (.int j3), .val (.int j4), .val (.int cc), .val (.int d8), .val (.int (j0 &&& (3 : Int32))), .val (.ref em), .unset, .unset, .unset, .unset, .unset, .unset, .unset, .unset, .unset, .unset]) rfl ?_
          refine g_iload w at_90 (q := 92) rfl rfl ?_
          rcases hj29_0 with ⟨rfl, hdg⟩ | ⟨rfl, hdg⟩
          · show Go p e below _ (State.setTop T (mkF m 92 #[.val (.int j0), .val (.long k1), .second, .val (.long k2), .second, .val (.int j3), .val (.int j4), .val (.int cc), .val (.int (1 : Int32)), .val (.int (j0 &&& (3 : Int32))), .val (.ref em), .unset, .unset, .unset, .unset, .unset, .unset, .unset, .unset, .unset, .unset] [(.int (1 : Int32))]))
            refine g_ifN w at_92 (q := 95) rfl (by decide) ?_
            refine g_aload w at_95 (q := 97) rfl rfl rfl ?_
            refine g_virtualP w (con_ip0 l Z a0 hw em _ w.old F_em) no0 X_em at_97 (q := 100) rfl rfl (hw _ (List.mem_of_getElem? (i := 41) rfl)) (hw _ (List.mem_of_getElem? (i := 42) rfl)) (hw _ (List.mem_of_getElem? (i := 44) rfl)) (hw _ (List.mem_of_getElem? (i := 43) rfl)) (hw _ (List.mem_of_getElem? (i := 38) rfl)) (hw _ (List.mem_of_getElem? (i := 45) rfl)) (by decide) (nf (hw _ (List.mem_of_getElem? (i := 44) rfl))) pd12 rfl rfl (W := 0) (Nat.le_of_eq rfl) (by decide) (by decide) (by decide) (by decide) (fun T v w C q => ?_)
            obtain rfl := q
            show Go p e below _ (State.setTop T (mkF m 100 #[.val (.int j0), .val (.long k1), .second, .val (.long k2), .second, .val (.int j3), .val (.int j4), .val (.int cc), .val (.int (1 : Int32)), .val (.int (j0 &&& (3 : Int32))), .val (.ref em), .unset, .unset, .unset, .unset, .unset, .unset, .unset, .unset, .unset, .unset] [(.int (0 : Int32))]))
            refine g_ifY w at_100 (by decide) (q := 120) (by decide) (by decide) ?_
            refine g_iconst w at_120 (q := 121) rfl (v := (0 : Int32)) (by decide) ?_
            exact g_retn w at_121 rfl (by simp) rfl (by decide) (by decide) (absurd (hix.symm.trans (ix1 hdg)) (by simp))
          · show Go p e below _ (State.setTop T (mkF m 92 #[.val (.int j0), .val (.long k1), .second, .val (.long k2), .second, .val (.int j3), .val (.int j4), .val (.int cc), .val (.int (0 : Int32)), .val (.int (j0 &&& (3 : Int32))), .val (.ref em), .unset, .unset, .unset, .unset, .unset, .unset, .unset, .unset, .unset, .unset] [(.int (0 : Int32))]))
            refine g_ifY w at_92 (by decide) (q := 122) (by decide) (by decide) ?_
            refine g_aload w at_122 (q := 124) rfl rfl rfl ?_
            refine g_virtualP w (con_ip0 l Z a0 hw em _ w.old F_em) no0 X_em at_124 (q := 127) rfl rfl (hw _ (List.mem_of_getElem? (i := 41) rfl)) (hw _ (List.mem_of_getElem? (i := 42) rfl)) (hw _ (List.mem_of_getElem? (i := 44) rfl)) (hw _ (List.mem_of_getElem? (i := 43) rfl)) (hw _ (List.mem_of_getElem? (i := 38) rfl)) (hw _ (List.mem_of_getElem? (i := 45) rfl)) (by decide) (nf (hw _ (List.mem_of_getElem? (i := 44) rfl))) pd12 rfl rfl (W := 0) (Nat.le_of_eq rfl) (by decide) (by decide) (by decide) (by decide) (fun T v w C q => ?_)
            obtain rfl := q
            show Go p e below _ (State.setTop T (mkF m 127 #[.val (.int j0), .val (.long k1), .second, .val (.long k2), .second, .val (.int j3), .val (.int j4), .val (.int cc), .val (.int (0 : Int32)), .val (.int (j0 &&& (3 : Int32))), .val (.ref em), .unset, .unset, .unset, .unset, .unset, .unset, .unset, .unset, .unset, .unset] [(.int (0 : Int32))]))
            refine g_ifN w at_127 (q := 130) rfl (by decide) ?_
            refine g_iconst w at_130 (q := 131) rfl (v := (1 : Int32)) (by decide) ?_
            refine g_goto w at_131 (by decide) (q := 135) (by decide) ?_
            exact g_retn w at_135 rfl (by simp) rfl (by decide) (by decide) rfl
        · show Go p e below _ (State.setTop T (mkF m 88 #[.val (.int j0), .val (.long k1), .second, .val (.long k2), .second, .val (.int j3), .val (.int j4), .val (.int cc), .val (.int d8), .val (.int (j0 &&& (3 : Int32))), .unset, .unset, .unset, .unset, .unset, .unset, .unset, .unset, .unset, .unset, .unset] [(.ref o)]))
          refine g_astore w at_88 (q := 90) rfl rfl (Ls' := #[.val (.int j0), .val (.long k1), .second, .val (.long k2), .second, .val (.int j3), .val (.int j4), .val (.int cc), .val (.int d8), .val (.int (j0 &&& (3 : Int32))), .val (.ref o), .unset, .unset, .unset, .unset, .unset, .unset, .unset, .unset, .unset, .unset]) rfl ?_
          refine g_iload w at_90 (q := 92) rfl rfl ?_
          rcases hj29_0 with ⟨rfl, hdg⟩ | ⟨rfl, hdg⟩
          · show Go p e below _ (State.setTop T (mkF m 92 #[.val (.int j0), .val (.long k1), .second, .val (.long k2), .second, .val (.int j3), .val (.int j4), .val (.int cc), .val (.int (1 : Int32)), .val (.int (j0 &&& (3 : Int32))), .val (.ref o), .unset, .unset, .unset, .unset, .unset, .unset, .unset, .unset, .unset, .unset] [(.int (1 : Int32))]))
            refine g_ifN w at_92 (q := 95) rfl (by decide) ?_
            refine g_aload w at_95 (q := 97) rfl rfl rfl ?_
            refine g_virtualP w (con_ip1 l Z a0 hw o _ w.old F_po) no0 X_o at_97 (q := 100) rfl rfl (hw _ (List.mem_of_getElem? (i := 41) rfl)) (hw _ (List.mem_of_getElem? (i := 42) rfl)) (hw _ (List.mem_of_getElem? (i := 44) rfl)) (hw _ (List.mem_of_getElem? (i := 43) rfl)) (hw _ (List.mem_of_getElem? (i := 38) rfl)) (hw _ (List.mem_of_getElem? (i := 45) rfl)) (by decide) (nf (hw _ (List.mem_of_getElem? (i := 44) rfl))) pd12 rfl rfl (W := 0) (Nat.le_of_eq rfl) (by decide) (by decide) (by decide) (by decide) (fun T v w C q => ?_)
            obtain rfl := q
            show Go p e below _ (State.setTop T (mkF m 100 #[.val (.int j0), .val (.long k1), .second, .val (.long k2), .second, .val (.int j3), .val (.int j4), .val (.int cc), .val (.int (1 : Int32)), .val (.int (j0 &&& (3 : Int32))), .val (.ref o), .unset, .unset, .unset, .unset, .unset, .unset, .unset, .unset, .unset, .unset] [(.int (1 : Int32))]))
            refine g_ifN w at_100 (q := 103) rfl (by decide) ?_
            refine g_aload w at_103 (q := 105) rfl rfl rfl ?_
            refine g_virtualP w (con_gai l Z a0 hw o (Int32.ofNat nn) _ w.old F_po F_vo) no0 X_o at_105 (q := 108) rfl rfl (hw _ (List.mem_of_getElem? (i := 149) rfl)) (hw _ (List.mem_of_getElem? (i := 150) rfl)) (hw _ (List.mem_of_getElem? (i := 152) rfl)) (hw _ (List.mem_of_getElem? (i := 151) rfl)) (hw _ (List.mem_of_getElem? (i := 38) rfl)) (hw _ (List.mem_of_getElem? (i := 153) rfl)) (by decide) (nf (hw _ (List.mem_of_getElem? (i := 152) rfl))) pd19 rfl rfl (W := 0) (Nat.le_of_eq rfl) (by decide) (by decide) (by decide) (by decide) (fun T v w C q => ?_)
            obtain rfl := q
            show Go p e below _ (State.setTop T (mkF m 108 #[.val (.int j0), .val (.long k1), .second, .val (.long k2), .second, .val (.int j3), .val (.int j4), .val (.int cc), .val (.int (1 : Int32)), .val (.int (j0 &&& (3 : Int32))), .val (.ref o), .unset, .unset, .unset, .unset, .unset, .unset, .unset, .unset, .unset, .unset] [(.int (Int32.ofNat nn))]))
            refine g_iload w at_108 (q := 110) rfl rfl ?_
            refine g_bipush w at_110 (q := 112) rfl (v := (48 : Int32)) (by decide) ?_
            refine g_isub w at_112 (q := 113) rfl ?_
            refine g_icN w at_113 (q := 116) rfl (Jvm.Free.XT.ii_ne_f (by have q := hix.symm.trans (ix1 hdg); cases q; exact (c64 hdg).2.2)) ?_
            refine g_iconst w at_116 (q := 117) rfl (v := (1 : Int32)) (by decide) ?_
            refine g_goto w at_117 (by decide) (q := 121) (by decide) ?_
            exact g_retn w at_121 rfl (by simp) rfl (by decide) (by decide) rfl
          · show Go p e below _ (State.setTop T (mkF m 92 #[.val (.int j0), .val (.long k1), .second, .val (.long k2), .second, .val (.int j3), .val (.int j4), .val (.int cc), .val (.int (0 : Int32)), .val (.int (j0 &&& (3 : Int32))), .val (.ref o), .unset, .unset, .unset, .unset, .unset, .unset, .unset, .unset, .unset, .unset] [(.int (0 : Int32))]))
            refine g_ifY w at_92 (by decide) (q := 122) (by decide) (by decide) ?_
            refine g_aload w at_122 (q := 124) rfl rfl rfl ?_
            refine g_virtualP w (con_ip1 l Z a0 hw o _ w.old F_po) no0 X_o at_124 (q := 127) rfl rfl (hw _ (List.mem_of_getElem? (i := 41) rfl)) (hw _ (List.mem_of_getElem? (i := 42) rfl)) (hw _ (List.mem_of_getElem? (i := 44) rfl)) (hw _ (List.mem_of_getElem? (i := 43) rfl)) (hw _ (List.mem_of_getElem? (i := 38) rfl)) (hw _ (List.mem_of_getElem? (i := 45) rfl)) (by decide) (nf (hw _ (List.mem_of_getElem? (i := 44) rfl))) pd12 rfl rfl (W := 0) (Nat.le_of_eq rfl) (by decide) (by decide) (by decide) (by decide) (fun T v w C q => ?_)
            obtain rfl := q
            show Go p e below _ (State.setTop T (mkF m 127 #[.val (.int j0), .val (.long k1), .second, .val (.long k2), .second, .val (.int j3), .val (.int j4), .val (.int cc), .val (.int (0 : Int32)), .val (.int (j0 &&& (3 : Int32))), .val (.ref o), .unset, .unset, .unset, .unset, .unset, .unset, .unset, .unset, .unset, .unset] [(.int (1 : Int32))]))
            refine g_ifY w at_127 (by decide) (q := 134) (by decide) (by decide) ?_
            refine g_iconst w at_134 (q := 135) rfl (v := (0 : Int32)) (by decide) ?_
            exact g_retn w at_135 rfl (by simp) rfl (by decide) (by decide) (absurd (hix.symm.trans (ix1n hdg)) (by simp))
    · refine g_new w at_39 (q := 42) rfl (hw _ (List.mem_of_getElem? (i := 1) rfl)) (hw _ (List.mem_of_getElem? (i := 2) rfl)) (hw _ (List.mem_of_getElem? (i := 3) rfl)) (by decide) (by decide) (fun T h a87 w E g_a87 n_a87 X_a87 D_a87 s_a87 => ?_)
      have z_a87 := Nat.le_trans E0.1 g_a87
      replace E0 := ext_trans E0 E
      have F_key_a87 := D_a87 (Or.inr (hw _ (List.mem_of_getElem? (i := 24) rfl))) (ty := (.object "java/lang/String")) (by decide)
      replace F_key_a87 : Fld Z h a87 "com/example/stepwize/stepwize/binding/PropertyPath$Element" "key" "Ljava/lang/String;" .null := F_key_a87
      refine g_dup w at_42 (q := 43) rfl rfl ?_
      refine g_ldcS w at_43 (q := 45) rfl rfl (hw _ (List.mem_of_getElem? (i := 4) rfl)) (own_wS hw) (by decide) (vs := []) (z := 0) ⟨by decide, by decide⟩ (by decide) (by decide) (nn := 0) (by decide) (by decide) (by decide) (by decide) (fun T vm h t88 b_t88 kb_t88 w E X_t88 Fc_t88 Fv_t88 Ab_t88 C Sf => ?_)
      replace s_a87 := C.safe X_a87.lt s_a87
      have nb_a87_t88 := (Sf _ s_a87).2
      have ne_a87_t88 := (Sf _ s_a87).1
      have ne_a87_b_t88 := nb_a87_t88
      replace E0 := ext_trans E0 E
      replace X_a87 := X_a87.ext E
      replace F_key_a87 := F_key_a87.ext E
      have S_t88 : Sg Z h t88 [] := ⟨Nat.le_of_ble_eq_true rfl, cs0, X_t88, b_t88, kb_t88, Fv_t88, Fc_t88, Ab_t88⟩
      have U_t88 := Sg.su S_t88
      refine g_special w (con_el l Z a0 hw a87 t88 _ w.old X_a87 F_key_a87 n_a87) no0 at_45 (q := 48) rfl rfl rfl (hw _ (List.mem_of_getElem? (i := 12) rfl)) (hw _ (List.mem_of_getElem? (i := 13) rfl)) (hw _ (List.mem_of_getElem? (i := 3) rfl)) (hw _ (List.mem_of_getElem? (i := 14) rfl)) (by decide) pd24 rfl rfl (W := 1) (Nat.le_of_eq rfl) (by decide) (by decide) (by decide) (by decide) (fun T h v w gs C q => ?_)
      obtain ⟨rfl, K, G_key⟩ := q
      replace E0 := ext_keep E0 K z_a87
      have X0 := X_a87
      replace X_a87 := X_a87.keep K
      replace U_t88 := U_t88.keepO K ne_a87_t88.symm X0 (hw _ (List.mem_of_getElem? (i := 2) rfl))
      replace F_key_a87 := G_key
      show Go p e below _ (State.setTop T (mkF m 48 #[.val (.int j0), .val (.long k1), .second, .val (.long k2), .second, .val (.int j3), .val (.int j4), .val (.int cc), .val (.int d8), .val (.int (j0 &&& (3 : Int32))), .unset, .unset, .unset, .unset, .unset, .unset, .unset, .unset, .unset, .unset, .unset] [(.ref a87)]))
      refine g_virtual w (con_index l Z a0 hw fm em a87 t88 ([] : List Int32) _ w.old X_a87 F_key_a87 U_t88 (Nat.le_of_ble_eq_true rfl) hcm SFm rfm SA_ SH_ SL_ SE_) no0 X_a87 at_48 (q := 51) rfl rfl (hw _ (List.mem_of_getElem? (i := 25) rfl)) (hw _ (List.mem_of_getElem? (i := 26) rfl)) (hw _ (List.mem_of_getElem? (i := 28) rfl)) (hw _ (List.mem_of_getElem? (i := 27) rfl)) (hw _ (List.mem_of_getElem? (i := 3) rfl)) (hw _ (List.mem_of_getElem? (i := 29) rfl)) (by decide) (nf (hw _ (List.mem_of_getElem? (i := 28) rfl))) pd18 rfl rfl (W := 0) (Nat.le_of_eq rfl) (by decide) (by decide) (by decide) (by decide) (fun T h v w gs C q => ?_)
      obtain ⟨o, rfl, E, hq⟩ := q
      replace E0 := ext_trans E0 E
      replace X_a87 := X_a87.ext E
      replace U_t88 := U_t88.ext E
      replace F_key_a87 := F_key_a87.ext E
      rcases hq with ⟨hix, ho⟩ | ⟨nn, hix, hmx, g_o, X_o, F_po, F_vo⟩
      · rw [ho]
        have X_em := XE_.ext w.old
        have F_em := FE_.ext w.old
        show Go p e below _ (State.setTop T (mkF m 51 #[.val (.int j0), .val (.long k1), .second, .val (.long k2), .second, .val (.int j3), .val (.int j4), .val (.int cc), .val (.int d8), .val (.int (j0 &&& (3 : Int32))), .unset, .unset, .unset, .unset, .unset, .unset, .unset, .unset, .unset, .unset, .unset] [(.ref em)]))
        refine g_astore w at_51 (q := 53) rfl rfl (Ls' := #[.val (.int j0), .val (.long k1), .second, .val (.long k2), .second, .val (.int j3), .val (.int j4), .val (.int cc), .val (.int d8), .val (.int (j0 &&& (3 : Int32))), .val (.ref em), .unset, .unset, .unset, .unset, .unset, .unset, .unset, .unset, .unset, .unset]) rfl ?_
        refine g_aload w at_53 (q := 55) rfl rfl rfl ?_
        refine g_virtualP w (con_ip0 l Z a0 hw em _ w.old F_em) no0 X_em at_55 (q := 58) rfl rfl (hw _ (List.mem_of_getElem? (i := 41) rfl)) (hw _ (List.mem_of_getElem? (i := 42) rfl)) (hw _ (List.mem_of_getElem? (i := 44) rfl)) (hw _ (List.mem_of_getElem? (i := 43) rfl)) (hw _ (List.mem_of_getElem? (i := 38) rfl)) (hw _ (List.mem_of_getElem? (i := 45) rfl)) (by decide) (nf (hw _ (List.mem_of_getElem? (i := 44) rfl))) pd12 rfl rfl (W := 0) (Nat.le_of_eq rfl) (by decide) (by decide) (by decide) (by decide) (fun T v w C q => ?_)
        obtain rfl := q
        show Go p e below _ (State.setTop T (mkF m 58 #[.val (.int j0), .val (.long k1), .second, .val (.long k2), .second, .val (.int j3), .val (.int j4), .val (.int cc), .val (.int d8), .val (.int (j0 &&& (3 : Int32))), .val (.ref em), .unset, .unset, .unset, .unset, .unset, .unset, .unset, .unset, .unset, .unset] [(.int (0 : Int32))]))
        refine g_ifN w at_58 (q := 61) rfl (by decide) ?_
        refine g_iconst w at_61 (q := 62) rfl (v := (1 : Int32)) (by decide) ?_
        refine g_goto w at_62 (by decide) (q := 66) (by decide) ?_
        exact g_retn w at_66 rfl (by simp) rfl (by decide) (by decide) rfl
      · show Go p e below _ (State.setTop T (mkF m 51 #[.val (.int j0), .val (.long k1), .second, .val (.long k2), .second, .val (.int j3), .val (.int j4), .val (.int cc), .val (.int d8), .val (.int (j0 &&& (3 : Int32))), .unset, .unset, .unset, .unset, .unset, .unset, .unset, .unset, .unset, .unset, .unset] [(.ref o)]))
        refine g_astore w at_51 (q := 53) rfl rfl (Ls' := #[.val (.int j0), .val (.long k1), .second, .val (.long k2), .second, .val (.int j3), .val (.int j4), .val (.int cc), .val (.int d8), .val (.int (j0 &&& (3 : Int32))), .val (.ref o), .unset, .unset, .unset, .unset, .unset, .unset, .unset, .unset, .unset, .unset]) rfl ?_
        refine g_aload w at_53 (q := 55) rfl rfl rfl ?_
        refine g_virtualP w (con_ip1 l Z a0 hw o _ w.old F_po) no0 X_o at_55 (q := 58) rfl rfl (hw _ (List.mem_of_getElem? (i := 41) rfl)) (hw _ (List.mem_of_getElem? (i := 42) rfl)) (hw _ (List.mem_of_getElem? (i := 44) rfl)) (hw _ (List.mem_of_getElem? (i := 43) rfl)) (hw _ (List.mem_of_getElem? (i := 38) rfl)) (hw _ (List.mem_of_getElem? (i := 45) rfl)) (by decide) (nf (hw _ (List.mem_of_getElem? (i := 44) rfl))) pd12 rfl rfl (W := 0) (Nat.le_of_eq rfl) (by decide) (by decide) (by decide) (by decide) (fun T v w C q => ?_)
        obtain rfl := q
        show Go p e below _ (State.setTop T (mkF m 58 #[.val (.int j0), .val (.long k1), .second, .val (.long k2), .second, .val (.int j3), .val (.int j4), .val (.int cc), .val (.int d8), .val (.int (j0 &&& (3 : Int32))), .val (.ref o), .unset, .unset, .unset, .unset, .unset, .unset, .unset, .unset, .unset, .unset] [(.int (1 : Int32))]))
        refine g_ifY w at_58 (by decide) (q := 65) (by decide) (by decide) ?_
        refine g_iconst w at_65 (q := 66) rfl (v := (0 : Int32)) (by decide) ?_
        exact g_retn w at_66 rfl (by simp) rfl (by decide) (by decide) (absurd (show (none : Option Nat) = some nn from hix) (by simp))
  refine g_iload w at_8 (q := 10) rfl rfl ?_
  refine g_bipush w at_10 (q := 12) rfl (v := (48 : Int32)) (by decide) ?_
  refine g_ic_lt w at_12 (by decide) (q := 26) (by decide) (q' := 15) rfl (fun cd91 => ?_) (fun cd91 => ?_)
  · refine g_iconst w at_26 (q := 27) rfl (v := (0 : Int32)) (by decide) ?_
    refine g_istore w at_27 (q := 29) rfl (Ls' := #[.val (.int j0), .val (.long k1), .second, .val (.long k2), .second, .val (.int j3), .val (.int j4), .val (.int cc), .val (.int (0 : Int32)), .unset, .unset, .unset, .unset, .unset, .unset, .unset, .unset, .unset, .unset, .unset, .unset]) rfl ?_
    exact J29 _ (Or.inr ⟨rfl, fun q => q.1 cd91⟩)
  · refine g_iload w at_15 (q := 17) rfl rfl ?_
    refine g_bipush w at_17 (q := 19) rfl (v := (57 : Int32)) (by decide) ?_
    refine g_ic_gt w at_19 (by decide) (q := 26) (by decide) (q' := 22) rfl (fun cd92 => ?_) (fun cd92 => ?_)
    · refine g_iconst w at_26 (q := 27) rfl (v := (0 : Int32)) (by decide) ?_
      refine g_istore w at_27 (q := 29) rfl (Ls' := #[.val (.int j0), .val (.long k1), .second, .val (.long k2), .second, .val (.int j3), .val (.int j4), .val (.int cc), .val (.int (0 : Int32)), .unset, .unset, .unset, .unset, .unset, .unset, .unset, .unset, .unset, .unset, .unset, .unset]) rfl ?_
      exact J29 _ (Or.inr ⟨rfl, fun q => q.2 cd92⟩)
    · refine g_iconst w at_22 (q := 23) rfl (v := (1 : Int32)) (by decide) ?_
      refine g_goto w at_23 (by decide) (q := 27) (by decide) ?_
      refine g_istore w at_27 (q := 29) rfl (Ls' := #[.val (.int j0), .val (.long k1), .second, .val (.long k2), .second, .val (.int j3), .val (.int j4), .val (.int cc), .val (.int (1 : Int32)), .unset, .unset, .unset, .unset, .unset, .unset, .unset, .unset, .unset, .unset, .unset, .unset]) rfl ?_
      exact J29 _ (Or.inl ⟨rfl, cd91, cd92⟩)
set_option maxRecDepth 65536 in
set_option maxHeartbeats 40000000 in
theorem comes_1 {Post : Tables → Env → Array Value → State → Outcome → State → Prop} (hpost : ∀ tb e args s v u, (limb_1_1.after args s (.returned v) u = true ∧ limb_1_2.after args s (.returned v) u = true ∧ True) → ReturnedEndW s (.returned v) u (Jvm.fieldLocs frame_1_writes args s ++ Jvm.arrayLocs frame_1_arrays args s ++ Jvm.staticLocs frame_1_statics s) 24 1280 → Post tb e args s (.returned v) u) :
    ArmFor flags0 classFile x code maxLocals ret World_1 tables_1 room_1 Calls_1 rest_1 Pre_1 Post := by
  intro l hfl _ _ p e ha hc hk s m args below hf hA hF happ hP
  obtain ⟨hcalls, hrest, hpre⟩ := hP
  obtain ⟨-, -, -, hnamed, -, -, -, hat⟩ := (Spec.applies_iff hf).mp happ
  obtain ⟨hg, hn⟩ := and_e (Cond.before_iff.mp (show (Jvm.Cond.and given_1 narrow_1).before args s = true from hpre))
  obtain ⟨h1, hr0⟩ := and_e hg
  obtain ⟨w0, w1, w2, w3, w4, rfl⟩ : ∃ w0 w1 w2 w3 w4 : Value, args = #[w0, w1, w2, w3, w4] := by
    have hs : args.size = 5 := by simpa [Cond.value, given_1] using h1
    obtain ⟨L⟩ := args
    match L, hs with
    | [w0, w1, w2, w3, w4], _ => exact ⟨w0, w1, w2, w3, w4, rfl⟩
  obtain ⟨q0, hr1⟩ := and_e hr0
  obtain ⟨i0, ei0⟩ := is_v q0
  obtain rfl : w0 = (.int i0) := Option.some.inj ei0
  obtain ⟨q1, hr2⟩ := and_e hr1
  obtain ⟨i1, ei1⟩ := isL_v q1
  obtain rfl : w1 = (.long i1) := Option.some.inj ei1
  obtain ⟨q2, hr3⟩ := and_e hr2
  obtain ⟨i2, ei2⟩ := isL_v q2
  obtain rfl : w2 = (.long i2) := Option.some.inj ei2
  obtain ⟨q3, hr4⟩ := and_e hr3
  obtain ⟨i3, ei3⟩ := is_v q3
  obtain rfl : w3 = (.int i3) := Option.some.inj ei3
  obtain ⟨i4, ei4⟩ := is_v hr4
  obtain rfl : w4 = (.int i4) := Option.some.inj ei4
  have hw := fun d (hd : d ∈ tables_1) => atoms_spec (ws := Jvm.Cond.code x code maxLocals ret :: tables_1) hat d (List.mem_cons_of_mem _ hd)
  have hfit : Fit s := fun {y c} hc i hi => by
    obtain ⟨ha, rfl⟩ := Array.getElem?_eq_some_iff.mp hc
    have q := List.all_eq_true.mp ((Array.all_eq_true_iff_forall_mem.mp hF) _ (Array.getElem_mem ha)) i (List.mem_range.mpr hi)
    simpa [Array.getElem?_eq_getElem hi] using q
  obtain ⟨hsets, hown0⟩ := atoms_of _ (rest_1_c_eq ▸ (show rest_1_c.before _ s = true from hrest))
  have hcm : Cpt s := by
    obtain ⟨z, ez⟩ := is_v (Cond.before_iff.mp (hsets _ (List.mem_of_getElem? (i := 6) rfl)))
    refine ⟨z, ?_, Sta.start ez (Or.inl (hsets _ (List.mem_of_getElem? (i := 5) rfl)))⟩
    intro hz; subst hz
    have q := not_v (Cond.before_iff.mp (hsets _ (List.mem_of_getElem? (i := 7) rfl)))
    rw [eq_i ez (Term.int_eval (0)) rfl] at q; cases q
  obtain ⟨fm, efm, rfm⟩ := isR_v (Cond.before_iff.mp (hsets _ (List.mem_of_getElem? (i := 13) rfl)))
  have SFm := Sta.start efm (Or.inl (hsets _ (List.mem_of_getElem? (i := 12) rfl)))
  have SA_ := Sta.start (sta_eq (k := 1) (Cond.before_iff.mp (hsets _ (List.mem_of_getElem? (i := 17) rfl)))) (Or.inl (hsets _ (List.mem_of_getElem? (i := 16) rfl)))
  have SH_ := Sta.start (sta_eq (k := 0) (Cond.before_iff.mp (hsets _ (List.mem_of_getElem? (i := 20) rfl)))) (Or.inl (hsets _ (List.mem_of_getElem? (i := 19) rfl)))
  have SL_ := Sta.start (sta_eq (k := 8) (Cond.before_iff.mp (hsets _ (List.mem_of_getElem? (i := 23) rfl)))) (Or.inl (hsets _ (List.mem_of_getElem? (i := 22) rfl)))
  obtain ⟨em, eem⟩ := exa_v (Cond.before_iff.mp (hsets _ (List.mem_of_getElem? (i := 2) rfl)))
  have SE_ := Sta.start eem (Or.inl (hsets _ (List.mem_of_getElem? (i := 1) rfl)))
  have XE_ := Exa.start eem (Cond.before_iff.mp (hsets _ (List.mem_of_getElem? (i := 2) rfl)))
  have FE_ : Fld s s.heap em "java/util/OptionalInt" "isPresent" "Z" (.int 0) := Fld.start (by have q := sta_eq (k := 0) (Cond.before_iff.mp (hsets _ (List.mem_of_getElem? (i := 3) rfl))); rw [fld_at eem] at q; exact q)
  have hch : CHv s consts_1 s.vm s.heap := CHv.start (own_EL hw) (fun p hp => hcalls.1 p hp) (hsets _ (List.mem_of_getElem? (i := 7) rfl)) (hw _ (List.mem_of_getElem? (i := 7) rfl)) (hw _ (List.mem_of_getElem? (i := 6) rfl))
  obtain ⟨n, o, h1, h2, h3, _, L, rfl, rfl, O, N, C, W, hq⟩ := con_law l s _ hw fm em i0 i1 i2 i3 i4 s.heap (ext_refl _) hcm SFm rfm SA_ SH_ SL_ SE_ XE_ FE_ p e ha hc hk s m _ below hf ((Spec.applies_iff_loose hf).mp happ).1 ⟨rfl, State.Warmed39.refl s, rfl, hch, no0⟩ trivial
  refine ⟨n, _, h1, h2, h3, hpost _ _ _ _ _ _ ⟨Cond.after_iff.mpr rfl, Cond.after_iff.mpr (eq_i res_at (Term.int_eval (1)) rfl), trivial⟩ ⟨hq.1, hq.2.1, hq.2.2.1, (hq.2.2.2.sift fun y hy => Or.inr (N y hy)).mono (by decide) (by decide)⟩⟩
theorem main_1_1 : Claimed_1_1 := comes_1 fun _ _ _ _ _ _ h hF => ⟨h.1, hF⟩
theorem main_1_2 : Claimed_1_2 := comes_1 fun _ _ _ _ _ _ h hF => ⟨h.2.1, hF⟩
end Jvm.Pilot.@@N@@
namespace Jvm.Pilot.@@N@@
open Jvm Jvm.ClassFile Sem Op Lib Jvm.Free Jvm.Stand Jvm.Pilot.@@N@@.Jvm.D
/-! MADE BY PROGRAM (witnessworld.py) out of the Statement's table words and the real class files: 25 classes; the members and pool entries that the words name. The judged class is class 1, her method 3. -/
namespace start1
open Jvm.ClassFile
def u (s : String) : CpInfo := .utf8 (stringToUtf16 s)
/-- a pool by its gaps: so many unusable entries, then the entry; so many at the end -/
def gap : Nat → List CpInfo → List CpInfo
  | 0, r => r
  | n + 1, r => .unusable :: gap n r
def poolList (es : List (Nat × CpInfo)) (last : Nat) : List CpInfo := es.foldr (fun e r => gap e.1 (e.2 :: r)) (gap last [])
def pool (es : List (Nat × CpInfo)) (last : Nat) : Array CpInfo := ⟨poolList es last⟩
def fileOf (pool : Array CpInfo) (this : Nat) (attrs : Array Attribute := #[]) (ms : Array MethodInfo := #[]) (fl : Nat := 33) (sup : Nat := 0) (ifs : Array Nat := #[]) (fds : Array FieldInfo := #[]) : ClassFile where
  minorVersion := 0
  majorVersion := 65
  constantPool := pool
  accessFlags := fl
  thisClass := this
  superClass := sup
  interfaces := ifs
  fields := fds
  methods := ms
  attributes := attrs
def plain (name : String) (sup : Option ClassId) : Class where
  name := name
  kind := .ordinary
  loader := none
  accessFlags := 33
  super := sup
  interfaces := #[]
  cf := none
  fields := #[]
  methods := #[]
  instanceTypes := #[]
  staticTypes := #[]
  resolved := #[]
  callSites := []
  init := .initialized
  statics := none
  mirror := none

def pool0 : Array CpInfo := pool [(5, u "<init>"), (0, u "()V"), (1, .class_ 10), (1, u "java/lang/Object")] 113

def k0c0 : Code := { maxStack := 0, maxLocals := 1, code := object_method_1_code, exceptionTable := #[], attributes := #[] }
def k0m0 : Method := { name := "<init>", desc := "()V", sig := { parameters := [], returnType := none }, accessFlags := 1, code := some k0c0 }
/-- java/lang/Object -/
def k0 : Class := { plain "java/lang/Object" none with
  accessFlags := 33
  interfaces := #[]
  cf := some (fileOf pool0 8 #[] #[{ accessFlags := 1, nameIndex := 5, descriptorIndex := 6, attributes := #[] }] 33 0 #[] #[])
  fields := #[]
  methods := #[k0m0]
  instanceTypes := #[]
  staticTypes := #[]
  resolved := Array.replicate 124 none
  statics := none }

def pool1 : Array CpInfo := pool [(2, .class_ 4), (1, u "java/lang/Object"), (0, u "<init>"), (0, u "()V"), (0, .long 10), (1, .long 100), (1, .long 1000), (1, .long 10000), (1, .long 100000), (1, .long 1000000), (1, .long 10000000), (1, .long 100000000), (1, .long 1000000000), (1, .long 10000000000), (1, .long 100000000000), (1, .integer 65535), (0, .class_ 31), (0, u "com/example/stepwize/stepwize/binding/PropertyPath$Element"), (0, .string 33), (0, u ""), (0, .methodref 30 35), (0, .nameAndType 5 36), (0, u "(Ljava/lang/String;)V"), (0, .methodref 30 38), (0, .nameAndType 39 40), (0, u "index"), (0, u "()Ljava/util/OptionalInt;"), (0, .methodref 42 43), (0, .class_ 44), (0, .nameAndType 45 46), (0, u "java/util/OptionalInt"), (0, u "isPresent"), (0, u "()Z"), (0, .methodref 48 49), (0, .class_ 50), (0, .nameAndType 51 52), (0, u "java/lang/String"), (0, u "valueOf"), (0, u "(C)Ljava/lang/String;"), (0, .methodref 42 54), (0, .nameAndType 55 56), (0, u "getAsInt"), (0, u "()I"), (2, .long 9223372036854775807), (1, .long 1000000000000), (1, .long 4294967295), (1, .methodref 66 67), (0, .class_ 68), (0, .nameAndType 69 70), (0, u "com/example/stepwize/stepwize/binding/ElementIndexPinLaw"), (0, u "dig"), (0, u "(JJ)C"), (0, .integer 2147483647), (0, .methodref 66 73), (0, .nameAndType 74 75), (0, u "pow10"), (0, u "(I)J"), (0, .methodref 48 77), (0, .nameAndType 5 78), (0, u "([C)V"), (2, .long 2147483647), (3, u "law"), (0, u "(IJJII)Z")] 9

def k1m0 : Method := { name := "<init>", desc := "()V", sig := { parameters := [], returnType := none }, accessFlags := 1, code := none }
def k1c1 : Code := { maxStack := 5, maxLocals := 2, code := method_2_code, exceptionTable := #[], attributes := #[] }
def k1m1 : Method := { name := "pow10", desc := "(I)J", sig := { parameters := [.int], returnType := some .long }, accessFlags := 10, code := some k1c1 }
def k1c2 : Code := { maxStack := 5, maxLocals := 4, code := method_3_code, exceptionTable := #[], attributes := #[] }
def k1m2 : Method := { name := "dig", desc := "(JJ)C", sig := { parameters := [.long, .long], returnType := some .char }, accessFlags := 10, code := some k1c2 }
def k1c3 : Code := { maxStack := 6, maxLocals := 21, code := code, exceptionTable := #[], attributes := #[] }
def k1m3 : Method := { name := "law", desc := "(IJJII)Z", sig := { parameters := [.int, .long, .long, .int, .int], returnType := some .boolean }, accessFlags := 9, code := some k1c3 }
/-- com/example/stepwize/stepwize/binding/ElementIndexPinLaw -/
def k1 : Class := { plain "com/example/stepwize/stepwize/binding/ElementIndexPinLaw" (some 0) with
  accessFlags := 49
  interfaces := #[]
  cf := some (fileOf pool1 66 #[] #[{ accessFlags := 1, nameIndex := 5, descriptorIndex := 6, attributes := #[] }, { accessFlags := 10, nameIndex := 74, descriptorIndex := 75, attributes := #[] }, { accessFlags := 10, nameIndex := 69, descriptorIndex := 70, attributes := #[] }, { accessFlags := 9, nameIndex := 85, descriptorIndex := 86, attributes := #[] }] 49 2 #[] #[])
  fields := #[]
  methods := #[k1m0, k1m1, k1m2, k1m3]
  instanceTypes := #[]
  staticTypes := #[]
  resolved := Array.replicate 96 none
  statics := none }

def pool2 : Array CpInfo := pool [(1, .methodref 2 3), (0, .class_ 4), (0, .nameAndType 5 6), (0, u "java/lang/Object"), (0, u "<init>"), (0, u "()V"), (0, .class_ 8), (0, u "java/lang/Record")] 13

def k2c0 : Code := { maxStack := 1, maxLocals := 1, code := jdk_30_method_1_code, exceptionTable := #[], attributes := #[] }
def k2m0 : Method := { name := "<init>", desc := "()V", sig := { parameters := [], returnType := none }, accessFlags := 4, code := some k2c0 }
/-- java/lang/Record -/
def k2 : Class := { plain "java/lang/Record" (some 0) with
  accessFlags := 1057
  interfaces := #[]
  cf := some (fileOf pool2 7 #[] #[{ accessFlags := 4, nameIndex := 5, descriptorIndex := 6, attributes := #[] }] 1057 2 #[] #[])
  fields := #[]
  methods := #[k2m0]
  instanceTypes := #[]
  staticTypes := #[]
  resolved := Array.replicate 22 none
  statics := none }

def pool3 : Array CpInfo := pool [(1, .class_ 2), (0, u "com/example/stepwize/stepwize/binding/PropertyPath$Segment"), (0, .class_ 4), (0, u "java/lang/Object"), (3, .class_ 9), (0, u "com/example/stepwize/stepwize/binding/PropertyPath")] 9

/-- com/example/stepwize/stepwize/binding/PropertyPath$Segment -/
def k3 : Class := { plain "com/example/stepwize/stepwize/binding/PropertyPath$Segment" (some 0) with
  accessFlags := 1537
  interfaces := #[]
  cf := some (fileOf pool3 1 #[.nestHost 8] #[] 1537 3 #[] #[])
  fields := #[]
  methods := #[]
  instanceTypes := #[]
  staticTypes := #[]
  resolved := Array.replicate 19 none
  statics := none }

def pool4 : Array CpInfo := pool [(1, .methodref 2 3), (0, .class_ 4), (0, .nameAndType 5 6), (0, u "java/lang/Record"), (0, u "<init>"), (0, u "()V"), (0, .fieldref 8 9), (0, .class_ 10), (0, .nameAndType 11 12), (0, u "com/example/stepwize/stepwize/binding/PropertyPath$Element"), (0, u "key"), (0, u "Ljava/lang/String;"), (0, .methodref 14 15), (0, .class_ 16), (0, .nameAndType 17 18), (0, u "java/lang/String"), (0, u "isEmpty"), (0, u "()Z"), (0, .methodref 20 21), (0, .class_ 22), (0, .nameAndType 23 24), (0, u "java/util/OptionalInt"), (0, u "empty"), (0, u "()Ljava/util/OptionalInt;"), (0, .methodref 14 26), (0, .nameAndType 27 28), (0, u "length"), (0, u "()I"), (0, .methodref 14 30), (0, .nameAndType 31 32), (0, u "charAt"), (0, u "(I)C"), (0, .long 10), (3, .long 2147483647), (1, .methodref 20 40), (0, .nameAndType 41 42), (0, u "of"), (0, u "(I)Ljava/util/OptionalInt;"), (12, .class_ 56), (0, u "com/example/stepwize/stepwize/binding/PropertyPath$Segment"), (0, u "(Ljava/lang/String;)V"), (3, u "index"), (6, .class_ 69), (0, u "com/example/stepwize/stepwize/binding/PropertyPath")] 19

def k4c0 : Code := { maxStack := 2, maxLocals := 2, code := prog_15_method_1_code, exceptionTable := #[], attributes := #[] }
def k4m0 : Method := { name := "<init>", desc := "(Ljava/lang/String;)V", sig := { parameters := [(.object "java/lang/String")], returnType := none }, accessFlags := 1, code := some k4c0 }
def k4c1 : Code := { maxStack := 4, maxLocals := 5, code := prog_15_method_2_code, exceptionTable := #[], attributes := #[] }
def k4m1 : Method := { name := "index", desc := "()Ljava/util/OptionalInt;", sig := { parameters := [], returnType := some (.object "java/util/OptionalInt") }, accessFlags := 1, code := some k4c1 }
/-- com/example/stepwize/stepwize/binding/PropertyPath$Element -/
def k4 : Class := { plain "com/example/stepwize/stepwize/binding/PropertyPath$Element" (some 2) with
  accessFlags := 49
  interfaces := #[3]
  cf := some (fileOf pool4 8 #[.nestHost 68] #[{ accessFlags := 1, nameIndex := 5, descriptorIndex := 57, attributes := #[] }, { accessFlags := 1, nameIndex := 61, descriptorIndex := 24, attributes := #[] }] 49 2 #[55] #[{ accessFlags := 18, nameIndex := 11, descriptorIndex := 12, attributes := #[] }])
  fields := #[{ name := "key", type := (.object "java/lang/String"), accessFlags := 18, slot := 0, constantValue := 0 }]
  methods := #[k4m0, k4m1]
  instanceTypes := #[(.object "java/lang/String")]
  staticTypes := #[]
  resolved := Array.replicate 89 none
  statics := none }

def pool5 : Array CpInfo := pool [(1, .class_ 2), (0, u "java/io/Serializable"), (0, .class_ 4), (0, u "java/lang/Object")] 2

/-- java/io/Serializable -/
def k5 : Class := { plain "java/io/Serializable" (some 0) with
  accessFlags := 1537
  interfaces := #[]
  cf := some (fileOf pool5 1 #[] #[] 1537 3 #[] #[])
  fields := #[]
  methods := #[]
  instanceTypes := #[]
  staticTypes := #[]
  resolved := Array.replicate 7 none
  statics := none }

def pool6 : Array CpInfo := pool [(1, .class_ 2), (0, u "java/lang/Comparable"), (0, .class_ 4), (0, u "java/lang/Object")] 7

/-- java/lang/Comparable -/
def k6 : Class := { plain "java/lang/Comparable" (some 0) with
  accessFlags := 1537
  interfaces := #[]
  cf := some (fileOf pool6 1 #[] #[] 1537 3 #[] #[])
  fields := #[]
  methods := #[]
  instanceTypes := #[]
  staticTypes := #[]
  resolved := Array.replicate 12 none
  statics := none }

def pool7 : Array CpInfo := pool [(2, .class_ 4), (1, u "java/lang/CharSequence"), (42, .class_ 48), (0, u "java/lang/CharSequence$1CodePointIterator"), (10, .class_ 60), (0, u "java/lang/CharSequence$1CharIterator"), (5, .class_ 67), (0, u "java/lang/Object")] 63

/-- java/lang/CharSequence -/
def k7 : Class := { plain "java/lang/CharSequence" (some 0) with
  accessFlags := 1537
  interfaces := #[]
  cf := some (fileOf pool7 2 #[.nestMembers #[47, 59]] #[] 1537 66 #[] #[])
  fields := #[]
  methods := #[]
  instanceTypes := #[]
  staticTypes := #[]
  resolved := Array.replicate 131 none
  statics := none }

def pool8 : Array CpInfo := pool [(1, .class_ 2), (0, u "java/lang/constant/Constable"), (0, .class_ 4), (0, u "java/lang/Object")] 6

/-- java/lang/constant/Constable -/
def k8 : Class := { plain "java/lang/constant/Constable" (some 0) with
  accessFlags := 1537
  interfaces := #[]
  cf := some (fileOf pool8 1 #[] #[] 1537 3 #[] #[])
  fields := #[]
  methods := #[]
  instanceTypes := #[]
  staticTypes := #[]
  resolved := Array.replicate 11 none
  statics := none }

def pool9 : Array CpInfo := pool [(1, .class_ 2), (0, u "java/lang/constant/ConstantDesc"), (0, .class_ 4), (0, u "java/lang/Object")] 32

/-- java/lang/constant/ConstantDesc -/
def k9 : Class := { plain "java/lang/constant/ConstantDesc" (some 0) with
  accessFlags := 1537
  interfaces := #[]
  cf := some (fileOf pool9 1 #[] #[] 1537 3 #[] #[])
  fields := #[]
  methods := #[]
  instanceTypes := #[]
  staticTypes := #[]
  resolved := Array.replicate 37 none
  statics := none }

def pool10 : Array CpInfo := pool [(1, .methodref 2 3), (0, .class_ 4), (0, .nameAndType 5 6), (0, u "java/lang/Object"), (0, u "<init>"), (0, u "()V"), (2, .fieldref 10 11), (0, .class_ 12), (0, .nameAndType 13 14), (0, u "java/lang/String"), (0, u "value"), (0, u "[B"), (0, .fieldref 10 16), (0, .nameAndType 17 18), (0, u "coder"), (0, u "B"), (2, u "hash"), (0, u "I"), (2, u "hashIsZero"), (0, u "Z"), (0, .methodref 10 28), (0, .nameAndType 5 29), (0, u "([CIILjava/lang/Void;)V"), (8, .fieldref 10 39), (0, .nameAndType 40 26), (0, u "COMPACT_STRINGS"), (1, .class_ 44), (1, u "java/lang/StringUTF16"), (0, u "compress"), (1, .methodref 42 48), (0, .nameAndType 49 50), (0, u "coderFromArrayLen"), (0, u "([BI)B"), (2, u "toBytes"), (53, .class_ 109), (1, u "java/lang/StringLatin1"), (32, u "()Z"), (34, .methodref 42 178), (0, .nameAndType 45 179), (0, u "([CII)[B"), (29, .methodref 10 210), (0, .nameAndType 5 211), (0, u "([BB)V"), (122, u "()I"), (0, .methodref 10 336), (0, .nameAndType 17 337), (0, u "()B"), (25, u "([BI)C"), (5, u "(C)Z"), (21, u "(II)V"), (35, u "(I)C"), (64, .methodref 10 493), (0, .nameAndType 494 142), (0, u "isLatin1"), (0, .methodref 107 496), (0, .nameAndType 497 363), (0, u "charAt"), (0, .methodref 42 496), (2, u "checkIndex"), (5, u "length"), (67, .class_ 576), (0, u "java/lang/CharSequence"), (22, u "CASE_INSENSITIVE_ORDER"), (0, u "Ljava/util/Comparator;"), (91, u "isEmpty"), (89, u "valueOf"), (0, u "(C)Ljava/lang/String;"), (226, u "([C)V"), (4, .methodref 107 1016), (0, .nameAndType 1017 369), (0, u "canEncode"), (0, .methodref 107 1019), (0, .nameAndType 53 1020), (0, u "(C)[B"), (0, .methodref 42 1019), (31, .fieldref 1054 1055), (0, .class_ 1056), (0, .nameAndType 1057 1058), (0, u "jdk/internal/util/Preconditions"), (0, u "SIOOBE_FORMATTER"), (0, u "Ljava/util/function/BiFunction;"), (0, .methodref 1054 1060), (0, .nameAndType 501 1061), (0, u "(IILjava/util/function/BiFunction;)I"), (39, u "serialPersistentFields"), (0, u "[Ljava/io/ObjectStreamField;"), (0, .class_ 1104), (0, u "java/lang/String$CaseInsensitiveComparator"), (1, .class_ 1107), (0, u "java/io/Serializable"), (0, .class_ 1109), (0, u "java/lang/Comparable"), (0, .class_ 1111), (0, u "java/lang/constant/Constable"), (0, .class_ 1113), (0, u "java/lang/constant/ConstantDesc"), (2, u "serialVersionUID"), (0, u "J"), (3, u "REPL"), (0, u "C"), (2, u "LATIN1"), (1, u "UTF16")] 323

def k10m0 : Method := { name := "<init>", desc := "()V", sig := { parameters := [], returnType := none }, accessFlags := 1, code := none }
def k10c1 : Code := { maxStack := 5, maxLocals := 2, code := jdk_42_method_3_code, exceptionTable := #[], attributes := #[] }
def k10m1 : Method := { name := "<init>", desc := "([C)V", sig := { parameters := [(.array .char)], returnType := none }, accessFlags := 1, code := some k10c1 }
def k10c2 : Code := { maxStack := 2, maxLocals := 1, code := jdk_42_method_54_code, exceptionTable := #[], attributes := #[] }
def k10m2 : Method := { name := "length", desc := "()I", sig := { parameters := [], returnType := some .int }, accessFlags := 1, code := some k10c2 }
def k10c3 : Code := { maxStack := 1, maxLocals := 1, code := jdk_42_method_55_code, exceptionTable := #[], attributes := #[] }
def k10m3 : Method := { name := "isEmpty", desc := "()Z", sig := { parameters := [], returnType := some .boolean }, accessFlags := 1, code := some k10c3 }
def k10c4 : Code := { maxStack := 2, maxLocals := 2, code := jdk_42_method_56_code, exceptionTable := #[], attributes := #[] }
def k10m4 : Method := { name := "charAt", desc := "(I)C", sig := { parameters := [.int], returnType := some .char }, accessFlags := 1, code := some k10c4 }
def k10c5 : Code := { maxStack := 4, maxLocals := 1, code := jdk_42_method_139_code, exceptionTable := #[], attributes := #[] }
def k10m5 : Method := { name := "valueOf", desc := "(C)Ljava/lang/String;", sig := { parameters := [.char], returnType := some (.object "java/lang/String") }, accessFlags := 9, code := some k10c5 }
def k10c6 : Code := { maxStack := 4, maxLocals := 6, code := jdk_42_method_149_code, exceptionTable := #[], attributes := #[] }
def k10m6 : Method := { name := "<init>", desc := "([CIILjava/lang/Void;)V", sig := { parameters := [(.array .char), .int, .int, (.object "java/lang/Void")], returnType := none }, accessFlags := 2, code := some k10c6 }
def k10c7 : Code := { maxStack := 2, maxLocals := 3, code := jdk_42_method_151_code, exceptionTable := #[], attributes := #[] }
def k10m7 : Method := { name := "<init>", desc := "([BB)V", sig := { parameters := [(.array .byte), .byte], returnType := none }, accessFlags := 0, code := some k10c7 }
def k10c8 : Code := { maxStack := 1, maxLocals := 1, code := jdk_42_method_152_code, exceptionTable := #[], attributes := #[] }
def k10m8 : Method := { name := "coder", desc := "()B", sig := { parameters := [], returnType := some .byte }, accessFlags := 0, code := some k10c8 }
def k10c9 : Code := { maxStack := 1, maxLocals := 1, code := jdk_42_method_154_code, exceptionTable := #[], attributes := #[] }
def k10m9 : Method := { name := "isLatin1", desc := "()Z", sig := { parameters := [], returnType := some .boolean }, accessFlags := 0, code := some k10c9 }
def k10c10 : Code := { maxStack := 3, maxLocals := 2, code := jdk_42_method_155_code, exceptionTable := #[], attributes := #[] }
def k10m10 : Method := { name := "checkIndex", desc := "(II)V", sig := { parameters := [.int, .int], returnType := none }, accessFlags := 8, code := some k10c10 }
/-- java/lang/String -/
def k10 : Class := { plain "java/lang/String" (some 0) with
  accessFlags := 49
  interfaces := #[5, 6, 7, 8, 9]
  cf := some (fileOf pool10 10 #[.nestMembers #[1103]] #[{ accessFlags := 1, nameIndex := 5, descriptorIndex := 6, attributes := #[] }, { accessFlags := 1, nameIndex := 5, descriptorIndex := 1010, attributes := #[] }, { accessFlags := 1, nameIndex := 507, descriptorIndex := 334, attributes := #[] }, { accessFlags := 1, nameIndex := 692, descriptorIndex := 142, attributes := #[] }, { accessFlags := 1, nameIndex := 497, descriptorIndex := 427, attributes := #[] }, { accessFlags := 9, nameIndex := 782, descriptorIndex := 783, attributes := #[] }, { accessFlags := 2, nameIndex := 5, descriptorIndex := 29, attributes := #[] }, { accessFlags := 0, nameIndex := 5, descriptorIndex := 211, attributes := #[] }, { accessFlags := 0, nameIndex := 17, descriptorIndex := 337, attributes := #[] }, { accessFlags := 0, nameIndex := 494, descriptorIndex := 142, attributes := #[] }, { accessFlags := 8, nameIndex := 501, descriptorIndex := 391, attributes := #[] }] 49 2 #[1106, 1108, 575, 1110, 1112] #[{ accessFlags := 18, nameIndex := 13, descriptorIndex := 14, attributes := #[] }, { accessFlags := 18, nameIndex := 17, descriptorIndex := 18, attributes := #[] }, { accessFlags := 2, nameIndex := 21, descriptorIndex := 22, attributes := #[] }, { accessFlags := 2, nameIndex := 25, descriptorIndex := 26, attributes := #[] }, { accessFlags := 26, nameIndex := 1116, descriptorIndex := 1117, attributes := #[] }, { accessFlags := 24, nameIndex := 40, descriptorIndex := 26, attributes := #[] }, { accessFlags := 26, nameIndex := 1101, descriptorIndex := 1102, attributes := #[] }, { accessFlags := 26, nameIndex := 1121, descriptorIndex := 1122, attributes := #[] }, { accessFlags := 25, nameIndex := 599, descriptorIndex := 600, attributes := #[] }, { accessFlags := 24, nameIndex := 1125, descriptorIndex := 18, attributes := #[] }, { accessFlags := 24, nameIndex := 1127, descriptorIndex := 18, attributes := #[] }])
  fields := #[{ name := "value", type := (.array .byte), accessFlags := 18, slot := 0, constantValue := 0 }, { name := "coder", type := .byte, accessFlags := 18, slot := 1, constantValue := 0 }, { name := "hash", type := .int, accessFlags := 2, slot := 2, constantValue := 0 }, { name := "hashIsZero", type := .boolean, accessFlags := 2, slot := 3, constantValue := 0 }, { name := "serialVersionUID", type := .long, accessFlags := 26, slot := 0, constantValue := 0 }, { name := "COMPACT_STRINGS", type := .boolean, accessFlags := 24, slot := 1, constantValue := 0 }, { name := "serialPersistentFields", type := (.array (.object "java/io/ObjectStreamField")), accessFlags := 26, slot := 2, constantValue := 0 }, { name := "REPL", type := .char, accessFlags := 26, slot := 3, constantValue := 0 }, { name := "CASE_INSENSITIVE_ORDER", type := (.object "java/util/Comparator"), accessFlags := 25, slot := 4, constantValue := 0 }, { name := "LATIN1", type := .byte, accessFlags := 24, slot := 5, constantValue := 0 }, { name := "UTF16", type := .byte, accessFlags := 24, slot := 6, constantValue := 0 }]
  methods := #[k10m0, k10m1, k10m2, k10m3, k10m4, k10m5, k10m6, k10m7, k10m8, k10m9, k10m10]
  instanceTypes := #[(.array .byte), .byte, .int, .boolean]
  staticTypes := #[.long, .boolean, (.array (.object "java/io/ObjectStreamField")), .char, (.object "java/util/Comparator"), .byte, .byte]
  resolved := Array.replicate 1451 none
  statics := some 0 }

def pool11 : Array CpInfo := pool [(1, .methodref 2 3), (0, .class_ 4), (0, .nameAndType 5 6), (0, u "java/lang/Object"), (0, u "<init>"), (0, u "()V"), (0, .fieldref 8 9), (0, .class_ 10), (0, .nameAndType 11 12), (0, u "java/util/OptionalInt"), (0, u "isPresent"), (0, u "Z"), (0, .fieldref 8 14), (0, .nameAndType 15 16), (0, u "value"), (0, u "I"), (0, .fieldref 8 18), (0, .nameAndType 19 20), (0, u "EMPTY"), (0, u "Ljava/util/OptionalInt;"), (0, .methodref 8 22), (0, .nameAndType 5 23), (0, u "(I)V"), (21, u "of"), (3, u "empty"), (5, u "getAsInt"), (0, u "()I"), (39, u "()Ljava/util/OptionalInt;"), (0, u "(I)Ljava/util/OptionalInt;"), (1, u "()Z")] 36

def k11m0 : Method := { name := "<init>", desc := "()V", sig := { parameters := [], returnType := none }, accessFlags := 2, code := none }
def k11c1 : Code := { maxStack := 1, maxLocals := 0, code := jdk_2649_method_2_code, exceptionTable := #[], attributes := #[] }
def k11m1 : Method := { name := "empty", desc := "()Ljava/util/OptionalInt;", sig := { parameters := [], returnType := some (.object "java/util/OptionalInt") }, accessFlags := 9, code := some k11c1 }
def k11c2 : Code := { maxStack := 2, maxLocals := 2, code := jdk_2649_method_3_code, exceptionTable := #[], attributes := #[] }
def k11m2 : Method := { name := "<init>", desc := "(I)V", sig := { parameters := [.int], returnType := none }, accessFlags := 2, code := some k11c2 }
def k11c3 : Code := { maxStack := 3, maxLocals := 1, code := jdk_2649_method_4_code, exceptionTable := #[], attributes := #[] }
def k11m3 : Method := { name := "of", desc := "(I)Ljava/util/OptionalInt;", sig := { parameters := [.int], returnType := some (.object "java/util/OptionalInt") }, accessFlags := 9, code := some k11c3 }
def k11c4 : Code := { maxStack := 3, maxLocals := 1, code := jdk_2649_method_5_code, exceptionTable := #[], attributes := #[] }
def k11m4 : Method := { name := "getAsInt", desc := "()I", sig := { parameters := [], returnType := some .int }, accessFlags := 1, code := some k11c4 }
def k11c5 : Code := { maxStack := 1, maxLocals := 1, code := jdk_2649_method_6_code, exceptionTable := #[], attributes := #[] }
def k11m5 : Method := { name := "isPresent", desc := "()Z", sig := { parameters := [], returnType := some .boolean }, accessFlags := 1, code := some k11c5 }
/-- java/util/OptionalInt -/
def k11 : Class := { plain "java/util/OptionalInt" (some 0) with
  accessFlags := 49
  interfaces := #[]
  cf := some (fileOf pool11 8 #[] #[{ accessFlags := 2, nameIndex := 5, descriptorIndex := 6, attributes := #[] }, { accessFlags := 9, nameIndex := 49, descriptorIndex := 96, attributes := #[] }, { accessFlags := 2, nameIndex := 5, descriptorIndex := 23, attributes := #[] }, { accessFlags := 9, nameIndex := 45, descriptorIndex := 97, attributes := #[] }, { accessFlags := 1, nameIndex := 55, descriptorIndex := 56, attributes := #[] }, { accessFlags := 1, nameIndex := 11, descriptorIndex := 99, attributes := #[] }] 49 2 #[] #[{ accessFlags := 26, nameIndex := 19, descriptorIndex := 20, attributes := #[] }, { accessFlags := 18, nameIndex := 11, descriptorIndex := 12, attributes := #[] }, { accessFlags := 18, nameIndex := 15, descriptorIndex := 16, attributes := #[] }])
  fields := #[{ name := "EMPTY", type := (.object "java/util/OptionalInt"), accessFlags := 26, slot := 0, constantValue := 0 }, { name := "isPresent", type := .boolean, accessFlags := 18, slot := 0, constantValue := 0 }, { name := "value", type := .int, accessFlags := 18, slot := 1, constantValue := 0 }]
  methods := #[k11m0, k11m1, k11m2, k11m3, k11m4, k11m5]
  instanceTypes := #[.boolean, .int]
  staticTypes := #[(.object "java/util/OptionalInt")]
  resolved := Array.replicate 136 none
  statics := some 1 }

def pool12 : Array CpInfo := pool [(3, .class_ 4), (0, u "java/lang/String"), (1, .class_ 8), (1, u "java/lang/Object"), (0, u "<init>"), (0, u "()V"), (0, .methodref 12 13), (0, .class_ 14), (0, .nameAndType 15 16), (0, u "java/lang/StringUTF16"), (0, u "newBytesLength"), (0, u "(I)I"), (3, .integer 1073741823), (23, .fieldref 12 45), (0, .nameAndType 46 47), (0, u "$assertionsDisabled"), (0, u "Z"), (0, .methodref 12 49), (0, .nameAndType 50 51), (0, u "length"), (0, u "([B)I"), (7, .fieldref 12 60), (0, .nameAndType 61 62), (0, u "HI_BYTE_SHIFT"), (0, u "I"), (0, .fieldref 12 64), (0, .nameAndType 65 62), (0, u "LO_BYTE_SHIFT"), (1, .methodref 12 68), (0, .nameAndType 69 70), (0, u "checkIndex"), (0, u "(I[B)V"), (0, .methodref 12 72), (0, .nameAndType 73 74), (0, u "getChar"), (0, u "([BI)C"), (32, .methodref 12 108), (0, .nameAndType 109 110), (0, u "newBytesFor"), (0, u "(I)[B"), (0, .methodref 12 112), (0, .nameAndType 113 114), (0, u "putChar"), (0, u "([BII)V"), (0, .methodref 12 116), (0, .nameAndType 117 118), (0, u "compress"), (0, u "([CI[BII)I"), (0, .methodref 12 120), (0, .nameAndType 121 122), (0, u "toBytes"), (0, u "([CII)[B"), (138, u "coderFromArrayLen"), (0, u "([BI)B"), (106, .class_ 371), (1, u "java/lang/StringUTF16$LinesSpliterator"), (20, u "charAt"), (21, .methodref 3 415), (0, .nameAndType 69 416), (0, u "(II)V"), (13, u "MAX_LENGTH"), (44, u "(C)[B"), (151, .class_ 628), (0, u "java/lang/StringUTF16$CodePointsSpliterator"), (0, .class_ 630), (0, u "java/lang/StringUTF16$CharsSpliterator")] 4

def k12m0 : Method := { name := "<init>", desc := "()V", sig := { parameters := [], returnType := none }, accessFlags := 0, code := none }
def k12c1 : Code := { maxStack := 1, maxLocals := 1, code := jdk_52_method_2_code, exceptionTable := #[], attributes := #[] }
def k12m1 : Method := { name := "newBytesFor", desc := "(I)[B", sig := { parameters := [.int], returnType := some (.array .byte) }, accessFlags := 9, code := some k12c1 }
def k12c2 : Code := { maxStack := 4, maxLocals := 1, code := jdk_52_method_3_code, exceptionTable := #[], attributes := #[] }
def k12m2 : Method := { name := "newBytesLength", desc := "(I)I", sig := { parameters := [.int], returnType := some .int }, accessFlags := 9, code := some k12c2 }
def k12c3 : Code := { maxStack := 4, maxLocals := 3, code := jdk_52_method_4_code, exceptionTable := #[], attributes := #[] }
def k12m3 : Method := { name := "putChar", desc := "([BII)V", sig := { parameters := [(.array .byte), .int, .int], returnType := none }, accessFlags := 8, code := some k12c3 }
def k12c4 : Code := { maxStack := 3, maxLocals := 2, code := jdk_52_method_5_code, exceptionTable := #[], attributes := #[] }
def k12m4 : Method := { name := "getChar", desc := "([BI)C", sig := { parameters := [(.array .byte), .int], returnType := some .char }, accessFlags := 8, code := some k12c4 }
def k12c5 : Code := { maxStack := 2, maxLocals := 1, code := jdk_52_method_6_code, exceptionTable := #[], attributes := #[] }
def k12m5 : Method := { name := "length", desc := "([B)I", sig := { parameters := [(.array .byte)], returnType := some .int }, accessFlags := 9, code := some k12c5 }
def k12c6 : Code := { maxStack := 4, maxLocals := 5, code := jdk_52_method_14_code, exceptionTable := #[], attributes := #[] }
def k12m6 : Method := { name := "toBytes", desc := "([CII)[B", sig := { parameters := [(.array .char), .int, .int], returnType := some (.array .byte) }, accessFlags := 9, code := some k12c6 }
def k12c7 : Code := { maxStack := 2, maxLocals := 2, code := jdk_52_method_15_code, exceptionTable := #[], attributes := #[] }
def k12m7 : Method := { name := "coderFromArrayLen", desc := "([BI)B", sig := { parameters := [(.array .byte), .int], returnType := some .byte }, accessFlags := 8, code := some k12c7 }
def k12c8 : Code := { maxStack := 5, maxLocals := 6, code := jdk_52_method_16_code, exceptionTable := #[], attributes := #[] }
def k12m8 : Method := { name := "compress", desc := "([CII)[B", sig := { parameters := [(.array .char), .int, .int], returnType := some (.array .byte) }, accessFlags := 9, code := some k12c8 }
def k12c9 : Code := { maxStack := 3, maxLocals := 7, code := jdk_52_method_21_code, exceptionTable := #[], attributes := #[] }
def k12m9 : Method := { name := "compress", desc := "([CI[BII)I", sig := { parameters := [(.array .char), .int, (.array .byte), .int, .int], returnType := some .int }, accessFlags := 9, code := some k12c9 }
def k12c10 : Code := { maxStack := 3, maxLocals := 2, code := jdk_52_method_24_code, exceptionTable := #[], attributes := #[] }
def k12m10 : Method := { name := "toBytes", desc := "(C)[B", sig := { parameters := [.char], returnType := some (.array .byte) }, accessFlags := 9, code := some k12c10 }
def k12c11 : Code := { maxStack := 2, maxLocals := 2, code := jdk_52_method_83_code, exceptionTable := #[], attributes := #[] }
def k12m11 : Method := { name := "charAt", desc := "([BI)C", sig := { parameters := [(.array .byte), .int], returnType := some .char }, accessFlags := 9, code := some k12c11 }
def k12c12 : Code := { maxStack := 2, maxLocals := 2, code := jdk_52_method_91_code, exceptionTable := #[], attributes := #[] }
def k12m12 : Method := { name := "checkIndex", desc := "(I[B)V", sig := { parameters := [.int, (.array .byte)], returnType := none }, accessFlags := 9, code := some k12c12 }
/-- java/lang/StringUTF16 -/
def k12 : Class := { plain "java/lang/StringUTF16" (some 0) with
  accessFlags := 48
  interfaces := #[]
  cf := some (fileOf pool12 12 #[.nestMembers #[627, 629, 369]] #[{ accessFlags := 0, nameIndex := 9, descriptorIndex := 10, attributes := #[] }, { accessFlags := 9, nameIndex := 109, descriptorIndex := 110, attributes := #[] }, { accessFlags := 9, nameIndex := 15, descriptorIndex := 16, attributes := #[] }, { accessFlags := 8, nameIndex := 113, descriptorIndex := 114, attributes := #[] }, { accessFlags := 8, nameIndex := 73, descriptorIndex := 74, attributes := #[] }, { accessFlags := 9, nameIndex := 50, descriptorIndex := 51, attributes := #[] }, { accessFlags := 9, nameIndex := 121, descriptorIndex := 122, attributes := #[] }, { accessFlags := 8, nameIndex := 261, descriptorIndex := 262, attributes := #[] }, { accessFlags := 9, nameIndex := 117, descriptorIndex := 122, attributes := #[] }, { accessFlags := 9, nameIndex := 117, descriptorIndex := 118, attributes := #[] }, { accessFlags := 9, nameIndex := 121, descriptorIndex := 475, attributes := #[] }, { accessFlags := 9, nameIndex := 392, descriptorIndex := 74, attributes := #[] }, { accessFlags := 9, nameIndex := 69, descriptorIndex := 70, attributes := #[] }] 48 6 #[] #[{ accessFlags := 26, nameIndex := 61, descriptorIndex := 62, attributes := #[] }, { accessFlags := 26, nameIndex := 65, descriptorIndex := 62, attributes := #[] }, { accessFlags := 24, nameIndex := 430, descriptorIndex := 62, attributes := #[] }, { accessFlags := 4120, nameIndex := 46, descriptorIndex := 47, attributes := #[] }])
  fields := #[{ name := "HI_BYTE_SHIFT", type := .int, accessFlags := 26, slot := 0, constantValue := 0 }, { name := "LO_BYTE_SHIFT", type := .int, accessFlags := 26, slot := 1, constantValue := 0 }, { name := "MAX_LENGTH", type := .int, accessFlags := 24, slot := 2, constantValue := 0 }, { name := "$assertionsDisabled", type := .boolean, accessFlags := 4120, slot := 3, constantValue := 0 }]
  methods := #[k12m0, k12m1, k12m2, k12m3, k12m4, k12m5, k12m6, k12m7, k12m8, k12m9, k12m10, k12m11, k12m12]
  instanceTypes := #[]
  staticTypes := #[.int, .int, .int, .boolean]
  resolved := Array.replicate 635 none
  statics := some 2 }

def pool13 : Array CpInfo := pool [(1, .class_ 2), (0, u "java/lang/String"), (1, .class_ 6), (1, u "java/lang/Object"), (0, u "<init>"), (0, u "()V"), (0, .methodref 1 10), (0, .nameAndType 11 12), (0, u "checkIndex"), (0, u "(II)V"), (1, .class_ 16), (1, u "java/lang/StringLatin1"), (36, u "([BI)C"), (36, u "canEncode"), (14, u "(C)Z"), (15, u "$assertionsDisabled"), (0, u "Z"), (98, .class_ 223), (1, u "java/lang/StringLatin1$LinesSpliterator"), (28, u "charAt"), (127, u "toBytes"), (1, u "(C)[B"), (7, .class_ 391), (0, u "java/lang/StringLatin1$CharsSpliterator")] 3

def k13m0 : Method := { name := "<init>", desc := "()V", sig := { parameters := [], returnType := none }, accessFlags := 0, code := none }
def k13c1 : Code := { maxStack := 2, maxLocals := 2, code := jdk_43_method_2_code, exceptionTable := #[], attributes := #[] }
def k13m1 : Method := { name := "charAt", desc := "([BI)C", sig := { parameters := [(.array .byte), .int], returnType := some .char }, accessFlags := 9, code := some k13c1 }
def k13c2 : Code := { maxStack := 2, maxLocals := 1, code := jdk_43_method_3_code, exceptionTable := #[], attributes := #[] }
def k13m2 : Method := { name := "canEncode", desc := "(C)Z", sig := { parameters := [.char], returnType := some .boolean }, accessFlags := 9, code := some k13c2 }
def k13c3 : Code := { maxStack := 4, maxLocals := 1, code := jdk_43_method_46_code, exceptionTable := #[], attributes := #[] }
def k13m3 : Method := { name := "toBytes", desc := "(C)[B", sig := { parameters := [.char], returnType := some (.array .byte) }, accessFlags := 9, code := some k13c3 }
/-- java/lang/StringLatin1 -/
def k13 : Class := { plain "java/lang/StringLatin1" (some 0) with
  accessFlags := 48
  interfaces := #[]
  cf := some (fileOf pool13 14 #[.nestMembers #[390, 221]] #[{ accessFlags := 0, nameIndex := 7, descriptorIndex := 8, attributes := #[] }, { accessFlags := 9, nameIndex := 252, descriptorIndex := 53, attributes := #[] }, { accessFlags := 9, nameIndex := 90, descriptorIndex := 105, attributes := #[] }, { accessFlags := 9, nameIndex := 380, descriptorIndex := 382, attributes := #[] }] 48 4 #[] #[{ accessFlags := 4120, nameIndex := 121, descriptorIndex := 122, attributes := #[] }])
  fields := #[{ name := "$assertionsDisabled", type := .boolean, accessFlags := 4120, slot := 0, constantValue := 0 }]
  methods := #[k13m0, k13m1, k13m2, k13m3]
  instanceTypes := #[]
  staticTypes := #[.boolean]
  resolved := Array.replicate 395 none
  statics := none }

def pool14 : Array CpInfo := pool [(2, .class_ 4), (1, u "java/lang/Object"), (0, u "<init>"), (0, u "()V"), (17, .class_ 26), (1, u "jdk/internal/util/Preconditions"), (6, u "checkIndex"), (21, .class_ 56), (0, u "jdk/internal/util/Preconditions$4"), (57, .class_ 115), (0, u "jdk/internal/util/Preconditions$1"), (7, u "SIOOBE_FORMATTER"), (0, u "Ljava/util/function/BiFunction;"), (0, .class_ 126), (0, u "jdk/internal/util/Preconditions$2"), (3, u "AIOOBE_FORMATTER"), (0, .class_ 132), (0, u "jdk/internal/util/Preconditions$3"), (3, u "IOOBE_FORMATTER"), (41, u "(IILjava/util/function/BiFunction;)I")] 15

def k14m0 : Method := { name := "<init>", desc := "()V", sig := { parameters := [], returnType := none }, accessFlags := 1, code := none }
def k14c1 : Code := { maxStack := 3, maxLocals := 3, code := jdk_41_method_11_code, exceptionTable := #[], attributes := #[] }
def k14m1 : Method := { name := "checkIndex", desc := "(IILjava/util/function/BiFunction;)I", sig := { parameters := [.int, .int, (.object "java/util/function/BiFunction")], returnType := some .int }, accessFlags := 9, code := some k14c1 }
/-- jdk/internal/util/Preconditions -/
def k14 : Class := { plain "jdk/internal/util/Preconditions" (some 0) with
  accessFlags := 33
  interfaces := #[]
  cf := some (fileOf pool14 24 #[.nestMembers #[55, 131, 125, 114]] #[{ accessFlags := 1, nameIndex := 5, descriptorIndex := 6, attributes := #[] }, { accessFlags := 9, nameIndex := 33, descriptorIndex := 178, attributes := #[] }] 33 2 #[] #[{ accessFlags := 25, nameIndex := 123, descriptorIndex := 124, attributes := #[] }, { accessFlags := 25, nameIndex := 130, descriptorIndex := 124, attributes := #[] }, { accessFlags := 25, nameIndex := 136, descriptorIndex := 124, attributes := #[] }])
  fields := #[{ name := "SIOOBE_FORMATTER", type := (.object "java/util/function/BiFunction"), accessFlags := 25, slot := 0, constantValue := 0 }, { name := "AIOOBE_FORMATTER", type := (.object "java/util/function/BiFunction"), accessFlags := 25, slot := 1, constantValue := 0 }, { name := "IOOBE_FORMATTER", type := (.object "java/util/function/BiFunction"), accessFlags := 25, slot := 2, constantValue := 0 }]
  methods := #[k14m0, k14m1]
  instanceTypes := #[]
  staticTypes := #[(.object "java/util/function/BiFunction"), (.object "java/util/function/BiFunction"), (.object "java/util/function/BiFunction")]
  resolved := Array.replicate 194 none
  statics := some 3 }

def pool15 : Array CpInfo := pool [(9, u "<init>"), (6, .class_ 18), (1, u "java/lang/Object"), (0, u "()V"), (1, .class_ 23), (1, u "jdk/internal/util/ArraysSupport"), (0, u "LOG2_ARRAY_LONG_INDEX_SCALE"), (0, u "I"), (2, u "U"), (0, u "Ljdk/internal/misc/Unsafe;"), (8, u "BIG_ENDIAN"), (0, u "Z"), (8, u "LOG2_BYTE_BIT_SIZE"), (4, u "LOG2_ARRAY_INT_INDEX_SCALE"), (54, u "JLA"), (0, u "Ljdk/internal/access/JavaLangAccess;"), (11, u "LOG2_ARRAY_BOOLEAN_INDEX_SCALE"), (9, u "LOG2_ARRAY_BYTE_INDEX_SCALE"), (5, u "LOG2_ARRAY_CHAR_INDEX_SCALE"), (5, u "LOG2_ARRAY_SHORT_INDEX_SCALE"), (18, u "LOG2_ARRAY_FLOAT_INDEX_SCALE"), (24, u "LOG2_ARRAY_DOUBLE_INDEX_SCALE"), (89, u "T_BOOLEAN"), (2, u "T_CHAR"), (1, u "T_FLOAT"), (1, u "T_DOUBLE"), (1, u "T_BYTE"), (1, u "T_SHORT"), (1, u "T_INT"), (1, u "T_LONG"), (1, u "SOFT_MAX_ARRAY_LENGTH")] 83

def k15m0 : Method := { name := "<init>", desc := "()V", sig := { parameters := [], returnType := none }, accessFlags := 2, code := none }
/-- jdk/internal/util/ArraysSupport -/
def k15 : Class := { plain "jdk/internal/util/ArraysSupport" (some 0) with
  accessFlags := 33
  interfaces := #[]
  cf := some (fileOf pool15 21 #[] #[{ accessFlags := 2, nameIndex := 9, descriptorIndex := 19, attributes := #[] }] 33 16 #[] #[{ accessFlags := 24, nameIndex := 28, descriptorIndex := 29, attributes := #[] }, { accessFlags := 26, nameIndex := 38, descriptorIndex := 39, attributes := #[] }, { accessFlags := 25, nameIndex := 121, descriptorIndex := 25, attributes := #[] }, { accessFlags := 25, nameIndex := 131, descriptorIndex := 25, attributes := #[] }, { accessFlags := 25, nameIndex := 137, descriptorIndex := 25, attributes := #[] }, { accessFlags := 25, nameIndex := 143, descriptorIndex := 25, attributes := #[] }, { accessFlags := 25, nameIndex := 53, descriptorIndex := 25, attributes := #[] }, { accessFlags := 25, nameIndex := 24, descriptorIndex := 25, attributes := #[] }, { accessFlags := 25, nameIndex := 162, descriptorIndex := 25, attributes := #[] }, { accessFlags := 25, nameIndex := 187, descriptorIndex := 25, attributes := #[] }, { accessFlags := 26, nameIndex := 48, descriptorIndex := 25, attributes := #[] }, { accessFlags := 25, nameIndex := 277, descriptorIndex := 25, attributes := #[] }, { accessFlags := 25, nameIndex := 280, descriptorIndex := 25, attributes := #[] }, { accessFlags := 25, nameIndex := 282, descriptorIndex := 25, attributes := #[] }, { accessFlags := 25, nameIndex := 284, descriptorIndex := 25, attributes := #[] }, { accessFlags := 25, nameIndex := 286, descriptorIndex := 25, attributes := #[] }, { accessFlags := 25, nameIndex := 288, descriptorIndex := 25, attributes := #[] }, { accessFlags := 25, nameIndex := 290, descriptorIndex := 25, attributes := #[] }, { accessFlags := 25, nameIndex := 292, descriptorIndex := 25, attributes := #[] }, { accessFlags := 26, nameIndex := 108, descriptorIndex := 109, attributes := #[] }, { accessFlags := 25, nameIndex := 294, descriptorIndex := 25, attributes := #[] }])
  fields := #[{ name := "U", type := (.object "jdk/internal/misc/Unsafe"), accessFlags := 24, slot := 0, constantValue := 0 }, { name := "BIG_ENDIAN", type := .boolean, accessFlags := 26, slot := 1, constantValue := 0 }, { name := "LOG2_ARRAY_BOOLEAN_INDEX_SCALE", type := .int, accessFlags := 25, slot := 2, constantValue := 0 }, { name := "LOG2_ARRAY_BYTE_INDEX_SCALE", type := .int, accessFlags := 25, slot := 3, constantValue := 0 }, { name := "LOG2_ARRAY_CHAR_INDEX_SCALE", type := .int, accessFlags := 25, slot := 4, constantValue := 0 }, { name := "LOG2_ARRAY_SHORT_INDEX_SCALE", type := .int, accessFlags := 25, slot := 5, constantValue := 0 }, { name := "LOG2_ARRAY_INT_INDEX_SCALE", type := .int, accessFlags := 25, slot := 6, constantValue := 0 }, { name := "LOG2_ARRAY_LONG_INDEX_SCALE", type := .int, accessFlags := 25, slot := 7, constantValue := 0 }, { name := "LOG2_ARRAY_FLOAT_INDEX_SCALE", type := .int, accessFlags := 25, slot := 8, constantValue := 0 }, { name := "LOG2_ARRAY_DOUBLE_INDEX_SCALE", type := .int, accessFlags := 25, slot := 9, constantValue := 0 }, { name := "LOG2_BYTE_BIT_SIZE", type := .int, accessFlags := 26, slot := 10, constantValue := 0 }, { name := "T_BOOLEAN", type := .int, accessFlags := 25, slot := 11, constantValue := 0 }, { name := "T_CHAR", type := .int, accessFlags := 25, slot := 12, constantValue := 0 }, { name := "T_FLOAT", type := .int, accessFlags := 25, slot := 13, constantValue := 0 }, { name := "T_DOUBLE", type := .int, accessFlags := 25, slot := 14, constantValue := 0 }, { name := "T_BYTE", type := .int, accessFlags := 25, slot := 15, constantValue := 0 }, { name := "T_SHORT", type := .int, accessFlags := 25, slot := 16, constantValue := 0 }, { name := "T_INT", type := .int, accessFlags := 25, slot := 17, constantValue := 0 }, { name := "T_LONG", type := .int, accessFlags := 25, slot := 18, constantValue := 0 }, { name := "JLA", type := (.object "jdk/internal/access/JavaLangAccess"), accessFlags := 26, slot := 19, constantValue := 0 }, { name := "SOFT_MAX_ARRAY_LENGTH", type := .int, accessFlags := 25, slot := 20, constantValue := 0 }]
  methods := #[k15m0]
  instanceTypes := #[]
  staticTypes := #[(.object "jdk/internal/misc/Unsafe"), .boolean, .int, .int, .int, .int, .int, .int, .int, .int, .int, .int, .int, .int, .int, .int, .int, .int, .int, (.object "jdk/internal/access/JavaLangAccess"), .int]
  resolved := Array.replicate 378 none
  statics := none }

def pool16 : Array CpInfo := pool [(1, u "java/lang/Cloneable"), (0, .class_ 1), (0, u "java/lang/Object"), (0, .class_ 3)] 3

/-- java/lang/Cloneable -/
def k16 : Class := { plain "java/lang/Cloneable" (some 0) with
  accessFlags := 1537
  interfaces := #[]
  cf := some (fileOf pool16 2 #[] #[] 1537 4 #[] #[])
  fields := #[]
  methods := #[]
  instanceTypes := #[]
  staticTypes := #[]
  resolved := Array.replicate 8 none
  statics := none }

/-- the primitive byte -/
def k17 : Class := { plain "byte" none with kind := .primitive 'B', accessFlags := 0x411 }
/-- [B -/
def k18 : Class := { plain "[B" (some 0) with kind := .array 17 .byte, interfaces := #[16, 5], accessFlags := 1041 }

/-- the primitive char -/
def k19 : Class := { plain "char" none with kind := .primitive 'C', accessFlags := 0x411 }
/-- [C -/
def k20 : Class := { plain "[C" (some 0) with kind := .array 19 .char, interfaces := #[16, 5], accessFlags := 1041 }

/-- the primitive int -/
def k21 : Class := { plain "int" none with kind := .primitive 'I', accessFlags := 0x411 }
/-- [I -/
def k22 : Class := { plain "[I" (some 0) with kind := .array 21 .int, interfaces := #[16, 5], accessFlags := 1041 }

/-- the primitive long -/
def k23 : Class := { plain "long" none with kind := .primitive 'J', accessFlags := 0x411 }
/-- [J -/
def k24 : Class := { plain "[J" (some 0) with kind := .array 23 .long, interfaces := #[16, 5], accessFlags := 1041 }

def heap : Heap := #[{ cls := 10, slots := #[.long 0, .int 1, .null, .int 0, .null, .int 0, .int 0], vm := .statics 10 },
  { cls := 11, slots := #[.ref 4], vm := .statics 11 },
  { cls := 12, slots := #[.int 0, .int 8, .int 0, .int 1], vm := .statics 12 },
  { cls := 14, slots := #[.null, .null, .null], vm := .statics 14 },
  { cls := 11, slots := #[.int 0, .int 0], vm := .none }]
def classes : Array Class := #[k0, k1, k2, k3, k4, k5, k6, k7, k8, k9, k10, k11, k12, k13, k14, k15, k16, k17, k18, k19, k20, k21, k22, k23, k24]
def interned : List (Array UInt16 × Addr) := []
def slotsUsed : Nat := 17
def theMethod : MethodId := ⟨1, 3⟩
def args0 : Array Value := #[.int 2, .long 5, .long 6, .int 3, .int 49]
def aboutOver (below : List Frame) : State where
  vm := { classes := classes, interned := interned.toArray }
  heap := heap
  slotsUsed := slotsUsed
  threads := #[{ frames := .invoking theMethod args0 :: below }]
def below0 : List Frame := [.native { method := ⟨0, 0⟩, args := #[] }]
def about1 : State := aboutOver below0
def p0 : Program := .bare "" "" ""
def e0 : Env := launch0.env 0 0 0
theorem w_frames : about1.frames = Frame.invoking theMethod args0 :: below0 := rfl
set_option maxRecDepth 65536 in
theorem w_args : argsFit about1.vm theMethod args0 = true := by decide +kernel
set_option maxRecDepth 65536 in
theorem w_heap : heapFits about1 = true := by decide +kernel
set_option maxRecDepth 65536 in
theorem w_runnable : about1.curStatus? = some .runnable := by decide +kernel
set_option maxRecDepth 65536 in
theorem w_alone : about1.alone = true := by decide +kernel
set_option maxRecDepth 65536 in
theorem w_named : about1.methodNamed? x = some theMethod := by decide +kernel
set_option maxRecDepth 65536 in
theorem w_hears : about1.hears theMethod below0 = true := by decide +kernel
set_option maxRecDepth 65536 in
theorem w_ripe : about1.ripe theMethod args0 below0 = true := by decide +kernel
theorem w_running : about1.status = .running := rfl
set_option maxRecDepth 65536 in
theorem w_room : about1.hasRoom e0.platform room_1 = true :=
  launch0.hasRoom_least _ room_1 (by decide +kernel) (by decide +kernel) (by decide +kernel) (by decide +kernel) (by decide +kernel) (by decide +kernel)
theorem allAtoms_all (ts : List Jvm.Cond) (a : Array Jvm.Value) (st : Jvm.State) : (allAtoms ts).before a st = ts.all (fun c => c.before a st) := by
  induction ts with
  | nil => rfl
  | cons c t ih =>
    show (Jvm.Cond.and c (allAtoms t)).before a st = _
    rw [Jvm.Cond.before_and, ih, List.all_cons]
def words1 : List Jvm.Cond := Jvm.Cond.code x code maxLocals ret :: tables_1
/-- a 'code' word, met by the world's own term for the bytes: nothing is compared byte by byte -/
theorem code_word {y : MethodName} {bytes : ByteArray} {mx : Nat} {rt : Option FieldType} {a : Array Value} {s : State} {m : MethodId} {meth : Method} {c : Code} (h1 : s.methodNamed? y = some m) (h2 : s.vm.method? m = some meth) (h3 : meth.code = some c) (h4 : c.code = bytes)
    (h5 : (c.maxLocals == mx && c.exceptionTable.isEmpty && decide (c.maxStack ≤ mostOperands) && decide (meth.sig.returnType = rt) && !meth.locks && decide (parseMethodDescriptor y.desc = some meth.sig)) = true) : (Jvm.Cond.code y bytes mx rt).before a s = true := by
  simp only [Bool.and_eq_true, beq_iff_eq, Bool.not_eq_true', decide_eq_true_eq] at h5
  obtain ⟨⟨⟨⟨⟨g1, g2⟩, g3⟩, g4⟩, g5⟩, g6⟩ := h5
  simp [Cond.before, Cond.holds, Cond.value, h1, h2, h3, h4, g1, g2, g3, g4, g5, g6]
def isCode : Jvm.Cond → Bool
  | .code _ _ _ _ => true
  | _ => false
theorem all_split {L : List Jvm.Cond} {P : Jvm.Cond → Bool} (h1 : L.all (fun c => isCode c || P c) = true) (h2 : ∀ c ∈ L.filter isCode, P c = true) : L.all P = true := by
  refine List.all_eq_true.mpr fun c hc => ?_
  have h := List.all_eq_true.mp h1 c hc
  rcases Bool.eq_false_or_eq_true (isCode c) with hi | hi
  · exact h2 c (List.mem_filter.mpr ⟨hc, hi⟩)
  · simpa [hi] using h
set_option maxRecDepth 65536 in
theorem w_c0 : (Jvm.Cond.code x code maxLocals ret).before args0 about1 = true := code_word (m := ⟨1, 3⟩) (meth := k1m3) (c := k1c3) (by decide +kernel) rfl rfl rfl (by decide +kernel)
set_option maxRecDepth 65536 in
theorem w_c1 : (Jvm.Cond.code ({ cls := "com/example/stepwize/stepwize/binding/PropertyPath$Element", name := "<init>", desc := "(Ljava/lang/String;)V" } : Jvm.MethodName) prog_15_method_1_code (2 : Nat) (Option.none : Option Jvm.ClassFile.FieldType)).before args0 about1 = true := code_word (m := ⟨4, 0⟩) (meth := k4m0) (c := k4c0) (by decide +kernel) rfl rfl rfl (by decide +kernel)
set_option maxRecDepth 65536 in
theorem w_c2 : (Jvm.Cond.code ({ cls := "java/lang/Record", name := "<init>", desc := "()V" } : Jvm.MethodName) jdk_30_method_1_code (1 : Nat) (Option.none : Option Jvm.ClassFile.FieldType)).before args0 about1 = true := code_word (m := ⟨2, 0⟩) (meth := k2m0) (c := k2c0) (by decide +kernel) rfl rfl rfl (by decide +kernel)
set_option maxRecDepth 65536 in
theorem w_c3 : (Jvm.Cond.code ({ cls := "java/lang/Object", name := "<init>", desc := "()V" } : Jvm.MethodName) object_method_1_code (1 : Nat) (Option.none : Option Jvm.ClassFile.FieldType)).before args0 about1 = true := code_word (m := ⟨0, 0⟩) (meth := k0m0) (c := k0c0) (by decide +kernel) rfl rfl rfl (by decide +kernel)
set_option maxRecDepth 65536 in
theorem w_c4 : (Jvm.Cond.code ({ cls := "com/example/stepwize/stepwize/binding/PropertyPath$Element", name := "index", desc := "()Ljava/util/OptionalInt;" } : Jvm.MethodName) prog_15_method_2_code (5 : Nat) (Option.some (Jvm.ClassFile.FieldType.object "java/util/OptionalInt"))).before args0 about1 = true := code_word (m := ⟨4, 1⟩) (meth := k4m1) (c := k4c1) (by decide +kernel) rfl rfl rfl (by decide +kernel)
set_option maxRecDepth 65536 in
theorem w_c5 : (Jvm.Cond.code ({ cls := "java/lang/String", name := "isEmpty", desc := "()Z" } : Jvm.MethodName) jdk_42_method_55_code (1 : Nat) (Option.some Jvm.ClassFile.FieldType.boolean)).before args0 about1 = true := code_word (m := ⟨10, 3⟩) (meth := k10m3) (c := k10c3) (by decide +kernel) rfl rfl rfl (by decide +kernel)
set_option maxRecDepth 65536 in
theorem w_c6 : (Jvm.Cond.code ({ cls := "java/util/OptionalInt", name := "empty", desc := "()Ljava/util/OptionalInt;" } : Jvm.MethodName) jdk_2649_method_2_code (0 : Nat) (Option.some (Jvm.ClassFile.FieldType.object "java/util/OptionalInt"))).before args0 about1 = true := code_word (m := ⟨11, 1⟩) (meth := k11m1) (c := k11c1) (by decide +kernel) rfl rfl rfl (by decide +kernel)
set_option maxRecDepth 65536 in
theorem w_c7 : (Jvm.Cond.code ({ cls := "java/util/OptionalInt", name := "isPresent", desc := "()Z" } : Jvm.MethodName) jdk_2649_method_6_code (1 : Nat) (Option.some Jvm.ClassFile.FieldType.boolean)).before args0 about1 = true := code_word (m := ⟨11, 5⟩) (meth := k11m5) (c := k11c5) (by decide +kernel) rfl rfl rfl (by decide +kernel)
set_option maxRecDepth 65536 in
theorem w_c8 : (Jvm.Cond.code ({ cls := "com/example/stepwize/stepwize/binding/ElementIndexPinLaw", name := "dig", desc := "(JJ)C" } : Jvm.MethodName) method_3_code (4 : Nat) (Option.some Jvm.ClassFile.FieldType.char)).before args0 about1 = true := code_word (m := ⟨1, 2⟩) (meth := k1m2) (c := k1c2) (by decide +kernel) rfl rfl rfl (by decide +kernel)
set_option maxRecDepth 65536 in
theorem w_c9 : (Jvm.Cond.code ({ cls := "java/lang/String", name := "<init>", desc := "([C)V" } : Jvm.MethodName) jdk_42_method_3_code (2 : Nat) (Option.none : Option Jvm.ClassFile.FieldType)).before args0 about1 = true := code_word (m := ⟨10, 1⟩) (meth := k10m1) (c := k10c1) (by decide +kernel) rfl rfl rfl (by decide +kernel)
set_option maxRecDepth 65536 in
theorem w_c10 : (Jvm.Cond.code ({ cls := "java/lang/String", name := "<init>", desc := "([CIILjava/lang/Void;)V" } : Jvm.MethodName) jdk_42_method_149_code (6 : Nat) (Option.none : Option Jvm.ClassFile.FieldType)).before args0 about1 = true := code_word (m := ⟨10, 6⟩) (meth := k10m6) (c := k10c6) (by decide +kernel) rfl rfl rfl (by decide +kernel)
set_option maxRecDepth 65536 in
theorem w_c11 : (Jvm.Cond.code ({ cls := "java/lang/StringUTF16", name := "compress", desc := "([CII)[B" } : Jvm.MethodName) jdk_52_method_16_code (6 : Nat) (Option.some (Jvm.ClassFile.FieldType.array Jvm.ClassFile.FieldType.byte))).before args0 about1 = true := code_word (m := ⟨12, 8⟩) (meth := k12m8) (c := k12c8) (by decide +kernel) rfl rfl rfl (by decide +kernel)
set_option maxRecDepth 65536 in
theorem w_c12 : (Jvm.Cond.code ({ cls := "java/lang/StringUTF16", name := "compress", desc := "([CI[BII)I" } : Jvm.MethodName) jdk_52_method_21_code (7 : Nat) (Option.some Jvm.ClassFile.FieldType.int)).before args0 about1 = true := code_word (m := ⟨12, 9⟩) (meth := k12m9) (c := k12c9) (by decide +kernel) rfl rfl rfl (by decide +kernel)
set_option maxRecDepth 65536 in
theorem w_c13 : (Jvm.Cond.code ({ cls := "java/lang/StringUTF16", name := "coderFromArrayLen", desc := "([BI)B" } : Jvm.MethodName) jdk_52_method_15_code (2 : Nat) (Option.some Jvm.ClassFile.FieldType.byte)).before args0 about1 = true := code_word (m := ⟨12, 7⟩) (meth := k12m7) (c := k12c7) (by decide +kernel) rfl rfl rfl (by decide +kernel)
set_option maxRecDepth 65536 in
theorem w_c14 : (Jvm.Cond.code ({ cls := "java/lang/String", name := "length", desc := "()I" } : Jvm.MethodName) jdk_42_method_54_code (1 : Nat) (Option.some Jvm.ClassFile.FieldType.int)).before args0 about1 = true := code_word (m := ⟨10, 2⟩) (meth := k10m2) (c := k10c2) (by decide +kernel) rfl rfl rfl (by decide +kernel)
set_option maxRecDepth 65536 in
theorem w_c15 : (Jvm.Cond.code ({ cls := "java/lang/String", name := "coder", desc := "()B" } : Jvm.MethodName) jdk_42_method_152_code (1 : Nat) (Option.some Jvm.ClassFile.FieldType.byte)).before args0 about1 = true := code_word (m := ⟨10, 8⟩) (meth := k10m8) (c := k10c8) (by decide +kernel) rfl rfl rfl (by decide +kernel)
set_option maxRecDepth 65536 in
theorem w_c16 : (Jvm.Cond.code ({ cls := "java/lang/String", name := "charAt", desc := "(I)C" } : Jvm.MethodName) jdk_42_method_56_code (2 : Nat) (Option.some Jvm.ClassFile.FieldType.char)).before args0 about1 = true := code_word (m := ⟨10, 4⟩) (meth := k10m4) (c := k10c4) (by decide +kernel) rfl rfl rfl (by decide +kernel)
set_option maxRecDepth 65536 in
theorem w_c17 : (Jvm.Cond.code ({ cls := "java/lang/String", name := "isLatin1", desc := "()Z" } : Jvm.MethodName) jdk_42_method_154_code (1 : Nat) (Option.some Jvm.ClassFile.FieldType.boolean)).before args0 about1 = true := code_word (m := ⟨10, 9⟩) (meth := k10m9) (c := k10c9) (by decide +kernel) rfl rfl rfl (by decide +kernel)
set_option maxRecDepth 65536 in
theorem w_c18 : (Jvm.Cond.code ({ cls := "java/lang/StringLatin1", name := "charAt", desc := "([BI)C" } : Jvm.MethodName) jdk_43_method_2_code (2 : Nat) (Option.some Jvm.ClassFile.FieldType.char)).before args0 about1 = true := code_word (m := ⟨13, 1⟩) (meth := k13m1) (c := k13c1) (by decide +kernel) rfl rfl rfl (by decide +kernel)
set_option maxRecDepth 65536 in
theorem w_c19 : (Jvm.Cond.code ({ cls := "java/lang/String", name := "checkIndex", desc := "(II)V" } : Jvm.MethodName) jdk_42_method_155_code (2 : Nat) (Option.none : Option Jvm.ClassFile.FieldType)).before args0 about1 = true := code_word (m := ⟨10, 10⟩) (meth := k10m10) (c := k10c10) (by decide +kernel) rfl rfl rfl (by decide +kernel)
set_option maxRecDepth 65536 in
theorem w_c20 : (Jvm.Cond.code ({ cls := "jdk/internal/util/Preconditions", name := "checkIndex", desc := "(IILjava/util/function/BiFunction;)I" } : Jvm.MethodName) jdk_41_method_11_code (3 : Nat) (Option.some Jvm.ClassFile.FieldType.int)).before args0 about1 = true := code_word (m := ⟨14, 1⟩) (meth := k14m1) (c := k14c1) (by decide +kernel) rfl rfl rfl (by decide +kernel)
set_option maxRecDepth 65536 in
theorem w_c21 : (Jvm.Cond.code ({ cls := "java/lang/String", name := "valueOf", desc := "(C)Ljava/lang/String;" } : Jvm.MethodName) jdk_42_method_139_code (1 : Nat) (Option.some (Jvm.ClassFile.FieldType.object "java/lang/String"))).before args0 about1 = true := code_word (m := ⟨10, 5⟩) (meth := k10m5) (c := k10c5) (by decide +kernel) rfl rfl rfl (by decide +kernel)
set_option maxRecDepth 65536 in
theorem w_c22 : (Jvm.Cond.code ({ cls := "java/lang/StringLatin1", name := "canEncode", desc := "(C)Z" } : Jvm.MethodName) jdk_43_method_3_code (1 : Nat) (Option.some Jvm.ClassFile.FieldType.boolean)).before args0 about1 = true := code_word (m := ⟨13, 2⟩) (meth := k13m2) (c := k13c2) (by decide +kernel) rfl rfl rfl (by decide +kernel)
set_option maxRecDepth 65536 in
theorem w_c23 : (Jvm.Cond.code ({ cls := "java/lang/StringLatin1", name := "toBytes", desc := "(C)[B" } : Jvm.MethodName) jdk_43_method_46_code (1 : Nat) (Option.some (Jvm.ClassFile.FieldType.array Jvm.ClassFile.FieldType.byte))).before args0 about1 = true := code_word (m := ⟨13, 3⟩) (meth := k13m3) (c := k13c3) (by decide +kernel) rfl rfl rfl (by decide +kernel)
set_option maxRecDepth 65536 in
theorem w_c24 : (Jvm.Cond.code ({ cls := "java/lang/String", name := "<init>", desc := "([BB)V" } : Jvm.MethodName) jdk_42_method_151_code (3 : Nat) (Option.none : Option Jvm.ClassFile.FieldType)).before args0 about1 = true := code_word (m := ⟨10, 7⟩) (meth := k10m7) (c := k10c7) (by decide +kernel) rfl rfl rfl (by decide +kernel)
set_option maxRecDepth 65536 in
theorem w_c25 : (Jvm.Cond.code ({ cls := "java/util/OptionalInt", name := "of", desc := "(I)Ljava/util/OptionalInt;" } : Jvm.MethodName) jdk_2649_method_4_code (1 : Nat) (Option.some (Jvm.ClassFile.FieldType.object "java/util/OptionalInt"))).before args0 about1 = true := code_word (m := ⟨11, 3⟩) (meth := k11m3) (c := k11c3) (by decide +kernel) rfl rfl rfl (by decide +kernel)
set_option maxRecDepth 65536 in
theorem w_c26 : (Jvm.Cond.code ({ cls := "java/util/OptionalInt", name := "<init>", desc := "(I)V" } : Jvm.MethodName) jdk_2649_method_3_code (2 : Nat) (Option.none : Option Jvm.ClassFile.FieldType)).before args0 about1 = true := code_word (m := ⟨11, 2⟩) (meth := k11m2) (c := k11c2) (by decide +kernel) rfl rfl rfl (by decide +kernel)
set_option maxRecDepth 65536 in
theorem w_c27 : (Jvm.Cond.code ({ cls := "java/util/OptionalInt", name := "getAsInt", desc := "()I" } : Jvm.MethodName) jdk_2649_method_5_code (1 : Nat) (Option.some Jvm.ClassFile.FieldType.int)).before args0 about1 = true := code_word (m := ⟨11, 4⟩) (meth := k11m4) (c := k11c4) (by decide +kernel) rfl rfl rfl (by decide +kernel)
set_option maxRecDepth 65536 in
theorem w_c28 : (Jvm.Cond.code ({ cls := "java/lang/StringUTF16", name := "toBytes", desc := "([CII)[B" } : Jvm.MethodName) jdk_52_method_14_code (5 : Nat) (Option.some (Jvm.ClassFile.FieldType.array Jvm.ClassFile.FieldType.byte))).before args0 about1 = true := code_word (m := ⟨12, 6⟩) (meth := k12m6) (c := k12c6) (by decide +kernel) rfl rfl rfl (by decide +kernel)
set_option maxRecDepth 65536 in
theorem w_c29 : (Jvm.Cond.code ({ cls := "java/lang/StringUTF16", name := "newBytesFor", desc := "(I)[B" } : Jvm.MethodName) jdk_52_method_2_code (1 : Nat) (Option.some (Jvm.ClassFile.FieldType.array Jvm.ClassFile.FieldType.byte))).before args0 about1 = true := code_word (m := ⟨12, 1⟩) (meth := k12m1) (c := k12c1) (by decide +kernel) rfl rfl rfl (by decide +kernel)
set_option maxRecDepth 65536 in
theorem w_c30 : (Jvm.Cond.code ({ cls := "java/lang/StringUTF16", name := "newBytesLength", desc := "(I)I" } : Jvm.MethodName) jdk_52_method_3_code (1 : Nat) (Option.some Jvm.ClassFile.FieldType.int)).before args0 about1 = true := code_word (m := ⟨12, 2⟩) (meth := k12m2) (c := k12c2) (by decide +kernel) rfl rfl rfl (by decide +kernel)
set_option maxRecDepth 65536 in
theorem w_c31 : (Jvm.Cond.code ({ cls := "java/lang/StringUTF16", name := "putChar", desc := "([BII)V" } : Jvm.MethodName) jdk_52_method_4_code (3 : Nat) (Option.none : Option Jvm.ClassFile.FieldType)).before args0 about1 = true := code_word (m := ⟨12, 3⟩) (meth := k12m3) (c := k12c3) (by decide +kernel) rfl rfl rfl (by decide +kernel)
set_option maxRecDepth 65536 in
theorem w_c32 : (Jvm.Cond.code ({ cls := "java/lang/StringUTF16", name := "getChar", desc := "([BI)C" } : Jvm.MethodName) jdk_52_method_5_code (2 : Nat) (Option.some Jvm.ClassFile.FieldType.char)).before args0 about1 = true := code_word (m := ⟨12, 4⟩) (meth := k12m4) (c := k12c4) (by decide +kernel) rfl rfl rfl (by decide +kernel)
set_option maxRecDepth 65536 in
theorem w_c33 : (Jvm.Cond.code ({ cls := "java/lang/StringUTF16", name := "charAt", desc := "([BI)C" } : Jvm.MethodName) jdk_52_method_83_code (2 : Nat) (Option.some Jvm.ClassFile.FieldType.char)).before args0 about1 = true := code_word (m := ⟨12, 11⟩) (meth := k12m11) (c := k12c11) (by decide +kernel) rfl rfl rfl (by decide +kernel)
set_option maxRecDepth 65536 in
theorem w_c34 : (Jvm.Cond.code ({ cls := "java/lang/StringUTF16", name := "checkIndex", desc := "(I[B)V" } : Jvm.MethodName) jdk_52_method_91_code (2 : Nat) (Option.none : Option Jvm.ClassFile.FieldType)).before args0 about1 = true := code_word (m := ⟨12, 12⟩) (meth := k12m12) (c := k12c12) (by decide +kernel) rfl rfl rfl (by decide +kernel)
set_option maxRecDepth 65536 in
theorem w_c35 : (Jvm.Cond.code ({ cls := "java/lang/StringUTF16", name := "length", desc := "([B)I" } : Jvm.MethodName) jdk_52_method_6_code (1 : Nat) (Option.some Jvm.ClassFile.FieldType.int)).before args0 about1 = true := code_word (m := ⟨12, 5⟩) (meth := k12m5) (c := k12c5) (by decide +kernel) rfl rfl rfl (by decide +kernel)
set_option maxRecDepth 65536 in
theorem w_c36 : (Jvm.Cond.code ({ cls := "java/lang/StringUTF16", name := "toBytes", desc := "(C)[B" } : Jvm.MethodName) jdk_52_method_24_code (2 : Nat) (Option.some (Jvm.ClassFile.FieldType.array Jvm.ClassFile.FieldType.byte))).before args0 about1 = true := code_word (m := ⟨12, 10⟩) (meth := k12m10) (c := k12c10) (by decide +kernel) rfl rfl rfl (by decide +kernel)
set_option maxRecDepth 65536 in
theorem w_c37 : (Jvm.Cond.code ({ cls := "com/example/stepwize/stepwize/binding/ElementIndexPinLaw", name := "pow10", desc := "(I)J" } : Jvm.MethodName) method_2_code (2 : Nat) (Option.some Jvm.ClassFile.FieldType.long)).before args0 about1 = true := code_word (m := ⟨1, 1⟩) (meth := k1m1) (c := k1c1) (by decide +kernel) rfl rfl rfl (by decide +kernel)
def codes1 : List Jvm.Cond := [Jvm.Cond.code x code maxLocals ret, Jvm.Cond.code ({ cls := "com/example/stepwize/stepwize/binding/PropertyPath$Element", name := "<init>", desc := "(Ljava/lang/String;)V" } : Jvm.MethodName) prog_15_method_1_code (2 : Nat) (Option.none : Option Jvm.ClassFile.FieldType), Jvm.Cond.code ({ cls := "java/lang/Record", name := "<init>", desc := "()V" } : Jvm.MethodName) jdk_30_method_1_code (1 : Nat) (Option.none : Option Jvm.ClassFile.FieldType), Jvm.Cond.code ({ cls := "java/lang/Object", name := "<init>", desc := "()V" } : Jvm.MethodName) object_method_1_code (1 : Nat) (Option.none : Option Jvm.ClassFile.FieldType), Jvm.Cond.code ({ cls := "com/example/stepwize/stepwize/binding/PropertyPath$Element", name := "index", desc := "()Ljava/util/OptionalInt;" } : Jvm.MethodName) prog_15_method_2_code (5 : Nat) (Option.some (Jvm.ClassFile.FieldType.object "java/util/OptionalInt")), Jvm.Cond.code ({ cls := "java/lang/String", name := "isEmpty", desc := "()Z" } : Jvm.MethodName) jdk_42_method_55_code (1 : Nat) (Option.some Jvm.ClassFile.FieldType.boolean), Jvm.Cond.code ({ cls := "java/util/OptionalInt", name := "empty", desc := "()Ljava/util/OptionalInt;" } : Jvm.MethodName) jdk_2649_method_2_code (0 : Nat) (Option.some (Jvm.ClassFile.FieldType.object "java/util/OptionalInt")), Jvm.Cond.code ({ cls := "java/util/OptionalInt", name := "isPresent", desc := "()Z" } : Jvm.MethodName) jdk_2649_method_6_code (1 : Nat) (Option.some Jvm.ClassFile.FieldType.boolean), Jvm.Cond.code ({ cls := "com/example/stepwize/stepwize/binding/ElementIndexPinLaw", name := "dig", desc := "(JJ)C" } : Jvm.MethodName) method_3_code (4 : Nat) (Option.some Jvm.ClassFile.FieldType.char), Jvm.Cond.code ({ cls := "java/lang/String", name := "<init>", desc := "([C)V" } : Jvm.MethodName) jdk_42_method_3_code (2 : Nat) (Option.none : Option Jvm.ClassFile.FieldType), Jvm.Cond.code ({ cls := "java/lang/String", name := "<init>", desc := "([CIILjava/lang/Void;)V" } : Jvm.MethodName) jdk_42_method_149_code (6 : Nat) (Option.none : Option Jvm.ClassFile.FieldType), Jvm.Cond.code ({ cls := "java/lang/StringUTF16", name := "compress", desc := "([CII)[B" } : Jvm.MethodName) jdk_52_method_16_code (6 : Nat) (Option.some (Jvm.ClassFile.FieldType.array Jvm.ClassFile.FieldType.byte)), Jvm.Cond.code ({ cls := "java/lang/StringUTF16", name := "compress", desc := "([CI[BII)I" } : Jvm.MethodName) jdk_52_method_21_code (7 : Nat) (Option.some Jvm.ClassFile.FieldType.int), Jvm.Cond.code ({ cls := "java/lang/StringUTF16", name := "coderFromArrayLen", desc := "([BI)B" } : Jvm.MethodName) jdk_52_method_15_code (2 : Nat) (Option.some Jvm.ClassFile.FieldType.byte), Jvm.Cond.code ({ cls := "java/lang/String", name := "length", desc := "()I" } : Jvm.MethodName) jdk_42_method_54_code (1 : Nat) (Option.some Jvm.ClassFile.FieldType.int), Jvm.Cond.code ({ cls := "java/lang/String", name := "coder", desc := "()B" } : Jvm.MethodName) jdk_42_method_152_code (1 : Nat) (Option.some Jvm.ClassFile.FieldType.byte), Jvm.Cond.code ({ cls := "java/lang/String", name := "charAt", desc := "(I)C" } : Jvm.MethodName) jdk_42_method_56_code (2 : Nat) (Option.some Jvm.ClassFile.FieldType.char), Jvm.Cond.code ({ cls := "java/lang/String", name := "isLatin1", desc := "()Z" } : Jvm.MethodName) jdk_42_method_154_code (1 : Nat) (Option.some Jvm.ClassFile.FieldType.boolean), Jvm.Cond.code ({ cls := "java/lang/StringLatin1", name := "charAt", desc := "([BI)C" } : Jvm.MethodName) jdk_43_method_2_code (2 : Nat) (Option.some Jvm.ClassFile.FieldType.char), Jvm.Cond.code ({ cls := "java/lang/String", name := "checkIndex", desc := "(II)V" } : Jvm.MethodName) jdk_42_method_155_code (2 : Nat) (Option.none : Option Jvm.ClassFile.FieldType), Jvm.Cond.code ({ cls := "jdk/internal/util/Preconditions", name := "checkIndex", desc := "(IILjava/util/function/BiFunction;)I" } : Jvm.MethodName) jdk_41_method_11_code (3 : Nat) (Option.some Jvm.ClassFile.FieldType.int), Jvm.Cond.code ({ cls := "java/lang/String", name := "valueOf", desc := "(C)Ljava/lang/String;" } : Jvm.MethodName) jdk_42_method_139_code (1 : Nat) (Option.some (Jvm.ClassFile.FieldType.object "java/lang/String")), Jvm.Cond.code ({ cls := "java/lang/StringLatin1", name := "canEncode", desc := "(C)Z" } : Jvm.MethodName) jdk_43_method_3_code (1 : Nat) (Option.some Jvm.ClassFile.FieldType.boolean), Jvm.Cond.code ({ cls := "java/lang/StringLatin1", name := "toBytes", desc := "(C)[B" } : Jvm.MethodName) jdk_43_method_46_code (1 : Nat) (Option.some (Jvm.ClassFile.FieldType.array Jvm.ClassFile.FieldType.byte)), Jvm.Cond.code ({ cls := "java/lang/String", name := "<init>", desc := "([BB)V" } : Jvm.MethodName) jdk_42_method_151_code (3 : Nat) (Option.none : Option Jvm.ClassFile.FieldType), Jvm.Cond.code ({ cls := "java/util/OptionalInt", name := "of", desc := "(I)Ljava/util/OptionalInt;" } : Jvm.MethodName) jdk_2649_method_4_code (1 : Nat) (Option.some (Jvm.ClassFile.FieldType.object "java/util/OptionalInt")), Jvm.Cond.code ({ cls := "java/util/OptionalInt", name := "<init>", desc := "(I)V" } : Jvm.MethodName) jdk_2649_method_3_code (2 : Nat) (Option.none : Option Jvm.ClassFile.FieldType), Jvm.Cond.code ({ cls := "java/util/OptionalInt", name := "getAsInt", desc := "()I" } : Jvm.MethodName) jdk_2649_method_5_code (1 : Nat) (Option.some Jvm.ClassFile.FieldType.int), Jvm.Cond.code ({ cls := "java/lang/StringUTF16", name := "toBytes", desc := "([CII)[B" } : Jvm.MethodName) jdk_52_method_14_code (5 : Nat) (Option.some (Jvm.ClassFile.FieldType.array Jvm.ClassFile.FieldType.byte)), Jvm.Cond.code ({ cls := "java/lang/StringUTF16", name := "newBytesFor", desc := "(I)[B" } : Jvm.MethodName) jdk_52_method_2_code (1 : Nat) (Option.some (Jvm.ClassFile.FieldType.array Jvm.ClassFile.FieldType.byte)), Jvm.Cond.code ({ cls := "java/lang/StringUTF16", name := "newBytesLength", desc := "(I)I" } : Jvm.MethodName) jdk_52_method_3_code (1 : Nat) (Option.some Jvm.ClassFile.FieldType.int), Jvm.Cond.code ({ cls := "java/lang/StringUTF16", name := "putChar", desc := "([BII)V" } : Jvm.MethodName) jdk_52_method_4_code (3 : Nat) (Option.none : Option Jvm.ClassFile.FieldType), Jvm.Cond.code ({ cls := "java/lang/StringUTF16", name := "getChar", desc := "([BI)C" } : Jvm.MethodName) jdk_52_method_5_code (2 : Nat) (Option.some Jvm.ClassFile.FieldType.char), Jvm.Cond.code ({ cls := "java/lang/StringUTF16", name := "charAt", desc := "([BI)C" } : Jvm.MethodName) jdk_52_method_83_code (2 : Nat) (Option.some Jvm.ClassFile.FieldType.char), Jvm.Cond.code ({ cls := "java/lang/StringUTF16", name := "checkIndex", desc := "(I[B)V" } : Jvm.MethodName) jdk_52_method_91_code (2 : Nat) (Option.none : Option Jvm.ClassFile.FieldType), Jvm.Cond.code ({ cls := "java/lang/StringUTF16", name := "length", desc := "([B)I" } : Jvm.MethodName) jdk_52_method_6_code (1 : Nat) (Option.some Jvm.ClassFile.FieldType.int), Jvm.Cond.code ({ cls := "java/lang/StringUTF16", name := "toBytes", desc := "(C)[B" } : Jvm.MethodName) jdk_52_method_24_code (2 : Nat) (Option.some (Jvm.ClassFile.FieldType.array Jvm.ClassFile.FieldType.byte)), Jvm.Cond.code ({ cls := "com/example/stepwize/stepwize/binding/ElementIndexPinLaw", name := "pow10", desc := "(I)J" } : Jvm.MethodName) method_2_code (2 : Nat) (Option.some Jvm.ClassFile.FieldType.long)]
set_option maxRecDepth 65536 in
theorem codes_eq : words1.filter isCode = codes1 := rfl
theorem w_codes : ∀ c ∈ words1.filter isCode, c.before args0 about1 = true := by
  rw [codes_eq]
  intro c hc
  simp only [codes1, List.mem_cons, List.not_mem_nil, or_false] at hc
  rcases hc with rfl | rfl | rfl | rfl | rfl | rfl | rfl | rfl | rfl | rfl | rfl | rfl | rfl | rfl | rfl | rfl | rfl | rfl | rfl | rfl | rfl | rfl | rfl | rfl | rfl | rfl | rfl | rfl | rfl | rfl | rfl | rfl | rfl | rfl | rfl | rfl | rfl | rfl
  · exact w_c0
  · exact w_c1
  · exact w_c2
  · exact w_c3
  · exact w_c4
  · exact w_c5
  · exact w_c6
  · exact w_c7
  · exact w_c8
  · exact w_c9
  · exact w_c10
  · exact w_c11
  · exact w_c12
  · exact w_c13
  · exact w_c14
  · exact w_c15
  · exact w_c16
  · exact w_c17
  · exact w_c18
  · exact w_c19
  · exact w_c20
  · exact w_c21
  · exact w_c22
  · exact w_c23
  · exact w_c24
  · exact w_c25
  · exact w_c26
  · exact w_c27
  · exact w_c28
  · exact w_c29
  · exact w_c30
  · exact w_c31
  · exact w_c32
  · exact w_c33
  · exact w_c34
  · exact w_c35
  · exact w_c36
  · exact w_c37
set_option maxRecDepth 65536 in
theorem w_t1 : (words1.take 24).all (fun c => isCode c || c.before args0 about1) = true := by decide +kernel
set_option maxRecDepth 65536 in
theorem w_t2 : ((words1.drop 24).take 24).all (fun c => isCode c || c.before args0 about1) = true := by decide +kernel
set_option maxRecDepth 65536 in
theorem w_t3 : (((words1.drop 24).drop 24).take 24).all (fun c => isCode c || c.before args0 about1) = true := by decide +kernel
set_option maxRecDepth 65536 in
theorem w_t4 : ((((words1.drop 24).drop 24).drop 24).take 24).all (fun c => isCode c || c.before args0 about1) = true := by decide +kernel
set_option maxRecDepth 65536 in
theorem w_t5 : (((((words1.drop 24).drop 24).drop 24).drop 24).take 24).all (fun c => isCode c || c.before args0 about1) = true := by decide +kernel
set_option maxRecDepth 65536 in
theorem w_t6 : ((((((words1.drop 24).drop 24).drop 24).drop 24).drop 24).take 24).all (fun c => isCode c || c.before args0 about1) = true := by decide +kernel
set_option maxRecDepth 65536 in
theorem w_t7 : (((((((words1.drop 24).drop 24).drop 24).drop 24).drop 24).drop 24).take 24).all (fun c => isCode c || c.before args0 about1) = true := by decide +kernel
set_option maxRecDepth 65536 in
theorem w_t8 : (((((((words1.drop 24).drop 24).drop 24).drop 24).drop 24).drop 24).drop 24).all (fun c => isCode c || c.before args0 about1) = true := by decide +kernel
theorem w_tables : (allAtoms (Jvm.Cond.code x code maxLocals ret :: tables_1)).before args0 about1 = true := by
  rw [allAtoms_all]
  show words1.all (fun c => c.before args0 about1) = true
  refine all_split ?_ w_codes
  rw [← List.take_append_drop 24 words1, List.all_append, w_t1, ← List.take_append_drop 24 (words1.drop 24), List.all_append, w_t2, ← List.take_append_drop 24 ((words1.drop 24).drop 24), List.all_append, w_t3, ← List.take_append_drop 24 (((words1.drop 24).drop 24).drop 24), List.all_append, w_t4, ← List.take_append_drop 24 ((((words1.drop 24).drop 24).drop 24).drop 24), List.all_append, w_t5, ← List.take_append_drop 24 (((((words1.drop 24).drop 24).drop 24).drop 24).drop 24), List.all_append, w_t6, ← List.take_append_drop 24 ((((((words1.drop 24).drop 24).drop 24).drop 24).drop 24).drop 24), List.all_append, w_t7, w_t8]
  rfl
set_option maxRecDepth 65536 in
theorem w_rest : rest_1_c.before args0 about1 = true := by decide +kernel
set_option maxRecDepth 65536 in
theorem w_case : (Jvm.Cond.and given_1 narrow_1).before args0 about1 = true := by decide +kernel
set_option maxRecDepth 65536 in
theorem w_consts : constsHeld consts_1 about1 := Jvm.Lit.constsHeldB_iff.mp (by decide +kernel)
theorem w_applies : (headSpec (Jvm.Cond.code x code maxLocals ret :: tables_1) room_1).applies x e0.platform about1 = true :=
  (Spec.applies_iff w_frames).mpr ⟨w_running, w_runnable, w_alone, w_named, w_hears, w_ripe, w_room, w_tables⟩
theorem atStart : AtStart classFile x code maxLocals ret World_1 tables_1 room_1 Calls_1 rest_1 Pre_1 launch0 p0 e0 about1 theMethod args0 below0 :=
  ⟨lists_1, trivial, launch0.admits_env _ _ _, launch0.least_env, fairChoices_fair.cas, fairChoices_fair.clock, w_frames, w_args, w_heap, w_applies, ⟨w_consts, trivial⟩, w_rest, w_case⟩
end start1
theorem witness_1 : WitnessClaimed_1 := ⟨start1.p0, start1.e0, start1.about1, start1.theMethod, start1.args0, start1.below0, start1.atStart⟩
end Jvm.Pilot.@@N@@
