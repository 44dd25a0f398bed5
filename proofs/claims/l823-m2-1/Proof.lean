import JvmDerived
import JvmDerived.Pilot.@@N@@Statement
import JvmDerived.Pilot.@@N@@Code
set_option linter.unusedVariables false
set_option linter.unusedSimpArgs false
namespace Jvm.Own
open Sem ClassFile Op Lib Jvm.Stand Jvm.Free Jvm.LawKit Jvm.RoadKit Bundle
section K
variable {p : Program} {l : Launch} {e : Env} {R : Room} {s : State} {m : MethodId} {args : Array Value} {below : List Frame} {meth : Method} {c : Code} {Z : State} {a0 : Array Value} {EL : List (String × Nat)} {pr : Bool} {y : MethodName} {bs : ByteArray} {ml : Nat} {rt : Option FieldType} {T : State} {vm0 : Vm} {h : Heap} {k n : Nat} {Φ : Outcome → State → Prop} {Ls : Array Slot} {st : List Value} {pc q : Nat}
/-- from U the run comes to its end, and Φ holds there -/
def Go (p : Program) (e : Env) (below : List Frame) (Φ : Outcome → State → Prop) (U : State) : Prop := ∃ s₂ o, Steps p.tables e below U s₂ ∧ s₂.status = .running ∧ Ended s₂ below o ∧ Φ o s₂
theorem Go.pre {U U' : State} (hr : Go p e below Φ U') (g : ∀ t, Steps p.tables e below U' t → Steps p.tables e below U t) : Go p e below Φ U := by
  obtain ⟨s2, o, h1, r⟩ := hr; exact ⟨s2, o, g _ h1, r⟩
theorem Go.pre' {U U' : State} (hr : Go p e below Φ U') (g : Steps p.tables e below U U') : Go p e below Φ U := hr.pre fun _ r => g.trans r
/-- where a walk stands: the tables vm0 since the last step that may have interned; only new places were written; what the start's heap held stands -/
def Wk (p : Program) (l : Launch) (e : Env) (R : Room) (s : State) (m : MethodId) (args : Array Value) (below : List Frame) (meth : Method) (c : Code) (Z : State) (a0 : Array Value) (EL : List (String × Nat)) (pr : Bool) (y : MethodName) (bs : ByteArray) (ml : Nat) (rt : Option FieldType) (T : State) (vm0 : Vm) (h : Heap) (k n : Nat) : Prop :=
  (p.tables.exec = Jvm.exec ∧ c.code = bs ∧ c.maxLocals = ml ∧ meth.sig.returnType = rt ∧ meth.locks = false ∧ meth.name = y.name ∧ EW Z a0 EL) ∧
  ∃ (k0 : Nat) (locs : List Loc), Stand p l e R (s.setVm vm0) m args below meth c T locs k n ∧ T.heap = h ∧ Z.Warmed39 vm0 ∧ vm0.findClass y.cls = some m.cls ∧ s.Since vm0 k0 ∧ k0 ≤ h.size ∧ Fr Z.heap.size locs ∧ CHr Z EL s.vm s.heap vm0 h ∧ Ext Z.heap h ∧ (pr = true → s.WarmedH vm0)
abbrev WkT (p : Program) (l : Launch) (e : Env) (R : Room) (s : State) (m : MethodId) (args : Array Value) (below : List Frame) (meth : Method) (c : Code) (Z : State) (a0 : Array Value) (EL : List (String × Nat)) (pr : Bool) (y : MethodName) (bs : ByteArray) (ml : Nat) (rt : Option FieldType) := Wk p l e R s m args below meth c Z a0 EL pr y bs ml rt
theorem Wk.here (w : Wk p l e R s m args below meth c Z a0 EL pr y bs ml rt T vm0 h k n) : At T m c below := by obtain ⟨-, _, _, X, -⟩ := w; exact X.here
theorem Wk.hx (w : Wk p l e R s m args below meth c Z a0 EL pr y bs ml rt T vm0 h k n) : p.tables.exec = Jvm.exec := w.1.1
theorem Wk.b (w : Wk p l e R s m args below meth c Z a0 EL pr y bs ml rt T vm0 h k n) {r : Except DecodeError (Instr × Nat)} (hd : decode bs pc = r) : decode c.code pc = r := hb w.1.2.1 hd
theorem Wk.old (w : Wk p l e R s m args below meth c Z a0 EL pr y bs ml rt T vm0 h k n) : Ext Z.heap h := by obtain ⟨-, _, _, -, -, -, -, -, -, -, -, O, -⟩ := w; exact O
theorem Wk.wz (w : Wk p l e R s m args below meth c Z a0 EL pr y bs ml rt T vm0 h k n) : Z.Warmed39 vm0 := by obtain ⟨-, _, _, -, -, hZ, -⟩ := w; exact hZ
theorem Wk.chv (w : Wk p l e R s m args below meth c Z a0 EL pr y bs ml rt T vm0 h k n) : CHv Z EL vm0 h := by obtain ⟨-, _, _, -, -, -, -, -, -, -, C, -⟩ := w; exact C.1
theorem Wk.safe (w : Wk p l e R s m args below meth c Z a0 EL pr y bs ml rt T vm0 h k n) {a : Addr} {C : String} (E : Exa Z h a C) (h1 : C ≠ "java/lang/String") (h2 : C ≠ "[B") : Safe Z EL vm0 h a := Safe.exa w.wz.alike E h1 h2
/-- how a body ends: it returned v, Q holds of v and the heap -/
def Fini (Z : State) (EL : List (String × Nat)) (pr : Bool) (kc ks : Nat) (Q : Option Value → Heap → Prop) (s : State) (o : Outcome) (t : State) : Prop :=
  ∃ v L, o = .returned v ∧ Q v t.heap ∧ Ext Z.heap t.heap ∧ Fr Z.heap.size L ∧ CHr Z EL s.vm s.heap t.vm t.heap ∧ (pr = true → s.WarmedH t.vm) ∧ ReturnedEndW s o t L kc ks
/-- a body's contract: called with these arguments at the heap h it returns, and Q holds -/
def Con (l : Launch) (Z : State) (EL : List (String × Nat)) (pr : Bool) (y : MethodName) (bs : ByteArray) (ml : Nat) (rt : Option FieldType) (ws : List Cond) (rm : Room) (as' : Array Value) (sf : List Addr) (h : Heap) (Q : Option Value → Heap → Prop) : Prop :=
  MetFree l y (head1 (Cond.code y bs ml rt :: ws) rm) (fun a U => a = as' ∧ Z.Warmed39 U.vm ∧ U.heap = h ∧ CHv Z EL U.vm h ∧ ∀ x ∈ sf, Safe Z EL U.vm h x) (fun _ _ _ _ _ => True) (fun _ U o U' => Fini Z EL pr rm.cells rm.slots Q U o U')
theorem Con.intro {ws : List Cond} {rm : Room} {as' : Array Value} {sf : List Addr} {Q : Option Value → Heap → Prop} (hpl : plainFor y = true) (hEL : EW Z a0 EL) (hO : Ext Z.heap h) (hef : ∀ m, entryFrame m as' ml = mkF m 0 Ls [])
    (body : ∀ (p : Program) (e : Env) (s : State) (m : MethodId) (below : List Frame) (meth : Method) (c : Code) (T : State), Wk p l e rm s m as' below meth c Z a0 EL pr y bs ml rt T s.vm h 0 0 → (∀ x ∈ sf, Safe Z EL s.vm h x) → Go p e below (Fini Z EL pr rm.cells rm.slots Q s) (T.setTop (mkF m 0 Ls []))) :
    Con l Z EL pr y bs ml rt ws rm as' sf h Q := by
  refine MetFree.of_bodySF hpl hisR ?_
  intro p e s m args below meth c s₁ Bd hml0 hP hK
  obtain ⟨rfl, hZ, hh, hC, hsf⟩ := hP
  have X0 : Stand p l e rm s m args below meth c s₁ [] 0 0 := Stand.of_body Bd
  have e0 : s₁.heap = h := by rw [← hh, Bd.state]; rfl
  have hown : s.vm.findClass y.cls = some m.cls := findClass_of_methodNamed Bd.named
  have hnm := (name_of_methodNamed Bd.named Bd.method).1
  have w : Wk p l e rm s m args below meth c Z a0 EL pr y bs ml rt s₁ s.vm h 0 0 :=
    ⟨⟨Bd.exec, Bd.bytes, hml0, Bd.returns, Bd.notSynchronized, hnm, hEL⟩, h.size, [], X0, e0, hZ, hown, (State.WarmedH.refl s).since _, Nat.le_refl _, Fr.nil _, by subst hh; exact CHr.refl hC, hO, fun _ => State.WarmedH.refl s⟩
  have q := body p e s m below meth c s₁ w hsf
  rw [← hef] at q
  exact q
/-- the two ends of a walk joined -/
theorem Wk.fin (w : Wk p l e R s m args below meth c Z a0 EL pr y bs ml rt T vm0 h k n) {Q : Option Value → Heap → Prop} {v : Option Value} (hv : rt = none → v = none) (hk : k ≤ R.cells) (hn : n ≤ R.slots) (hQ : Q v h) :
    ∃ fs, (∀ (f : JFrame) (acts : List Action), f.method = m → f.locked = none → f.entered = [] → (doReturn e (T.setTop f) acts v).1 = T.setFrames fs) ∧ (T.setFrames fs).status = .running ∧ Ended (T.setFrames fs) below (.returned v) ∧ Fini Z EL pr R.cells R.slots Q s (.returned v) (T.setFrames fs) := by
  obtain ⟨⟨hx, hb1, hml, hrt, hlk, hnm, hEL⟩, k0, locs, X, rfl, hZ, hown, hS, hk0, N, C, O, hpr⟩ := w
  obtain ⟨fs, hr, hrun, hended, e1, e2, e3, e4⟩ := X.leaveW hS hk0 (v := v) (fun q => hv (hrt.symm.trans q)) hlk
  exact ⟨fs, hr, hrun, hended, v, locs, rfl, hQ, O, N, C.trans (show CHr Z EL vm0 T.heap T.vm T.heap from CHv.at X hZ hEL C.1), fun q => State.WarmedH.trans (t := s.setVm vm0) (hpr q) X.warmed, e1, e2, e3, e4.mono hk hn⟩
/-- a value is returned -/
theorem g_ret (w : Wk p l e R s m args below meth c Z a0 EL pr y bs ml rt T vm0 h k n) {Q : Option Value → Heap → Prop} {t : FieldType} {i : Instr} {v : Value} (hd : decode bs pc = .ok (i, 1)) (ht : rt = some t) (hn : narrow t v = v)
    (hi : (i = .ireturn ∧ (t = .int ∨ t = .boolean ∨ t = .byte ∨ t = .char ∨ t = .short) ∧ ∃ z, v = .int z) ∨ (i = .lreturn ∧ t = .long ∧ ∃ z, v = .long z) ∨ (i = .dreturn ∧ t = .double ∧ ∃ z, v = .double z) ∨ (i = .freturn ∧ t = .float ∧ ∃ z, v = .float z) ∨ (i = .areturn ∧ t.isReference = true ∧ v.isRef = true))
    (hk : k ≤ R.cells) (hn' : n ≤ R.slots) (hQ : Q (some v) h) : Go p e below (Fini Z EL pr R.cells R.slots Q s) (T.setTop (mkF m pc Ls (v :: st))) := by
  obtain ⟨fs, hr, hrun, hended, hf⟩ := w.fin (v := some v) (fun q => by rw [ht] at q; cases q) hk hn' hQ
  obtain ⟨⟨hx, hb1, hml, hrt, -⟩, _, _, X, -⟩ := w
  exact ⟨_, _, retOut X hx (hrt.trans ht) hn hi (hb hb1 hd) hr, hrun, hended, hf⟩
theorem g_reti (w : Wk p l e R s m args below meth c Z a0 EL pr y bs ml rt T vm0 h k n) {Q : Option Value → Heap → Prop} {z : Int32} (hd : decode bs pc = .ok (.ireturn, 1)) (ht : rt = some .int) (hk : k ≤ R.cells) (hn : n ≤ R.slots) (hQ : Q (some (.int z)) h) : Go p e below (Fini Z EL pr R.cells R.slots Q s) (T.setTop (mkF m pc Ls (.int z :: st))) :=
  g_ret w hd ht rfl (Or.inl ⟨rfl, Or.inl rfl, _, rfl⟩) hk hn hQ
theorem g_retl (w : Wk p l e R s m args below meth c Z a0 EL pr y bs ml rt T vm0 h k n) {Q : Option Value → Heap → Prop} {z : Int64} (hd : decode bs pc = .ok (.lreturn, 1)) (ht : rt = some .long) (hk : k ≤ R.cells) (hn : n ≤ R.slots) (hQ : Q (some (.long z)) h) : Go p e below (Fini Z EL pr R.cells R.slots Q s) (T.setTop (mkF m pc Ls (.long z :: st))) :=
  g_ret w hd ht rfl (Or.inr (Or.inl ⟨rfl, rfl, _, rfl⟩)) hk hn hQ
/-- a boolean, byte, char or short is returned: it is narrowed -/
theorem g_retn (w : Wk p l e R s m args below meth c Z a0 EL pr y bs ml rt T vm0 h k n) {Q : Option Value → Heap → Prop} {t : FieldType} {z z' : Int32} (hd : decode bs pc = .ok (.ireturn, 1)) (ht : rt = some t) (hs : t = .boolean ∨ t = .byte ∨ t = .char ∨ t = .short) (hz : nar t z = z') (hk : k ≤ R.cells) (hn : n ≤ R.slots) (hQ : Q (some (.int z')) h) :
    Go p e below (Fini Z EL pr R.cells R.slots Q s) (T.setTop (mkF m pc Ls (.int z :: st))) := by
  subst hz
  obtain ⟨fs, hr, hrun, hended, hf⟩ := w.fin (v := some (.int (nar t z))) (fun q => by rw [ht] at q; cases q) hk hn hQ
  obtain ⟨⟨hx, hb1, hml, hrt, -⟩, _, _, X, -⟩ := w
  exact ⟨_, _, retN X hx (hrt.trans ht) hs (hb hb1 hd) hr, hrun, hended, hf⟩
theorem g_reta (w : Wk p l e R s m args below meth c Z a0 EL pr y bs ml rt T vm0 h k n) {Q : Option Value → Heap → Prop} {t : FieldType} {v : Value} (hd : decode bs pc = .ok (.areturn, 1)) (ht : rt = some t) (hr : t.isReference = true) (hv : v.isRef = true) (hk : k ≤ R.cells) (hn : n ≤ R.slots) (hQ : Q (some v) h) : Go p e below (Fini Z EL pr R.cells R.slots Q s) (T.setTop (mkF m pc Ls (v :: st))) :=
  g_ret w hd ht (by cases t <;> simp [FieldType.isReference] at hr <;> cases v <;> simp [Value.isRef] at hv <;> rfl) (Or.inr (Or.inr (Or.inr (Or.inr ⟨rfl, hr, hv⟩)))) hk hn hQ
theorem g_return (w : Wk p l e R s m args below meth c Z a0 EL pr y bs ml rt T vm0 h k n) {Q : Option Value → Heap → Prop} (hd : decode bs pc = .ok (.return_, 1)) (ht : rt = none) (hk : k ≤ R.cells) (hn : n ≤ R.slots) (hQ : Q none h) : Go p e below (Fini Z EL pr R.cells R.slots Q s) (T.setTop (mkF m pc Ls [])) := by
  obtain ⟨fs, hr, hrun, hended, hf⟩ := w.fin (v := none) (fun _ => rfl) hk hn hQ
  obtain ⟨⟨hx, hb1, hml, hrt, -⟩, _, _, X, -⟩ := w
  exact ⟨_, _, X.returnOut hx (hrt.trans ht) (hb hb1 hd) hr, hrun, hended, hf⟩
theorem g_iloadN (w : Wk p l e R s m args below meth c Z a0 EL pr y bs ml rt T vm0 h k n) {kk : Fin 4} {v : Int32} (hd : decode bs pc = .ok (.iload_n kk, 1)) (hq : pc + 1 = q) (hl : Ls[kk.val]? = some (.val (.int v))) (hr : Go p e below Φ (T.setTop (mkF m q Ls (.int v :: st)))) : Go p e below Φ (T.setTop (mkF m pc Ls st)) := by
  subst hq; exact hr.pre fun t r => Jvm.Free.XS.iloadN w.here w.hx rfl (w.b hd) hl r
theorem g_iload (w : Wk p l e R s m args below meth c Z a0 EL pr y bs ml rt T vm0 h k n) {kk : Nat} {v : Int32} (hd : decode bs pc = .ok (.iload kk, 2)) (hq : pc + 2 = q) (hl : Ls[kk]? = some (.val (.int v))) (hr : Go p e below Φ (T.setTop (mkF m q Ls (.int v :: st)))) : Go p e below Φ (T.setTop (mkF m pc Ls st)) := by
  subst hq; exact hr.pre fun t r => Jvm.Free.XS.iload w.here w.hx rfl (w.b hd) hl r
theorem g_lloadN (w : Wk p l e R s m args below meth c Z a0 EL pr y bs ml rt T vm0 h k n) {kk : Fin 4} {v : Int64} (hd : decode bs pc = .ok (.lload_n kk, 1)) (hq : pc + 1 = q) (hl : Ls[kk.val]? = some (.val (.long v))) (hr : Go p e below Φ (T.setTop (mkF m q Ls (.long v :: st)))) : Go p e below Φ (T.setTop (mkF m pc Ls st)) := by
  subst hq; exact hr.pre fun t r => Jvm.Free.XT.lloadN w.here w.hx rfl (w.b hd) hl r
theorem g_lload (w : Wk p l e R s m args below meth c Z a0 EL pr y bs ml rt T vm0 h k n) {kk : Nat} {v : Int64} (hd : decode bs pc = .ok (.lload kk, 2)) (hq : pc + 2 = q) (hl : Ls[kk]? = some (.val (.long v))) (hr : Go p e below Φ (T.setTop (mkF m q Ls (.long v :: st)))) : Go p e below Φ (T.setTop (mkF m pc Ls st)) := by
  subst hq; exact hr.pre fun t r => Jvm.Free.XT.lload w.here w.hx rfl (w.b hd) hl r
theorem g_aloadN (w : Wk p l e R s m args below meth c Z a0 EL pr y bs ml rt T vm0 h k n) {kk : Fin 4} {v : Value} (hd : decode bs pc = .ok (.aload_n kk, 1)) (hq : pc + 1 = q) (hl : Ls[kk.val]? = some (.val v)) (hv : v.isRef = true) (hr : Go p e below Φ (T.setTop (mkF m q Ls (v :: st)))) : Go p e below Φ (T.setTop (mkF m pc Ls st)) := by
  subst hq; exact hr.pre fun t r => Jvm.Free.XS.aloadN w.here w.hx rfl (w.b hd) hl hv r
theorem g_aload (w : Wk p l e R s m args below meth c Z a0 EL pr y bs ml rt T vm0 h k n) {kk : Nat} {v : Value} (hd : decode bs pc = .ok (.aload kk, 2)) (hq : pc + 2 = q) (hl : Ls[kk]? = some (.val v)) (hv : v.isRef = true) (hr : Go p e below Φ (T.setTop (mkF m q Ls (v :: st)))) : Go p e below Φ (T.setTop (mkF m pc Ls st)) := by
  subst hq; exact hr.pre fun t r => Jvm.Free.XS.aload w.here w.hx rfl (w.b hd) hl hv r
theorem g_istoreN (w : Wk p l e R s m args below meth c Z a0 EL pr y bs ml rt T vm0 h k n) {kk : Fin 4} {v : Int32} {Ls' : Array Slot} (hd : decode bs pc = .ok (.istore_n kk, 1)) (hq : pc + 1 = q) (hl : storeLocals Ls kk.val (.int v) = some Ls') (hr : Go p e below Φ (T.setTop (mkF m q Ls' st))) : Go p e below Φ (T.setTop (mkF m pc Ls (.int v :: st))) := by
  subst hq; exact hr.pre fun t r => Jvm.Free.XS.istoreN w.here w.hx rfl (w.b hd) rfl hl r
theorem g_istore (w : Wk p l e R s m args below meth c Z a0 EL pr y bs ml rt T vm0 h k n) {kk : Nat} {v : Int32} {Ls' : Array Slot} (hd : decode bs pc = .ok (.istore kk, 2)) (hq : pc + 2 = q) (hl : storeLocals Ls kk (.int v) = some Ls') (hr : Go p e below Φ (T.setTop (mkF m q Ls' st))) : Go p e below Φ (T.setTop (mkF m pc Ls (.int v :: st))) := by
  subst hq; exact hr.pre fun t r => Jvm.Free.XS.istore w.here w.hx rfl (w.b hd) rfl hl r
theorem g_lstoreN (w : Wk p l e R s m args below meth c Z a0 EL pr y bs ml rt T vm0 h k n) {kk : Fin 4} {v : Int64} {Ls' : Array Slot} (hd : decode bs pc = .ok (.lstore_n kk, 1)) (hq : pc + 1 = q) (hl : storeLocals Ls kk.val (.long v) = some Ls') (hr : Go p e below Φ (T.setTop (mkF m q Ls' st))) : Go p e below Φ (T.setTop (mkF m pc Ls (.long v :: st))) := by
  subst hq; exact hr.pre fun t r => Jvm.Free.XT.lstoreN w.here w.hx rfl (w.b hd) rfl hl r
theorem g_lstore (w : Wk p l e R s m args below meth c Z a0 EL pr y bs ml rt T vm0 h k n) {kk : Nat} {v : Int64} {Ls' : Array Slot} (hd : decode bs pc = .ok (.lstore kk, 2)) (hq : pc + 2 = q) (hl : storeLocals Ls kk (.long v) = some Ls') (hr : Go p e below Φ (T.setTop (mkF m q Ls' st))) : Go p e below Φ (T.setTop (mkF m pc Ls (.long v :: st))) := by
  subst hq; exact hr.pre fun t r => Jvm.Free.XT.lstore w.here w.hx rfl (w.b hd) rfl hl r
theorem g_astoreN (w : Wk p l e R s m args below meth c Z a0 EL pr y bs ml rt T vm0 h k n) {kk : Fin 4} {v : Value} {Ls' : Array Slot} (hd : decode bs pc = .ok (.astore_n kk, 1)) (hq : pc + 1 = q) (hv : v.isRef = true) (hl : storeLocals Ls kk.val v = some Ls') (hr : Go p e below Φ (T.setTop (mkF m q Ls' st))) : Go p e below Φ (T.setTop (mkF m pc Ls (v :: st))) := by
  subst hq; exact hr.pre fun t r => Jvm.Free.XS.astoreN w.here w.hx rfl (w.b hd) rfl hv hl r
theorem g_astore (w : Wk p l e R s m args below meth c Z a0 EL pr y bs ml rt T vm0 h k n) {kk : Nat} {v : Value} {Ls' : Array Slot} (hd : decode bs pc = .ok (.astore kk, 2)) (hq : pc + 2 = q) (hv : v.isRef = true) (hl : storeLocals Ls kk v = some Ls') (hr : Go p e below Φ (T.setTop (mkF m q Ls' st))) : Go p e below Φ (T.setTop (mkF m pc Ls (v :: st))) := by
  subst hq; exact hr.pre fun t r => Jvm.Free.XS.astore w.here w.hx rfl (w.b hd) rfl hv hl r
theorem g_iconst (w : Wk p l e R s m args below meth c Z a0 EL pr y bs ml rt T vm0 h k n) {i : Int} {v : Int32} (hd : decode bs pc = .ok (.iconst i, 1)) (hq : pc + 1 = q) (hv : Int32.ofInt i = v) (hr : Go p e below Φ (T.setTop (mkF m q Ls (.int v :: st)))) : Go p e below Φ (T.setTop (mkF m pc Ls st)) := by
  subst hq; exact hr.pre fun t r => Jvm.Free.XT.iconstV w.here w.hx rfl v (w.b hd) hv r
theorem g_bipush (w : Wk p l e R s m args below meth c Z a0 EL pr y bs ml rt T vm0 h k n) {i : Int} {v : Int32} (hd : decode bs pc = .ok (.bipush i, 2)) (hq : pc + 2 = q) (hv : (Int8.ofInt i).toInt32 = v) (hr : Go p e below Φ (T.setTop (mkF m q Ls (.int v :: st)))) : Go p e below Φ (T.setTop (mkF m pc Ls st)) := by
  subst hq; exact hr.pre fun t r => Jvm.Free.XT.bipushV w.here w.hx rfl v (w.b hd) hv r
theorem g_sipush (w : Wk p l e R s m args below meth c Z a0 EL pr y bs ml rt T vm0 h k n) {i : Int} {v : Int32} (hd : decode bs pc = .ok (.sipush i, 3)) (hq : pc + 3 = q) (hv : (Int16.ofInt i).toInt32 = v) (hr : Go p e below Φ (T.setTop (mkF m q Ls (.int v :: st)))) : Go p e below Φ (T.setTop (mkF m pc Ls st)) := by
  subst hq; exact hr.pre fun t r => Jvm.Free.XT.sipushV w.here w.hx rfl v (w.b hd) hv r
theorem g_lconst (w : Wk p l e R s m args below meth c Z a0 EL pr y bs ml rt T vm0 h k n) {i : Fin 2} {v : Int64} (hd : decode bs pc = .ok (.lconst i, 1)) (hq : pc + 1 = q) (hv : Int64.ofNat i = v) (hr : Go p e below Φ (T.setTop (mkF m q Ls (.long v :: st)))) : Go p e below Φ (T.setTop (mkF m pc Ls st)) := by
  subst hq; exact hr.pre fun t r => Jvm.Free.XT.lconstV w.here w.hx rfl v (w.b hd) hv r
theorem g_anull (w : Wk p l e R s m args below meth c Z a0 EL pr y bs ml rt T vm0 h k n) (hd : decode bs pc = .ok (.aconst_null, 1)) (hq : pc + 1 = q) (hr : Go p e below Φ (T.setTop (mkF m q Ls (.null :: st)))) : Go p e below Φ (T.setTop (mkF m pc Ls st)) := by
  subst hq; exact hr.pre fun t r => Jvm.Free.XS.aconstNull w.here w.hx rfl (w.b hd) r
theorem g_dup (w : Wk p l e R s m args below meth c Z a0 EL pr y bs ml rt T vm0 h k n) {v : Value} (hd : decode bs pc = .ok (.dup, 1)) (hq : pc + 1 = q) (hc : v.category = 1) (hr : Go p e below Φ (T.setTop (mkF m q Ls (v :: v :: st)))) : Go p e below Φ (T.setTop (mkF m pc Ls (v :: st))) := by
  subst hq; exact hr.pre fun t r => Jvm.Free.XS.dup w.here w.hx rfl (w.b hd) rfl hc r
theorem g_pop (w : Wk p l e R s m args below meth c Z a0 EL pr y bs ml rt T vm0 h k n) {v : Value} (hd : decode bs pc = .ok (.pop, 1)) (hq : pc + 1 = q) (hc : v.category = 1) (hr : Go p e below Φ (T.setTop (mkF m q Ls st))) : Go p e below Φ (T.setTop (mkF m pc Ls (v :: st))) := by
  subst hq; exact hr.pre fun t r => Jvm.Free.XT.pop w.here w.hx rfl (w.b hd) rfl hc r
theorem g_dupX1 (w : Wk p l e R s m args below meth c Z a0 EL pr y bs ml rt T vm0 h k n) {v u : Value} (hd : decode bs pc = .ok (.dup_x1, 1)) (hq : pc + 1 = q) (hc : v.category = 1) (hc' : u.category = 1) (hr : Go p e below Φ (T.setTop (mkF m q Ls (v :: u :: v :: st)))) : Go p e below Φ (T.setTop (mkF m pc Ls (v :: u :: st))) := by
  subst hq; exact hr.pre fun t r => Jvm.Free.XT.dupX1 w.here w.hx rfl (w.b hd) rfl hc hc' r
theorem g_dup2 (w : Wk p l e R s m args below meth c Z a0 EL pr y bs ml rt T vm0 h k n) {v u : Value} (hd : decode bs pc = .ok (.dup2, 1)) (hq : pc + 1 = q) (hc : v.category = 1) (hc' : u.category = 1) (hr : Go p e below Φ (T.setTop (mkF m q Ls (v :: u :: v :: u :: st)))) : Go p e below Φ (T.setTop (mkF m pc Ls (v :: u :: st))) := by
  subst hq; exact hr.pre fun t r => Jvm.Free.XT.dup2 w.here w.hx rfl (w.b hd) rfl hc hc' r
theorem g_dup2L (w : Wk p l e R s m args below meth c Z a0 EL pr y bs ml rt T vm0 h k n) {x : Int64} (hd : decode bs pc = .ok (.dup2, 1)) (hq : pc + 1 = q) (hr : Go p e below Φ (T.setTop (mkF m q Ls (.long x :: .long x :: st)))) : Go p e below Φ (T.setTop (mkF m pc Ls (.long x :: st))) := by
  subst hq; exact hr.pre fun t r => Jvm.Free.XT.dup2L w.here w.hx rfl (w.b hd) rfl r
theorem g_iadd (w : Wk p l e R s m args below meth c Z a0 EL pr y bs ml rt T vm0 h k n) {x z : Int32} (hd : decode bs pc = .ok (.iadd, 1)) (hq : pc + 1 = q) (hr : Go p e below Φ (T.setTop (mkF m q Ls (.int (x + z) :: st)))) : Go p e below Φ (T.setTop (mkF m pc Ls (.int z :: .int x :: st))) := by
  subst hq; exact hr.pre fun t r => Jvm.Free.XS.iadd w.here w.hx rfl (w.b hd) rfl r
theorem g_isub (w : Wk p l e R s m args below meth c Z a0 EL pr y bs ml rt T vm0 h k n) {x z : Int32} (hd : decode bs pc = .ok (.isub, 1)) (hq : pc + 1 = q) (hr : Go p e below Φ (T.setTop (mkF m q Ls (.int (x - z) :: st)))) : Go p e below Φ (T.setTop (mkF m pc Ls (.int z :: .int x :: st))) := by
  subst hq; exact hr.pre fun t r => Jvm.Free.XS.isub w.here w.hx rfl (w.b hd) rfl r
theorem g_imul (w : Wk p l e R s m args below meth c Z a0 EL pr y bs ml rt T vm0 h k n) {x z : Int32} (hd : decode bs pc = .ok (.imul, 1)) (hq : pc + 1 = q) (hr : Go p e below Φ (T.setTop (mkF m q Ls (.int (x * z) :: st)))) : Go p e below Φ (T.setTop (mkF m pc Ls (.int z :: .int x :: st))) := by
  subst hq; exact hr.pre fun t r => Jvm.Free.XS.imul w.here w.hx rfl (w.b hd) rfl r
theorem g_iand (w : Wk p l e R s m args below meth c Z a0 EL pr y bs ml rt T vm0 h k n) {x z : Int32} (hd : decode bs pc = .ok (.iand, 1)) (hq : pc + 1 = q) (hr : Go p e below Φ (T.setTop (mkF m q Ls (.int (x &&& z) :: st)))) : Go p e below Φ (T.setTop (mkF m pc Ls (.int z :: .int x :: st))) := by
  subst hq; exact hr.pre fun t r => Jvm.Free.XS.iand w.here w.hx rfl (w.b hd) rfl r
theorem g_ior (w : Wk p l e R s m args below meth c Z a0 EL pr y bs ml rt T vm0 h k n) {x z : Int32} (hd : decode bs pc = .ok (.ior, 1)) (hq : pc + 1 = q) (hr : Go p e below Φ (T.setTop (mkF m q Ls (.int (x ||| z) :: st)))) : Go p e below Φ (T.setTop (mkF m pc Ls (.int z :: .int x :: st))) := by
  subst hq; exact hr.pre fun t r => Jvm.Free.XT.ior w.here w.hx rfl (w.b hd) rfl r
theorem g_ixor (w : Wk p l e R s m args below meth c Z a0 EL pr y bs ml rt T vm0 h k n) {x z : Int32} (hd : decode bs pc = .ok (.ixor, 1)) (hq : pc + 1 = q) (hr : Go p e below Φ (T.setTop (mkF m q Ls (.int (x ^^^ z) :: st)))) : Go p e below Φ (T.setTop (mkF m pc Ls (.int z :: .int x :: st))) := by
  subst hq; exact hr.pre fun t r => Jvm.Free.XT.ixor w.here w.hx rfl (w.b hd) rfl r
theorem g_ishl (w : Wk p l e R s m args below meth c Z a0 EL pr y bs ml rt T vm0 h k n) {x z : Int32} (hd : decode bs pc = .ok (.ishl, 1)) (hq : pc + 1 = q) (hr : Go p e below Φ (T.setTop (mkF m q Ls (.int (x <<< (z &&& 31)) :: st)))) : Go p e below Φ (T.setTop (mkF m pc Ls (.int z :: .int x :: st))) := by
  subst hq; exact hr.pre fun t r => Jvm.Free.XT.ishl w.here w.hx rfl (w.b hd) rfl r
theorem g_ishr (w : Wk p l e R s m args below meth c Z a0 EL pr y bs ml rt T vm0 h k n) {x z : Int32} (hd : decode bs pc = .ok (.ishr, 1)) (hq : pc + 1 = q) (hr : Go p e below Φ (T.setTop (mkF m q Ls (.int (x >>> (z &&& 31)) :: st)))) : Go p e below Φ (T.setTop (mkF m pc Ls (.int z :: .int x :: st))) := by
  subst hq; exact hr.pre fun t r => Jvm.Free.XT.ishr w.here w.hx rfl (w.b hd) rfl r
theorem g_iushr (w : Wk p l e R s m args below meth c Z a0 EL pr y bs ml rt T vm0 h k n) {x z : Int32} (hd : decode bs pc = .ok (.iushr, 1)) (hq : pc + 1 = q) (hr : Go p e below Φ (T.setTop (mkF m q Ls (.int (Jvm.Free.XT.ushr x z) :: st)))) : Go p e below Φ (T.setTop (mkF m pc Ls (.int z :: .int x :: st))) := by
  subst hq; exact hr.pre fun t r => Jvm.Free.XT.iushr w.here w.hx rfl (w.b hd) rfl r
theorem g_idiv (w : Wk p l e R s m args below meth c Z a0 EL pr y bs ml rt T vm0 h k n) {x z : Int32} (hd : decode bs pc = .ok (.idiv, 1)) (hq : pc + 1 = q) (hz : z ≠ 0) (hr : Go p e below Φ (T.setTop (mkF m q Ls (.int (x / z) :: st)))) : Go p e below Φ (T.setTop (mkF m pc Ls (.int z :: .int x :: st))) := by
  subst hq; exact hr.pre fun t r => Jvm.Free.XS.idiv w.here w.hx rfl (w.b hd) rfl hz r
theorem g_irem (w : Wk p l e R s m args below meth c Z a0 EL pr y bs ml rt T vm0 h k n) {x z : Int32} (hd : decode bs pc = .ok (.irem, 1)) (hq : pc + 1 = q) (hz : z ≠ 0) (hr : Go p e below Φ (T.setTop (mkF m q Ls (.int (x % z) :: st)))) : Go p e below Φ (T.setTop (mkF m pc Ls (.int z :: .int x :: st))) := by
  subst hq; obtain ⟨⟨hx, hb1, -⟩, _, _, X, -⟩ := w; exact hr.pre fun t r => iremM X hx rfl (hb hb1 hd) rfl hz r
theorem g_ladd (w : Wk p l e R s m args below meth c Z a0 EL pr y bs ml rt T vm0 h k n) {x z : Int64} (hd : decode bs pc = .ok (.ladd, 1)) (hq : pc + 1 = q) (hr : Go p e below Φ (T.setTop (mkF m q Ls (.long (x + z) :: st)))) : Go p e below Φ (T.setTop (mkF m pc Ls (.long z :: .long x :: st))) := by
  subst hq; exact hr.pre fun t r => Jvm.Free.XT.ladd w.here w.hx rfl (w.b hd) rfl r
theorem g_lsub (w : Wk p l e R s m args below meth c Z a0 EL pr y bs ml rt T vm0 h k n) {x z : Int64} (hd : decode bs pc = .ok (.lsub, 1)) (hq : pc + 1 = q) (hr : Go p e below Φ (T.setTop (mkF m q Ls (.long (x - z) :: st)))) : Go p e below Φ (T.setTop (mkF m pc Ls (.long z :: .long x :: st))) := by
  subst hq; exact hr.pre fun t r => Jvm.Free.XT.lsub w.here w.hx rfl (w.b hd) rfl r
theorem g_lmul (w : Wk p l e R s m args below meth c Z a0 EL pr y bs ml rt T vm0 h k n) {x z : Int64} (hd : decode bs pc = .ok (.lmul, 1)) (hq : pc + 1 = q) (hr : Go p e below Φ (T.setTop (mkF m q Ls (.long (x * z) :: st)))) : Go p e below Φ (T.setTop (mkF m pc Ls (.long z :: .long x :: st))) := by
  subst hq; exact hr.pre fun t r => Jvm.Free.XT.lmul w.here w.hx rfl (w.b hd) rfl r
theorem g_land (w : Wk p l e R s m args below meth c Z a0 EL pr y bs ml rt T vm0 h k n) {x z : Int64} (hd : decode bs pc = .ok (.land, 1)) (hq : pc + 1 = q) (hr : Go p e below Φ (T.setTop (mkF m q Ls (.long (x &&& z) :: st)))) : Go p e below Φ (T.setTop (mkF m pc Ls (.long z :: .long x :: st))) := by
  subst hq; exact hr.pre fun t r => Jvm.Free.XT.land w.here w.hx rfl (w.b hd) rfl r
theorem g_lor (w : Wk p l e R s m args below meth c Z a0 EL pr y bs ml rt T vm0 h k n) {x z : Int64} (hd : decode bs pc = .ok (.lor, 1)) (hq : pc + 1 = q) (hr : Go p e below Φ (T.setTop (mkF m q Ls (.long (x ||| z) :: st)))) : Go p e below Φ (T.setTop (mkF m pc Ls (.long z :: .long x :: st))) := by
  subst hq; exact hr.pre fun t r => Jvm.Free.XT.lor w.here w.hx rfl (w.b hd) rfl r
theorem g_lxor (w : Wk p l e R s m args below meth c Z a0 EL pr y bs ml rt T vm0 h k n) {x z : Int64} (hd : decode bs pc = .ok (.lxor, 1)) (hq : pc + 1 = q) (hr : Go p e below Φ (T.setTop (mkF m q Ls (.long (x ^^^ z) :: st)))) : Go p e below Φ (T.setTop (mkF m pc Ls (.long z :: .long x :: st))) := by
  subst hq; exact hr.pre fun t r => Jvm.Free.XT.lxor w.here w.hx rfl (w.b hd) rfl r
theorem g_ldiv (w : Wk p l e R s m args below meth c Z a0 EL pr y bs ml rt T vm0 h k n) {x z : Int64} (hd : decode bs pc = .ok (.ldiv, 1)) (hq : pc + 1 = q) (hz : z ≠ 0) (hr : Go p e below Φ (T.setTop (mkF m q Ls (.long (x / z) :: st)))) : Go p e below Φ (T.setTop (mkF m pc Ls (.long z :: .long x :: st))) := by
  subst hq; exact hr.pre fun t r => Jvm.Free.XT.ldiv w.here w.hx rfl (w.b hd) rfl hz r
theorem g_lrem (w : Wk p l e R s m args below meth c Z a0 EL pr y bs ml rt T vm0 h k n) {x z : Int64} (hd : decode bs pc = .ok (.lrem, 1)) (hq : pc + 1 = q) (hz : z ≠ 0) (hr : Go p e below Φ (T.setTop (mkF m q Ls (.long (x - (x / z) * z) :: st)))) : Go p e below Φ (T.setTop (mkF m pc Ls (.long z :: .long x :: st))) := by
  subst hq; exact hr.pre fun t r => Jvm.Free.XT.lrem w.here w.hx rfl (w.b hd) rfl hz r
theorem g_lneg (w : Wk p l e R s m args below meth c Z a0 EL pr y bs ml rt T vm0 h k n) {x : Int64} (hd : decode bs pc = .ok (.lneg, 1)) (hq : pc + 1 = q) (hr : Go p e below Φ (T.setTop (mkF m q Ls (.long (-x) :: st)))) : Go p e below Φ (T.setTop (mkF m pc Ls (.long x :: st))) := by
  subst hq; exact hr.pre fun t r => Jvm.Free.XT.lneg w.here w.hx rfl (w.b hd) rfl r
theorem g_ineg (w : Wk p l e R s m args below meth c Z a0 EL pr y bs ml rt T vm0 h k n) {x : Int32} (hd : decode bs pc = .ok (.ineg, 1)) (hq : pc + 1 = q) (hr : Go p e below Φ (T.setTop (mkF m q Ls (.int (-x) :: st)))) : Go p e below Φ (T.setTop (mkF m pc Ls (.int x :: st))) := by
  subst hq; exact hr.pre fun t r => Jvm.Free.XS.ineg w.here w.hx rfl (w.b hd) rfl r
theorem g_i2l (w : Wk p l e R s m args below meth c Z a0 EL pr y bs ml rt T vm0 h k n) {x : Int32} (hd : decode bs pc = .ok (.i2l, 1)) (hq : pc + 1 = q) (hr : Go p e below Φ (T.setTop (mkF m q Ls (.long (x.toInt64) :: st)))) : Go p e below Φ (T.setTop (mkF m pc Ls (.int x :: st))) := by
  subst hq; exact hr.pre fun t r => Jvm.Free.XT.i2l w.here w.hx rfl (w.b hd) rfl r
theorem g_i2b (w : Wk p l e R s m args below meth c Z a0 EL pr y bs ml rt T vm0 h k n) {x : Int32} (hd : decode bs pc = .ok (.i2b, 1)) (hq : pc + 1 = q) (hr : Go p e below Φ (T.setTop (mkF m q Ls (.int (x.toInt8.toInt32) :: st)))) : Go p e below Φ (T.setTop (mkF m pc Ls (.int x :: st))) := by
  subst hq; exact hr.pre fun t r => Jvm.Free.XT.i2b w.here w.hx rfl (w.b hd) rfl r
theorem g_i2c (w : Wk p l e R s m args below meth c Z a0 EL pr y bs ml rt T vm0 h k n) {x : Int32} (hd : decode bs pc = .ok (.i2c, 1)) (hq : pc + 1 = q) (hr : Go p e below Φ (T.setTop (mkF m q Ls (.int (x.toUInt32.toUInt16.toUInt32.toInt32) :: st)))) : Go p e below Φ (T.setTop (mkF m pc Ls (.int x :: st))) := by
  subst hq; exact hr.pre fun t r => Jvm.Free.XT.i2c w.here w.hx rfl (w.b hd) rfl r
theorem g_l2i (w : Wk p l e R s m args below meth c Z a0 EL pr y bs ml rt T vm0 h k n) {x : Int64} (hd : decode bs pc = .ok (.l2i, 1)) (hq : pc + 1 = q) (hr : Go p e below Φ (T.setTop (mkF m q Ls (.int (x.toInt32) :: st)))) : Go p e below Φ (T.setTop (mkF m pc Ls (.long x :: st))) := by
  subst hq; exact hr.pre fun t r => Jvm.Free.XT.l2i w.here w.hx rfl (w.b hd) rfl r
theorem g_lcmp (w : Wk p l e R s m args below meth c Z a0 EL pr y bs ml rt T vm0 h k n) {x z : Int64} (hd : decode bs pc = .ok (.lcmp, 1)) (hq : pc + 1 = q) (hr : Go p e below Φ (T.setTop (mkF m q Ls (.int (Jvm.Free.XT.cmpL x z) :: st)))) : Go p e below Φ (T.setTop (mkF m pc Ls (.long z :: .long x :: st))) := by
  subst hq; exact hr.pre fun t r => Jvm.Free.XT.lcmp w.here w.hx rfl (w.b hd) rfl r
theorem g_iinc (w : Wk p l e R s m args below meth c Z a0 EL pr y bs ml rt T vm0 h k n) {kk : Nat} {cst : Int} {x v : Int32} {Ls' : Array Slot} (hd : decode bs pc = .ok (.iinc kk cst, 3)) (hq : pc + 3 = q) (hv : Int32.ofInt cst = v) (hl : Ls[kk]? = some (.val (.int x))) (hl' : storeLocals Ls kk (.int (x + v)) = some Ls') (hr : Go p e below Φ (T.setTop (mkF m q Ls' st))) : Go p e below Φ (T.setTop (mkF m pc Ls st)) := by
  subst hq; exact hr.pre fun t r => Jvm.Free.XS.iinc w.here w.hx rfl (w.b hd) hl (by rw [hv]; exact hl') r
theorem g_goto (w : Wk p l e R s m args below meth c Z a0 EL pr y bs ml rt T vm0 h k n) {o : Int} (hd : decode bs pc = .ok (.goto o, 3)) (ho : 0 ≤ (pc : Int) + o) (hq : ((pc : Int) + o).toNat = q) (hr : Go p e below Φ (T.setTop (mkF m q Ls st))) : Go p e below Φ (T.setTop (mkF m pc Ls st)) := by
  exact hr.pre fun t r => Jvm.Free.XS.goto w.here w.hx rfl rfl (w.b hd) ho hq r
theorem g_ifY (w : Wk p l e R s m args below meth c Z a0 EL pr y bs ml rt T vm0 h k n) {cd : ClassFile.Cond} {x : Int32} {o : Int} (hd : decode bs pc = .ok (.ifCond cd o, 3)) (ho : 0 ≤ (pc : Int) + o) (hq : ((pc : Int) + o).toNat = q) (hc : ifCond.holds cd x = true) (hr : Go p e below Φ (T.setTop (mkF m q Ls st))) : Go p e below Φ (T.setTop (mkF m pc Ls (.int x :: st))) := by
  exact hr.pre fun t r => Jvm.Free.XS.ifYes w.here w.hx rfl rfl (w.b hd) rfl hc ho hq r
theorem g_ifN (w : Wk p l e R s m args below meth c Z a0 EL pr y bs ml rt T vm0 h k n) {cd : ClassFile.Cond} {x : Int32} {o : Int} (hd : decode bs pc = .ok (.ifCond cd o, 3)) (hq : pc + 3 = q) (hc : ifCond.holds cd x = false) (hr : Go p e below Φ (T.setTop (mkF m q Ls st))) : Go p e below Φ (T.setTop (mkF m pc Ls (.int x :: st))) := by
  subst hq; exact hr.pre fun t r => Jvm.Free.XS.ifNo w.here w.hx rfl (w.b hd) rfl hc r
theorem g_icY (w : Wk p l e R s m args below meth c Z a0 EL pr y bs ml rt T vm0 h k n) {cd : ClassFile.Cond} {x z : Int32} {o : Int} (hd : decode bs pc = .ok (.if_icmp cd o, 3)) (ho : 0 ≤ (pc : Int) + o) (hq : ((pc : Int) + o).toNat = q) (hc : if_icmp.holds cd x z = true) (hr : Go p e below Φ (T.setTop (mkF m q Ls st))) : Go p e below Φ (T.setTop (mkF m pc Ls (.int z :: .int x :: st))) := by
  exact hr.pre fun t r => Jvm.Free.XS.icmpYes w.here w.hx rfl rfl (w.b hd) rfl hc ho hq r
theorem g_icN (w : Wk p l e R s m args below meth c Z a0 EL pr y bs ml rt T vm0 h k n) {cd : ClassFile.Cond} {x z : Int32} {o : Int} (hd : decode bs pc = .ok (.if_icmp cd o, 3)) (hq : pc + 3 = q) (hc : if_icmp.holds cd x z = false) (hr : Go p e below Φ (T.setTop (mkF m q Ls st))) : Go p e below Φ (T.setTop (mkF m pc Ls (.int z :: .int x :: st))) := by
  subst hq; exact hr.pre fun t r => Jvm.Free.XS.icmpNo w.here w.hx rfl (w.b hd) rfl hc r
theorem g_acY (w : Wk p l e R s m args below meth c Z a0 EL pr y bs ml rt T vm0 h k n) {cd : ClassFile.ACond} {x z : Value} {o : Int} (hd : decode bs pc = .ok (.if_acmp cd o, 3)) (ho : 0 ≤ (pc : Int) + o) (hq : ((pc : Int) + o).toNat = q) (h1 : x.isRef = true) (h2 : z.isRef = true) (hc : Jvm.Free.XT.acmp cd x z = true) (hr : Go p e below Φ (T.setTop (mkF m q Ls st))) : Go p e below Φ (T.setTop (mkF m pc Ls (z :: x :: st))) := by
  exact hr.pre fun t r => Jvm.Free.XT.acmpYes w.here w.hx rfl rfl (w.b hd) rfl h1 h2 hc ho hq r
theorem g_acN (w : Wk p l e R s m args below meth c Z a0 EL pr y bs ml rt T vm0 h k n) {cd : ClassFile.ACond} {x z : Value} {o : Int} (hd : decode bs pc = .ok (.if_acmp cd o, 3)) (hq : pc + 3 = q) (h1 : x.isRef = true) (h2 : z.isRef = true) (hc : Jvm.Free.XT.acmp cd x z = false) (hr : Go p e below Φ (T.setTop (mkF m q Ls st))) : Go p e below Φ (T.setTop (mkF m pc Ls (z :: x :: st))) := by
  subst hq; exact hr.pre fun t r => Jvm.Free.XT.acmpNo w.here w.hx rfl (w.b hd) rfl h1 h2 hc r
theorem g_nullY (w : Wk p l e R s m args below meth c Z a0 EL pr y bs ml rt T vm0 h k n) {o : Int} (hd : decode bs pc = .ok (.ifnull o, 3)) (ho : 0 ≤ (pc : Int) + o) (hq : ((pc : Int) + o).toNat = q) (hr : Go p e below Φ (T.setTop (mkF m q Ls st))) : Go p e below Φ (T.setTop (mkF m pc Ls (.null :: st))) := by
  exact hr.pre fun t r => Jvm.Free.XS.ifnullYes w.here w.hx rfl rfl (w.b hd) rfl ho hq r
theorem g_nullN (w : Wk p l e R s m args below meth c Z a0 EL pr y bs ml rt T vm0 h k n) {o : Int} {b : Addr} (hd : decode bs pc = .ok (.ifnull o, 3)) (hq : pc + 3 = q) (hr : Go p e below Φ (T.setTop (mkF m q Ls st))) : Go p e below Φ (T.setTop (mkF m pc Ls (.ref b :: st))) := by
  subst hq; exact hr.pre fun t r => Jvm.Free.XS.ifnullNo w.here w.hx rfl (w.b hd) rfl r
theorem g_nonnullY (w : Wk p l e R s m args below meth c Z a0 EL pr y bs ml rt T vm0 h k n) {o : Int} {b : Addr} (hd : decode bs pc = .ok (.ifnonnull o, 3)) (ho : 0 ≤ (pc : Int) + o) (hq : ((pc : Int) + o).toNat = q) (hr : Go p e below Φ (T.setTop (mkF m q Ls st))) : Go p e below Φ (T.setTop (mkF m pc Ls (.ref b :: st))) := by
  exact hr.pre fun t r => Jvm.Free.XT.ifnonnullYes w.here w.hx rfl rfl (w.b hd) rfl ho hq r
theorem g_nonnullN (w : Wk p l e R s m args below meth c Z a0 EL pr y bs ml rt T vm0 h k n) {o : Int} (hd : decode bs pc = .ok (.ifnonnull o, 3)) (hq : pc + 3 = q) (hr : Go p e below Φ (T.setTop (mkF m q Ls st))) : Go p e below Φ (T.setTop (mkF m pc Ls (.null :: st))) := by
  subst hq; exact hr.pre fun t r => Jvm.Free.XT.ifnonnullNo w.here w.hx rfl (w.b hd) rfl r
theorem g_if_eq (w : Wk p l e R s m args below meth c Z a0 EL pr y bs ml rt T vm0 h k n) {x : Int32} {o : Int} {q' : Nat} (hd : decode bs pc = .ok (.ifCond .eq o, 3)) (ho : 0 ≤ (pc : Int) + o) (hq : ((pc : Int) + o).toNat = q) (hq' : pc + 3 = q') (hY : x = 0 → Go p e below Φ (T.setTop (mkF m q Ls st))) (hN : ¬ x = 0 → Go p e below Φ (T.setTop (mkF m q' Ls st))) : Go p e below Φ (T.setTop (mkF m pc Ls (.int x :: st))) := by
  by_cases hc : x = 0
  · exact g_ifY w hd ho hq (Jvm.Free.XT.i0_eq_t hc) (hY hc)
  · exact g_ifN w hd hq' (Jvm.Free.XT.i0_eq_f hc) (hN hc)
theorem g_ic_eq (w : Wk p l e R s m args below meth c Z a0 EL pr y bs ml rt T vm0 h k n) {x z : Int32} {o : Int} {q' : Nat} (hd : decode bs pc = .ok (.if_icmp .eq o, 3)) (ho : 0 ≤ (pc : Int) + o) (hq : ((pc : Int) + o).toNat = q) (hq' : pc + 3 = q') (hY : x = z → Go p e below Φ (T.setTop (mkF m q Ls st))) (hN : ¬ x = z → Go p e below Φ (T.setTop (mkF m q' Ls st))) : Go p e below Φ (T.setTop (mkF m pc Ls (.int z :: .int x :: st))) := by
  by_cases hc : x = z
  · exact g_icY w hd ho hq (Jvm.Free.XT.ii_eq_t hc) (hY hc)
  · exact g_icN w hd hq' (Jvm.Free.XT.ii_eq_f hc) (hN hc)
theorem g_lc_eq (w : Wk p l e R s m args below meth c Z a0 EL pr y bs ml rt T vm0 h k n) {x z : Int64} {o : Int} {q' : Nat} (hd : decode bs pc = .ok (.ifCond .eq o, 3)) (ho : 0 ≤ (pc : Int) + o) (hq : ((pc : Int) + o).toNat = q) (hq' : pc + 3 = q') (hY : x = z → Go p e below Φ (T.setTop (mkF m q Ls st))) (hN : ¬ x = z → Go p e below Φ (T.setTop (mkF m q' Ls st))) : Go p e below Φ (T.setTop (mkF m pc Ls (.int (Jvm.Free.XT.cmpL x z) :: st))) := by
  by_cases hc : x = z
  · exact g_ifY w hd ho hq (Jvm.Free.XT.ll_eq_t hc) (hY hc)
  · exact g_ifN w hd hq' (Jvm.Free.XT.ll_eq_f hc) (hN hc)
theorem g_if_ne (w : Wk p l e R s m args below meth c Z a0 EL pr y bs ml rt T vm0 h k n) {x : Int32} {o : Int} {q' : Nat} (hd : decode bs pc = .ok (.ifCond .ne o, 3)) (ho : 0 ≤ (pc : Int) + o) (hq : ((pc : Int) + o).toNat = q) (hq' : pc + 3 = q') (hY : ¬ x = 0 → Go p e below Φ (T.setTop (mkF m q Ls st))) (hN : x = 0 → Go p e below Φ (T.setTop (mkF m q' Ls st))) : Go p e below Φ (T.setTop (mkF m pc Ls (.int x :: st))) := by
  by_cases hc : ¬ x = 0
  · exact g_ifY w hd ho hq (Jvm.Free.XT.i0_ne_t hc) (hY hc)
  · exact g_ifN w hd hq' (Jvm.Free.XT.i0_ne_f (Classical.not_not.mp hc)) (hN (Classical.not_not.mp hc))
theorem g_ic_ne (w : Wk p l e R s m args below meth c Z a0 EL pr y bs ml rt T vm0 h k n) {x z : Int32} {o : Int} {q' : Nat} (hd : decode bs pc = .ok (.if_icmp .ne o, 3)) (ho : 0 ≤ (pc : Int) + o) (hq : ((pc : Int) + o).toNat = q) (hq' : pc + 3 = q') (hY : ¬ x = z → Go p e below Φ (T.setTop (mkF m q Ls st))) (hN : x = z → Go p e below Φ (T.setTop (mkF m q' Ls st))) : Go p e below Φ (T.setTop (mkF m pc Ls (.int z :: .int x :: st))) := by
  by_cases hc : ¬ x = z
  · exact g_icY w hd ho hq (Jvm.Free.XT.ii_ne_t hc) (hY hc)
  · exact g_icN w hd hq' (Jvm.Free.XT.ii_ne_f (Classical.not_not.mp hc)) (hN (Classical.not_not.mp hc))
theorem g_lc_ne (w : Wk p l e R s m args below meth c Z a0 EL pr y bs ml rt T vm0 h k n) {x z : Int64} {o : Int} {q' : Nat} (hd : decode bs pc = .ok (.ifCond .ne o, 3)) (ho : 0 ≤ (pc : Int) + o) (hq : ((pc : Int) + o).toNat = q) (hq' : pc + 3 = q') (hY : ¬ x = z → Go p e below Φ (T.setTop (mkF m q Ls st))) (hN : x = z → Go p e below Φ (T.setTop (mkF m q' Ls st))) : Go p e below Φ (T.setTop (mkF m pc Ls (.int (Jvm.Free.XT.cmpL x z) :: st))) := by
  by_cases hc : ¬ x = z
  · exact g_ifY w hd ho hq (Jvm.Free.XT.ll_ne_t hc) (hY hc)
  · exact g_ifN w hd hq' (Jvm.Free.XT.ll_ne_f (Classical.not_not.mp hc)) (hN (Classical.not_not.mp hc))
theorem g_if_lt (w : Wk p l e R s m args below meth c Z a0 EL pr y bs ml rt T vm0 h k n) {x : Int32} {o : Int} {q' : Nat} (hd : decode bs pc = .ok (.ifCond .lt o, 3)) (ho : 0 ≤ (pc : Int) + o) (hq : ((pc : Int) + o).toNat = q) (hq' : pc + 3 = q') (hY : x < 0 → Go p e below Φ (T.setTop (mkF m q Ls st))) (hN : ¬ x < 0 → Go p e below Φ (T.setTop (mkF m q' Ls st))) : Go p e below Φ (T.setTop (mkF m pc Ls (.int x :: st))) := by
  by_cases hc : x < 0
  · exact g_ifY w hd ho hq (Jvm.Free.XT.i0_lt_t hc) (hY hc)
  · exact g_ifN w hd hq' (Jvm.Free.XT.i0_lt_f hc) (hN hc)
theorem g_ic_lt (w : Wk p l e R s m args below meth c Z a0 EL pr y bs ml rt T vm0 h k n) {x z : Int32} {o : Int} {q' : Nat} (hd : decode bs pc = .ok (.if_icmp .lt o, 3)) (ho : 0 ≤ (pc : Int) + o) (hq : ((pc : Int) + o).toNat = q) (hq' : pc + 3 = q') (hY : x < z → Go p e below Φ (T.setTop (mkF m q Ls st))) (hN : ¬ x < z → Go p e below Φ (T.setTop (mkF m q' Ls st))) : Go p e below Φ (T.setTop (mkF m pc Ls (.int z :: .int x :: st))) := by
  by_cases hc : x < z
  · exact g_icY w hd ho hq (Jvm.Free.XT.ii_lt_t hc) (hY hc)
  · exact g_icN w hd hq' (Jvm.Free.XT.ii_lt_f hc) (hN hc)
theorem g_lc_lt (w : Wk p l e R s m args below meth c Z a0 EL pr y bs ml rt T vm0 h k n) {x z : Int64} {o : Int} {q' : Nat} (hd : decode bs pc = .ok (.ifCond .lt o, 3)) (ho : 0 ≤ (pc : Int) + o) (hq : ((pc : Int) + o).toNat = q) (hq' : pc + 3 = q') (hY : x < z → Go p e below Φ (T.setTop (mkF m q Ls st))) (hN : ¬ x < z → Go p e below Φ (T.setTop (mkF m q' Ls st))) : Go p e below Φ (T.setTop (mkF m pc Ls (.int (Jvm.Free.XT.cmpL x z) :: st))) := by
  by_cases hc : x < z
  · exact g_ifY w hd ho hq (Jvm.Free.XT.ll_lt_t hc) (hY hc)
  · exact g_ifN w hd hq' (Jvm.Free.XT.ll_lt_f hc) (hN hc)
theorem g_if_ge (w : Wk p l e R s m args below meth c Z a0 EL pr y bs ml rt T vm0 h k n) {x : Int32} {o : Int} {q' : Nat} (hd : decode bs pc = .ok (.ifCond .ge o, 3)) (ho : 0 ≤ (pc : Int) + o) (hq : ((pc : Int) + o).toNat = q) (hq' : pc + 3 = q') (hY : ¬ x < 0 → Go p e below Φ (T.setTop (mkF m q Ls st))) (hN : x < 0 → Go p e below Φ (T.setTop (mkF m q' Ls st))) : Go p e below Φ (T.setTop (mkF m pc Ls (.int x :: st))) := by
  by_cases hc : ¬ x < 0
  · exact g_ifY w hd ho hq (Jvm.Free.XT.i0_ge_t hc) (hY hc)
  · exact g_ifN w hd hq' (Jvm.Free.XT.i0_ge_f (Classical.not_not.mp hc)) (hN (Classical.not_not.mp hc))
theorem g_ic_ge (w : Wk p l e R s m args below meth c Z a0 EL pr y bs ml rt T vm0 h k n) {x z : Int32} {o : Int} {q' : Nat} (hd : decode bs pc = .ok (.if_icmp .ge o, 3)) (ho : 0 ≤ (pc : Int) + o) (hq : ((pc : Int) + o).toNat = q) (hq' : pc + 3 = q') (hY : ¬ x < z → Go p e below Φ (T.setTop (mkF m q Ls st))) (hN : x < z → Go p e below Φ (T.setTop (mkF m q' Ls st))) : Go p e below Φ (T.setTop (mkF m pc Ls (.int z :: .int x :: st))) := by
  by_cases hc : ¬ x < z
  · exact g_icY w hd ho hq (Jvm.Free.XT.ii_ge_t hc) (hY hc)
  · exact g_icN w hd hq' (Jvm.Free.XT.ii_ge_f (Classical.not_not.mp hc)) (hN (Classical.not_not.mp hc))
theorem g_lc_ge (w : Wk p l e R s m args below meth c Z a0 EL pr y bs ml rt T vm0 h k n) {x z : Int64} {o : Int} {q' : Nat} (hd : decode bs pc = .ok (.ifCond .ge o, 3)) (ho : 0 ≤ (pc : Int) + o) (hq : ((pc : Int) + o).toNat = q) (hq' : pc + 3 = q') (hY : ¬ x < z → Go p e below Φ (T.setTop (mkF m q Ls st))) (hN : x < z → Go p e below Φ (T.setTop (mkF m q' Ls st))) : Go p e below Φ (T.setTop (mkF m pc Ls (.int (Jvm.Free.XT.cmpL x z) :: st))) := by
  by_cases hc : ¬ x < z
  · exact g_ifY w hd ho hq (Jvm.Free.XT.ll_ge_t hc) (hY hc)
  · exact g_ifN w hd hq' (Jvm.Free.XT.ll_ge_f (Classical.not_not.mp hc)) (hN (Classical.not_not.mp hc))
theorem g_if_gt (w : Wk p l e R s m args below meth c Z a0 EL pr y bs ml rt T vm0 h k n) {x : Int32} {o : Int} {q' : Nat} (hd : decode bs pc = .ok (.ifCond .gt o, 3)) (ho : 0 ≤ (pc : Int) + o) (hq : ((pc : Int) + o).toNat = q) (hq' : pc + 3 = q') (hY : 0 < x → Go p e below Φ (T.setTop (mkF m q Ls st))) (hN : ¬ 0 < x → Go p e below Φ (T.setTop (mkF m q' Ls st))) : Go p e below Φ (T.setTop (mkF m pc Ls (.int x :: st))) := by
  by_cases hc : 0 < x
  · exact g_ifY w hd ho hq (Jvm.Free.XT.i0_gt_t hc) (hY hc)
  · exact g_ifN w hd hq' (Jvm.Free.XT.i0_gt_f hc) (hN hc)
theorem g_ic_gt (w : Wk p l e R s m args below meth c Z a0 EL pr y bs ml rt T vm0 h k n) {x z : Int32} {o : Int} {q' : Nat} (hd : decode bs pc = .ok (.if_icmp .gt o, 3)) (ho : 0 ≤ (pc : Int) + o) (hq : ((pc : Int) + o).toNat = q) (hq' : pc + 3 = q') (hY : z < x → Go p e below Φ (T.setTop (mkF m q Ls st))) (hN : ¬ z < x → Go p e below Φ (T.setTop (mkF m q' Ls st))) : Go p e below Φ (T.setTop (mkF m pc Ls (.int z :: .int x :: st))) := by
  by_cases hc : z < x
  · exact g_icY w hd ho hq (Jvm.Free.XT.ii_gt_t hc) (hY hc)
  · exact g_icN w hd hq' (Jvm.Free.XT.ii_gt_f hc) (hN hc)
theorem g_lc_gt (w : Wk p l e R s m args below meth c Z a0 EL pr y bs ml rt T vm0 h k n) {x z : Int64} {o : Int} {q' : Nat} (hd : decode bs pc = .ok (.ifCond .gt o, 3)) (ho : 0 ≤ (pc : Int) + o) (hq : ((pc : Int) + o).toNat = q) (hq' : pc + 3 = q') (hY : z < x → Go p e below Φ (T.setTop (mkF m q Ls st))) (hN : ¬ z < x → Go p e below Φ (T.setTop (mkF m q' Ls st))) : Go p e below Φ (T.setTop (mkF m pc Ls (.int (Jvm.Free.XT.cmpL x z) :: st))) := by
  by_cases hc : z < x
  · exact g_ifY w hd ho hq (Jvm.Free.XT.ll_gt_t hc) (hY hc)
  · exact g_ifN w hd hq' (Jvm.Free.XT.ll_gt_f hc) (hN hc)
theorem g_if_le (w : Wk p l e R s m args below meth c Z a0 EL pr y bs ml rt T vm0 h k n) {x : Int32} {o : Int} {q' : Nat} (hd : decode bs pc = .ok (.ifCond .le o, 3)) (ho : 0 ≤ (pc : Int) + o) (hq : ((pc : Int) + o).toNat = q) (hq' : pc + 3 = q') (hY : ¬ 0 < x → Go p e below Φ (T.setTop (mkF m q Ls st))) (hN : 0 < x → Go p e below Φ (T.setTop (mkF m q' Ls st))) : Go p e below Φ (T.setTop (mkF m pc Ls (.int x :: st))) := by
  by_cases hc : ¬ 0 < x
  · exact g_ifY w hd ho hq (Jvm.Free.XT.i0_le_t hc) (hY hc)
  · exact g_ifN w hd hq' (Jvm.Free.XT.i0_le_f (Classical.not_not.mp hc)) (hN (Classical.not_not.mp hc))
theorem g_ic_le (w : Wk p l e R s m args below meth c Z a0 EL pr y bs ml rt T vm0 h k n) {x z : Int32} {o : Int} {q' : Nat} (hd : decode bs pc = .ok (.if_icmp .le o, 3)) (ho : 0 ≤ (pc : Int) + o) (hq : ((pc : Int) + o).toNat = q) (hq' : pc + 3 = q') (hY : ¬ z < x → Go p e below Φ (T.setTop (mkF m q Ls st))) (hN : z < x → Go p e below Φ (T.setTop (mkF m q' Ls st))) : Go p e below Φ (T.setTop (mkF m pc Ls (.int z :: .int x :: st))) := by
  by_cases hc : ¬ z < x
  · exact g_icY w hd ho hq (Jvm.Free.XT.ii_le_t hc) (hY hc)
  · exact g_icN w hd hq' (Jvm.Free.XT.ii_le_f (Classical.not_not.mp hc)) (hN (Classical.not_not.mp hc))
theorem g_lc_le (w : Wk p l e R s m args below meth c Z a0 EL pr y bs ml rt T vm0 h k n) {x z : Int64} {o : Int} {q' : Nat} (hd : decode bs pc = .ok (.ifCond .le o, 3)) (ho : 0 ≤ (pc : Int) + o) (hq : ((pc : Int) + o).toNat = q) (hq' : pc + 3 = q') (hY : ¬ z < x → Go p e below Φ (T.setTop (mkF m q Ls st))) (hN : z < x → Go p e below Φ (T.setTop (mkF m q' Ls st))) : Go p e below Φ (T.setTop (mkF m pc Ls (.int (Jvm.Free.XT.cmpL x z) :: st))) := by
  by_cases hc : ¬ z < x
  · exact g_ifY w hd ho hq (Jvm.Free.XT.ll_le_t hc) (hY hc)
  · exact g_ifN w hd hq' (Jvm.Free.XT.ll_le_f (Classical.not_not.mp hc)) (hN (Classical.not_not.mp hc))
theorem g_ar_eq (w : Wk p l e R s m args below meth c Z a0 EL pr y bs ml rt T vm0 h k n) {a b : Addr} {o : Int} {q' : Nat} (hd : decode bs pc = .ok (.if_acmp .eq o, 3)) (ho : 0 ≤ (pc : Int) + o) (hq : ((pc : Int) + o).toNat = q) (hq' : pc + 3 = q') (hY : a = b → Go p e below Φ (T.setTop (mkF m q Ls st))) (hN : ¬ a = b → Go p e below Φ (T.setTop (mkF m q' Ls st))) : Go p e below Φ (T.setTop (mkF m pc Ls (.ref b :: .ref a :: st))) := by
  by_cases hc : a = b
  · exact g_acY w hd ho hq rfl rfl (Jvm.Free.XT.aa_eq_t (congrArg Value.ref hc)) (hY hc)
  · exact g_acN w hd hq' rfl rfl (Jvm.Free.XT.aa_eq_f fun z => hc (Value.ref.inj z)) (hN hc)
theorem g_ar_ne (w : Wk p l e R s m args below meth c Z a0 EL pr y bs ml rt T vm0 h k n) {a b : Addr} {o : Int} {q' : Nat} (hd : decode bs pc = .ok (.if_acmp .ne o, 3)) (ho : 0 ≤ (pc : Int) + o) (hq : ((pc : Int) + o).toNat = q) (hq' : pc + 3 = q') (hY : ¬ a = b → Go p e below Φ (T.setTop (mkF m q Ls st))) (hN : a = b → Go p e below Φ (T.setTop (mkF m q' Ls st))) : Go p e below Φ (T.setTop (mkF m pc Ls (.ref b :: .ref a :: st))) := by
  by_cases hc : a = b
  · exact g_acN w hd hq' rfl rfl (Jvm.Free.XT.aa_ne_f (congrArg Value.ref hc)) (hN hc)
  · exact g_acY w hd ho hq rfl rfl (Jvm.Free.XT.aa_ne_t fun z => hc (Value.ref.inj z)) (hY hc)
theorem g_ldcI (w : Wk p l e R s m args below meth c Z a0 EL pr y bs ml rt T vm0 h k n) {i : Nat} {v : Int32} (hd : decode bs pc = .ok (.ldc i, 2)) (hq : pc + 2 = q) (wc : (Cond.constant y.cls i v).before a0 Z = true) (hr : Go p e below Φ (T.setTop (mkF m q Ls (.int v :: st)))) : Go p e below Φ (T.setTop (mkF m pc Ls st)) := by
  subst hq; obtain ⟨⟨hx, hb1, hml, hrt, hlk, hnm, hEL⟩, k0, locs, X, hh, hZ, hown, hS, hk0, N, C, O, hpr⟩ := w
  exact hr.pre fun t r => X.ldcI hx hown (mvT (s := s.setVm vm0) hZ wc) rfl (hb hb1 hd) r
theorem g_ldcWI (w : Wk p l e R s m args below meth c Z a0 EL pr y bs ml rt T vm0 h k n) {i : Nat} {v : Int32} (hd : decode bs pc = .ok (.ldc_w i, 3)) (hq : pc + 3 = q) (wc : (Cond.constant y.cls i v).before a0 Z = true) (hr : Go p e below Φ (T.setTop (mkF m q Ls (.int v :: st)))) : Go p e below Φ (T.setTop (mkF m pc Ls st)) := by
  subst hq; obtain ⟨⟨hx, hb1, hml, hrt, hlk, hnm, hEL⟩, k0, locs, X, hh, hZ, hown, hS, hk0, N, C, O, hpr⟩ := w
  exact hr.pre fun t r => X.ldcWI hx hown (mvT (s := s.setVm vm0) hZ wc) rfl (hb hb1 hd) r
theorem g_ldc2J (w : Wk p l e R s m args below meth c Z a0 EL pr y bs ml rt T vm0 h k n) {i : Nat} {v : Int64} (hd : decode bs pc = .ok (.ldc2_w i, 3)) (hq : pc + 3 = q) (wc : (Cond.constantLong y.cls i v).before a0 Z = true) (hr : Go p e below Φ (T.setTop (mkF m q Ls (.long v :: st)))) : Go p e below Φ (T.setTop (mkF m pc Ls st)) := by
  subst hq; obtain ⟨⟨hx, hb1, hml, hrt, hlk, hnm, hEL⟩, k0, locs, X, hh, hZ, hown, hS, hk0, N, C, O, hpr⟩ := w
  exact hr.pre fun t r => X.ldc2J hx hown (mvT (s := s.setVm vm0) hZ wc) rfl (hb hb1 hd) r
theorem ext_refl (h : Heap) : Ext h h := ⟨Nat.le_refl _, fun _ _ q => q⟩
theorem ext_trans {h1 h2 h3 : Heap} (E : Ext h1 h2) (F : Ext h2 h3) : Ext h1 h3 := ⟨Nat.le_trans E.1 F.1, fun a c q => F.2 _ _ (E.2 _ _ q)⟩
theorem ext_keep {h1 h2 h3 : Heap} {a : Addr} (E : Ext h1 h2) (K : Keep h2 h3 [a]) (ha : h1.size ≤ a) : Ext h1 h3 := ⟨Nat.le_trans E.1 K.1, fun x c q => K.2.1 x c (E.2 _ _ q) fun hm => by
  have := (Array.getElem?_eq_some_iff.mp q).1
  cases List.mem_singleton.mp hm
  omega⟩
theorem ext_wr {h1 h2 h3 : Heap} {a : Addr} {sl : Nat} {v : Value} (E : Ext h1 h2) (W : Wr h2 h3 a sl v) (ha : h1.size ≤ a) : Ext h1 h3 := ext_keep E (Keep.of_wr W) ha
theorem Wk.sta (w : Wk p l e R s m args below meth c Z a0 EL pr y bs ml rt T vm0 h k n) {C nm d : String} {v : Value} (S : Sta Z Z.heap C nm d v) : Sta Z h C nm d v := S.ext w.old
/-- getfield -/
theorem g_getF (w : Wk p l e R s m args below meth c Z a0 EL pr y bs ml rt T vm0 h k n) {i : Nat} {R0 O' nm d host : String} {a : Addr} {v : Value} (hd : decode bs pc = .ok (.getfield i, 3)) (hq : pc + 3 = q) (wl : (Cond.fieldLink y.cls i R0 nm d).before a0 Z = true ∨ (Cond.fieldLinkNest y.cls i R0 nm d host).before a0 Z = true) (via : Via Z R0 O' nm d) (F : Fld Z h a O' nm d v)
    (K : ∀ T', Wk p l e R s m args below meth c Z a0 EL pr y bs ml rt T' vm0 h k n → Go p e below Φ (T'.setTop (mkF m q Ls (v :: st)))) : Go p e below Φ (T.setTop (mkF m pc Ls (.ref a :: st))) := by
  subst hq; obtain ⟨⟨hx, hb1, hml, hrt, hlk, hnm, hEL⟩, k0, locs, X, hh, hZ, hown, hS, hk0, N, C, O, hpr⟩ := w
  obtain ⟨T', X', e', g'⟩ := getF X hx hZ hown wl via hh F (g := mkF m pc Ls (.ref a :: st)) rfl rfl (hb hb1 hd)
  exact (K T' ⟨⟨hx, hb1, hml, hrt, hlk, hnm, hEL⟩, k0, locs, X', e', hZ, hown, hS, hk0, N, C, O, hpr⟩).pre g'
/-- getstatic -/
theorem g_getS (w : Wk p l e R s m args below meth c Z a0 EL pr y bs ml rt T vm0 h k n) {i : Nat} {R0 O' nm d : String} {v : Value} (hd : decode bs pc = .ok (.getstatic i, 3)) (hq : pc + 3 = q) (wl : (Cond.fieldLink y.cls i R0 nm d).before a0 Z = true) (via : Via Z R0 O' nm d) (F : Sta Z Z.heap O' nm d v)
    (K : ∀ T', Wk p l e R s m args below meth c Z a0 EL pr y bs ml rt T' vm0 h k n → Go p e below Φ (T'.setTop (mkF m q Ls (v :: st)))) : Go p e below Φ (T.setTop (mkF m pc Ls st)) := by
  subst hq; have F' := w.sta F; obtain ⟨⟨hx, hb1, hml, hrt, hlk, hnm, hEL⟩, k0, locs, X, hh, hZ, hown, hS, hk0, N, C, O, hpr⟩ := w
  obtain ⟨T', X', e', g'⟩ := getS (host := "") X hx hZ hown wl via hh F' (g := mkF m pc Ls st) rfl (hb hb1 hd)
  exact (K T' ⟨⟨hx, hb1, hml, hrt, hlk, hnm, hEL⟩, k0, locs, X', e', hZ, hown, hS, hk0, N, C, O, hpr⟩).pre g'
/-- putfield of an object that is new -/
theorem g_putF (w : Wk p l e R s m args below meth c Z a0 EL pr y bs ml rt T vm0 h k n) {i kk : Nat} {R0 O' nm d C' : String} {a : Addr} {v v' old : Value} {ty : FieldType} (hd : decode bs pc = .ok (.putfield i, 3)) (hq : pc + 3 = q) (wl : (Cond.fieldLink y.cls i R0 nm d).before a0 Z = true) (via : Via Z R0 O' nm d) (F : Fld Z h a O' nm d old) (E : Exa Z h a C')
    (L : (Cond.lays C' O' nm d).before a0 Z = true ∨ ((Cond.laysFinal C' O' nm d).before a0 Z = true ∧ y.cls = O' ∧ y.name = "<init>")) (wi : (Cond.instantiable C' kk).before a0 Z = true) (hty : parseFieldDescriptor d = some ty) (hn : narrow ty v = v') (hf : fits ty v' = true) (ga : Z.heap.size ≤ a) (S : Safe Z EL vm0 h a)
    (K : ∀ T' h', Wk p l e R s m args below meth c Z a0 EL pr y bs ml rt T' vm0 h' k n → Wr h h' a (Jvm.RoadKit.slotOf Z O' nm d) v' → Go p e below Φ (T'.setTop (mkF m q Ls st))) : Go p e below Φ (T.setTop (mkF m pc Ls (v :: .ref a :: st))) := by
  subst hq; obtain ⟨⟨hx, hb1, hml, hrt, hlk, hnm, hEL⟩, k0, locs, X, hh, hZ, hown, hS, hk0, N, C, O, hpr⟩ := w
  obtain ⟨T', h', X', e', W, g'⟩ := putFN X hx hZ hown wl via hh F E (L.imp id fun q => ⟨q.1, q.2.1, hnm.trans q.2.2⟩) wi hty hn hf (g := mkF m pc Ls (v :: .ref a :: st)) rfl rfl (hb hb1 hd)
  exact (K T' h' ⟨⟨hx, hb1, hml, hrt, hlk, hnm, hEL⟩, k0, _, X', e', hZ, hown, hS, by rw [W.size]; exact hk0, N.snoc X' ga, C.trans (CHr.wr W S C.1), ext_wr O W ga, hpr⟩ W).pre g'
/-- new -/
theorem g_new (w : Wk p l e R s m args below meth c Z a0 EL pr y bs ml rt T vm0 h k n) {i nn : Nat} {C' : String} (hd : decode bs pc = .ok (.new i, 3)) (hq : pc + 3 = q) (w1 : (Cond.classLink y.cls i C').before a0 Z = true) (w2 : (Cond.instantiable C' nn).before a0 Z = true) (w3 : (Cond.initialized C').before a0 Z = true) (hc : k + 1 ≤ R.cells) (hl : n + nn ≤ R.slots)
    (K : ∀ T' h' a, Wk p l e R s m args below meth c Z a0 EL pr y bs ml rt T' vm0 h' (k + 1) (n + nn) → Ext h h' → h.size ≤ a → Z.heap.size ≤ a → Exa Z h' a C' → (∀ {O' nm d : String} {ty : FieldType}, Laid Z a0 C' O' nm d → parseFieldDescriptor d = some ty → Fld Z h' a O' nm d (defaultValue ty)) → Safe Z EL vm0 h' a → Go p e below Φ (T'.setTop (mkF m q Ls (.ref a :: st)))) : Go p e below Φ (T.setTop (mkF m pc Ls st)) := by
  subst hq; obtain ⟨⟨hx, hb1, hml, hrt, hlk, hnm, hEL⟩, k0, locs, X, hh, hZ, hown, hS, hk0, N, C, O, hpr⟩ := w
  obtain ⟨T', h', X', e', E, A, D, -, g'⟩ := newO X hx hZ hown w1 w2 w3 hh (g := mkF m pc Ls st) rfl (hb hb1 hd) hc hl
  exact (K T' h' h.size ⟨⟨hx, hb1, hml, hrt, hlk, hnm, hEL⟩, k0, locs, X', e', hZ, hown, hS, Nat.le_trans hk0 E.1, N, C.trans (CHr.ext E C.1), ext_trans O E, hpr⟩ E (Nat.le_refl _) O.1 A D (Safe.ext E C.1 (Safe.new (Nat.le_refl _)))).pre g'
/-- an array, its components known -/
def Ar (Z : State) (h : Heap) (a : Addr) (ty : FieldType) (vs : List Value) : Prop := vs.length < 2147483648 ∧ ∃ kC d, Arv Z h a kC ty (Int32.ofNat vs.length) vs d
theorem ofNat_clamp {n : Nat} (h : n < 2147483648) : (Int32.ofNat n).toNatClampNeg = n := by
  have : (Int32.ofNat n).toInt = n := Int32.toInt_ofNat_of_lt (by omega)
  simp only [Int32.toNatClampNeg, this]; rfl
theorem ofNat_nonneg {n : Nat} (h : n < 2147483648) : ¬ Int32.ofNat n < 0 := by
  have : (Int32.ofNat n).toInt = n := Int32.toInt_ofNat_of_lt (by omega)
  rw [Int32.lt_iff_toInt_lt, this, show (0 : Int32).toInt = 0 from rfl]; omega
theorem Ar.lt {a : Addr} {ty : FieldType} {vs : List Value} (F : Ar Z h a ty vs) : a < h.size := by obtain ⟨-, _, _, F⟩ := F; exact F.lt
theorem Ar.ext {h' : Heap} {a : Addr} {ty : FieldType} {vs : List Value} (F : Ar Z h a ty vs) (E : Ext h h') : Ar Z h' a ty vs := by obtain ⟨q, _, _, F⟩ := F; exact ⟨q, _, _, F.ext E⟩
theorem Ar.keep {h' : Heap} {a : Addr} {ty : FieldType} {vs : List Value} {ws : List Addr} (F : Ar Z h a ty vs) (K : Keep h h' ws) (q : a ∉ ws) : Ar Z h' a ty vs := by obtain ⟨q', _, _, F⟩ := F; exact ⟨q', _, _, F.keep K q⟩
theorem Ar.other {h' : Heap} {a b : Addr} {ty : FieldType} {vs : List Value} {sl : Nat} {v : Value} (F : Ar Z h b ty vs) (W : Wr h h' a sl v) (q : b ≠ a) : Ar Z h' b ty vs := by obtain ⟨q', _, _, F⟩ := F; exact ⟨q', _, _, F.other W q⟩
theorem Ar.arv {a : Addr} {ty : FieldType} {vs : List Value} (F : Ar Z h a ty vs) (d' : Value) : ∃ kC, Arv Z h a kC ty (Int32.ofNat vs.length) vs d' := by
  obtain ⟨q, kC, d, c, A, r1, r2, r3, H, G⟩ := F
  have e : ∀ i, i < c.slots.size → vs.getD i d' = vs.getD i d := fun i hi => by
    rw [r2, ofNat_clamp q] at hi; simp [List.getD_eq_getElem?_getD, hi]
  exact ⟨kC, c, A, r1, r2, r3, fun i hi => by rw [e i hi]; exact H i hi, fun i hi => by rw [e i hi]; exact G i hi⟩
/-- newarray -/
theorem g_newarr (w : Wk p l e R s m args below meth c Z a0 EL pr y bs ml rt T vm0 h k n) {aty : ArrayType} {z : Int32} {len cap : Nat} (hd : decode bs pc = .ok (.newarray aty, 2)) (hq : pc + 2 = q) (w1 : (Cond.arrayClass (newarray.typeOf aty)).before a0 Z = true) (hz : z = Int32.ofNat len) (hl : len ≤ cap) (hcap : cap * 8 ≤ 536870912) (hc : k + 1 ≤ R.cells) (hs : n + cap ≤ R.slots)
    (K : ∀ T' h' a, Wk p l e R s m args below meth c Z a0 EL pr y bs ml rt T' vm0 h' (k + 1) (n + cap) → Ext h h' → h.size ≤ a → Z.heap.size ≤ a → Ar Z h' a (newarray.typeOf aty) (List.replicate len (defaultValue (newarray.typeOf aty))) → Safe Z EL vm0 h' a → Go p e below Φ (T'.setTop (mkF m q Ls (.ref a :: st)))) : Go p e below Φ (T.setTop (mkF m pc Ls (.int z :: st))) := by
  subst hq hz; obtain ⟨⟨hx, hb1, hml, hrt, hlk, hnm, hEL⟩, k0, locs, X, hh, hZ, hown, hS, hk0, N, C, O, hpr⟩ := w
  have hlen : len < 2147483648 := by omega
  obtain ⟨T', h', cA, X', e', E, A, g'⟩ := newP X hx hZ w1 hh (g := mkF m pc Ls (.int (Int32.ofNat len) :: st)) rfl (hb hb1 hd) rfl (ofNat_nonneg hlen) (cap := cap) (by rw [ofNat_clamp hlen]; exact hl) hcap hc hs
  refine (K T' h' h.size ⟨⟨hx, hb1, hml, hrt, hlk, hnm, hEL⟩, k0, locs, X', e', hZ, hown, hS, Nat.le_trans hk0 E.1, N, C.trans (CHr.ext E C.1), ext_trans O E, hpr⟩ E (Nat.le_refl _) O.1 ⟨by simpa using hlen, cA, defaultValue (newarray.typeOf aty), ?_⟩ (Safe.ext E C.1 (Safe.new (Nat.le_refl _)))).pre g'
  have q := (Arv.new A (ofNat_nonneg hlen)).pad (vs' := List.replicate len (defaultValue (newarray.typeOf aty))) (fun i => by simpa using pad_rep [] (defaultValue (newarray.typeOf aty)) len i)
  simpa using q
theorem inb {vs : List Value} {i : Nat} {cl : Cell} (hv : vs.length < 2147483648) (S : cl.slots.size = (Int32.ofNat vs.length).toNatClampNeg) (hi : i < vs.length) : ¬ (Int32.ofNat i < 0 ∨ cl.slots.size ≤ (Int32.ofNat i).toNatClampNeg) := by
  rw [S, ofNat_clamp hv, ofNat_clamp (by omega)]
  intro q
  rcases q with q | q
  · exact ofNat_nonneg (by omega) q
  · omega
/-- castore into a new array -/
theorem g_castore (w : Wk p l e R s m args below meth c Z a0 EL pr y bs ml rt T vm0 h k n) {a : Addr} {vs : List Value} {j x x' : Int32} {i : Nat} (hd : decode bs pc = .ok (.castore, 1)) (hq : pc + 1 = q) (A : Ar Z h a .char vs) (hj : j = Int32.ofNat i) (hi : i < vs.length) (hx' : nar .char x = x') (ga : Z.heap.size ≤ a) (S : Safe Z EL vm0 h a)
    (K : ∀ T' h', Wk p l e R s m args below meth c Z a0 EL pr y bs ml rt T' vm0 h' k n → Wr h h' a i (.int x') → Ar Z h' a .char (vs.set i (.int x')) → Go p e below Φ (T'.setTop (mkF m q Ls st))) : Go p e below Φ (T.setTop (mkF m pc Ls (.int x :: .int j :: .ref a :: st))) := by
  subst hq hj hx'; obtain ⟨⟨hx, hb1, hml, hrt, hlk, hnm, hEL⟩, k0, locs, X, hh, hZ, hown, hS, hk0, N, C, O, hpr⟩ := w
  obtain ⟨hv, kC, dv, cl, B, q1, S1, q3, H1, G1⟩ := A
  obtain ⟨T', h', X', e', W, g'⟩ := stC X hx hZ hh B (j := Int32.ofNat i) (inb hv S1 hi) (g := mkF m pc Ls (.int x :: .int (Int32.ofNat i) :: .ref a :: st)) rfl rfl (hb hb1 hd)
  have V := Arv.set B q1 S1 q3 H1 G1 (fits_nar_char x) W i (ofNat_clamp (by omega)) hi
  rw [ofNat_clamp (by omega)] at W
  exact (K T' h' ⟨⟨hx, hb1, hml, hrt, hlk, hnm, hEL⟩, k0, _, X', e', hZ, hown, hS, by rw [W.size]; exact hk0, N.snoc X' ga, C.trans (CHr.wr W S C.1), ext_wr O W ga, hpr⟩ W ⟨by simpa using hv, kC, dv, by simpa using V⟩).pre g'
/-- bastore into a new byte[] -/
theorem g_bastore (w : Wk p l e R s m args below meth c Z a0 EL pr y bs ml rt T vm0 h k n) {a : Addr} {vs : List Value} {j x x' : Int32} {i : Nat} (hd : decode bs pc = .ok (.bastore, 1)) (hq : pc + 1 = q) (A : Ar Z h a .byte vs) (hj : j = Int32.ofNat i) (hi : i < vs.length) (hx' : nar .byte x = x') (ga : Z.heap.size ≤ a) (S : Safe Z EL vm0 h a)
    (K : ∀ T' h', Wk p l e R s m args below meth c Z a0 EL pr y bs ml rt T' vm0 h' k n → Wr h h' a i (.int x') → Ar Z h' a .byte (vs.set i (.int x')) → Go p e below Φ (T'.setTop (mkF m q Ls st))) : Go p e below Φ (T.setTop (mkF m pc Ls (.int x :: .int j :: .ref a :: st))) := by
  subst hq hj hx'; obtain ⟨⟨hx, hb1, hml, hrt, hlk, hnm, hEL⟩, k0, locs, X, hh, hZ, hown, hS, hk0, N, C, O, hpr⟩ := w
  obtain ⟨hv, kC, dv, cl, B, q1, S1, q3, H1, G1⟩ := A
  obtain ⟨T', h', X', e', W, g'⟩ := stB X hx hZ hh B (j := Int32.ofNat i) (inb hv S1 hi) (g := mkF m pc Ls (.int x :: .int (Int32.ofNat i) :: .ref a :: st)) rfl rfl (hb hb1 hd)
  have V := Arv.set B q1 S1 q3 H1 G1 (fits_nar_byte x) W i (ofNat_clamp (by omega)) hi
  rw [ofNat_clamp (by omega)] at W
  exact (K T' h' ⟨⟨hx, hb1, hml, hrt, hlk, hnm, hEL⟩, k0, _, X', e', hZ, hown, hS, by rw [W.size]; exact hk0, N.snoc X' ga, C.trans (CHr.wr W S C.1), ext_wr O W ga, hpr⟩ W ⟨by simpa using hv, kC, dv, by rw [List.length_set]; exact V⟩).pre g'
theorem g_alen (w : Wk p l e R s m args below meth c Z a0 EL pr y bs ml rt T vm0 h k n) {a : Addr} {ty : FieldType} {vs : List Value} (hd : decode bs pc = .ok (.arraylength, 1)) (hq : pc + 1 = q) (A : Ar Z h a ty vs) (hr : Go p e below Φ (T.setTop (mkF m q Ls (.int (Int32.ofNat vs.length) :: st)))) : Go p e below Φ (T.setTop (mkF m pc Ls (.ref a :: st))) := by
  subst hq; obtain ⟨⟨hx, hb1, hml, hrt, hlk, hnm, hEL⟩, k0, locs, X, hh, hZ, hown, hS, hk0, N, C, O, hpr⟩ := w
  obtain ⟨hv, kC, dv, cl, B, q1, S1, q3, H1, G1⟩ := A
  refine hr.pre fun t r => X.arraylength (g := mkF m pc Ls (.ref a :: st)) hx (by rw [hh]; exact B.1) (State.isArrayOf_alike hZ.alike B.2.1) rfl rfl (hb hb1 hd) t ?_
  rw [len_of S1 q3]; exact r
theorem g_caload (w : Wk p l e R s m args below meth c Z a0 EL pr y bs ml rt T vm0 h k n) {a : Addr} {vs : List Value} {j : Int32} {i : Nat} {v : Value} (hd : decode bs pc = .ok (.caload, 1)) (hq : pc + 1 = q) (A : Ar Z h a .char vs) (hj : j = Int32.ofNat i) (hi : i < vs.length) (hv' : vs[i]? = some v) (hr : Go p e below Φ (T.setTop (mkF m q Ls (v :: st)))) : Go p e below Φ (T.setTop (mkF m pc Ls (.int j :: .ref a :: st))) := by
  subst hq hj; obtain ⟨⟨hx, hb1, hml, hrt, hlk, hnm, hEL⟩, k0, locs, X, hh, hZ, hown, hS, hk0, N, C, O, hpr⟩ := w
  obtain ⟨hv, kC, dv, cl, B, q1, S1, q3, H1, G1⟩ := A
  refine hr.pre fun t r => X.caload (g := mkF m pc Ls (.int (Int32.ofNat i) :: .ref a :: st)) hx (by rw [hh]; exact B.1) (State.isArrayOf_alike hZ.alike B.2.1) B.2.2 (inb hv S1 hi) (H1.at (inb hv S1 hi) (by rw [ofNat_clamp (by omega), List.getD_eq_getElem?_getD, hv']; rfl)) rfl rfl (hb hb1 hd) t r
theorem g_baload (w : Wk p l e R s m args below meth c Z a0 EL pr y bs ml rt T vm0 h k n) {a : Addr} {vs : List Value} {j : Int32} {i : Nat} {v : Value} (hd : decode bs pc = .ok (.baload, 1)) (hq : pc + 1 = q) (A : Ar Z h a .byte vs) (hj : j = Int32.ofNat i) (hi : i < vs.length) (hv' : vs[i]? = some v) (hr : Go p e below Φ (T.setTop (mkF m q Ls (v :: st)))) : Go p e below Φ (T.setTop (mkF m pc Ls (.int j :: .ref a :: st))) := by
  subst hq hj; obtain ⟨⟨hx, hb1, hml, hrt, hlk, hnm, hEL⟩, k0, locs, X, hh, hZ, hown, hS, hk0, N, C, O, hpr⟩ := w
  obtain ⟨hv, kC, dv, cl, B, q1, S1, q3, H1, G1⟩ := A
  refine hr.pre fun t r => X.baloadBytes (g := mkF m pc Ls (.int (Int32.ofNat i) :: .ref a :: st)) hx (by rw [hh]; exact B.1) (State.isArrayOf_alike hZ.alike B.2.1) B.2.2 (inb hv S1 hi) (H1.at (inb hv S1 hi) (by rw [ofNat_clamp (by omega), List.getD_eq_getElem?_getD, hv']; rfl)) rfl rfl (hb hb1 hd) t r
/-- checkcast, instanceof: yes -/
theorem g_cast (w : Wk p l e R s m args below meth c Z a0 EL pr y bs ml rt T vm0 h k n) {i : Nat} {K' : String} {a : Addr} (hd : decode bs pc = .ok (.checkcast i, 3)) (hq : pc + 3 = q) (w1 : (Cond.classLink y.cls i K').before a0 Z = true) (F : Ins Z h a K' true) (K : ∀ T', Wk p l e R s m args below meth c Z a0 EL pr y bs ml rt T' vm0 h k n → Go p e below Φ (T'.setTop (mkF m q Ls (.ref a :: st)))) : Go p e below Φ (T.setTop (mkF m pc Ls (.ref a :: st))) := by
  subst hq; obtain ⟨⟨hx, hb1, hml, hrt, hlk, hnm, hEL⟩, k0, locs, X, hh, hZ, hown, hS, hk0, N, C, O, hpr⟩ := w
  obtain ⟨T', X', e', g'⟩ := castY X hx hZ hown w1 hh F (g := mkF m pc Ls (.ref a :: st)) rfl rfl (hb hb1 hd)
  exact (K T' ⟨⟨hx, hb1, hml, hrt, hlk, hnm, hEL⟩, k0, locs, X', e', hZ, hown, hS, hk0, N, C, O, hpr⟩).pre g'
theorem g_inst (w : Wk p l e R s m args below meth c Z a0 EL pr y bs ml rt T vm0 h k n) {i : Nat} {K' : String} {a : Addr} (hd : decode bs pc = .ok (.instanceof i, 3)) (hq : pc + 3 = q) (w1 : (Cond.classLink y.cls i K').before a0 Z = true) (F : Ins Z h a K' true) (K : ∀ T', Wk p l e R s m args below meth c Z a0 EL pr y bs ml rt T' vm0 h k n → Go p e below Φ (T'.setTop (mkF m q Ls (.int 1 :: st)))) : Go p e below Φ (T.setTop (mkF m pc Ls (.ref a :: st))) := by
  subst hq; obtain ⟨⟨hx, hb1, hml, hrt, hlk, hnm, hEL⟩, k0, locs, X, hh, hZ, hown, hS, hk0, N, C, O, hpr⟩ := w
  obtain ⟨T', X', e', g'⟩ := instY X hx hZ hown w1 hh F (g := mkF m pc Ls (.ref a :: st)) rfl rfl (hb hb1 hd)
  exact (K T' ⟨⟨hx, hb1, hml, hrt, hlk, hnm, hEL⟩, k0, locs, X', e', hZ, hown, hS, hk0, N, C, O, hpr⟩).pre g'
/-- Object.<init> -/
theorem g_initO (w : Wk p l e R s m args below meth c Z a0 EL pr y bs ml rt T vm0 h k n) {i W : Nat} {a : Addr} (hd : decode bs pc = .ok (.invokespecial i, 3)) (hq : pc + 3 = q) (hsz : Ls.size = ml) (w1 : (Cond.methodLink y.cls i Lib.objectInit).before a0 Z = true) (w2 : (Cond.instanceMethod Lib.objectInit).before a0 Z = true) (w3 : (Cond.code Lib.objectInit ⟨#[0xb1]⟩ 1 none).before a0 Z = true) (hW : 2 * 0 + (st.map fun v => v.category).sum ≤ W) (hf : 1 ≤ R.frames) (hl : W + 12 ≤ R.locals)
    (K : ∀ T', Wk p l e R s m args below meth c Z a0 EL pr y bs ml rt T' vm0 h k n → Go p e below Φ (T'.setTop (mkF m q Ls st))) : Go p e below Φ (T.setTop (mkF m pc Ls (.ref a :: st))) := by
  subst hq; obtain ⟨⟨hx, hb1, hml, hrt, hlk, hnm, hEL⟩, k0, locs, X, hh, hZ, hown, hS, hk0, N, C, O, hpr⟩ := w
  obtain ⟨T', X', e', g'⟩ := initO X hx hZ hown w1 w2 w3 hh (g := mkF m pc Ls (.ref a :: st)) rfl (hsz.trans hml.symm) rfl (hb hb1 hd) hf hW hl
  exact (K T' ⟨⟨hx, hb1, hml, hrt, hlk, hnm, hEL⟩, k0, locs, X', e', hZ, hown, hS, hk0, N, C, O, hpr⟩).pre g'
/-- ldc of a String constant of EL -/
theorem g_ldcS (w : Wk p l e R s m args below meth c Z a0 EL pr y bs ml rt T vm0 h k n) {i nn : Nat} {text : String} {vs : List Value} {z : Int32} (hd : decode bs pc = .ok (.ldc i, 2)) (hq : pc + 2 = q) (hp : pr = false) (w1 : (Cond.stringLink y.cls i text).before a0 Z = true) (wS : ∀ a ∈ Bundle.stringAtoms, a.before a0 Z = true) (hmem : (y.cls, i) ∈ EL)
    (ht : (∀ c ∈ text.toList, c.toNat < 256) ∧ text.toList.map (fun c => Value.int (Jvm.Lit.byteI c.toNat.toUInt16)) = vs) (hz : ¬ z < 0) (hl : z.toNatClampNeg = vs.length) (hn : 4 * text.toList.length ≤ nn) (hbig : nn ≤ 536870912) (hc : k + 2 ≤ R.cells) (hs : n + (nn + 4) ≤ R.slots)
    (K : ∀ T' vm' h' a b kb, Wk p l e R s m args below meth c Z a0 EL pr y bs ml rt T' vm' h' (k + 2) (n + (nn + 4)) → Ext h h' → Exa Z h' a "java/lang/String" → Fld Z h' a "java/lang/String" "coder" "B" (.int 0) → Fld Z h' a "java/lang/String" "value" "[B" (.ref b) → Arv Z h' b kb .byte z vs (.int 0) → CHr Z EL vm0 h vm' h' → (∀ x, Safe Z EL vm' h' x → x ≠ a ∧ x ≠ b) → Go p e below Φ (T'.setTop (mkF m q Ls (.ref a :: st)))) : Go p e below Φ (T.setTop (mkF m pc Ls st)) := by
  subst hq hp; obtain ⟨⟨hx, hb1, hml, hrt, hlk, hnm, hEL⟩, k0, locs, X, hh, hZ, hown, hS, hk0, N, C, O, hpr⟩ := w
  obtain ⟨a, T', h', k1, b, kb, X', e', E, hS', hk', hZ', hown', E1, F1, F2, A1, -, -, C', -, Sf, g'⟩ := ldcCH X hx hZ hown w1 wS hh hS hk0 hEL hmem C.1 ht hz hl (g := mkF m pc Ls st) rfl (hb hb1 hd) hn hbig hc hs
  exact (K T' T'.vm h' a b kb ⟨⟨hx, hb1, hml, hrt, hlk, hnm, hEL⟩, k1, locs, X', e', hZ', hown', hS', hk', N, C.trans C', ext_trans O E, fun q => by cases q⟩ E E1 F1 F2 A1 C' Sf).pre g'
/-- ldc of a String constant, its text not asked -/
theorem g_ldcO (w : Wk p l e R s m args below meth c Z a0 EL pr y bs ml rt T vm0 h k n) {i nn : Nat} {text : String} (hd : decode bs pc = .ok (.ldc i, 2)) (hq : pc + 2 = q) (hp : pr = false) (w1 : (Cond.stringLink y.cls i text).before a0 Z = true) (wS : ∀ a ∈ Bundle.stringAtoms, a.before a0 Z = true) (hn : 4 * text.toList.length ≤ nn) (hbig : nn ≤ 536870912) (hc : k + 2 ≤ R.cells) (hs : n + (nn + 4) ≤ R.slots)
    (K : ∀ T' vm' h' a, Wk p l e R s m args below meth c Z a0 EL pr y bs ml rt T' vm' h' (k + 2) (n + (nn + 4)) → Ext h h' → CHr Z EL vm0 h vm' h' → Go p e below Φ (T'.setTop (mkF m q Ls (.ref a :: st)))) : Go p e below Φ (T.setTop (mkF m pc Ls st)) := by
  subst hq hp; obtain ⟨⟨hx, hb1, hml, hrt, hlk, hnm, hEL⟩, k0, locs, X, hh, hZ, hown, hS, hk0, N, C, O, hpr⟩ := w
  obtain ⟨a, T', h', k1, X', e', E, hS', hk', hZ', hown', C', -, g'⟩ := ldcOH X hx hZ hown w1 wS hh hS hk0 hEL C.1 (g := mkF m pc Ls st) rfl (hb hb1 hd) hn hbig hc hs
  exact (K T' T'.vm h' a ⟨⟨hx, hb1, hml, hrt, hlk, hnm, hEL⟩, k1, locs, X', e', hZ', hown', hS', hk', N, C.trans C', ext_trans O E, fun q => by cases q⟩ E C').pre g'
/-- a callee's contract, at the call -/
theorem Con.back {y' : MethodName} {bs' : ByteArray} {ml' : Nat} {rt' : Option FieldType} {rm : Room} {as' : Array Value} {sf : List Addr} {Q : Option Value → Heap → Prop} {len W : Nat} (hM : Con l Z EL pr y' bs' ml' rt' [] rm as' sf h Q) (hsf : ∀ x ∈ sf, x < h.size ∧ Safe Z EL vm0 h x) (hZ : Z.Warmed39 vm0) (wc : (Cond.code y' bs' ml' rt').before a0 Z = true) (wz : (Cond.initialized y'.cls).before a0 Z = true)
    (hf : rm.frames + 1 ≤ R.frames) (hl : W + (ml' + 11) + rm.locals ≤ R.locals) (hEL : EW Z a0 EL) (H : CHv Z EL vm0 h) :
    BackS l R p e below (s.setVm vm0) args y' len W (fun A a => a = as' ∧ A.U.heap = h ∧ A.cells + rm.cells ≤ R.cells ∧ A.slots + rm.slots ≤ R.slots)
      (fun A _ v B => ∃ L, (Q v B.U.heap ∧ Ext Z.heap B.U.heap ∧ Fr Z.heap.size L) ∧ B.locs = A.locs ++ L ∧ B.cells = A.cells + rm.cells ∧ B.slots = A.slots + rm.slots ∧ CHr Z EL vm0 h B.U.vm B.U.heap ∧ (pr = true → A.U.WarmedH B.U.vm)) :=
  BackS.of_freeW (bytes := bs') (maxL := ml') (ret := rt') (E := fun _ first o t L kk nn => kk = rm.cells ∧ nn = rm.slots ∧ (∃ v, o = .returned v ∧ Q v t.heap ∧ Ext Z.heap t.heap ∧ Fr Z.heap.size L) ∧ CHr Z EL first.vm first.heap t.vm t.heap ∧ (pr = true → first.WarmedH t.vm)) hM hf hl
    (fun m meth c A a Y hp => have hU : Z.Warmed39 A.U.vm := wtrans (s := s.setVm vm0) hZ Y.warmed
      ⟨by show (Cond.and _ .tt).before a A.U = true; rw [Cond.before_and, mv hU wc]; rfl, mv hU wc, mv hU wz, hp.2.2.1, hp.2.2.2⟩)
    (fun m meth c A a g mk Y hp => ⟨hp.1, wtrans (s := s.setVm vm0) hZ Y.warmed, hp.2.1, (CHv.at Y hZ hEL H).1, fun x hx => (CHv.at Y hZ hEL H).safe (hsf x hx).1 (hsf x hx).2⟩) (fun _ _ _ _ _ _ _ _ _ => trivial)
    (fun _ _ _ _ ⟨v, L, h1, h2, h3, h4, h5, h6, h7⟩ => ⟨L, _, _, h7, rfl, rfl, ⟨v, h1, h2, h3, h4⟩, h5, h6⟩)
    (fun m meth c A a g mk v t L kk nn Y hp _ _ ⟨e1, e2, ⟨v', e3, e4⟩, e5, e6⟩ => by
      cases e3; subst e1 e2
      refine ⟨L, e4, rfl, rfl, rfl, (CHv.at Y hZ hEL H).trans ?_, e6⟩
      rw [← hp.2.1]; exact e5)
/-- behind a call -/
theorem Wk.after (w : Wk p l e R s m args below meth c Z a0 EL pr y bs ml rt T vm0 h k n) {T' : State} {locs' : List Loc} {k' n' : Nat} (X' : Stand p l e R ((s.setVm vm0).setVm T'.vm) m args below meth c T' locs' k' n') (h2 : (s.setVm vm0).Since T'.vm T'.heap.size) (hg : T.heap.size ≤ T'.heap.size) (N' : Fr Z.heap.size locs') (C' : CHr Z EL vm0 h T'.vm T'.heap) (O' : Ext Z.heap T'.heap) (hpr' : pr = true → (s.setVm vm0).WarmedH T'.vm) :
    Wk p l e R s m args below meth c Z a0 EL pr y bs ml rt T' T'.vm T'.heap k' n' := by
  obtain ⟨hd, k0, locs, X, rfl, hZ, hown, hS, hk0, N, C, O, hpr⟩ := w
  obtain ⟨a, b, c', d⟩ := rebS (Z := Z) hS hk0 X' h2 hg hZ hown
  exact ⟨hd, _, locs', a, rfl, c', d, b, Nat.le_refl _, N', C.trans C', O', fun q => State.WarmedH.trans (t := s.setVm vm0) (hpr q) (hpr' q)⟩
/-- invokestatic -/
theorem g_static (w : Wk p l e R s m args below meth c Z a0 EL pr y bs ml rt T vm0 h k n) {y' : MethodName} {bs' : ByteArray} {ml' : Nat} {rt' : Option FieldType} {rm : Room} {Q : Option Value → Heap → Prop} {i W : Nat} {argsL : List Value} {ps : List FieldType} {rr : Option FieldType} {stk : List Value} {sf : List Addr} (hM : Con l Z EL pr y' bs' ml' rt' [] rm argsL.toArray sf h Q) (hsf : ∀ x ∈ sf, x < h.size ∧ Safe Z EL vm0 h x) (hd : decode bs pc = .ok (.invokestatic i, 3)) (hq : pc + 3 = q) (hsz : Ls.size = ml)
    (w1 : (Cond.methodLink y.cls i y').before a0 Z = true) (w2 : (Cond.static y').before a0 Z = true) (w3 : (Cond.initialized y'.cls).before a0 Z = true) (w4 : (Cond.code y' bs' ml' rt').before a0 Z = true) (hy : y'.cls ≠ "java/lang/invoke/MethodHandle" ∧ y'.cls ≠ "java/lang/invoke/VarHandle") (hpd : parseMethodDescriptor y'.desc = some ⟨ps, rr⟩) (hlen : argsL.length = ps.length) (hst : stk = argsL.reverse ++ st)
    (hW : 2 * 0 + (st.map fun v => v.category).sum ≤ W) (hf : rm.frames + 1 ≤ R.frames) (hl : W + (ml' + 11) + rm.locals ≤ R.locals) (hc : k + rm.cells ≤ R.cells) (hs : n + rm.slots ≤ R.slots)
    (K : ∀ T' h' v, Wk p l e R s m args below meth c Z a0 EL pr y bs ml rt T' T'.vm h' (k + rm.cells) (n + rm.slots) → h.size ≤ h'.size → CHr Z EL vm0 h T'.vm h' → Q v h' → Go p e below Φ (T'.setTop (mkF m q Ls (v.toList ++ st)))) : Go p e below Φ (T.setTop (mkF m pc Ls stk)) := by
  subst hq hst; have w' := w; obtain ⟨⟨hx, hb1, hml, hrt, hlk, hnm, hEL⟩, k0, locs, X, hh, hZ, hown, hS, hk0, N, C, O, hpr⟩ := w
  obtain ⟨v, vm₁, ⟨T', L', k', n'⟩, hW1, X', hS', hg, ⟨L, ⟨hQ, hO', hF⟩, hl', hk', hn', hC', hp'⟩, stp⟩ := callSS X hx hown (mvT (s := s.setVm vm0) hZ w1) (mvT (s := s.setVm vm0) hZ w2) (mvT (s := s.setVm vm0) hZ w3) (mvT (s := s.setVm vm0) hZ w4) hy (hM.back hsf hZ w4 w3 hf hl hEL C.1) (g := mkF m pc Ls (argsL.reverse ++ st)) rfl (hsz.trans hml.symm) (lenOf hpd hlen) rfl hW (hb hb1 hd) (fun _ _ => ⟨rfl, hh, hc, hs⟩)
  dsimp only [Pt.U, Pt.locs, Pt.cells, Pt.slots] at X' hS' hg hQ hO' hl' hk' hn' hC' hp' stp
  subst hl' hk' hn'
  exact (K T' T'.heap v (w'.after X' hS' hg (N.app hF) hC' hO' fun q => State.WarmedH.trans (t := T.setVm vm₁) hW1 (hp' q)) hC'.2.1 hC' hQ).pre' stp
/-- invokespecial of a constructor -/
theorem g_special (w : Wk p l e R s m args below meth c Z a0 EL pr y bs ml rt T vm0 h k n) {y' : MethodName} {bs' : ByteArray} {ml' : Nat} {rm : Room} {Q : Option Value → Heap → Prop} {i W : Nat} {a : Addr} {argsL : List Value} {ps : List FieldType} {rr : Option FieldType} {stk : List Value} {sf : List Addr} (hM : Con l Z EL pr y' bs' ml' none [] rm (.ref a :: argsL).toArray sf h Q) (hsf : ∀ x ∈ sf, x < h.size ∧ Safe Z EL vm0 h x) (hd : decode bs pc = .ok (.invokespecial i, 3)) (hq : pc + 3 = q) (hsz : Ls.size = ml) (hni : y'.name = "<init>")
    (w1 : (Cond.methodLink y.cls i y').before a0 Z = true) (w2 : (Cond.instanceMethod y').before a0 Z = true) (w3 : (Cond.initialized y'.cls).before a0 Z = true) (w4 : (Cond.code y' bs' ml' none).before a0 Z = true) (hy : y'.cls ≠ "java/lang/invoke/MethodHandle" ∧ y'.cls ≠ "java/lang/invoke/VarHandle") (hpd : parseMethodDescriptor y'.desc = some ⟨ps, rr⟩) (hlen : argsL.length = ps.length) (hst : stk = argsL.reverse ++ .ref a :: st)
    (hW : 2 * 0 + (st.map fun v => v.category).sum ≤ W) (hf : rm.frames + 1 ≤ R.frames) (hl : W + (ml' + 11) + rm.locals ≤ R.locals) (hc : k + rm.cells ≤ R.cells) (hs : n + rm.slots ≤ R.slots)
    (K : ∀ T' h' v, Wk p l e R s m args below meth c Z a0 EL pr y bs ml rt T' T'.vm h' (k + rm.cells) (n + rm.slots) → h.size ≤ h'.size → CHr Z EL vm0 h T'.vm h' → Q v h' → Go p e below Φ (T'.setTop (mkF m q Ls (v.toList ++ st)))) : Go p e below Φ (T.setTop (mkF m pc Ls stk)) := by
  subst hq hst; have w' := w; obtain ⟨⟨hx, hb1, hml, hrt, hlk, hnm, hEL⟩, k0, locs, X, hh, hZ, hown, hS, hk0, N, C, O, hpr⟩ := w
  obtain ⟨v, vm₁, ⟨T', L', k', n'⟩, hW1, X', hS', hg, ⟨L, ⟨hQ, hO', hF⟩, hl', hk', hn', hC', hp'⟩, stp⟩ := X.specialBackS hx hni hown (mvT (s := s.setVm vm0) hZ w1) (mvT (s := s.setVm vm0) hZ w2) (mvT (s := s.setVm vm0) hZ w4) hy (hM.back hsf hZ w4 w3 hf hl hEL C.1) (g := mkF m pc Ls (argsL.reverse ++ .ref a :: st)) rfl (hsz.trans hml.symm) (Steps.refl _) (a := a) (lenOf hpd hlen) rfl hW (hb hb1 hd) (fun _ _ => ⟨rfl, hh, hc, hs⟩)
  dsimp only [Pt.U, Pt.locs, Pt.cells, Pt.slots] at X' hS' hg hQ hO' hl' hk' hn' hC' hp' stp
  subst hl' hk' hn'
  exact (K T' T'.heap v (w'.after X' hS' hg (N.app hF) hC' hO' fun q => State.WarmedH.trans (t := T.setVm vm₁) hW1 (hp' q)) hC'.2.1 hC' hQ).pre' stp
/-- invokevirtual -/
theorem g_virtual (w : Wk p l e R s m args below meth c Z a0 EL pr y bs ml rt T vm0 h k n) {y1 y' : MethodName} {bs' : ByteArray} {ml' : Nat} {rt' : Option FieldType} {rm : Room} {Q : Option Value → Heap → Prop} {i W : Nat} {a : Addr} {C' : String} {argsL : List Value} {ps : List FieldType} {rr : Option FieldType} {stk : List Value} {sf : List Addr} (hM : Con l Z EL pr y' bs' ml' rt' [] rm (.ref a :: argsL).toArray sf h Q) (hsf : ∀ x ∈ sf, x < h.size ∧ Safe Z EL vm0 h x) (E : Exa Z h a C') (hd : decode bs pc = .ok (.invokevirtual i, 3)) (hq : pc + 3 = q) (hsz : Ls.size = ml)
    (w1 : (Cond.methodLink y.cls i y1).before a0 Z = true) (wd : (Cond.declares y1).before a0 Z = true) (ws : (Cond.selects C' y1 y').before a0 Z = true) (w2 : (Cond.instanceMethod y').before a0 Z = true) (w3 : (Cond.initialized y'.cls).before a0 Z = true) (w4 : (Cond.code y' bs' ml' rt').before a0 Z = true) (hy : y1.cls ≠ "java/lang/invoke/MethodHandle" ∧ y1.cls ≠ "java/lang/invoke/VarHandle") (hnf : ∀ s' : State, Z.Warmed39 s'.vm → NotFace s' y1) (hpd : parseMethodDescriptor y1.desc = some ⟨ps, rr⟩) (hlen : argsL.length = ps.length) (hst : stk = argsL.reverse ++ .ref a :: st)
    (hW : 2 * 0 + (st.map fun v => v.category).sum ≤ W) (hf : rm.frames + 1 ≤ R.frames) (hl : W + (ml' + 11) + rm.locals ≤ R.locals) (hc : k + rm.cells ≤ R.cells) (hs : n + rm.slots ≤ R.slots)
    (K : ∀ T' h' v, Wk p l e R s m args below meth c Z a0 EL pr y bs ml rt T' T'.vm h' (k + rm.cells) (n + rm.slots) → h.size ≤ h'.size → CHr Z EL vm0 h T'.vm h' → Q v h' → Go p e below Φ (T'.setTop (mkF m q Ls (v.toList ++ st)))) : Go p e below Φ (T.setTop (mkF m pc Ls stk)) := by
  subst hq hst; have w' := w; obtain ⟨⟨hx, hb1, hml, hrt, hlk, hnm, hEL⟩, k0, locs, X, hh, hZ, hown, hS, hk0, N, C, O, hpr⟩ := w
  obtain ⟨cq, kq, qa, -, qc⟩ := isOf (s := s.setVm vm0) hZ hh E
  obtain ⟨v, vm₁, ⟨T', L', k', n'⟩, hW1, X', hS', hg, ⟨L, ⟨hQ, hO', hF⟩, hl', hk', hn', hC', hp'⟩, stp⟩ := X.virtualBackS hx hown (mvT (s := s.setVm vm0) hZ w1) (mvT (s := s.setVm vm0) hZ wd) (hnf (s.setVm vm0) hZ) (mvT (s := s.setVm vm0) hZ ws) (mvT (s := s.setVm vm0) hZ w2) hy (hM.back hsf hZ w4 w3 hf hl hEL C.1) qa qc (g := mkF m pc Ls (argsL.reverse ++ .ref a :: st)) rfl (hsz.trans hml.symm) (Steps.refl _) (lenOf hpd hlen) rfl hW (hb hb1 hd) (fun _ _ => ⟨rfl, hh, hc, hs⟩)
  dsimp only [Pt.U, Pt.locs, Pt.cells, Pt.slots] at X' hS' hg hQ hO' hl' hk' hn' hC' hp' stp
  subst hl' hk' hn'
  exact (K T' T'.heap v (w'.after X' hS' hg (N.app hF) hC' hO' fun q => State.WarmedH.trans (t := T.setVm vm₁) hW1 (hp' q)) hC'.2.1 hC' hQ).pre' stp
theorem nf {y1 : MethodName} {C' : String} (ws : (Cond.selects C' y1 y1).before a0 Z = true) (s' : State) (hZ : Z.Warmed39 s'.vm) : NotFace s' y1 := notFace_of_selects (args := #[]) (mvT hZ ws)
/-- behind a step whose law leaves the tables: Back's form -/
theorem Wk.afterB (w : Wk p l e R s m args below meth c Z a0 EL pr y bs ml rt T vm0 h k n) {T' : State} {L : List Loc} {k' n' : Nat} {ws : List Addr} (hh' : ∃ locs, ∀ locs0, locs0 = locs → Stand p l e R (s.setVm vm0) m args below meth c T' (locs0 ++ L) k' n' ∧ Fr Z.heap.size locs0) (hF : Fr Z.heap.size L) (Kp : Keep h T'.heap ws) (hs : ∀ x ∈ ws, Safe Z EL vm0 h x) (hn : ∀ x ∈ ws, Z.heap.size ≤ x) : Wk p l e R s m args below meth c Z a0 EL pr y bs ml rt T' vm0 T'.heap k' n' := by
  obtain ⟨hd, k0, locs, X, rfl, hZ, hown, hS, hk0, N, C, O, hpr⟩ := w
  obtain ⟨l1, q⟩ := hh'
  obtain ⟨X', N'⟩ := q _ rfl
  exact ⟨hd, k0, _, X', rfl, hZ, hown, hS, Nat.le_trans hk0 Kp.1, N'.app hF, C.trans (CHr.keep Kp hs C.1), (Old.keep (n0 := Z.heap.size) ⟨rfl, O⟩ Kp hn).2, hpr⟩
/-- invokevirtual paid by a law that leaves the heap -/
theorem g_virtualB (w : Wk p l e R s m args below meth c Z a0 EL pr y bs ml rt T vm0 h k n) {y1 y' : MethodName} {V : Option Value → Prop} {i W : Nat} {a : Addr} {C' : String} {argsL : List Value} {ps : List FieldType} {rr : Option FieldType} {stk : List Value}
    (hK : ∀ s' : State, Z.Warmed39 s'.vm → Back l R p e below s' args y' 3 W (fun P a' => a' = (.ref a :: argsL).toArray ∧ P.U.heap = h ∧ P.cells + 0 ≤ R.cells ∧ P.slots + 0 ≤ R.slots) (fun P _ v B => ∃ L, (V v ∧ L = [] ∧ B.U.heap = h) ∧ B.locs = P.locs ++ L ∧ B.cells = P.cells + 0 ∧ B.slots = P.slots + 0))
    (E : Exa Z h a C') (hd : decode bs pc = .ok (.invokevirtual i, 3)) (hq : pc + 3 = q) (hsz : Ls.size = ml)
    (w1 : (Cond.methodLink y.cls i y1).before a0 Z = true) (wd : (Cond.declares y1).before a0 Z = true) (ws : (Cond.selects C' y1 y').before a0 Z = true) (w2 : (Cond.instanceMethod y').before a0 Z = true) (hy : y1.cls ≠ "java/lang/invoke/MethodHandle" ∧ y1.cls ≠ "java/lang/invoke/VarHandle") (hnf : ∀ s' : State, Z.Warmed39 s'.vm → NotFace s' y1) (hpd : parseMethodDescriptor y1.desc = some ⟨ps, rr⟩) (hlen : argsL.length = ps.length) (hst : stk = argsL.reverse ++ .ref a :: st)
    (hW : 2 * 0 + (st.map fun v => v.category).sum ≤ W) (hc : k ≤ R.cells) (hs : n ≤ R.slots)
    (K : ∀ T' v, Wk p l e R s m args below meth c Z a0 EL pr y bs ml rt T' vm0 h k n → V v → Go p e below Φ (T'.setTop (mkF m q Ls (v.toList ++ st)))) : Go p e below Φ (T.setTop (mkF m pc Ls stk)) := by
  subst hq hst; have w' := w; obtain ⟨⟨hx, hb1, hml, hrt, hlk, hnm, hEL⟩, k0, locs, X, hh, hZ, hown, hS, hk0, N, C, O, hpr⟩ := w
  obtain ⟨cq, kq, qa, -, qc⟩ := isOf (s := s.setVm vm0) hZ hh E
  obtain ⟨v, vm₁, ⟨T', L', k', n'⟩, hW1, X', ⟨L, ⟨hV, hL, hH⟩, hl', hk', hn'⟩, stp⟩ := X.virtualBack hx hown (mvT (s := s.setVm vm0) hZ w1) (mvT (s := s.setVm vm0) hZ wd) (hnf (s.setVm vm0) hZ) (mvT (s := s.setVm vm0) hZ ws) (mvT (s := s.setVm vm0) hZ w2) hy (hK (s.setVm vm0) hZ) qa qc (g := mkF m pc Ls (argsL.reverse ++ .ref a :: st)) rfl (hsz.trans hml.symm) (Steps.refl _) (lenOf hpd hlen) rfl hW (hb hb1 hd) (fun _ _ => ⟨rfl, hh, hc, hs⟩)
  dsimp only [Pt.U, Pt.locs, Pt.cells, Pt.slots] at X' hV hL hH hl' hk' hn' stp
  subst hL hl' hk' hn'
  exact (K T' v ⟨⟨hx, hb1, hml, hrt, hlk, hnm, hEL⟩, k0, _, X', hH, hZ, hown, hS, hk0, N.app (Fr.nil _), C, O, hpr⟩ hV).pre' stp
/-- a constructor paid by a law in Back's form -/
theorem g_specialB (w : Wk p l e R s m args below meth c Z a0 EL pr y bs ml rt T vm0 h k n) {y' : MethodName} {bs' : ByteArray} {ml' kc ks : Nat} {Q : Option Value → Heap → List Loc → Prop} {i W : Nat} {a : Addr} {argsL : List Value} {ps : List FieldType} {rr : Option FieldType} {stk : List Value} {wr : List Addr}
    (hK : ∀ s' : State, Z.Warmed39 s'.vm → Back l R p e below s' args y' 3 W (fun P a' => a' = (.ref a :: argsL).toArray ∧ P.U.heap = h ∧ P.cells + kc ≤ R.cells ∧ P.slots + ks ≤ R.slots) (fun P _ v B => ∃ L, Q v B.U.heap L ∧ B.locs = P.locs ++ L ∧ B.cells = P.cells + kc ∧ B.slots = P.slots + ks))
    (hQ : ∀ v h' L, Q v h' L → Fr Z.heap.size L ∧ Keep h h' wr) (hsf : ∀ x ∈ wr, Safe Z EL vm0 h x) (hnw : ∀ x ∈ wr, Z.heap.size ≤ x)
    (hd : decode bs pc = .ok (.invokespecial i, 3)) (hq : pc + 3 = q) (hsz : Ls.size = ml) (hni : y'.name = "<init>")
    (w1 : (Cond.methodLink y.cls i y').before a0 Z = true) (w2 : (Cond.instanceMethod y').before a0 Z = true) (w4 : (Cond.code y' bs' ml' none).before a0 Z = true) (hy : y'.cls ≠ "java/lang/invoke/MethodHandle" ∧ y'.cls ≠ "java/lang/invoke/VarHandle") (hpd : parseMethodDescriptor y'.desc = some ⟨ps, rr⟩) (hlen : argsL.length = ps.length) (hst : stk = argsL.reverse ++ .ref a :: st)
    (hW : 2 * 0 + (st.map fun v => v.category).sum ≤ W) (hc : k + kc ≤ R.cells) (hs : n + ks ≤ R.slots)
    (K : ∀ T' h' v L, Wk p l e R s m args below meth c Z a0 EL pr y bs ml rt T' vm0 h' (k + kc) (n + ks) → Q v h' L → Go p e below Φ (T'.setTop (mkF m q Ls (v.toList ++ st)))) : Go p e below Φ (T.setTop (mkF m pc Ls stk)) := by
  subst hq hst; have w' := w; obtain ⟨⟨hx, hb1, hml, hrt, hlk, hnm, hEL⟩, k0, locs, X, hh, hZ, hown, hS, hk0, N, C, O, hpr⟩ := w
  obtain ⟨v, vm₁, ⟨T', L', k', n'⟩, hW1, X', ⟨L, hQ', hl', hk', hn'⟩, stp⟩ := X.specialBack hx hni hown (mvT (s := s.setVm vm0) hZ w1) (mvT (s := s.setVm vm0) hZ w2) (mvT (s := s.setVm vm0) hZ w4) hy (hK (s.setVm vm0) hZ) (g := mkF m pc Ls (argsL.reverse ++ .ref a :: st)) rfl (hsz.trans hml.symm) (Steps.refl _) (a := a) (lenOf hpd hlen) rfl hW (hb hb1 hd) (fun _ _ => ⟨rfl, hh, hc, hs⟩)
  dsimp only [Pt.U, Pt.locs, Pt.cells, Pt.slots] at X' hQ' hl' hk' hn' stp
  subst hl' hk' hn'
  obtain ⟨hF, Kp⟩ := hQ v T'.heap L hQ'
  exact (K T' T'.heap v L ⟨⟨hx, hb1, hml, hrt, hlk, hnm, hEL⟩, k0, _, X', rfl, hZ, hown, hS, Nat.le_trans hk0 Kp.1, N.app hF, C.trans (CHr.keep Kp hsf C.1), (Old.keep (n0 := Z.heap.size) ⟨rfl, O⟩ Kp hnw).2, hpr⟩ hQ').pre' stp
/-- a String whose value is null is no booked one -/
theorem safe_null {vm : Vm} {x : Addr} {kk : Nat} (hal : Z.vm.Alike vm) (wi : (Cond.instantiable "java/lang/String" kk).before a0 Z = true) (E : Exa Z h x "java/lang/String") (F : Fld Z h x "java/lang/String" "value" "[B" .null) : Safe Z EL vm h x := fun B => by
  obtain ⟨p, -, u, a, -, q, -, F', hy⟩ := B
  obtain ⟨cell, cf, k, i, f, h1, h2, h3, h4, h5, h6, h7⟩ := F
  obtain ⟨cS, ⟨⟨s1, s2, s3, ⟨cv, kv, iv, s4, s4'⟩, -, s6, s7, s8, s9, s10, s11, -⟩, -⟩, -⟩ := F'
  obtain ⟨k3, e3, -⟩ := State.fieldFound?_setVm (s := Z) hal h2
  have e4 := (show (Wst Z vm h).fieldFound? _ _ _ = _ from e3).symm.trans s4
  simp only [Option.some.injEq, Prod.mk.injEq] at e4
  rcases hy with rfl | rfl
  · have e5 : h[q.sa]? = some q.sC := s1
    rw [h1] at e5; cases e5
    rw [← e4.2.2.2, h7] at s8; cases s8
  · have e5 : h[q.sd]? = some q.SA := s10
    rw [h1] at e5; cases e5
    obtain ⟨ce, ke, f1, f2, f3, -⟩ := E
    rw [h1] at f1; cases f1
    obtain ⟨c2, k2, i1, i2, i3, -⟩ := Cond.instantiable_spec wi
    cases f2.symm.trans i1
    cases f3.symm.trans i2
    obtain ⟨k', z1, z2⟩ := hal.2.2 _ _ f3
    obtain ⟨-, k9, hk9, comp, hkind⟩ := s11
    have hk9 : vm.classes[q.SA.cls]? = some k9 := hk9
    cases hk9.symm.trans z1
    rw [z2] at hkind
    have hkind : ke.kind = _ := hkind
    rw [i3] at hkind; cases hkind
theorem Wk.more (w : Wk p l e R s m args below meth c Z a0 EL pr y bs ml rt T vm0 h k n) {k' n' : Nat} (hk : k ≤ k') (hn : n ≤ n') : Wk p l e R s m args below meth c Z a0 EL pr y bs ml rt T vm0 h k' n' := by
  obtain ⟨hd, k0, locs, X, r⟩ := w
  exact ⟨hd, k0, locs, X.more hk hn, r⟩
theorem Wk.safeAr (w : Wk p l e R s m args below meth c Z a0 EL pr y bs ml rt T vm0 h k n) {a : Addr} {ty : FieldType} {vs : List Value} (A : Ar Z h a ty vs) (ht : ty ≠ .byte) : Safe Z EL vm0 h a := by
  obtain ⟨-, _, _, A⟩ := A; exact Safe.arv w.wz.alike A ht
/-- calls whose callee leaves the heap as it was -/
theorem g_staticP (w : Wk p l e R s m args below meth c Z a0 EL pr y bs ml rt T vm0 h k n) {y' : MethodName} {bs' : ByteArray} {ml' : Nat} {rt' : Option FieldType} {rm : Room} {V : Option Value → Prop} {i W : Nat} {argsL : List Value} {ps : List FieldType} {rr : Option FieldType} {stk : List Value} {sf : List Addr} (hM : Con l Z EL pr y' bs' ml' rt' [] rm argsL.toArray sf h (fun v h' => V v ∧ h' = h)) (hsf : ∀ x ∈ sf, x < h.size ∧ Safe Z EL vm0 h x) (hd : decode bs pc = .ok (.invokestatic i, 3)) (hq : pc + 3 = q) (hsz : Ls.size = ml)
    (w1 : (Cond.methodLink y.cls i y').before a0 Z = true) (w2 : (Cond.static y').before a0 Z = true) (w3 : (Cond.initialized y'.cls).before a0 Z = true) (w4 : (Cond.code y' bs' ml' rt').before a0 Z = true) (hy : y'.cls ≠ "java/lang/invoke/MethodHandle" ∧ y'.cls ≠ "java/lang/invoke/VarHandle") (hpd : parseMethodDescriptor y'.desc = some ⟨ps, rr⟩) (hlen : argsL.length = ps.length) (hst : stk = argsL.reverse ++ st)
    (hW : 2 * 0 + (st.map fun v => v.category).sum ≤ W) (hf : rm.frames + 1 ≤ R.frames) (hl : W + (ml' + 11) + rm.locals ≤ R.locals) (hc : k + rm.cells ≤ R.cells) (hs : n + rm.slots ≤ R.slots)
    (K : ∀ T' v, Wk p l e R s m args below meth c Z a0 EL pr y bs ml rt T' T'.vm h (k + rm.cells) (n + rm.slots) → CHr Z EL vm0 h T'.vm h → V v → Go p e below Φ (T'.setTop (mkF m q Ls (v.toList ++ st)))) : Go p e below Φ (T.setTop (mkF m pc Ls stk)) :=
  g_static w hM hsf hd hq hsz w1 w2 w3 w4 hy hpd hlen hst hW hf hl hc hs fun T' h' v w' _ C' q' => by
    obtain ⟨hV, rfl⟩ := q'; exact K T' v w' C' hV
theorem g_specialP (w : Wk p l e R s m args below meth c Z a0 EL pr y bs ml rt T vm0 h k n) {y' : MethodName} {bs' : ByteArray} {ml' : Nat} {rm : Room} {V : Option Value → Prop} {i W : Nat} {a : Addr} {argsL : List Value} {ps : List FieldType} {rr : Option FieldType} {stk : List Value} {sf : List Addr} (hM : Con l Z EL pr y' bs' ml' none [] rm (.ref a :: argsL).toArray sf h (fun v h' => V v ∧ h' = h)) (hsf : ∀ x ∈ sf, x < h.size ∧ Safe Z EL vm0 h x) (hd : decode bs pc = .ok (.invokespecial i, 3)) (hq : pc + 3 = q) (hsz : Ls.size = ml) (hni : y'.name = "<init>")
    (w1 : (Cond.methodLink y.cls i y').before a0 Z = true) (w2 : (Cond.instanceMethod y').before a0 Z = true) (w3 : (Cond.initialized y'.cls).before a0 Z = true) (w4 : (Cond.code y' bs' ml' none).before a0 Z = true) (hy : y'.cls ≠ "java/lang/invoke/MethodHandle" ∧ y'.cls ≠ "java/lang/invoke/VarHandle") (hpd : parseMethodDescriptor y'.desc = some ⟨ps, rr⟩) (hlen : argsL.length = ps.length) (hst : stk = argsL.reverse ++ .ref a :: st)
    (hW : 2 * 0 + (st.map fun v => v.category).sum ≤ W) (hf : rm.frames + 1 ≤ R.frames) (hl : W + (ml' + 11) + rm.locals ≤ R.locals) (hc : k + rm.cells ≤ R.cells) (hs : n + rm.slots ≤ R.slots)
    (K : ∀ T' v, Wk p l e R s m args below meth c Z a0 EL pr y bs ml rt T' T'.vm h (k + rm.cells) (n + rm.slots) → CHr Z EL vm0 h T'.vm h → V v → Go p e below Φ (T'.setTop (mkF m q Ls (v.toList ++ st)))) : Go p e below Φ (T.setTop (mkF m pc Ls stk)) :=
  g_special w hM hsf hd hq hsz hni w1 w2 w3 w4 hy hpd hlen hst hW hf hl hc hs fun T' h' v w' _ C' q' => by
    obtain ⟨hV, rfl⟩ := q'; exact K T' v w' C' hV
theorem g_virtualP (w : Wk p l e R s m args below meth c Z a0 EL pr y bs ml rt T vm0 h k n) {y1 y' : MethodName} {bs' : ByteArray} {ml' : Nat} {rt' : Option FieldType} {rm : Room} {V : Option Value → Prop} {i W : Nat} {a : Addr} {C' : String} {argsL : List Value} {ps : List FieldType} {rr : Option FieldType} {stk : List Value} {sf : List Addr} (hM : Con l Z EL pr y' bs' ml' rt' [] rm (.ref a :: argsL).toArray sf h (fun v h' => V v ∧ h' = h)) (hsf : ∀ x ∈ sf, x < h.size ∧ Safe Z EL vm0 h x) (E : Exa Z h a C') (hd : decode bs pc = .ok (.invokevirtual i, 3)) (hq : pc + 3 = q) (hsz : Ls.size = ml)
    (w1 : (Cond.methodLink y.cls i y1).before a0 Z = true) (wd : (Cond.declares y1).before a0 Z = true) (ws : (Cond.selects C' y1 y').before a0 Z = true) (w2 : (Cond.instanceMethod y').before a0 Z = true) (w3 : (Cond.initialized y'.cls).before a0 Z = true) (w4 : (Cond.code y' bs' ml' rt').before a0 Z = true) (hy : y1.cls ≠ "java/lang/invoke/MethodHandle" ∧ y1.cls ≠ "java/lang/invoke/VarHandle") (hnf : ∀ s' : State, Z.Warmed39 s'.vm → NotFace s' y1) (hpd : parseMethodDescriptor y1.desc = some ⟨ps, rr⟩) (hlen : argsL.length = ps.length) (hst : stk = argsL.reverse ++ .ref a :: st)
    (hW : 2 * 0 + (st.map fun v => v.category).sum ≤ W) (hf : rm.frames + 1 ≤ R.frames) (hl : W + (ml' + 11) + rm.locals ≤ R.locals) (hc : k + rm.cells ≤ R.cells) (hs : n + rm.slots ≤ R.slots)
    (K : ∀ T' v, Wk p l e R s m args below meth c Z a0 EL pr y bs ml rt T' T'.vm h (k + rm.cells) (n + rm.slots) → CHr Z EL vm0 h T'.vm h → V v → Go p e below Φ (T'.setTop (mkF m q Ls (v.toList ++ st)))) : Go p e below Φ (T.setTop (mkF m pc Ls stk)) :=
  g_virtual w hM hsf E hd hq hsz w1 wd ws w2 w3 w4 hy hnf hpd hlen hst hW hf hl hc hs fun T' h' v w' _ C' q' => by
    obtain ⟨hV, rfl⟩ := q'; exact K T' v w' C' hV
theorem g_i2cM (w : Wk p l e R s m args below meth c Z a0 EL pr y bs ml rt T vm0 h k n) {x : Int32} (hd : decode bs pc = .ok (.i2c, 1)) (hq : pc + 1 = q) (hr : Go p e below Φ (T.setTop (mkF m q Ls (.int (x &&& 255) :: st)))) : Go p e below Φ (T.setTop (mkF m pc Ls (.int (x &&& 255) :: st))) := by
  refine g_i2c w hd hq ?_
  rw [i2c_mask]; exact hr
theorem no0 {P : Addr → Prop} : ∀ x ∈ ([] : List Addr), P x := fun _ q => nomatch q
theorem not1 {a b : Addr} (h : b ≠ a) : b ∉ [a] := fun q => h (List.mem_singleton.mp q)
theorem in1 {a : Addr} {P : Addr → Prop} (h : P a) : ∀ x ∈ [a], P x := fun x hx => by cases List.mem_singleton.mp hx; exact h
theorem keep_same {h1 h2 h3 : Heap} {a : Addr} (K : Keep h1 h2 [a]) (K' : Keep h2 h3 [a]) : Keep h1 h3 [a] := K.trans K' fun x hx => Or.inl hx
theorem keep_new {h1 h2 h3 : Heap} {a b : Addr} (K : Keep h1 h2 [a]) (K' : Keep h2 h3 [b]) (z : h1.size ≤ b) : Keep h1 h3 [a] := K.trans K' fun x hx => by cases List.mem_singleton.mp hx; exact Or.inr z
/-- a char of Latin-1; a char -/
def Lt8 (c : Int32) : Prop := ¬ c < 0 ∧ ¬ (255 : Int32) < c
def Lt16 (c : Int32) : Prop := ¬ c < 0 ∧ ¬ (65535 : Int32) < c
theorem Lt16.int {c : Int32} (h : Lt16 c) : 0 ≤ c.toInt ∧ c.toInt ≤ 65535 := by
  obtain ⟨h0, h1⟩ := h
  rw [Int32.lt_iff_toInt_lt] at h0 h1
  have e0 : (0 : Int32).toInt = 0 := rfl
  have e1 : (65535 : Int32).toInt = 65535 := rfl
  omega
theorem Lt8.int {c : Int32} (h : Lt8 c) : 0 ≤ c.toInt ∧ c.toInt ≤ 255 := by
  obtain ⟨h0, h1⟩ := h
  rw [Int32.lt_iff_toInt_lt] at h0 h1
  have e0 : (0 : Int32).toInt = 0 := rfl
  have e1 : (255 : Int32).toInt = 255 := rfl
  omega
theorem Lt16.of {c : Int32} (h0 : 0 ≤ c.toInt) (h1 : c.toInt ≤ 65535) : Lt16 c := by
  constructor
  · rw [Int32.lt_iff_toInt_lt]; have e0 : (0 : Int32).toInt = 0 := rfl; omega
  · rw [Int32.lt_iff_toInt_lt]; have e0 : (65535 : Int32).toInt = 65535 := rfl; omega
theorem Lt8.of {c : Int32} (h0 : 0 ≤ c.toInt) (h1 : c.toInt ≤ 255) : Lt8 c := by
  constructor
  · rw [Int32.lt_iff_toInt_lt]; have e0 : (0 : Int32).toInt = 0 := rfl; omega
  · rw [Int32.lt_iff_toInt_lt]; have e0 : (255 : Int32).toInt = 255 := rfl; omega
theorem Lt8.chr {c : Int32} (h : Lt8 c) : Lt16 c := Lt16.of h.int.1 (by have := h.int.2; omega)
theorem nar_chr {c : Int32} (h : Lt16 c) : nar .char c = c := by
  have := h.int
  show c.toUInt32.toUInt16.toUInt32.toInt32 = c
  apply Int32.toInt_inj.mp
  have e : c.toUInt32.toNat = c.toInt.toNat := by
    have h1 : c.toInt = c.toBitVec.toInt := rfl
    have h2 : c.toUInt32.toNat = c.toBitVec.toNat := rfl
    rw [h2, h1]
    rw [h1] at this
    rw [BitVec.toInt_eq_toNat_cond] at this ⊢
    split at this <;> split <;> omega
  have e2 : c.toUInt32.toUInt16.toUInt32 = c.toUInt32 := by
    apply UInt32.toNat_inj.mp
    rw [UInt16.toNat_toUInt32, UInt32.toNat_toUInt16, e]
    omega
  rw [e2, Int32.toInt32_toUInt32]
theorem nar_lat {c : Int32} (h : Lt8 c) : nar .char c = c := nar_chr h.chr
theorem mask255 (x : Int32) : Lt8 (x &&& 255) := by
  have e : (x &&& 255).toInt = ((x &&& 255).toBitVec.toNat : Int) ∧ (x &&& 255).toBitVec.toNat ≤ 255 := by
    have h1 : (x &&& 255).toBitVec.toNat = x.toBitVec.toNat % 256 := by
      rw [Int32.toBitVec_and, BitVec.toNat_and]
      exact Nat.and_two_pow_sub_one_eq_mod _ 8
    have h3 : (x &&& 255).toInt = (x &&& 255).toBitVec.toInt := rfl
    refine ⟨?_, by omega⟩
    rw [h3, BitVec.toInt_eq_toNat_cond, if_pos (by omega)]
  exact Lt8.of (by omega) (by omega)
theorem cs0 {P : Int32 → Prop} : ∀ c ∈ ([] : List Int32), P c := fun _ q => nomatch q
theorem csS {P : Int32 → Prop} {a : Int32} {l : List Int32} (h : P a) (r : ∀ c ∈ l, P c) : ∀ c ∈ a :: l, P c := fun c q => by
  rcases List.mem_cons.mp q with rfl | q
  · exact h
  · exact r c q
theorem lt8_nat {c : Int32} : Lt8 c ↔ c.toBitVec.toNat < 256 := by
  have h3 : c.toInt = c.toBitVec.toInt := rfl
  constructor
  · intro h
    have := h.int
    rw [h3, BitVec.toInt_eq_toNat_cond] at this
    split at this <;> omega
  · intro h
    have : c.toInt = (c.toBitVec.toNat : Int) := by rw [h3, BitVec.toInt_eq_toNat_cond, if_pos (by omega)]
    exact Lt8.of (by omega) (by omega)
theorem lat_xor {a : Int32} (ha : Lt8 a) (x : Int32) : Lt8 ((a ^^^ (x &&& 1)).toUInt32.toUInt16.toUInt32.toInt32) := by
  have h1 : (x &&& 1).toBitVec.toNat < 256 := by
    rw [Int32.toBitVec_and, BitVec.toNat_and]
    exact Nat.lt_of_le_of_lt Nat.and_le_right (by decide)
  have h2 : Lt8 (a ^^^ (x &&& 1)) := by
    rw [lt8_nat] at ha ⊢
    rw [Int32.toBitVec_xor, BitVec.toNat_xor]
    exact Nat.xor_lt_two_pow (n := 8) ha h1
  have h3 : (a ^^^ (x &&& 1)).toUInt32.toUInt16.toUInt32.toInt32 = a ^^^ (x &&& 1) := nar_lat h2
  rw [h3]; exact h2
theorem mask31_nat (x : Int32) : (x &&& 2147483647).toInt = ((x.toBitVec.toNat % 2147483648 : Nat) : Int) := by
  have h1 : (x &&& 2147483647).toBitVec.toNat = x.toBitVec.toNat % 2147483648 := by
    rw [Int32.toBitVec_and, BitVec.toNat_and]
    exact Nat.and_two_pow_sub_one_eq_mod _ 31
  have h3 : (x &&& 2147483647).toInt = (x &&& 2147483647).toBitVec.toInt := rfl
  rw [h3, BitVec.toInt_eq_toNat_cond, if_pos (by omega), h1]
theorem mask31 (x : Int32) : ¬ (x &&& 2147483647) < 0 := by
  rw [Int32.lt_iff_toInt_lt, mask31_nat, show (0 : Int32).toInt = 0 from rfl]; omega
theorem rem_int {x z : Int32} (hx : ¬ x < 0) (hz : 0 < z.toInt) : (x % z).toInt = x.toInt % z.toInt := by
  rw [Int32.lt_iff_toInt_lt, show (0 : Int32).toInt = 0 from rfl] at hx
  rw [Int32.toInt_mod, Int.tmod_eq_emod_of_nonneg (by omega)]
theorem mod3 {x : Int32} (hx : ¬ x < 0) : x % 3 = 0 ∨ x % 3 = 1 ∨ x % 3 = 2 := by
  have h := rem_int (z := 3) hx (by decide)
  rw [show (3 : Int32).toInt = 3 from rfl] at h
  have h2 : (x % 3).toInt = 0 ∨ (x % 3).toInt = 1 ∨ (x % 3).toInt = 2 := by omega
  rcases h2 with h2 | h2 | h2
  · exact Or.inl (Int32.toInt_inj.mp h2)
  · exact Or.inr (Or.inl (Int32.toInt_inj.mp h2))
  · exact Or.inr (Or.inr (Int32.toInt_inj.mp h2))
theorem mask3 (x : Int32) : x &&& 3 = 0 ∨ x &&& 3 = 1 ∨ x &&& 3 = 2 ∨ x &&& 3 = 3 := by
  have h1 : (x &&& 3).toBitVec.toNat = x.toBitVec.toNat % 4 := by
    rw [Int32.toBitVec_and, BitVec.toNat_and]
    exact Nat.and_two_pow_sub_one_eq_mod _ 2
  have h2 : (x &&& 3).toBitVec.toNat = 0 ∨ (x &&& 3).toBitVec.toNat = 1 ∨ (x &&& 3).toBitVec.toNat = 2 ∨ (x &&& 3).toBitVec.toNat = 3 := by omega
  rcases h2 with h2 | h2 | h2 | h2
  · exact Or.inl (Int32.toBitVec_inj.mp (BitVec.eq_of_toNat_eq h2))
  · exact Or.inr (Or.inl (Int32.toBitVec_inj.mp (BitVec.eq_of_toNat_eq h2)))
  · exact Or.inr (Or.inr (Or.inl (Int32.toBitVec_inj.mp (BitVec.eq_of_toNat_eq h2))))
  · exact Or.inr (Or.inr (Or.inr (Int32.toBitVec_inj.mp (BitVec.eq_of_toNat_eq h2))))
theorem ushr16 (x : Int32) : ¬ Jvm.Free.XT.ushr x 16 < 0 := by
  have h1 : (Jvm.Free.XT.ushr x 16).toBitVec.toNat < 65536 := by
    show (x.toUInt32 >>> ((16 : Int32) &&& 31).toUInt32).toNat < 65536
    rw [show ((16 : Int32) &&& 31).toUInt32 = 16 from by decide, UInt32.toNat_shiftRight, show (16 : UInt32).toNat % 32 = 16 from rfl, Nat.shiftRight_eq_div_pow]
    have := x.toUInt32.toNat_lt
    omega
  have h3 : (Jvm.Free.XT.ushr x 16).toInt = (Jvm.Free.XT.ushr x 16).toBitVec.toInt := rfl
  rw [Int32.lt_iff_toInt_lt, h3, BitVec.toInt_eq_toNat_cond, if_pos (by omega), show (0 : Int32).toInt = 0 from rfl]; omega
/-- a String of none, one or two of these chars -/
def sg (n a b : Int32) : List Int32 := if n = 0 then [] else if n = 1 then [a] else [a, b]
def In3 (n : Int32) : Prop := n = 0 ∨ n = 1 ∨ n = 2
theorem sg_iff {n z a b c d : Int32} (hn : In3 n) (hz : In3 z) : sg n a b = sg z c d ↔ (n = z ∧ (n < 1 ∨ a = c) ∧ (n < 2 ∨ b = d)) := by
  rcases hn with rfl | rfl | rfl <;> rcases hz with rfl | rfl | rfl <;> simp [sg]
theorem sg_lat {n a b : Int32} (ha : Lt8 a) (hb : Lt8 b) : ∀ c ∈ sg n a b, Lt8 c := by
  unfold sg; split
  · exact cs0
  · split
    · exact csS ha cs0
    · exact csS ha (csS hb cs0)
/-- x is a String of these Latin-1 chars -/
def Sg (Z : State) (h : Heap) (x : Addr) (cs : List Int32) : Prop := cs.length ≤ 4000 ∧ (∀ c ∈ cs, Lt8 c) ∧ Exa Z h x "java/lang/String" ∧ ∃ (t : Addr) (kb : ClassId), Fld Z h x "java/lang/String" "value" "[B" (.ref t) ∧ Fld Z h x "java/lang/String" "coder" "B" (.int 0) ∧ Arv Z h t kb .byte (Int32.ofNat cs.length) ((cs.map fun c => c.toInt8.toInt32).map Value.int) (.int 0)
theorem Sg.ext {h' : Heap} {x : Addr} {cs : List Int32} (F : Sg Z h x cs) (E : Ext h h') : Sg Z h' x cs := by obtain ⟨a, b, c, t, kb, d, e, f⟩ := F; exact ⟨a, b, c.ext E, t, kb, d.ext E, e.ext E, f.ext E⟩
theorem Sg.lt {x : Addr} {cs : List Int32} (F : Sg Z h x cs) : x < h.size := F.2.2.1.lt
theorem Sg.exa {x : Addr} {cs : List Int32} (F : Sg Z h x cs) : Exa Z h x "java/lang/String" := F.2.2.1
theorem Sg.keepO {h' : Heap} {x a : Addr} {cs : List Int32} {C : String} {kk : Nat} (F : Sg Z h x cs) (K : Keep h h' [a]) (q : x ≠ a) (E : Exa Z h a C) (wi : (Cond.instantiable C kk).before a0 Z = true) : Sg Z h' x cs := by
  obtain ⟨a, b, c, t, kb, d, e, f⟩ := F
  exact ⟨a, b, c.keep K, t, kb, d.keep K (not1 q), e.keep K (not1 q), f.keep K (not1 (Exa.neArv E f wi).symm)⟩
theorem Sg.ar {x : Addr} {cs : List Int32} (F : Sg Z h x cs) : ∃ t, Fld Z h x "java/lang/String" "value" "[B" (.ref t) ∧ Fld Z h x "java/lang/String" "coder" "B" (.int 0) ∧ Ar Z h t .byte ((cs.map fun c => c.toInt8.toInt32).map Value.int) := by
  obtain ⟨a, b, c, t, kb, d, e, f⟩ := F
  exact ⟨t, d, e, by simp; omega, kb, _, by simpa using f⟩
/-- compact strings are on -/
def Cpt (Z : State) : Prop := ∃ z : Int32, ¬ z = 0 ∧ Sta Z Z.heap "java/lang/String" "COMPACT_STRINGS" "Z" (.int z)
end K
end Jvm.Own
namespace Jvm.Own
open Sem ClassFile Op Lib Jvm.Stand Jvm.Free Jvm.LawKit Jvm.RoadKit Bundle
section KV
variable {p : Program} {l : Launch} {e : Env} {R : Room} {s : State} {m : MethodId} {args : Array Value} {below : List Frame} {meth : Method} {c : Code} {Z : State} {a0 : Array Value} {EL : List (String × Nat)} {pr : Bool} {y : MethodName} {bs : ByteArray} {ml : Nat} {rt : Option FieldType} {T : State} {vm0 : Vm} {h : Heap} {k n : Nat} {Φ : Outcome → State → Prop} {Ls : Array Slot} {st : List Value} {pc q : Nat}
/-- a's class is the array class over C -/
def OvA (Z : State) (h : Heap) (a : Addr) (C : String) : Prop := ∃ cell : Cell, h[a]? = some cell ∧ Ovr Z cell.cls C
theorem OvA.ext {h' : Heap} {a : Addr} {C : String} (F : OvA Z h a C) (E : Ext h h') : OvA Z h' a C := by obtain ⟨c1, q, r⟩ := F; exact ⟨c1, E.2 _ _ q, r⟩
theorem OvA.keep {h' : Heap} {a : Addr} {C : String} {ws : List Addr} (F : OvA Z h a C) (K : Keep h h' ws) : OvA Z h' a C := by
  obtain ⟨c1, q, r⟩ := F; obtain ⟨c2, q2, e2, -⟩ := K.2.2 _ _ q; exact ⟨c2, q2, by rw [e2]; exact r⟩
theorem OvA.wr {h' : Heap} {a b : Addr} {C : String} {sl : Nat} {v : Value} (F : OvA Z h a C) (W : Wr h h' b sl v) : OvA Z h' a C := F.keep (Keep.of_wr W)
theorem OvA.lt {a : Addr} {C : String} (F : OvA Z h a C) : a < h.size := by obtain ⟨c1, q, -⟩ := F; exact (Array.getElem?_eq_some_iff.mp q).1
theorem g_anew (w : Wk p l e R s m args below meth c Z a0 EL pr y bs ml rt T vm0 h k n) {i len cap : Nat} {C' ad : String} {z : Int32} (hd : decode bs pc = .ok (.anewarray i, 3)) (hq : pc + 3 = q) (w1 : (Cond.classLink y.cls i C').before a0 Z = true) (w2 : (Cond.arrayOver (.object C')).before a0 Z = true) (had : "[" ++ (FieldType.object C').toString = ad) (hz : z = Int32.ofNat len) (hl : len ≤ cap) (hcap : cap * 8 ≤ 536870912) (hc : k + 1 ≤ R.cells) (hs : n + cap ≤ R.slots)
    (K : ∀ T' h' a, Wk p l e R s m args below meth c Z a0 EL pr y bs ml rt T' vm0 h' (k + 1) (n + cap) → Ext h h' → h.size ≤ a → Z.heap.size ≤ a → Ar Z h' a (.object C') (List.replicate len .null) → Exa Z h' a ad → OvA Z h' a C' → Safe Z EL vm0 h' a → Go p e below Φ (T'.setTop (mkF m q Ls (.ref a :: st)))) : Go p e below Φ (T.setTop (mkF m pc Ls (.int z :: st))) := by
  subst hq hz; obtain ⟨⟨hx, hb1, hml, hrt, hlk, hnm, hEL⟩, k0, locs, X, hh, hZ, hown, hS, hk0, N, C, O, hpr⟩ := w
  have hlen : len < 2147483648 := by omega
  obtain ⟨T', h', cA, X', e', E, A, E1, O1, g'⟩ := newRE X hx hZ hown w1 w2 hh (g := mkF m pc Ls (.int (Int32.ofNat len) :: st)) rfl (hb hb1 hd) rfl (ofNat_nonneg hlen) (cap := cap) (by rw [ofNat_clamp hlen]; exact hl) hcap hc hs had
  refine (K T' h' h.size ⟨⟨hx, hb1, hml, hrt, hlk, hnm, hEL⟩, k0, locs, X', e', hZ, hown, hS, Nat.le_trans hk0 E.1, N, C.trans (CHr.ext E C.1), ext_trans O E, hpr⟩ E (Nat.le_refl _) O.1 ⟨by simpa using hlen, cA, defaultValue (FieldType.object C'), ?_⟩ E1 ⟨_, A.1, O1⟩ (Safe.ext E C.1 (Safe.new (Nat.le_refl _)))).pre g'
  have q := (Arv.new A (ofNat_nonneg hlen)).pad (vs' := List.replicate len (defaultValue (FieldType.object C'))) (fun i => by simpa using pad_rep [] (defaultValue (FieldType.object C')) len i)
  show Arv Z h' h.size cA (.object C') (Int32.ofNat (List.replicate len (defaultValue (FieldType.object C'))).length) (List.replicate len (defaultValue (FieldType.object C'))) (defaultValue (FieldType.object C'))
  simpa using q
theorem g_aastore (w : Wk p l e R s m args below meth c Z a0 EL pr y bs ml rt T vm0 h k n) {a : Addr} {C' : String} {vs : List Value} {j : Int32} {v : Value} {i : Nat} (hd : decode bs pc = .ok (.aastore, 1)) (hq : pc + 1 = q) (A : Ar Z h a (.object C') vs) (hj : j = Int32.ofNat i) (hi : i < vs.length) (F : Sto Z h a v) (hv' : fits (.object C') v = true) (ga : Z.heap.size ≤ a) (S : Safe Z EL vm0 h a)
    (K : ∀ T' h', Wk p l e R s m args below meth c Z a0 EL pr y bs ml rt T' vm0 h' k n → Wr h h' a i v → Ar Z h' a (.object C') (vs.set i v) → Go p e below Φ (T'.setTop (mkF m q Ls st))) : Go p e below Φ (T.setTop (mkF m pc Ls (v :: .int j :: .ref a :: st))) := by
  subst hq hj; obtain ⟨⟨hx, hb1, hml, hrt, hlk, hnm, hEL⟩, k0, locs, X, hh, hZ, hown, hS, hk0, N, C, O, hpr⟩ := w
  obtain ⟨hv, kC, dv, cl, B, q1, S1, q3, H1, G1⟩ := A
  obtain ⟨T', h', X', e', W, g'⟩ := stR X hx hZ hh B (j := Int32.ofNat i) (inb hv S1 hi) rfl F (g := mkF m pc Ls (v :: .int (Int32.ofNat i) :: .ref a :: st)) rfl rfl (hb hb1 hd)
  have V := Arv.set B q1 S1 q3 H1 G1 hv' W i (ofNat_clamp (by omega)) hi
  rw [ofNat_clamp (by omega)] at W
  exact (K T' h' ⟨⟨hx, hb1, hml, hrt, hlk, hnm, hEL⟩, k0, _, X', e', hZ, hown, hS, by rw [W.size]; exact hk0, N.snoc X' ga, C.trans (CHr.wr W S C.1), ext_wr O W ga, hpr⟩ W ⟨by simpa using hv, kC, dv, by rw [List.length_set]; exact V⟩).pre g'
theorem sto_of {a b : Addr} {C' : String} {vs : List Value} (A : Ar Z h a (.object C') vs) (O : OvA Z h a C') (I : Ins Z h b C' true) : Sto Z h a (.ref b) := by
  obtain ⟨hv, kC, dv, cl, B, -⟩ := A
  obtain ⟨c1, q1, r1⟩ := O
  cases B.1.symm.trans q1
  exact Sto.of B r1 I
theorem g_aaload (w : Wk p l e R s m args below meth c Z a0 EL pr y bs ml rt T vm0 h k n) {a : Addr} {C' : String} {vs : List Value} {j : Int32} {i : Nat} {v : Value} (hd : decode bs pc = .ok (.aaload, 1)) (hq : pc + 1 = q) (A : Ar Z h a (.object C') vs) (hj : j = Int32.ofNat i) (hi : i < vs.length) (hv' : vs[i]? = some v) (hr : Go p e below Φ (T.setTop (mkF m q Ls (v :: st)))) : Go p e below Φ (T.setTop (mkF m pc Ls (.int j :: .ref a :: st))) := by
  subst hq hj; obtain ⟨⟨hx, hb1, hml, hrt, hlk, hnm, hEL⟩, k0, locs, X, hh, hZ, hown, hS, hk0, N, C, O, hpr⟩ := w
  obtain ⟨hv, kC, dv, cl, B, q1, S1, q3, H1, G1⟩ := A
  refine hr.pre fun t r => X.aaload (g := mkF m pc Ls (.int (Int32.ofNat i) :: .ref a :: st)) hx (by rw [hh]; exact B.1) (State.isArrayOf_alike hZ.alike B.2.1) rfl B.2.2 (inb hv S1 hi) (H1.at (inb hv S1 hi) (by rw [ofNat_clamp (by omega), List.getD_eq_getElem?_getD, hv']; rfl)) rfl rfl (hb hb1 hd) t r
theorem g_tsw (w : Wk p l e R s m args below meth c Z a0 EL pr y bs ml rt T vm0 h k n) {dflt low high : Int} {offs : Array Int} {len : Nat} {o : Int} {i : Int32} (hd : decode bs pc = .ok (.tableswitch dflt low high offs, len)) (hin : ¬ (i.toInt < low ∨ i.toInt > high)) (hoff : offs[(i.toInt - low).toNat]? = some o) (ho : 0 ≤ (pc : Int) + o) (hq : ((pc : Int) + o).toNat = q) (hr : Go p e below Φ (T.setTop (mkF m q Ls st))) : Go p e below Φ (T.setTop (mkF m pc Ls (.int i :: st))) := by
  exact hr.pre fun t r => Jvm.Free.XS.tswIn w.here w.hx rfl rfl (w.b hd) rfl hin hoff ho hq r
theorem mir_eval {C' : String} {mr : Addr} (M : Mir Z C' mr) : (Term.mirror C').eval #[] Z none [] Z = some (.ref mr) := by
  obtain ⟨c1, k1, e1, e2, e3, cell, e4, e5⟩ := M
  simp [Term.eval, e1, e2, e3]
theorem g_ldcM (w : Wk p l e R s m args below meth c Z a0 EL pr y bs ml rt T vm0 h k n) {i : Nat} {C' : String} {mr : Addr} (hd : decode bs pc = .ok (.ldc i, 2)) (hq : pc + 2 = q) (w1 : (Cond.classLink y.cls i C').before a0 Z = true) (M : Mir Z C' mr)
    (K : ∀ T', Wk p l e R s m args below meth c Z a0 EL pr y bs ml rt T' vm0 h k n → Go p e below Φ (T'.setTop (mkF m q Ls (.ref mr :: st)))) : Go p e below Φ (T.setTop (mkF m pc Ls st)) := by
  subst hq; obtain ⟨⟨hx, hb1, hml, hrt, hlk, hnm, hEL⟩, k0, locs, X, hh, hZ, hown, hS, hk0, N, C, O, hpr⟩ := w
  obtain ⟨c1, k1, e1, e2, e3, cell, e4, e5⟩ := M
  obtain ⟨k2, f1, f2⟩ := hZ.alike.2.2 _ _ e2
  have em : k2.mirror = some mr := by rw [f2]; exact e3
  obtain ⟨vm', X', st'⟩ := X.ldcMirror hx hown (mvT (s := s.setVm vm0) hZ w1) (a := mr) (by simp only [Term.eval]; rw [show (s.setVm vm0).vm.findClass C' = some c1 from by show vm0.findClass C' = _; rw [hZ.alike.findClass]; exact e1]; simp [f1, em]) (g := mkF m pc Ls st) rfl (hb hb1 hd)
  exact (K _ ⟨⟨hx, hb1, hml, hrt, hlk, hnm, hEL⟩, k0, locs, X', hh, hZ, hown, hS, hk0, N, C, O, hpr⟩).pre st'
theorem g_gcls (w : Wk p l e R s m args below meth c Z a0 EL pr y bs ml rt T vm0 h k n) {i Wd : Nat} {C' : String} {a mr : Addr} (E : Exa Z h a C') (M : Mir Z C' mr) (hd : decode bs pc = .ok (.invokevirtual i, 3)) (hq : pc + 3 = q) (hsz : Ls.size = ml)
    (w1 : (Cond.methodLink y.cls i ⟨"java/lang/Object", "getClass", "()Ljava/lang/Class;"⟩).before a0 Z = true) (w2 : (Cond.declares ⟨"java/lang/Object", "getClass", "()Ljava/lang/Class;"⟩).before a0 Z = true) (w3 : (Cond.noSuperclass "java/lang/Object").before a0 Z = true) (w4 : (Cond.selects C' ⟨"java/lang/Object", "getClass", "()Ljava/lang/Class;"⟩ ⟨"java/lang/Object", "getClass", "()Ljava/lang/Class;"⟩).before a0 Z = true)
    (w5 : (Cond.instanceMethod ⟨"java/lang/Object", "getClass", "()Ljava/lang/Class;"⟩).before a0 Z = true) (w6 : (Cond.native ⟨"java/lang/Object", "getClass", "()Ljava/lang/Class;"⟩).before a0 Z = true) (hW : 2 * 0 + (st.map fun v => v.category).sum ≤ Wd) (hf : 1 ≤ R.frames) (hl : Wd + (nativeFrameWords "java/lang/Object" "getClass" 1 + 11) ≤ R.locals)
    (K : ∀ T', Wk p l e R s m args below meth c Z a0 EL pr y bs ml rt T' vm0 h k n → Go p e below Φ (T'.setTop (mkF m q Ls (.ref mr :: st)))) : Go p e below Φ (T.setTop (mkF m pc Ls (.ref a :: st))) := by
  subst hq; obtain ⟨⟨hx, hb1, hml, hrt, hlk, hnm, hEL⟩, k0, locs, X, hh, hZ, hown, hS, hk0, N, C, O, hpr⟩ := w
  obtain ⟨T', X', e', g'⟩ := gcls X hx hZ hown w1 w2 w3 w4 w5 w6 hh E M (g := mkF m pc Ls (.ref a :: st)) rfl (hsz.trans hml.symm) rfl (hb hb1 hd) hf hW hl
  exact (K T' ⟨⟨hx, hb1, hml, hrt, hlk, hnm, hEL⟩, k0, locs, X', e', hZ, hown, hS, hk0, N, C, O, hpr⟩).pre g'
theorem g_acopy (w : Wk p l e R s m args below meth c Z a0 EL pr y bs ml rt T vm0 h k n) {i Wd nn : Nat} {a b : Addr} {C' D' : String} {vs vd : List Value} (A : Ar Z h a (.object C') vs) (B : Ar Z h b (.object D') vd) (hst : StoL Z h b (vs.take nn)) (h1 : nn ≤ vs.length) (h2 : nn ≤ vd.length) (ga : Z.heap.size ≤ b) (S : Safe Z EL vm0 h b) (hd : decode bs pc = .ok (.invokestatic i, 3)) (hq : pc + 3 = q) (hsz : Ls.size = ml)
    (w1 : (Cond.methodLink y.cls i Jvm.Stand.acN).before a0 Z = true) (w2 : (Cond.native Jvm.Stand.acN).before a0 Z = true) (w3 : (Cond.static Jvm.Stand.acN).before a0 Z = true) (w4 : (Cond.initialized "java/lang/System").before a0 Z = true) (hW : 2 * 0 + (st.map fun v => v.category).sum ≤ Wd) (hf : 1 ≤ R.frames) (hl : Wd + (nativeFrameWords "java/lang/System" "arraycopy" 5 + 11) ≤ R.locals)
    (K : ∀ T' h', Wk p l e R s m args below meth c Z a0 EL pr y bs ml rt T' vm0 h' k n → Keep h h' [b] → Ar Z h' b (.object D') (vs.take nn ++ vd.drop nn) → Go p e below Φ (T'.setTop (mkF m q Ls st))) : Go p e below Φ (T.setTop (mkF m pc Ls (.int (Int32.ofNat nn) :: .int 0 :: .ref b :: .int 0 :: .ref a :: st))) := by
  subst hq; obtain ⟨⟨hx, hb1, hml, hrt, hlk, hnm, hEL⟩, k0, locs, X, hh, hZ, hown, hS, hk0, N, C, O, hpr⟩ := w
  obtain ⟨hv, kC, dv, A⟩ := A
  obtain ⟨hv2, kD, dd, B⟩ := B
  have en : (Int32.ofNat nn).toNatClampNeg = nn := ofNat_clamp (by omega)
  have e0 : (0 : Int32).toNatClampNeg = 0 := rfl
  have hus : vs.take nn = (List.range (Int32.ofNat nn).toNatClampNeg).map fun i => vs.getD ((0 : Int32).toNatClampNeg + i) dv := by
    rw [en, e0]
    apply List.ext_getElem?
    intro j
    by_cases hj : j < nn
    · have hj2 : j < vs.length := by omega
      simp [List.getElem?_take, hj, hj2, List.getD_eq_getElem?_getD]
    · simp [List.getElem?_take, hj]
  obtain ⟨T', h', L, X', e', N', Kp, V, g'⟩ := cpA X hx hZ hown w1 w2 w3 w4 hh A B (us := vs.take nn) (Or.inr ⟨rfl, rfl, hst⟩) (sp := 0) (dp := 0) (nn := Int32.ofNat nn) (by decide) (by decide) (ofNat_nonneg (by omega)) (by rw [en, e0, ofNat_clamp hv]; omega) (by rw [en, e0, ofNat_clamp hv2]; omega) hus (by rw [en, e0]; omega) N ga (g := mkF m pc Ls (.int (Int32.ofNat nn) :: .int 0 :: .ref b :: .int 0 :: .ref a :: st)) rfl (hsz.trans hml.symm) rfl (hb hb1 hd) hf hW hl
  rw [en, e0, List.take_zero, List.nil_append, Nat.zero_add] at V
  have hlen : (vs.take nn ++ vd.drop nn).length = vd.length := by simp; omega
  exact (K T' h' ⟨⟨hx, hb1, hml, hrt, hlk, hnm, hEL⟩, k0, L, X', e', hZ, hown, hS, Nat.le_trans hk0 Kp.1, N', C.trans (CHr.keep Kp (in1 S) C.1), ext_keep O Kp ga, hpr⟩ Kp ⟨by rw [hlen]; exact hv2, kD, dd, by rw [hlen]; exact V⟩).pre g'
theorem g_instN (w : Wk p l e R s m args below meth c Z a0 EL pr y bs ml rt T vm0 h k n) {i : Nat} {K' C' : String} {a : Addr} (hd : decode bs pc = .ok (.instanceof i, 3)) (hq : pc + 3 = q) (w1 : (Cond.classLink y.cls i K').before a0 Z = true) (E : Exa Z h a C') (F : ∃ c t, Z.vm.findClass C' = some c ∧ Z.vm.findClass K' = some t ∧ Z.vm.assignable c t = false)
    (K : ∀ T', Wk p l e R s m args below meth c Z a0 EL pr y bs ml rt T' vm0 h k n → Go p e below Φ (T'.setTop (mkF m q Ls (.int 0 :: st)))) : Go p e below Φ (T.setTop (mkF m pc Ls (.ref a :: st))) := by
  subst hq; obtain ⟨⟨hx, hb1, hml, hrt, hlk, hnm, hEL⟩, k0, locs, X, hh, hZ, hown, hS, hk0, N, C, O, hpr⟩ := w
  obtain ⟨T', X', e', g'⟩ := instNo X hx hZ hown w1 hh E F (g := mkF m pc Ls (.ref a :: st)) rfl rfl (hb hb1 hd)
  exact (K T' ⟨⟨hx, hb1, hml, hrt, hlk, hnm, hEL⟩, k0, locs, X', e', hZ, hown, hS, hk0, N, C, O, hpr⟩).pre g'
theorem g_getSN (w : Wk p l e R s m args below meth c Z a0 EL pr y bs ml rt T vm0 h k n) {i : Nat} {R0 O' nm d host : String} {v : Value} (hd : decode bs pc = .ok (.getstatic i, 3)) (hq : pc + 3 = q) (wl : (Cond.fieldLinkNest y.cls i R0 nm d host).before a0 Z = true) (via : Via Z R0 O' nm d) (F : Sta Z Z.heap O' nm d v)
    (K : ∀ T', Wk p l e R s m args below meth c Z a0 EL pr y bs ml rt T' vm0 h k n → Go p e below Φ (T'.setTop (mkF m q Ls (v :: st)))) : Go p e below Φ (T.setTop (mkF m pc Ls st)) := by
  subst hq; have F' := w.sta F; obtain ⟨⟨hx, hb1, hml, hrt, hlk, hnm, hEL⟩, k0, locs, X, hh, hZ, hown, hS, hk0, N, C, O, hpr⟩ := w
  obtain ⟨T', X', e', g'⟩ := getS2 X hx hZ hown (Or.inr wl) via hh F' (g := mkF m pc Ls st) rfl (hb hb1 hd)
  exact (K T' ⟨⟨hx, hb1, hml, hrt, hlk, hnm, hEL⟩, k0, locs, X', e', hZ, hown, hS, hk0, N, C, O, hpr⟩).pre g'
theorem ns_rootI {O' K' : String} {nk : Nat} (w : (Cond.noSuperclass O').before a0 Z = true) (wk : (Cond.instantiable K' nk).before a0 Z = true) (hn : O' ≠ K') : NS Z O' K' := by
  obtain ⟨c, k, h1, h2, h3, -, -⟩ := Cond.noSuperclass_spec w
  obtain ⟨t, kt, g1, -⟩ := Cond.instantiable_spec wk
  have ne := ids_ne h1 g1 hn
  refine ⟨c, t, h1, g1, fun fuel => ?_⟩
  cases fuel with
  | zero => rfl
  | succ f => simp [Vm.isSubclassAux, ne, h2, h3]
theorem ns_noI {C' S' K' : String} {nk : Nat} (w : (Cond.superclass C' S').before a0 Z = true) (wk : (Cond.instantiable K' nk).before a0 Z = true) (nn : NS Z C' K') (hn : C' ≠ K') : ∃ c t, Z.vm.findClass C' = some c ∧ Z.vm.findClass K' = some t ∧ Z.vm.assignable c t = false := by
  obtain ⟨c, t, h0, g0, n3⟩ := nn
  obtain ⟨p, k, kp, h1, h2, h3, h4, h5, -, h7⟩ := Cond.superclass_spec h0 w
  obtain ⟨t2, k', g1, g2, g5, g7, -⟩ := Cond.instantiable_spec wk
  cases g0.symm.trans g1
  have g7' : k'.isInterface = false := (Bool.or_eq_false_iff.mp g7).1
  have ne := ids_ne h0 g0 hn
  refine ⟨c, t, h0, g0, ?_⟩
  show Z.vm.assignableAux (255 + 1) c t = false
  simp [Vm.assignableAux, ne, h2, g2, h5, g5, g7', Vm.isSubclass, n3]
theorem g_aaloadB (w : Wk p l e R s m args below meth c Z a0 EL pr y bs ml rt T vm0 h k n) {a : Addr} {cc : Cell} {K' d : String} {z j : Int32} {val : Int32 → Value} (hd : decode bs pc = .ok (.aaload, 1)) (hq : pc + 1 = q) (B : Bxs Z a cc K' d z val) (hj : ¬ j < 0 ∧ j < z)
    (K : ∀ b, Exa Z Z.heap b K' → Fld Z Z.heap b K' "value" d (val j) → Go p e below Φ (T.setTop (mkF m q Ls (.ref b :: st)))) : Go p e below Φ (T.setTop (mkF m pc Ls (.int j :: .ref a :: st))) := by
  subst hq; obtain ⟨⟨hx, hb1, hml, hrt, hlk, hnm, hEL⟩, k0, locs, X, hh, hZ, hown, hS, hk0, N, C, O, hpr⟩ := w
  obtain ⟨A, S1, hz, H⟩ := B
  have hin := inb_of S1 hj
  obtain ⟨b, e1, e2, e3⟩ := H j hin
  have A' := A.ext O
  exact (K b e2 e3).pre fun t r => X.aaload (g := mkF m pc Ls (.int j :: .ref a :: st)) hx (by rw [hh]; exact A'.1) (State.isArrayOf_alike hZ.alike A'.2.1) rfl A'.2.2 hin e1 rfl rfl (hb hb1 hd) t r
theorem len_cell {t : Term} {aa : Array Value} {z : Int32} {a : Addr} {cc : Cell} {ty : FieldType} (ev : t.eval aa Z none [] Z = some (.ref a)) (A : Arr Z Z.heap a cc ty) (hl : (Term.length t).eval aa Z none [] Z = some (.int z)) : cc.slots.size < 2 ^ 31 ∧ cc.slots.size.toInt32 = z := by
  have A' := A.fin (Vm.Alike.refl _)
  by_cases q : cc.slots.size < 2 ^ 31
  · rw [len_f ev A' q] at hl; cases hl; exact ⟨q, rfl⟩
  · have q' : ¬ cc.slots.size < 2147483648 := by omega
    simp [Term.eval, ev, A', q'] at hl
theorem ar_empty (hf : Fit Z) {t : Term} {aa : Array Value} {a : Addr} {ty : FieldType} (ev : t.eval aa Z none [] Z = some (.ref a)) (h1 : (Cond.arrayOf t ty).value aa Z none Z [] = some true) (h2 : (Cond.eq (.length t) (.int 0)).value aa Z none Z [] = some true) : Ar Z Z.heap a ty [] := by
  obtain ⟨cc, A⟩ := Arr.start ev h1
  obtain ⟨q1, q2⟩ := len_cell ev A (eqv_i (Term.int_eval 0) h2)
  exact ⟨Nat.le_of_ble_eq_true rfl, cc.cls, .null, Arv.start (vs := []) hf A q1 q2 (by decide) rfl trivial⟩
theorem vo_in {i : Int32} (h1 : ¬ i < -128) (h2 : ¬ 127 < i) : ¬ i + 128 < 0 ∧ i + 128 < 256 := by
  have r := c_iadd i 128
  have r1 := rng32 (i + 128)
  rw [Int32.lt_iff_toInt_lt, show (-128 : Int32).toInt = -128 from rfl] at h1
  rw [Int32.lt_iff_toInt_lt, show (127 : Int32).toInt = 127 from rfl] at h2
  rw [show (128 : Int32).toInt = 128 from rfl] at r
  rw [Int32.lt_iff_toInt_lt, Int32.lt_iff_toInt_lt, show (0 : Int32).toInt = 0 from rfl, show (256 : Int32).toInt = 256 from rfl]
  omega
theorem g_iface (w : Wk p l e R s m args below meth c Z a0 EL pr y bs ml rt T vm0 h k n) {y1 y' : MethodName} {bs' : ByteArray} {ml' : Nat} {rt' : Option FieldType} {rm : Room} {Q : Option Value → Heap → Prop} {i cn W : Nat} {a : Addr} {C' : String} {argsL : List Value} {ps : List FieldType} {rr : Option FieldType} {stk : List Value} {sf : List Addr} (hM : Con l Z EL pr y' bs' ml' rt' [] rm (.ref a :: argsL).toArray sf h Q) (hsf : ∀ x ∈ sf, x < h.size ∧ Safe Z EL vm0 h x) (E : Exa Z h a C') (hd : decode bs pc = .ok (.invokeinterface i cn, 5)) (hq : pc + 5 = q) (hsz : Ls.size = ml)
    (w1 : (Cond.methodLink y.cls i y1).before a0 Z = true) (wd : (Cond.declares y1).before a0 Z = true) (wf : (Cond.interfaceMethod y1.cls y1.cls y1.name y1.desc).before a0 Z = true) (hfa : ((Cond.interfaceMethod y1.cls y1.cls y1.name y1.desc).onTables && (Cond.interfaceMethod y1.cls y1.cls y1.name y1.desc).keepsFace) = true) (wp : (Cond.publicMethod y').before a0 Z = true) (wu : (Cond.unhidden C' y1.name y1.desc).before a0 Z = true) (wk : (Cond.castable C' y1.cls).before a0 Z = true) (ws : (Cond.selects C' y1 y').before a0 Z = true) (w2 : (Cond.instanceMethod y').before a0 Z = true) (w3 : (Cond.initialized y'.cls).before a0 Z = true) (w4 : (Cond.code y' bs' ml' rt').before a0 Z = true) (hy : y1.cls ≠ "java/lang/invoke/MethodHandle" ∧ y1.cls ≠ "java/lang/invoke/VarHandle") (hpd : parseMethodDescriptor y1.desc = some ⟨ps, rr⟩) (hlen : argsL.length = ps.length) (hst : stk = argsL.reverse ++ .ref a :: st)
    (hW : 2 * 0 + (st.map fun v => v.category).sum ≤ W) (hf : rm.frames + 1 ≤ R.frames) (hl : W + (ml' + 11) + rm.locals ≤ R.locals) (hc : k + rm.cells ≤ R.cells) (hs : n + rm.slots ≤ R.slots)
    (K : ∀ T' h' v, Wk p l e R s m args below meth c Z a0 EL pr y bs ml rt T' T'.vm h' (k + rm.cells) (n + rm.slots) → h.size ≤ h'.size → CHr Z EL vm0 h T'.vm h' → Q v h' → Go p e below Φ (T'.setTop (mkF m q Ls (v.toList ++ st)))) : Go p e below Φ (T.setTop (mkF m pc Ls stk)) := by
  subst hq hst; have w' := w; obtain ⟨⟨hx, hb1, hml, hrt, hlk, hnm, hEL⟩, k0, locs, X, hh, hZ, hown, hS, hk0, N, C, O, hpr⟩ := w
  obtain ⟨cq, kq, qa, qk, qc⟩ := isOf (s := s.setVm vm0) hZ hh E
  obtain ⟨v, vm₁, ⟨T', L', k', n'⟩, hW1, X', hS', hg, ⟨L, ⟨hQ, hO', hF⟩, hl', hk', hn', hC', hp'⟩, stp⟩ := X.interfaceBackS hx hown (mvT (s := s.setVm vm0) hZ w1) (mvT (s := s.setVm vm0) hZ wd) (mvT (s := s.setVm vm0) hZ wf hfa) (mvT (s := s.setVm vm0) hZ ws) (mvT (s := s.setVm vm0) hZ w2) (mvT (s := s.setVm vm0) hZ wp) (mvT (s := s.setVm vm0) hZ wu) (mvT (s := s.setVm vm0) hZ wk) hy (hM.back hsf hZ w4 w3 hf hl hEL C.1) qa qk qc (g := mkF m pc Ls (argsL.reverse ++ .ref a :: st)) rfl (hsz.trans hml.symm) (Steps.refl _) (lenOf hpd hlen) rfl hW (hb hb1 hd) (fun _ _ => ⟨rfl, hh, hc, hs⟩)
  dsimp only [Pt.U, Pt.locs, Pt.cells, Pt.slots] at X' hS' hg hQ hO' hl' hk' hn' hC' hp' stp
  subst hl' hk' hn'
  exact (K T' T'.heap v (w'.after X' hS' hg (N.app hF) hC' hO' fun q => State.WarmedH.trans (t := T.setVm vm₁) hW1 (hp' q)) hC'.2.1 hC' hQ).pre' stp
theorem g_priv (w : Wk p l e R s m args below meth c Z a0 EL pr y bs ml rt T vm0 h k n) {y' : MethodName} {bs' : ByteArray} {ml' : Nat} {rt' : Option FieldType} {rm : Room} {Q : Option Value → Heap → Prop} {i W : Nat} {a : Addr} {C' : String} {argsL : List Value} {ps : List FieldType} {rr : Option FieldType} {stk : List Value} {sf : List Addr} (hM : Con l Z EL pr y' bs' ml' rt' [] rm (.ref a :: argsL).toArray sf h Q) (hsf : ∀ x ∈ sf, x < h.size ∧ Safe Z EL vm0 h x) (E : Exa Z h a C') (hd : decode bs pc = .ok (.invokevirtual i, 3)) (hq : pc + 3 = q) (hsz : Ls.size = ml)
    (w1 : (Cond.methodLink y.cls i y').before a0 Z = true) (wd : (Cond.privateMethod y').before a0 Z = true) (ws : (Cond.selects y'.cls y' y').before a0 Z = true) (w2 : (Cond.instanceMethod y').before a0 Z = true) (w3 : (Cond.initialized y'.cls).before a0 Z = true) (w4 : (Cond.code y' bs' ml' rt').before a0 Z = true) (hy : y'.cls ≠ "java/lang/invoke/MethodHandle" ∧ y'.cls ≠ "java/lang/invoke/VarHandle") (hpd : parseMethodDescriptor y'.desc = some ⟨ps, rr⟩) (hlen : argsL.length = ps.length) (hst : stk = argsL.reverse ++ .ref a :: st)
    (hW : 2 * 0 + (st.map fun v => v.category).sum ≤ W) (hf : rm.frames + 1 ≤ R.frames) (hl : W + (ml' + 11) + rm.locals ≤ R.locals) (hc : k + rm.cells ≤ R.cells) (hs : n + rm.slots ≤ R.slots)
    (K : ∀ T' h' v, Wk p l e R s m args below meth c Z a0 EL pr y bs ml rt T' T'.vm h' (k + rm.cells) (n + rm.slots) → h.size ≤ h'.size → CHr Z EL vm0 h T'.vm h' → Q v h' → Go p e below Φ (T'.setTop (mkF m q Ls (v.toList ++ st)))) : Go p e below Φ (T.setTop (mkF m pc Ls stk)) := by
  subst hq hst; have w' := w; obtain ⟨⟨hx, hb1, hml, hrt, hlk, hnm, hEL⟩, k0, locs, X, hh, hZ, hown, hS, hk0, N, C, O, hpr⟩ := w
  obtain ⟨cq, kq, qa, -, cB, hcB, -, hsB⟩ := isOf (s := s.setVm vm0) hZ hh E
  obtain ⟨v, vm₁, ⟨T', L', k', n'⟩, hW1, X', hS', hg, ⟨L, ⟨hQ, hO', hF⟩, hl', hk', hn', hC', hp'⟩, stp⟩ := X.privateBackS hx hown (mvT (s := s.setVm vm0) hZ w1) (mvT (s := s.setVm vm0) hZ w2) (mvT (s := s.setVm vm0) hZ ws) (Cond.privateMethod_at (args := #[]) (mvP (s := s.setVm vm0) hZ wd)) (mvT (s := s.setVm vm0) hZ w4) hy (hM.back hsf hZ w4 w3 hf hl hEL C.1) (g := mkF m pc Ls (argsL.reverse ++ .ref a :: st)) rfl (hsz.trans hml.symm) (Steps.refl _) hcB (fun q z => by rw [z] at hsB; cases hsB) (lenOf hpd hlen) rfl hW (hb hb1 hd) (fun _ _ => ⟨rfl, hh, hc, hs⟩)
  dsimp only [Pt.U, Pt.locs, Pt.cells, Pt.slots] at X' hS' hg hQ hO' hl' hk' hn' hC' hp' stp
  subst hl' hk' hn'
  exact (K T' T'.heap v (w'.after X' hS' hg (N.app hF) hC' hO' fun q => State.WarmedH.trans (t := T.setVm vm₁) hW1 (hp' q)) hC'.2.1 hC' hQ).pre' stp
theorem g_ifaceP (w : Wk p l e R s m args below meth c Z a0 EL pr y bs ml rt T vm0 h k n) {y1 y' : MethodName} {bs' : ByteArray} {ml' : Nat} {rt' : Option FieldType} {rm : Room} {V : Option Value → Prop} {i cn W : Nat} {a : Addr} {C' : String} {argsL : List Value} {ps : List FieldType} {rr : Option FieldType} {stk : List Value} {sf : List Addr} (hM : Con l Z EL pr y' bs' ml' rt' [] rm (.ref a :: argsL).toArray sf h (fun v h' => V v ∧ h' = h)) (hsf : ∀ x ∈ sf, x < h.size ∧ Safe Z EL vm0 h x) (E : Exa Z h a C') (hd : decode bs pc = .ok (.invokeinterface i cn, 5)) (hq : pc + 5 = q) (hsz : Ls.size = ml)
    (w1 : (Cond.methodLink y.cls i y1).before a0 Z = true) (wd : (Cond.declares y1).before a0 Z = true) (wf : (Cond.interfaceMethod y1.cls y1.cls y1.name y1.desc).before a0 Z = true) (hfa : ((Cond.interfaceMethod y1.cls y1.cls y1.name y1.desc).onTables && (Cond.interfaceMethod y1.cls y1.cls y1.name y1.desc).keepsFace) = true) (wp : (Cond.publicMethod y').before a0 Z = true) (wu : (Cond.unhidden C' y1.name y1.desc).before a0 Z = true) (wk : (Cond.castable C' y1.cls).before a0 Z = true) (ws : (Cond.selects C' y1 y').before a0 Z = true) (w2 : (Cond.instanceMethod y').before a0 Z = true) (w3 : (Cond.initialized y'.cls).before a0 Z = true) (w4 : (Cond.code y' bs' ml' rt').before a0 Z = true) (hy : y1.cls ≠ "java/lang/invoke/MethodHandle" ∧ y1.cls ≠ "java/lang/invoke/VarHandle") (hpd : parseMethodDescriptor y1.desc = some ⟨ps, rr⟩) (hlen : argsL.length = ps.length) (hst : stk = argsL.reverse ++ .ref a :: st)
    (hW : 2 * 0 + (st.map fun v => v.category).sum ≤ W) (hf : rm.frames + 1 ≤ R.frames) (hl : W + (ml' + 11) + rm.locals ≤ R.locals) (hc : k + rm.cells ≤ R.cells) (hs : n + rm.slots ≤ R.slots)
    (K : ∀ T' v, Wk p l e R s m args below meth c Z a0 EL pr y bs ml rt T' T'.vm h (k + rm.cells) (n + rm.slots) → CHr Z EL vm0 h T'.vm h → V v → Go p e below Φ (T'.setTop (mkF m q Ls (v.toList ++ st)))) : Go p e below Φ (T.setTop (mkF m pc Ls stk)) :=
  g_iface w hM hsf E hd hq hsz w1 wd wf hfa wp wu wk ws w2 w3 w4 hy hpd hlen hst hW hf hl hc hs fun T' h' v w' _ C' q' => by
    obtain ⟨hV, rfl⟩ := q'; exact K T' v w' C' hV
end KV
end Jvm.Own
/- laws to paste: Road.backV (cut by pick.py; bodies as the Statement names them) -/
namespace Jvm.Pilot.@@N@@
namespace StrChars
open Jvm Sem ClassFile Op Lib Jvm.Stand Jvm.Free.XT Jvm.Free.ALB Jvm.Free.JM Jvm.Free
open Jvm.Lib.Cold (StaticIs)
/-- a char array whose places are chars -/
def Ch (a : Addr) (A : Cell) (U : State) : Prop := Arr .char a A U ∧ Typed .char A
theorem Ch.mv {a : Addr} {A : Cell} {U U' : State} (h : Ch a A U) (hal : U.vm.Alike U'.vm) (hh : U'.heap = U.heap) : Ch a A U' := ⟨h.1.mv hal hh, h.2⟩
theorem Ch.keep {a : Addr} {A : Cell} {U U' : State} (h : Ch a A U) (hal : U.vm.Alike U'.vm) (hk : U'.heap[a]? = some A) : Ch a A U' := ⟨h.1.keep hal hk, h.2⟩
/-- what place i of a char[]'s cell holds -/
def cv (A : Cell) (i : Nat) : Int32 := match A.slots[i]? with | some (.int x) => x | _ => 0
theorem Ch.get {a : Addr} {A : Cell} {U : State} (h : Ch a A U) {i : Nat} (hi : i < A.slots.size) : A.slots[i]? = some (.int (cv A i)) := by
  have e := Array.getElem?_eq_getElem hi
  have f := h.2 i _ e
  unfold cv; rw [e]
  generalize A.slots[i] = v at f
  cases v <;> simp [fits] at f ⊢
/-- the byte that i2b leaves of a char -/
def lo8 (x : Int32) : Int32 := x.toInt8.toInt32
theorem fits_lo8 (y : Int32) : fits .byte (.int (lo8 y)) = true := by
  have h1 := y.toInt8.le_toInt
  have h2 := y.toInt8.toInt_lt
  simp only [lo8, fits, Bool.and_eq_true, decide_eq_true_eq, Int32.le_iff_toInt_le, Int8.toInt_toInt32, show (-128 : Int32).toInt = -128 from by decide, show (127 : Int32).toInt = 127 from by decide]
  omega
/-- A' is A but that each place j of lo .. hi - 1 holds f j -/
def Laid (A A' : Cell) (lo hi : Nat) (f : Nat → Value) : Prop := A'.cls = A.cls ∧ A'.vm = A.vm ∧ A'.slots.size = A.slots.size ∧ ∀ i, A'.slots[i]? = if lo ≤ i ∧ i < hi then some (f i) else A.slots[i]?
theorem Laid.zero (A : Cell) (lo : Nat) (f : Nat → Value) : Laid A A lo (lo + 0) f := ⟨rfl, rfl, rfl, fun i => by rw [if_neg (by omega)]⟩
theorem Laid.step {A Ak : Cell} {lo k : Nat} {f : Nat → Value} {v : Value} (h : Laid A Ak lo k f) (hlo : lo ≤ k) (hk : k < Ak.slots.size) (hv : v = f k) : Laid A (Ak.setSlot k v) lo (k + 1) f := by
  refine ⟨h.1, h.2.1, by simpa [Cell.setSlot] using h.2.2.1, fun i => ?_⟩
  by_cases e : k = i
  · subst e; rw [Cell.slots_setSlot_self v hk, if_pos (by omega), hv]
  · rw [Cell.slots_setSlot_ne v e, h.2.2.2 i]
    by_cases q : lo ≤ i ∧ i < k
    · rw [if_pos q, if_pos (by omega)]
    · rw [if_neg q, if_neg (by omega)]
def U16 : String := "java/lang/StringUTF16"
namespace Cmp5
def yN : MethodName := ⟨"java/lang/StringUTF16", "compress", "([CI[BII)I"⟩
abbrev yB : ByteArray := jdk_52_method_21_code
theorem d0 : decode yB 0 = .ok (.iconst 0, 1) := by decide +kernel
theorem d1 : decode yB 1 = .ok (.istore 5, 2) := by decide +kernel
theorem d3 : decode yB 3 = .ok (.iload 5, 2) := by decide +kernel
theorem d5 : decode yB 5 = .ok (.iload 4, 2) := by decide +kernel
theorem d7 : decode yB 7 = .ok (.if_icmp (.ge) 37, 3) := by decide +kernel
theorem d10 : decode yB 10 = .ok (.aload_n 0, 1) := by decide +kernel
theorem d11 : decode yB 11 = .ok (.iload_n 1, 1) := by decide +kernel
theorem d12 : decode yB 12 = .ok (.caload, 1) := by decide +kernel
theorem d13 : decode yB 13 = .ok (.istore 6, 2) := by decide +kernel
theorem d15 : decode yB 15 = .ok (.iload 6, 2) := by decide +kernel
theorem d17 : decode yB 17 = .ok (.sipush 255, 3) := by decide +kernel
theorem d20 : decode yB 20 = .ok (.if_icmp (.le) 6, 3) := by decide +kernel
theorem d26 : decode yB 26 = .ok (.aload_n 2, 1) := by decide +kernel
theorem d27 : decode yB 27 = .ok (.iload_n 3, 1) := by decide +kernel
theorem d28 : decode yB 28 = .ok (.iload 6, 2) := by decide +kernel
theorem d30 : decode yB 30 = .ok (.i2b, 1) := by decide +kernel
theorem d31 : decode yB 31 = .ok (.bastore, 1) := by decide +kernel
theorem d32 : decode yB 32 = .ok (.iinc 1 1, 3) := by decide +kernel
theorem d35 : decode yB 35 = .ok (.iinc 3 1, 3) := by decide +kernel
theorem d38 : decode yB 38 = .ok (.iinc 5 1, 3) := by decide +kernel
theorem d41 : decode yB 41 = .ok (.goto (-38), 3) := by decide +kernel
theorem d44 : decode yB 44 = .ok (.iload 4, 2) := by decide +kernel
theorem d46 : decode yB 46 = .ok (.ireturn, 1) := by decide +kernel
def site : List Cond := []
def tab : Cond := tabOf yN yB 7 (some .int) site
def P (b : Addr) (A : Cell) (d : Addr) (B : Cell) (o q len : Nat) (args : Array Value) (s : State) : Prop := args = #[.ref b, .int (Int32.ofNat o), .ref d, .int (Int32.ofNat q), .int (Int32.ofNat len)] ∧ Ch b A s ∧ Arr .byte d B s ∧ b ≠ d ∧ o + len ≤ A.slots.size ∧ q + len ≤ B.slots.size ∧ ∀ i, i < len → ¬ 255 < cv A (o + i)
def E (b : Addr) (A : Cell) (d : Addr) (B : Cell) (o q len : Nat) (r : Option Value) (s u : State) : Prop := r = some (.int (Int32.ofNat len)) ∧ ∃ B', Put d B' s u ∧ Laid B B' q (q + len) (fun j => Value.int (lo8 (cv A (o + (j - q)))))
/-- no char of the range above 255: len; the places written hold each char's low byte -/
theorem law (l : Launch) (b : Addr) (A : Cell) (d : Addr) (B : Cell) (o q len : Nat) : Law l yN 5 5 0 0 yB 7 (some .int) site (P b A d B o q len) (E b A d B o q len) (copyLocs d q len) 0 0 := by
  refine Law.of_walk (plainFor_of_name (by decide +kernel)) (by decide +kernel) (by decide +kernel) (by decide) (fun _ _ h => by rw [h.1]; rfl) (fun _ U U' hal hh h => ⟨h.1, h.2.1.mv hal hh, h.2.2.1.mv hal hh, h.2.2.2⟩) (fun r U U' V V' h1 hal h2 h => ⟨h.1, h.2.elim fun B' q => ⟨B', q.1.mv h1 h2, q.2⟩⟩) ?_
  intro p e s m args below meth c s₁ X0 hexec hbytes hml hret hlk hnm hown hh0 W hP
  obtain ⟨rfl, hA, hB, hne, l1, l2, hp⟩ := hP
  have c1 : Steps p.tables e below (s₁.setTop (entryFrame m #[.ref b, .int (Int32.ofNat o), .ref d, .int (Int32.ofNat q), .int (Int32.ofNat len)] 7)) (s₁.setTop (mkF m 0 #[.val (.ref b), .val (.int (Int32.ofNat o)), .val (.ref d), .val (.int (Int32.ofNat q)), .val (.int (Int32.ofNat len)), .unset, .unset] [])) := entry rfl
  have hA0 := hA.1.mv X0.warmed.alike hh0
  have hB0 := hB.mv X0.warmed.alike hh0
  have a31 := hA.1.2.2.2
  have c2 : Steps p.tables e below (s₁.setTop (entryFrame m #[.ref b, .int (Int32.ofNat o), .ref d, .int (Int32.ofNat q), .int (Int32.ofNat len)] 7)) (s₁.setTop (mkF m 3 #[.val (.ref b), .val (.int (Int32.ofNat o)), .val (.ref d), .val (.int (Int32.ofNat q)), .val (.int (Int32.ofNat len)), .val (.int 0), .unset] [])) := c1.trans (by
    refine iconstV X0.here hexec rfl 0 (hb hbytes d0) (by decide) ?_
    refine XS.istore X0.here hexec rfl (hb hbytes d1) rfl rfl ?_
    exact Steps.refl _)
  have loop : ∀ (r i : Nat), i + r = len → ∀ (z : Slot), (z = .unset ∨ ∃ w, z = .val w ∧ w.category = 1) → ∀ (Tl : State) (Bk : Cell), Stand p l e { frames := 0, locals := 0, cells := 0, slots := 0 } s m #[.ref b, .int (Int32.ofNat o), .ref d, .int (Int32.ofNat q), .int (Int32.ofNat len)] below meth c Tl ([] ++ copyLocs d q i) 0 0 → Put d Bk s₁ Tl → Laid B Bk q (q + i) (fun j => Value.int (lo8 (cv A (o + (j - q))))) →
      Steps p.tables e below (s₁.setTop (entryFrame m #[.ref b, .int (Int32.ofNat o), .ref d, .int (Int32.ofNat q), .int (Int32.ofNat len)] 7)) (Tl.setTop (mkF m 3 #[.val (.ref b), .val (.int (Int32.ofNat (o + i))), .val (.ref d), .val (.int (Int32.ofNat (q + i))), .val (.int (Int32.ofNat len)), .val (.int (Int32.ofNat i)), z] [])) → ∃ (T' : State) (B' : Cell) (z' : Slot), Stand p l e { frames := 0, locals := 0, cells := 0, slots := 0 } s m #[.ref b, .int (Int32.ofNat o), .ref d, .int (Int32.ofNat q), .int (Int32.ofNat len)] below meth c T' ([] ++ copyLocs d q len) 0 0 ∧ Put d B' s₁ T' ∧ Laid B B' q (q + len) (fun j => Value.int (lo8 (cv A (o + (j - q))))) ∧
      Steps p.tables e below (s₁.setTop (entryFrame m #[.ref b, .int (Int32.ofNat o), .ref d, .int (Int32.ofNat q), .int (Int32.ofNat len)] 7)) (T'.setTop (mkF m 3 #[.val (.ref b), .val (.int (Int32.ofNat (o + len))), .val (.ref d), .val (.int (Int32.ofNat (q + len))), .val (.int (Int32.ofNat len)), .val (.int (Int32.ofNat len)), z'] [])) := by
    intro r
    induction r with
    | zero =>
      intro i hi z hz Tl Bk Xl pl fl cl
      have hil : i = len := by omega
      rw [hil] at Xl fl cl
      exact ⟨Tl, Bk, z, Xl, pl, fl, cl⟩
    | succ r ih =>
      intro i hi z hz Tl Bk Xl pl fl cl
      have all := X0.warmed.alike.symm.trans Xl.warmed.alike
      have hAl := hA0.keep all (pl.other hne hA0.1)
      have hBk := hB0.like all pl.1 fl.1 fl.2.1 fl.2.2.1
      have hlt : q + i < Bk.slots.size := by rw [fl.2.2.1]; omega
      have c3 : Steps p.tables e below (s₁.setTop (entryFrame m #[.ref b, .int (Int32.ofNat o), .ref d, .int (Int32.ofNat q), .int (Int32.ofNat len)] 7)) (Tl.setTop (mkF m 12 #[.val (.ref b), .val (.int (Int32.ofNat (o + i))), .val (.ref d), .val (.int (Int32.ofNat (q + i))), .val (.int (Int32.ofNat len)), .val (.int (Int32.ofNat i)), z] [.int (Int32.ofNat (o + i)), .ref b])) := cl.trans (by
        refine XS.iload Xl.here hexec rfl (hb hbytes d3) rfl ?_
        refine XS.iload Xl.here hexec rfl (hb hbytes d5) rfl ?_
        refine XS.icmpNo Xl.here hexec rfl (hb hbytes d7) rfl (ii_ge_f (lt32 (by omega) (by omega))) ?_
        refine XS.aloadN Xl.here hexec rfl (hb hbytes d10) rfl rfl ?_
        refine XS.iloadN Xl.here hexec rfl (hb hbytes d11) rfl ?_
        exact Steps.refl _)
      have c4 : Steps p.tables e below (s₁.setTop (entryFrame m #[.ref b, .int (Int32.ofNat o), .ref d, .int (Int32.ofNat q), .int (Int32.ofNat len)] 7)) (Tl.setTop (mkF m 13 #[.val (.ref b), .val (.int (Int32.ofNat (o + i))), .val (.ref d), .val (.int (Int32.ofNat (q + i))), .val (.int (Int32.ofNat len)), .val (.int (Int32.ofNat i)), z] [.int (cv A (o + i))])) := c3.trans (by
        refine Xl.aget hexec hAl rfl (hA.get (i := o + i) (by omega)) rfl rfl (hb hbytes d12) ?_
        exact Steps.refl _)
      have c5 : Steps p.tables e below (s₁.setTop (entryFrame m #[.ref b, .int (Int32.ofNat o), .ref d, .int (Int32.ofNat q), .int (Int32.ofNat len)] 7)) (Tl.setTop (mkF m 15 #[.val (.ref b), .val (.int (Int32.ofNat (o + i))), .val (.ref d), .val (.int (Int32.ofNat (q + i))), .val (.int (Int32.ofNat len)), .val (.int (Int32.ofNat i)), .val (.int (cv A (o + i)))] [])) := c4.trans (by
        refine XS.istoreS Xl.here hexec rfl (hb hbytes d13) rfl rfl hz ?_
        exact Steps.refl _)
      have c6 : Steps p.tables e below (s₁.setTop (entryFrame m #[.ref b, .int (Int32.ofNat o), .ref d, .int (Int32.ofNat q), .int (Int32.ofNat len)] 7)) (Tl.setTop (mkF m 31 #[.val (.ref b), .val (.int (Int32.ofNat (o + i))), .val (.ref d), .val (.int (Int32.ofNat (q + i))), .val (.int (Int32.ofNat len)), .val (.int (Int32.ofNat i)), .val (.int (cv A (o + i)))] [.int (lo8 (cv A (o + i))), .int (Int32.ofNat (q + i)), .ref d])) := c5.trans (by
        refine XS.iload Xl.here hexec rfl (hb hbytes d15) rfl ?_
        refine sipushV Xl.here hexec rfl 255 (hb hbytes d17) (by decide) ?_
        refine XS.icmpYes Xl.here hexec rfl (pc0 := 20) rfl (hb hbytes d20) rfl (ii_le_t (hp i (by omega))) (by decide) rfl ?_
        refine XS.aloadN Xl.here hexec rfl (hb hbytes d26) rfl rfl ?_
        refine XS.iloadN Xl.here hexec rfl (hb hbytes d27) rfl ?_
        refine XS.iload Xl.here hexec rfl (hb hbytes d28) rfl ?_
        refine i2b Xl.here hexec rfl (hb hbytes d30) rfl ?_
        exact Steps.refl _)
      obtain ⟨T7, X7, p7, st7⟩ := Xl.aput hexec hBk rfl hlt rfl (fits_lo8 (cv A (o + i))) (g := (mkF m 31 #[.val (.ref b), .val (.int (Int32.ofNat (o + i))), .val (.ref d), .val (.int (Int32.ofNat (q + i))), .val (.int (Int32.ofNat len)), .val (.int (Int32.ofNat i)), .val (.int (cv A (o + i)))] [.int (lo8 (cv A (o + i))), .int (Int32.ofNat (q + i)), .ref d])) rfl (rest := []) rfl (hb hbytes d31)
      have c8 : Steps p.tables e below (s₁.setTop (entryFrame m #[.ref b, .int (Int32.ofNat o), .ref d, .int (Int32.ofNat q), .int (Int32.ofNat len)] 7)) (T7.setTop (mkF m 32 #[.val (.ref b), .val (.int (Int32.ofNat (o + i))), .val (.ref d), .val (.int (Int32.ofNat (q + i))), .val (.int (Int32.ofNat len)), .val (.int (Int32.ofNat i)), .val (.int (cv A (o + i)))] [])) := c6.trans (st7 _ (Steps.refl _))
      have c9 : Steps p.tables e below (s₁.setTop (entryFrame m #[.ref b, .int (Int32.ofNat o), .ref d, .int (Int32.ofNat q), .int (Int32.ofNat len)] 7)) (T7.setTop (mkF m 3 #[.val (.ref b), .val (.int (Int32.ofNat (o + i) + 1)), .val (.ref d), .val (.int (Int32.ofNat (q + i) + 1)), .val (.int (Int32.ofNat len)), .val (.int (Int32.ofNat i + 1)), .val (.int (cv A (o + i)))] [])) := c8.trans (by
        refine iincV X7.here hexec rfl 1 (hb hbytes d32) (by decide) rfl rfl ?_
        refine iincV X7.here hexec rfl 1 (hb hbytes d35) (by decide) rfl rfl ?_
        refine iincV X7.here hexec rfl 1 (hb hbytes d38) (by decide) rfl rfl ?_
        refine XS.goto X7.here hexec rfl (pc0 := 41) rfl (hb hbytes d41) (by decide) rfl ?_
        exact Steps.refl _)
      have c10 : Steps p.tables e below (s₁.setTop (entryFrame m #[.ref b, .int (Int32.ofNat o), .ref d, .int (Int32.ofNat q), .int (Int32.ofNat len)] 7)) (T7.setTop (mkF m 3 #[.val (.ref b), .val (.int (Int32.ofNat (o + (i + 1)))), .val (.ref d), .val (.int (Int32.ofNat (q + (i + 1)))), .val (.int (Int32.ofNat len)), .val (.int (Int32.ofNat (i + 1))), .val (.int (cv A (o + i)))] [])) := by
        have := c9
        rw [succ32, succ32, succ32] at this
        exact this
      exact ih (i + 1) (by omega) _ (Or.inr ⟨_, rfl, rfl⟩) T7 _ (by rw [copyLocs_step, ← List.append_assoc]; exact X7) (pl.trans p7) (fl.step (by omega) hlt (by simp)) c10
  obtain ⟨T9, B9, z9, X9, p9, f9, g9⟩ := loop len 0 (by omega) .unset (Or.inl rfl) s₁ B (by simpa [copyLocs] using X0) ⟨hB0.1, fun _ _ => rfl, rfl⟩ (Laid.zero _ _ _) c2
  have c11 : Steps p.tables e below (s₁.setTop (entryFrame m #[.ref b, .int (Int32.ofNat o), .ref d, .int (Int32.ofNat q), .int (Int32.ofNat len)] 7)) (T9.setTop (mkF m 46 #[.val (.ref b), .val (.int (Int32.ofNat (o + len))), .val (.ref d), .val (.int (Int32.ofNat (q + len))), .val (.int (Int32.ofNat len)), .val (.int (Int32.ofNat len)), z9] [.int (Int32.ofNat len)])) := g9.trans (by
    refine XS.iload X9.here hexec rfl (hb hbytes d3) rfl ?_
    refine XS.iload X9.here hexec rfl (hb hbytes d5) rfl ?_
    refine XS.icmpYes X9.here hexec rfl (pc0 := 7) rfl (hb hbytes d7) rfl (ii_ge_t (nlt32 (by omega) (Nat.le_refl _))) (by decide) rfl ?_
    refine XS.iload X9.here hexec rfl (hb hbytes d44) rfl ?_
    exact Steps.refl _)
  exact ⟨T9, some (.int (Int32.ofNat len)), _, _, _, X9, by simp, rfl, rfl, (fun h => by cases h), ⟨rfl, B9, p9.from hh0, f9⟩, fun fs hl => c11.trans (X9.ireturnOut hexec hret rfl (Or.inl rfl) (hb hbytes d46) hl)⟩
end Cmp5
namespace Cmp3
def yN : MethodName := ⟨"java/lang/StringUTF16", "compress", "([CII)[B"⟩
abbrev yB : ByteArray := jdk_52_method_16_code
theorem d0 : decode yB 0 = .ok (.iload_n 2, 1) := by decide +kernel
theorem d1 : decode yB 1 = .ok (.newarray .byte, 2) := by decide +kernel
theorem d3 : decode yB 3 = .ok (.astore_n 3, 1) := by decide +kernel
theorem d4 : decode yB 4 = .ok (.aload_n 0, 1) := by decide +kernel
theorem d5 : decode yB 5 = .ok (.iload_n 1, 1) := by decide +kernel
theorem d6 : decode yB 6 = .ok (.aload_n 3, 1) := by decide +kernel
theorem d7 : decode yB 7 = .ok (.iconst 0, 1) := by decide +kernel
theorem d8 : decode yB 8 = .ok (.iload_n 2, 1) := by decide +kernel
theorem d9 : decode yB 9 = .ok (.invokestatic 115, 3) := by decide +kernel
theorem d12 : decode yB 12 = .ok (.istore 4, 2) := by decide +kernel
theorem d14 : decode yB 14 = .ok (.iload 4, 2) := by decide +kernel
theorem d16 : decode yB 16 = .ok (.iload_n 2, 1) := by decide +kernel
theorem d17 : decode yB 17 = .ok (.if_icmp (.eq) 40, 3) := by decide +kernel
theorem d57 : decode yB 57 = .ok (.aload_n 3, 1) := by decide +kernel
theorem d58 : decode yB 58 = .ok (.areturn, 1) := by decide +kernel
def site : List Cond := [.arrayClass .byte, Cmp5.tab] ++ staticW U16 115 Cmp5.yN
def tab : Cond := tabOf yN yB 6 (some (.array .byte)) site
def P (b : Addr) (A : Cell) (o len : Nat) (args : Array Value) (s : State) : Prop := args = #[.ref b, .int (Int32.ofNat o), .int (Int32.ofNat len)] ∧ Ch b A s ∧ o + len ≤ A.slots.size ∧ len ≤ 536870912 ∧ ∀ i, i < len → ¬ 255 < cv A (o + i)
def E (b : Addr) (A : Cell) (o len : Nat) (r : Option Value) (s u : State) : Prop := NewArr .byte "[B" len (fun j => .int (lo8 (cv A (o + j)))) r s u ∧ u.heap.size = s.heap.size + 1
/-- no char of the range above 255: a new byte[] of their low bytes -/
theorem law (l : Launch) (b : Addr) (A : Cell) (o len : Nat) : Law l yN 3 3 1 18 yB 6 (some (.array .byte)) site (P b A o len) (E b A o len) [] 1 len := by
  refine Law.of_walk (plainFor_of_name (by decide +kernel)) (by decide +kernel) (by decide +kernel) (by decide) (fun _ _ h => by rw [h.1]; rfl) (fun _ U U' hal hh h => ⟨h.1, h.2.1.mv hal hh, h.2.2⟩) (fun r U U' V V' h1 hal h2 h => ⟨NewArr.mv r U U' V V' h1 hal h2 h.1, by rw [h1, h2]; exact h.2⟩) ?_
  intro p e s m args below meth c s₁ X0 hexec hbytes hml hret hlk hnm hown hh0 W hP
  obtain ⟨rfl, hA, l1, l2, hp⟩ := hP
  have a31 := hA.1.2.2.2
  have c1 : Steps p.tables e below (s₁.setTop (entryFrame m #[.ref b, .int (Int32.ofNat o), .int (Int32.ofNat len)] 6)) (s₁.setTop (mkF m 0 #[.val (.ref b), .val (.int (Int32.ofNat o)), .val (.int (Int32.ofNat len)), .unset, .unset, .unset] [])) := entry rfl
  have c2 : Steps p.tables e below (s₁.setTop (entryFrame m #[.ref b, .int (Int32.ofNat o), .int (Int32.ofNat len)] 6)) (s₁.setTop (mkF m 1 #[.val (.ref b), .val (.int (Int32.ofNat o)), .val (.int (Int32.ofNat len)), .unset, .unset, .unset] [.int (Int32.ofNat len)])) := c1.trans (by
    refine XS.iloadN X0.here hexec rfl (hb hbytes d0) rfl ?_
    exact Steps.refl _)
  obtain ⟨T3, B3, X3, ba3, bs3, bv3, bh3, bf3, st3⟩ := X0.anew hexec (atype := .byte) (wk W (.arrayClass .byte)) rfl (by show len * 1 ≤ _; omega) (by omega) (g := (mkF m 1 #[.val (.ref b), .val (.int (Int32.ofNat o)), .val (.int (Int32.ofNat len)), .unset, .unset, .unset] [.int (Int32.ofNat len)])) rfl (hb hbytes d1) (rest := []) rfl (Nat.le_refl _) (by show 0 + len ≤ len; omega)
  rw [hh0] at ba3 st3
  have kp3 : XT.Kept s T3 := (XT.Kept.of_eq hh0).push bh3
  have hA3 := hA.keep X3.warmed.alike (kp3 _ _ hA.1.1)
  have hne : b ≠ s.heap.size := hA.1.ne
  have c4 : Steps p.tables e below (s₁.setTop (entryFrame m #[.ref b, .int (Int32.ofNat o), .int (Int32.ofNat len)] 6)) (T3.setTop (mkF m 3 #[.val (.ref b), .val (.int (Int32.ofNat o)), .val (.int (Int32.ofNat len)), .unset, .unset, .unset] [.ref s.heap.size])) := c2.trans (st3 _ (Steps.refl _))
  have c5 : Steps p.tables e below (s₁.setTop (entryFrame m #[.ref b, .int (Int32.ofNat o), .int (Int32.ofNat len)] 6)) (T3.setTop (mkF m 9 #[.val (.ref b), .val (.int (Int32.ofNat o)), .val (.int (Int32.ofNat len)), .val (.ref s.heap.size), .unset, .unset] [.int (Int32.ofNat len), .int 0, .ref s.heap.size, .int (Int32.ofNat o), .ref b])) := c4.trans (by
    refine XS.astoreN X3.here hexec rfl (hb hbytes d3) rfl rfl rfl ?_
    refine XS.aloadN X3.here hexec rfl (hb hbytes d4) rfl rfl ?_
    refine XS.iloadN X3.here hexec rfl (hb hbytes d5) rfl ?_
    refine XS.aloadN X3.here hexec rfl (hb hbytes d6) rfl rfl ?_
    refine iconstV X3.here hexec rfl 0 (hb hbytes d7) (by decide) ?_
    refine XS.iloadN X3.here hexec rfl (hb hbytes d8) rfl ?_
    exact Steps.refl _)
  obtain ⟨v6, T6, X6, E6, g6⟩ := X3.callS hexec (Cmp5.law l b A s.heap.size B3 o 0 len) hown (wks W (staticW U16 115 Cmp5.yN)) (wk W Cmp5.tab) (W := 0) (Nat.le_of_ble_eq_true rfl) (Nat.le_of_ble_eq_true rfl) (Nat.le_refl _) (by show 0 + len + 0 ≤ len; omega) (g := (mkF m 9 #[.val (.ref b), .val (.int (Int32.ofNat o)), .val (.int (Int32.ofNat len)), .val (.ref s.heap.size), .unset, .unset] [.int (Int32.ofNat len), .int (Int32.ofNat 0), .ref s.heap.size, .int (Int32.ofNat o), .ref b])) rfl (by rw [hml]; rfl) c5 (argsL := [.ref b, .int (Int32.ofNat o), .ref s.heap.size, .int (Int32.ofNat 0), .int (Int32.ofNat len)]) (rest := []) rfl rfl (by show 2 * 0 + 0 ≤ _; decide) (hb hbytes d9) (⟨rfl, hA3, ba3, hne, l1, by rw [bs3]; simp, hp⟩)
  obtain ⟨rfl, B6, p6, f6⟩ := E6
  have c7 : Steps p.tables e below (s₁.setTop (entryFrame m #[.ref b, .int (Int32.ofNat o), .int (Int32.ofNat len)] 6)) (T6.setTop (mkF m 12 #[.val (.ref b), .val (.int (Int32.ofNat o)), .val (.int (Int32.ofNat len)), .val (.ref s.heap.size), .unset, .unset] [.int (Int32.ofNat len)])) := g6
  have c8 : Steps p.tables e below (s₁.setTop (entryFrame m #[.ref b, .int (Int32.ofNat o), .int (Int32.ofNat len)] 6)) (T6.setTop (mkF m 58 #[.val (.ref b), .val (.int (Int32.ofNat o)), .val (.int (Int32.ofNat len)), .val (.ref s.heap.size), .val (.int (Int32.ofNat len)), .unset] [.ref s.heap.size])) := c7.trans (by
    refine XS.istore X6.here hexec rfl (hb hbytes d12) rfl rfl ?_
    refine XS.iload X6.here hexec rfl (hb hbytes d14) rfl ?_
    refine XS.iloadN X6.here hexec rfl (hb hbytes d16) rfl ?_
    refine XS.icmpYes X6.here hexec rfl (pc0 := 17) rfl (hb hbytes d17) rfl (ii_eq_t rfl) (by decide) rfl ?_
    refine XS.aloadN X6.here hexec rfl (hb hbytes d57) rfl rfl ?_
    exact Steps.refl _)
  have X8 := X6.wide (L' := []) (cells' := 1) (slots' := len) (fun x hx hlt => by
    simp only [List.nil_append, copyLocs, List.mem_map, List.mem_range] at hx
    obtain ⟨i, -, rfl⟩ := hx
    exact absurd hlt (Nat.lt_irrefl _)) (Nat.le_refl _) (by omega)
  exact ⟨T6, some (.ref s.heap.size), _, _, _, X8, rfl, rfl, rfl, (fun h => by cases h), ⟨⟨rfl, B6, ba3.like (X3.warmed.alike.symm.trans X6.warmed.alike) p6.1 f6.1 f6.2.1 f6.2.2.1, f6.2.1.trans bv3, by rw [X6.warmed.alike.findClass, f6.1]; exact bf3, by rw [f6.2.2.1, bs3]; simp, fun j hj => by rw [f6.2.2.2 j, if_pos (by omega)]; rfl, kp3.put p6 (Nat.le_refl _)⟩, by rw [p6.2.2, bh3, hh0]; simp⟩, fun fs hl => c8.trans (X8.areturnOut hexec rfl hret rfl (hb hbytes d58) hl)⟩
end Cmp3
namespace CodL
def yN : MethodName := ⟨"java/lang/StringUTF16", "coderFromArrayLen", "([BI)B"⟩
abbrev yB : ByteArray := jdk_52_method_15_code
theorem d0 : decode yB 0 = .ok (.iload_n 1, 1) := by decide +kernel
theorem d1 : decode yB 1 = .ok (.aload_n 0, 1) := by decide +kernel
theorem d2 : decode yB 2 = .ok (.arraylength, 1) := by decide +kernel
theorem d3 : decode yB 3 = .ok (.isub, 1) := by decide +kernel
theorem d4 : decode yB 4 = .ok (.bipush 31, 2) := by decide +kernel
theorem d6 : decode yB 6 = .ok (.iushr, 1) := by decide +kernel
theorem d7 : decode yB 7 = .ok (.i2b, 1) := by decide +kernel
theorem d8 : decode yB 8 = .ok (.ireturn, 1) := by decide +kernel
def site : List Cond := []
def tab : Cond := tabOf yN yB 2 (some .byte) site
def P (d : Addr) (B : Cell) (args : Array Value) (s : State) : Prop := args = #[.ref d, .int (Int32.ofNat B.slots.size)] ∧ Arr .byte d B s
def E (r : Option Value) (s u : State) : Prop := XT.PureE (some (.int 0)) r s u
/-- an array as long as the number of chars: LATIN1 -/
theorem law (l : Launch) (d : Addr) (B : Cell) : Law l yN 2 2 0 0 yB 2 (some .byte) site (P d B) E [] 0 0 := by
  refine Law.of_walk (plainFor_of_name (by decide +kernel)) (by decide +kernel) (by decide +kernel) (by decide) (fun _ _ h => by rw [h.1]; rfl) (fun _ U U' hal hh h => ⟨h.1, h.2.mv hal hh⟩) (fun r U U' V V' h1 hal h2 h => XT.PureE.mv r U U' V V' h1 hal h2 h) ?_
  intro p e s m args below meth c s₁ X0 hexec hbytes hml hret hlk hnm hown hh0 W hP
  obtain ⟨rfl, hB⟩ := hP
  have hB0 := hB.mv X0.warmed.alike hh0
  have c1 : Steps p.tables e below (s₁.setTop (entryFrame m #[.ref d, .int (Int32.ofNat B.slots.size)] 2)) (s₁.setTop (mkF m 0 #[.val (.ref d), .val (.int (Int32.ofNat B.slots.size))] [])) := entry rfl
  have c2 : Steps p.tables e below (s₁.setTop (entryFrame m #[.ref d, .int (Int32.ofNat B.slots.size)] 2)) (s₁.setTop (mkF m 2 #[.val (.ref d), .val (.int (Int32.ofNat B.slots.size))] [.ref d, .int (Int32.ofNat B.slots.size)])) := c1.trans (by
    refine XS.iloadN X0.here hexec rfl (hb hbytes d0) rfl ?_
    refine XS.aloadN X0.here hexec rfl (hb hbytes d1) rfl rfl ?_
    exact Steps.refl _)
  have c3 : Steps p.tables e below (s₁.setTop (entryFrame m #[.ref d, .int (Int32.ofNat B.slots.size)] 2)) (s₁.setTop (mkF m 8 #[.val (.ref d), .val (.int (Int32.ofNat B.slots.size))] [.int (lo8 (ushr (Int32.ofNat B.slots.size - Int32.ofNat B.slots.size) 31))])) := c2.trans (by
    refine X0.alen hexec hB0 rfl rfl (hb hbytes d2) ?_
    refine XS.isub X0.here hexec rfl (hb hbytes d3) rfl ?_
    refine bipushV X0.here hexec rfl 31 (hb hbytes d4) (by decide) ?_
    refine iushr X0.here hexec rfl (hb hbytes d6) rfl ?_
    refine i2b X0.here hexec rfl (hb hbytes d7) rfl ?_
    exact Steps.refl _)
  have e0 : lo8 (ushr (Int32.ofNat B.slots.size - Int32.ofNat B.slots.size) 31) = 0 := by rw [Int32.sub_self]; decide
  rw [e0] at c3
  exact ⟨s₁, some (.int 0), _, _, _, X0, rfl, rfl, rfl, (fun h => by cases h), ⟨rfl, hh0⟩, fun fs hl => c3.trans (X0.ireturnOut hexec hret rfl (Or.inr (Or.inr (Or.inl rfl))) (hb hbytes d8) hl)⟩
end CodL
/-- the String at a is Latin-1 over a new byte[] (the heap's one new cell): the low bytes of the len chars of A from o on; every cell but a is kept -/
def Got (a : Addr) (D : Cell) (fV fC : Field) (A : Cell) (o len : Nat) (r : Option Value) (s u : State) : Prop := r = none ∧ ∃ D' V : Cell, Blank "java/lang/String" a D' u ∧ Same D D' [fV.slot, fC.slot] ∧ D'.slots[fV.slot]? = some (.ref s.heap.size) ∧ D'.slots[fC.slot]? = some (.int 0) ∧ Arr .byte s.heap.size V u ∧ V.vm = .none ∧ u.vm.findClass "[B" = some V.cls ∧ V.slots.size = len ∧ (∀ j, j < len → V.slots[j]? = some (.int (lo8 (cv A (o + j))))) ∧ (∀ (y : Addr) (c : Cell), y ≠ a → s.heap[y]? = some c → u.heap[y]? = some c) ∧ u.heap.size = s.heap.size + 1
theorem Got.mv {a : Addr} {D A : Cell} {fV fC : Field} {o len : Nat} : ∀ r (U U' V V' : State), U'.heap = U.heap → V.vm.Alike V'.vm → V'.heap = V.heap → Got a D fV fC A o len r U V → Got a D fV fC A o len r U' V' :=
  fun r U U' V V' h1 hal h2 ⟨e0, D', X, a1, a2, a3, a4, a5, a6, a7, a8, a9, a10, a11⟩ => ⟨e0, D', X, a1.mv hal h2, a2, by rw [h1]; exact a3, a4, by rw [h1]; exact a5.mv hal h2, a6, by rw [hal.findClass]; exact a7, a8, a9, by rw [h1, h2]; exact a10, by rw [h1, h2]; exact a11⟩
namespace New4
def yN : MethodName := ⟨"java/lang/String", "<init>", "([CIILjava/lang/Void;)V"⟩
abbrev yB : ByteArray := jdk_42_method_149_code
theorem d0 : decode yB 0 = .ok (.aload_n 0, 1) := by decide +kernel
theorem d1 : decode yB 1 = .ok (.invokespecial 1, 3) := by decide +kernel
theorem d4 : decode yB 4 = .ok (.iload_n 3, 1) := by decide +kernel
theorem d5 : decode yB 5 = .ok (.ifCond (.ne) 22, 3) := by decide +kernel
theorem d27 : decode yB 27 = .ok (.getstatic 38, 3) := by decide +kernel
theorem d30 : decode yB 30 = .ok (.ifCond (.eq) 28, 3) := by decide +kernel
theorem d33 : decode yB 33 = .ok (.aload_n 1, 1) := by decide +kernel
theorem d34 : decode yB 34 = .ok (.iload_n 2, 1) := by decide +kernel
theorem d35 : decode yB 35 = .ok (.iload_n 3, 1) := by decide +kernel
theorem d36 : decode yB 36 = .ok (.invokestatic 177, 3) := by decide +kernel
theorem d39 : decode yB 39 = .ok (.astore 5, 2) := by decide +kernel
theorem d41 : decode yB 41 = .ok (.aload_n 0, 1) := by decide +kernel
theorem d42 : decode yB 42 = .ok (.aload 5, 2) := by decide +kernel
theorem d44 : decode yB 44 = .ok (.iload_n 3, 1) := by decide +kernel
theorem d45 : decode yB 45 = .ok (.invokestatic 47, 3) := by decide +kernel
theorem d48 : decode yB 48 = .ok (.putfield 15, 3) := by decide +kernel
theorem d51 : decode yB 51 = .ok (.aload_n 0, 1) := by decide +kernel
theorem d52 : decode yB 52 = .ok (.aload 5, 2) := by decide +kernel
theorem d54 : decode yB 54 = .ok (.putfield 9, 3) := by decide +kernel
theorem d57 : decode yB 57 = .ok (.return_, 1) := by decide +kernel
def site : List Cond := [.fieldLink "java/lang/String" 38 "java/lang/String" "COMPACT_STRINGS" "Z", Cmp3.tab, CodL.tab, .laysFinal "java/lang/String" "java/lang/String" "value" "[B", .fieldLink "java/lang/String" 9 "java/lang/String" "value" "[B", .laysFinal "java/lang/String" "java/lang/String" "coder" "B", .fieldLink "java/lang/String" 15 "java/lang/String" "coder" "B"] ++ objW "java/lang/String" 1 ++ staticW "java/lang/String" 177 Cmp3.yN ++ staticW "java/lang/String" 47 CodL.yN
def tab : Cond := tabOf yN yB 6 none site
def P (a : Addr) (D : Cell) (fV fC : Field) (b : Addr) (A : Cell) (z : Int32) (o len : Nat) (args : Array Value) (s : State) : Prop := args = #[.ref a, .ref b, .int (Int32.ofNat o), .int (Int32.ofNat len), .null] ∧ Blank "java/lang/String" a D s ∧ Found "java/lang/String" "value" "[B" fV s ∧ Found "java/lang/String" "coder" "B" fC s ∧ Ch b A s ∧ StaticIs s "java/lang/String" "COMPACT_STRINGS" "Z" (.int z) ∧ ¬ z = 0 ∧ 0 < len ∧ o + len ≤ A.slots.size ∧ len ≤ 536870912 ∧ ∀ i, i < len → ¬ 255 < cv A (o + i)
def E (a : Addr) (D : Cell) (fV fC : Field) (A : Cell) (o len : Nat) (r : Option Value) (s u : State) : Prop := Got a D fV fC A o len r s u
/-- len > 0, no char of the range above 255: a Latin-1 String of their low bytes -/
theorem law (l : Launch) (a : Addr) (D : Cell) (fV fC : Field) (b : Addr) (A : Cell) (z : Int32) (o len : Nat) : Law l yN 5 4 2 35 yB 6 none site (P a D fV fC b A z o len) (E a D fV fC A o len) [⟨a, fC.slot⟩, ⟨a, fV.slot⟩] 1 len := by
  refine Law.of_walk (plainFor_of_name (by decide +kernel)) (by decide +kernel) (by decide +kernel) (by decide) (fun _ _ h => by rw [h.1]; rfl) (fun _ U U' hal hh h => ⟨h.1, h.2.1.mv hal hh, h.2.2.1.al hal, h.2.2.2.1.al hal, h.2.2.2.2.1.mv hal hh, h.2.2.2.2.2.1.there hal hh, h.2.2.2.2.2.2⟩) (fun r U U' V V' h1 hal h2 h => Got.mv r U U' V V' h1 hal h2 h) ?_
  intro p e s m args below meth c s₁ X0 hexec hbytes hml hret hlk hnm hown hh0 W hP
  obtain ⟨rfl, hB, f1, f2, hA, s1, hz, l0, l1, l2, hp⟩ := hP
  have a31 := hA.1.2.2.2
  have c1 : Steps p.tables e below (s₁.setTop (entryFrame m #[.ref a, .ref b, .int (Int32.ofNat o), .int (Int32.ofNat len), .null] 6)) (s₁.setTop (mkF m 0 #[.val (.ref a), .val (.ref b), .val (.int (Int32.ofNat o)), .val (.int (Int32.ofNat len)), .val .null, .unset] [])) := entry rfl
  have c2 : Steps p.tables e below (s₁.setTop (entryFrame m #[.ref a, .ref b, .int (Int32.ofNat o), .int (Int32.ofNat len), .null] 6)) (s₁.setTop (mkF m 1 #[.val (.ref a), .val (.ref b), .val (.int (Int32.ofNat o)), .val (.int (Int32.ofNat len)), .val .null, .unset] [.ref a])) := c1.trans (by
    refine XS.aloadN X0.here hexec rfl (hb hbytes d0) rfl rfl ?_
    exact Steps.refl _)
  obtain ⟨T3, X3, q3, st3⟩ := X0.oinit hexec hown (wks W (objW "java/lang/String" 1)) (g := (mkF m 1 #[.val (.ref a), .val (.ref b), .val (.int (Int32.ofNat o)), .val (.int (Int32.ofNat len)), .val .null, .unset] [.ref a])) rfl (by rw [hml]; rfl) (rest := []) rfl (hb hbytes d1) (W := 0) (by show 2 * 0 + 0 ≤ _; decide) (Nat.le_of_ble_eq_true rfl) (Nat.le_of_ble_eq_true rfl)
  have hh3 := q3.trans hh0
  have c4 : Steps p.tables e below (s₁.setTop (entryFrame m #[.ref a, .ref b, .int (Int32.ofNat o), .int (Int32.ofNat len), .null] 6)) (T3.setTop (mkF m 27 #[.val (.ref a), .val (.ref b), .val (.int (Int32.ofNat o)), .val (.int (Int32.ofNat len)), .val .null, .unset] [])) := (c2.trans (st3 _ (Steps.refl _))).trans (by
    refine XS.iloadN X3.here hexec rfl (hb hbytes d4) rfl ?_
    refine XS.ifYes X3.here hexec rfl (pc0 := 5) rfl (hb hbytes d5) rfl (i0_ne_t (nz32 (by omega) l0)) (by decide) rfl ?_
    exact Steps.refl _)
  obtain ⟨T5, X5, q5, st5⟩ := X3.sget hexec hown (wk W (.fieldLink "java/lang/String" 38 "java/lang/String" "COMPACT_STRINGS" "Z")) s1 (fun _ _ h => by rw [hh3]; exact h) (g := (mkF m 27 #[.val (.ref a), .val (.ref b), .val (.int (Int32.ofNat o)), .val (.int (Int32.ofNat len)), .val .null, .unset] [])) rfl (hb hbytes d27)
  have hh5 := q5.trans hh3
  have c6 : Steps p.tables e below (s₁.setTop (entryFrame m #[.ref a, .ref b, .int (Int32.ofNat o), .int (Int32.ofNat len), .null] 6)) (T5.setTop (mkF m 30 #[.val (.ref a), .val (.ref b), .val (.int (Int32.ofNat o)), .val (.int (Int32.ofNat len)), .val .null, .unset] [.int z])) := c4.trans (st5 _ (Steps.refl _))
  have c7 : Steps p.tables e below (s₁.setTop (entryFrame m #[.ref a, .ref b, .int (Int32.ofNat o), .int (Int32.ofNat len), .null] 6)) (T5.setTop (mkF m 36 #[.val (.ref a), .val (.ref b), .val (.int (Int32.ofNat o)), .val (.int (Int32.ofNat len)), .val .null, .unset] [.int (Int32.ofNat len), .int (Int32.ofNat o), .ref b])) := c6.trans (by
    refine XS.ifNo X5.here hexec rfl (hb hbytes d30) rfl (i0_eq_f hz) ?_
    refine XS.aloadN X5.here hexec rfl (hb hbytes d33) rfl rfl ?_
    refine XS.iloadN X5.here hexec rfl (hb hbytes d34) rfl ?_
    refine XS.iloadN X5.here hexec rfl (hb hbytes d35) rfl ?_
    exact Steps.refl _)
  obtain ⟨v8, T8, X8, E8, g8⟩ := X5.callS hexec (Cmp3.law l b A o len) hown (wks W (staticW "java/lang/String" 177 Cmp3.yN)) (wk W Cmp3.tab) (W := 0) (Nat.le_of_ble_eq_true rfl) (Nat.le_of_ble_eq_true rfl) (Nat.le_refl _) (by show 0 + len ≤ len; omega) (g := (mkF m 36 #[.val (.ref a), .val (.ref b), .val (.int (Int32.ofNat o)), .val (.int (Int32.ofNat len)), .val .null, .unset] [.int (Int32.ofNat len), .int (Int32.ofNat o), .ref b])) rfl (by rw [hml]; rfl) c7 (argsL := [.ref b, .int (Int32.ofNat o), .int (Int32.ofNat len)]) (rest := []) rfl rfl (by show 2 * 0 + 0 ≤ _; decide) (hb hbytes d36) (⟨rfl, hA.mv X5.warmed.alike hh5, l1, l2, hp⟩)
  obtain ⟨e8, z8⟩ := E8
  obtain ⟨rfl, N, n1, n2, n3, n4, n5, n6⟩ := NewArr.mv _ T5 s _ _ hh5.symm (Vm.Alike.refl _) rfl e8
  rw [hh5] at z8
  have hB1 := hB.keep X8.warmed.alike (n6 _ _ hB.1)
  have hne : s.heap.size ≠ a := (Nat.ne_of_lt (Array.getElem?_eq_some_iff.mp hB.1).1).symm
  have c9 : Steps p.tables e below (s₁.setTop (entryFrame m #[.ref a, .ref b, .int (Int32.ofNat o), .int (Int32.ofNat len), .null] 6)) (T8.setTop (mkF m 39 #[.val (.ref a), .val (.ref b), .val (.int (Int32.ofNat o)), .val (.int (Int32.ofNat len)), .val .null, .unset] [.ref s.heap.size])) := g8
  have c10 : Steps p.tables e below (s₁.setTop (entryFrame m #[.ref a, .ref b, .int (Int32.ofNat o), .int (Int32.ofNat len), .null] 6)) (T8.setTop (mkF m 45 #[.val (.ref a), .val (.ref b), .val (.int (Int32.ofNat o)), .val (.int (Int32.ofNat len)), .val .null, .val (.ref s.heap.size)] [.int (Int32.ofNat N.slots.size), .ref s.heap.size, .ref a])) := by
    have hc : Steps p.tables e below (s₁.setTop (entryFrame m #[.ref a, .ref b, .int (Int32.ofNat o), .int (Int32.ofNat len), .null] 6)) (T8.setTop (mkF m 45 #[.val (.ref a), .val (.ref b), .val (.int (Int32.ofNat o)), .val (.int (Int32.ofNat len)), .val .null, .val (.ref s.heap.size)] [.int (Int32.ofNat len), .ref s.heap.size, .ref a])) := c9.trans (by
      refine XS.astore X8.here hexec rfl (hb hbytes d39) rfl rfl rfl ?_
      refine XS.aloadN X8.here hexec rfl (hb hbytes d41) rfl rfl ?_
      refine XS.aload X8.here hexec rfl (hb hbytes d42) rfl rfl ?_
      refine XS.iloadN X8.here hexec rfl (hb hbytes d44) rfl ?_
      exact Steps.refl _)
    rw [n4]; exact hc
  obtain ⟨v11, T11, X11, E11, g11⟩ := X8.callS hexec (CodL.law l s.heap.size N) hown (wks W (staticW "java/lang/String" 47 CodL.yN)) (wk W CodL.tab) (W := 1) (Nat.le_of_ble_eq_true rfl) (Nat.le_of_ble_eq_true rfl) (Nat.le_refl _) (by show 0 + len + 0 ≤ len; omega) (g := (mkF m 45 #[.val (.ref a), .val (.ref b), .val (.int (Int32.ofNat o)), .val (.int (Int32.ofNat len)), .val .null, .val (.ref s.heap.size)] [.int (Int32.ofNat N.slots.size), .ref s.heap.size, .ref a])) rfl (by rw [hml]; rfl) c10 (argsL := [.ref s.heap.size, .int (Int32.ofNat N.slots.size)]) (rest := [.ref a]) rfl rfl (by show 2 * 0 + (1 + 0) ≤ _; decide) (hb hbytes d45) (⟨rfl, n1⟩)
  obtain ⟨rfl, q11⟩ := E11
  have hB11 := hB1.mv (X8.warmed.alike.symm.trans X11.warmed.alike) q11
  have c12 : Steps p.tables e below (s₁.setTop (entryFrame m #[.ref a, .ref b, .int (Int32.ofNat o), .int (Int32.ofNat len), .null] 6)) (T11.setTop (mkF m 48 #[.val (.ref a), .val (.ref b), .val (.int (Int32.ofNat o)), .val (.int (Int32.ofNat len)), .val .null, .val (.ref s.heap.size)] [.int 0, .ref a])) := g11
  obtain ⟨T13, X13, p13, bl13, sl13, st13⟩ := X11.finit hexec hown (wk W (.fieldLink "java/lang/String" 15 "java/lang/String" "coder" "B")) (Or.inr ⟨_, (wk W (.laysFinal "java/lang/String" "java/lang/String" "coder" "B"))⟩) (Or.inl ⟨rfl, hnm⟩) f2 (Or.inl rfl) hB11 (t := .byte) (by decide +kernel) rfl (g := (mkF m 48 #[.val (.ref a), .val (.ref b), .val (.int (Int32.ofNat o)), .val (.int (Int32.ofNat len)), .val .null, .val (.ref s.heap.size)] [.int 0, .ref a])) rfl (rest := []) rfl (hb hbytes d48)
  have c14 : Steps p.tables e below (s₁.setTop (entryFrame m #[.ref a, .ref b, .int (Int32.ofNat o), .int (Int32.ofNat len), .null] 6)) (T13.setTop (mkF m 54 #[.val (.ref a), .val (.ref b), .val (.int (Int32.ofNat o)), .val (.int (Int32.ofNat len)), .val .null, .val (.ref s.heap.size)] [.ref s.heap.size, .ref a])) := (c12.trans (st13 _ (Steps.refl _))).trans (by
    refine XS.aloadN X13.here hexec rfl (hb hbytes d51) rfl rfl ?_
    refine XS.aload X13.here hexec rfl (hb hbytes d52) rfl rfl ?_
    exact Steps.refl _)
  obtain ⟨T15, X15, p15, bl15, sl15, st15⟩ := X13.finit hexec hown (wk W (.fieldLink "java/lang/String" 9 "java/lang/String" "value" "[B")) (Or.inr ⟨_, (wk W (.laysFinal "java/lang/String" "java/lang/String" "value" "[B"))⟩) (Or.inl ⟨rfl, hnm⟩) f1 (Or.inl rfl) bl13 (t := (.array .byte)) (by decide +kernel) rfl (g := (mkF m 54 #[.val (.ref a), .val (.ref b), .val (.int (Int32.ofNat o)), .val (.int (Int32.ofNat len)), .val .null, .val (.ref s.heap.size)] [.ref s.heap.size, .ref a])) rfl (rest := []) rfl (hb hbytes d54)
  have c16 : Steps p.tables e below (s₁.setTop (entryFrame m #[.ref a, .ref b, .int (Int32.ofNat o), .int (Int32.ofNat len), .null] 6)) (T15.setTop (mkF m 57 #[.val (.ref a), .val (.ref b), .val (.int (Int32.ofNat o)), .val (.int (Int32.ofNat len)), .val .null, .val (.ref s.heap.size)] [])) := c14.trans (st15 _ (Steps.refl _))
  have ap := apart (Or.inr ⟨_, (wk W (.laysFinal "java/lang/String" "java/lang/String" "value" "[B"))⟩) (Or.inr ⟨_, (wk W (.laysFinal "java/lang/String" "java/lang/String" "coder" "B"))⟩) f1 f2 (t₁ := .array .byte) (t₂ := .byte) (by decide +kernel) (by decide +kernel) (by decide)
  have al := X8.warmed.alike.symm.trans X15.warmed.alike
  have n7 : T11.heap[s.heap.size]? = some N := by rw [q11]; exact n1.1
  exact ⟨T15, none, _, _, _, X15, by simp, rfl, by omega, (fun _ => rfl), ⟨rfl, _, N, bl15, ((Same.refl D _).set _ (by simp)).set _ (by simp), sl15, (Cell.slots_setSlot_ne _ ap).trans sl13, n1.keep al (p15.other hne (p13.other hne n7)), n2, by rw [al.findClass]; exact n3, n4, n5, fun y c h1 h2 => p15.other h1 (p13.other h1 (by rw [q11]; exact n6 y c h2)), by rw [p15.2.2, p13.2.2, q11]; exact z8⟩, fun fs hl => c16.trans (X15.returnOut hexec hret (hb hbytes d57) hl)⟩
end New4
namespace New1
def yN : MethodName := ⟨"java/lang/String", "<init>", "([C)V"⟩
abbrev yB : ByteArray := jdk_42_method_3_code
theorem d0 : decode yB 0 = .ok (.aload_n 0, 1) := by decide +kernel
theorem d1 : decode yB 1 = .ok (.aload_n 1, 1) := by decide +kernel
theorem d2 : decode yB 2 = .ok (.iconst 0, 1) := by decide +kernel
theorem d3 : decode yB 3 = .ok (.aload_n 1, 1) := by decide +kernel
theorem d4 : decode yB 4 = .ok (.arraylength, 1) := by decide +kernel
theorem d5 : decode yB 5 = .ok (.aconst_null, 1) := by decide +kernel
theorem d6 : decode yB 6 = .ok (.invokespecial 27, 3) := by decide +kernel
theorem d9 : decode yB 9 = .ok (.return_, 1) := by decide +kernel
def site : List Cond := [New4.tab] ++ initW "java/lang/String" 27 New4.yN
def tab : Cond := tabOf yN yB 2 none site
def P (a : Addr) (D : Cell) (fV fC : Field) (b : Addr) (A : Cell) (z : Int32) (args : Array Value) (s : State) : Prop := args = #[.ref a, .ref b] ∧ Blank "java/lang/String" a D s ∧ Found "java/lang/String" "value" "[B" fV s ∧ Found "java/lang/String" "coder" "B" fC s ∧ Ch b A s ∧ StaticIs s "java/lang/String" "COMPACT_STRINGS" "Z" (.int z) ∧ ¬ z = 0 ∧ 0 < A.slots.size ∧ A.slots.size ≤ 536870912 ∧ ∀ i, i < A.slots.size → ¬ 255 < cv A i
def E (a : Addr) (D : Cell) (fV fC : Field) (A : Cell) (r : Option Value) (s u : State) : Prop := Got a D fV fC A 0 A.slots.size r s u
/-- new String(chars), not empty, no char above 255: a Latin-1 String of their low bytes -/
theorem law (l : Launch) (a : Addr) (D : Cell) (fV fC : Field) (b : Addr) (A : Cell) (z : Int32) : Law l yN 2 1 3 52 yB 2 none site (P a D fV fC b A z) (E a D fV fC A) [⟨a, fC.slot⟩, ⟨a, fV.slot⟩] 1 A.slots.size := by
  refine Law.of_walk (plainFor_of_name (by decide +kernel)) (by decide +kernel) (by decide +kernel) (by decide) (fun _ _ h => by rw [h.1]; rfl) (fun _ U U' hal hh h => ⟨h.1, h.2.1.mv hal hh, h.2.2.1.al hal, h.2.2.2.1.al hal, h.2.2.2.2.1.mv hal hh, h.2.2.2.2.2.1.there hal hh, h.2.2.2.2.2.2⟩) (fun r U U' V V' h1 hal h2 h => Got.mv r U U' V V' h1 hal h2 h) ?_
  intro p e s m args below meth c s₁ X0 hexec hbytes hml hret hlk hnm hown hh0 W hP
  obtain ⟨rfl, hB, f1, f2, hA, s1, hz, l0, l2, hp⟩ := hP
  have c1 : Steps p.tables e below (s₁.setTop (entryFrame m #[.ref a, .ref b] 2)) (s₁.setTop (mkF m 0 #[.val (.ref a), .val (.ref b)] [])) := entry rfl
  have c2 : Steps p.tables e below (s₁.setTop (entryFrame m #[.ref a, .ref b] 2)) (s₁.setTop (mkF m 6 #[.val (.ref a), .val (.ref b)] [.null, .int (Int32.ofNat A.slots.size), .int 0, .ref b, .ref a])) := c1.trans (by
    refine XS.aloadN X0.here hexec rfl (hb hbytes d0) rfl rfl ?_
    refine XS.aloadN X0.here hexec rfl (hb hbytes d1) rfl rfl ?_
    refine iconstV X0.here hexec rfl 0 (hb hbytes d2) (by decide) ?_
    refine XS.aloadN X0.here hexec rfl (hb hbytes d3) rfl rfl ?_
    refine X0.alen hexec (hA.1.mv X0.warmed.alike hh0) rfl rfl (hb hbytes d4) ?_
    refine XS.aconstNull X0.here hexec rfl (hb hbytes d5) ?_
    exact Steps.refl _)
  obtain ⟨v3, T3, X3, E3, g3⟩ := X0.callN hexec (New4.law l a D fV fC b A z 0 A.slots.size) rfl hown (wks W (initW "java/lang/String" 27 New4.yN)) (W New4.tab (by simp only [site, List.mem_cons, List.mem_append, true_or, or_true])) (W := 0) (Nat.le_of_ble_eq_true rfl) (Nat.le_of_ble_eq_true rfl) (Nat.le_refl _) (by show 0 + A.slots.size ≤ A.slots.size; omega) (g := (mkF m 6 #[.val (.ref a), .val (.ref b)] [.null, .int (Int32.ofNat A.slots.size), .int (Int32.ofNat 0), .ref b, .ref a])) rfl (by rw [hml]; rfl) c2 (argsL := [.ref b, .int (Int32.ofNat 0), .int (Int32.ofNat A.slots.size), .null]) (rest := []) rfl rfl (by show 2 * 0 + 0 ≤ _; decide) (hb hbytes d6) (⟨rfl, hB.mv X0.warmed.alike hh0, f1.al X0.warmed.alike, f2.al X0.warmed.alike, hA.mv X0.warmed.alike hh0, s1.there X0.warmed.alike hh0, hz, l0, by omega, l2, fun i hi => by rw [Nat.zero_add]; exact hp i hi⟩)
  have e0 := Got.mv _ s₁ s _ _ hh0.symm (Vm.Alike.refl _) rfl E3
  obtain rfl := e0.1
  have c4 : Steps p.tables e below (s₁.setTop (entryFrame m #[.ref a, .ref b] 2)) (T3.setTop (mkF m 9 #[.val (.ref a), .val (.ref b)] [])) := g3
  exact ⟨T3, none, _, _, _, X3, by simp, rfl, by omega, (fun _ => rfl), e0, fun fs hl => c4.trans (X3.returnOut hexec hret (hb hbytes d9) hl)⟩
theorem pays {l : Launch} {R : Room} {p : Program} {e : Env} {below : List Frame} {s : State} {sargs : Array Value} {len W : Nat} (a : Addr) (D : Cell) (fV fC : Field) (b : Addr) (A : Cell) (z : Int32) (htab : tab.before sargs s = true) (hfr : 4 ≤ R.frames) (hlo : W + 65 ≤ R.locals) :
    Back l R p e below s sargs yN len W (fun A₁ a₁ => A₁.cells + 1 ≤ R.cells ∧ A₁.slots + A.slots.size ≤ R.slots ∧ P a D fV fC b A z a₁ A₁.U) (fun A₁ _ v₁ B₁ => E a D fV fC A v₁ A₁.U B₁.U ∧ B₁.locs = A₁.locs ++ [⟨a, fC.slot⟩, ⟨a, fV.slot⟩] ∧ B₁.cells = A₁.cells + 1 ∧ B₁.slots = A₁.slots + A.slots.size) :=
  (law l a D fV fC b A z).pays htab hfr (by omega)
end New1
end StrChars
namespace StrChars.Road
open Jvm Sem ClassFile Op Lib Jvm.Stand Jvm.Free Jvm.Free.XT
open Jvm.Lib.Cold (StaticIs)
abbrev ST : String := "java/lang/String"
/-- every table word that New1's law asks, flat -/
abbrev words : List Jvm.Cond := [.code New1.yN New1.yB 2 none, .initialized ST, .methodLink ST 27 New4.yN, .instanceMethod New4.yN,
  .code New4.yN New4.yB 6 none, .fieldLink ST 38 ST "COMPACT_STRINGS" "Z", .laysFinal ST ST "value" "[B", .fieldLink ST 9 ST "value" "[B", .laysFinal ST ST "coder" "B", .fieldLink ST 15 ST "coder" "B",
  .methodLink ST 1 Lib.objectInit, .instanceMethod Lib.objectInit, .code Lib.objectInit ⟨#[0xb1]⟩ 1 none, .methodLink ST 177 Cmp3.yN, .static Cmp3.yN, .methodLink ST 47 CodL.yN, .static CodL.yN,
  .code Cmp3.yN Cmp3.yB 6 (some (.array .byte)), .initialized U16, .arrayClass .byte, .methodLink U16 115 Cmp5.yN, .static Cmp5.yN, .code Cmp5.yN Cmp5.yB 7 (some .int), .code CodL.yN CodL.yB 2 (some .byte)]
theorem tab_of {a : Array Value} {s : State} (h : ∀ w ∈ words, w.before a s = true) : New1.tab.before a s = true := by
  have h5 : Cmp5.tab.before a s = true := unparts (wk h (.code Cmp5.yN Cmp5.yB 7 (some .int))) (wks h (.initialized Cmp5.yN.cls :: Cmp5.site))
  have hc : CodL.tab.before a s = true := unparts (wk h (.code CodL.yN CodL.yB 2 (some .byte))) (wks h (.initialized CodL.yN.cls :: CodL.site))
  have q5 : ∀ w ∈ Cmp5.tab :: words, w.before a s = true := fun w hw => (List.mem_cons.mp hw).elim (fun e => e ▸ h5) (h w)
  have h3 : Cmp3.tab.before a s = true := unparts (wk q5 (.code Cmp3.yN Cmp3.yB 6 (some (.array .byte)))) (wks q5 (.initialized Cmp3.yN.cls :: Cmp3.site))
  have q3 : ∀ w ∈ Cmp3.tab :: CodL.tab :: words, w.before a s = true := fun w hw => (List.mem_cons.mp hw).elim (fun e => e ▸ h3) fun hw => (List.mem_cons.mp hw).elim (fun e => e ▸ hc) (h w)
  have h4 : New4.tab.before a s = true := unparts (wk q3 (.code New4.yN New4.yB 6 none)) (wks q3 (.initialized New4.yN.cls :: New4.site))
  have q4 : ∀ w ∈ New4.tab :: words, w.before a s = true := fun w hw => (List.mem_cons.mp hw).elim (fun e => e ▸ h4) (h w)
  exact unparts (wk q4 (.code New1.yN New1.yB 2 none)) (wks q4 (.initialized New1.yN.cls :: New1.site))
/-- the words ride from the start Z to the walk's own state -/
theorem moved {Z s : State} {a0 args : Array Value} (hZ : Z.Warmed39 s.vm) (hw : ∀ d ∈ words, d.before a0 Z = true) : ∀ d ∈ words, d.before args s = true := fun d hd => by
  have q := hw d hd
  have t : ∀ d ∈ words, d = .arrayClass .byte ∨ (d.onTables && d.keepsFace) = true := by decide +kernel
  rcases t d hd with rfl | t
  · exact RoadKit.mvA hZ q
  · exact RoadKit.mv hZ q t
/-- WHAT COMES BACK, over the tables of the start Z: h the heap at the call, h' behind it -/
def Q (Z : State) (x : Addr) (A : Cell) (h : Heap) (v : Option Value) (h' : Heap) (L : List Loc) : Prop := v = none ∧ (∀ y ∈ L, y.base = x) ∧ RoadKit.Keep h h' [x] ∧ h'.size = h.size + 1 ∧ RoadKit.Exa Z h' x ST ∧ RoadKit.Fld Z h' x ST "value" "[B" (.ref h.size) ∧ RoadKit.Fld Z h' x ST "coder" "B" (.int 0) ∧
  (∃ V : Cell, RoadKit.Arr Z h' h.size V .byte ∧ V.vm = .none ∧ Z.vm.findClass "[B" = some V.cls ∧ V.slots.size = A.slots.size ∧ ∀ j, j < A.slots.size → V.slots[j]? = some (.int (lo8 (cv A j)))) ∧
  ∀ (O n d : String) (w : Value), RoadKit.Fld Z h x O n d w → RoadKit.slotOf Z O n d ≠ RoadKit.slotOf Z ST "value" "[B" → RoadKit.slotOf Z O n d ≠ RoadKit.slotOf Z ST "coder" "B" → RoadKit.Fld Z h' x O n d w
/-- **new String(chars) AT A CALL, IN THE ROAD'S FORM**: for specialBack behind newO: x the fresh String, b the char[] with the cell A -/
theorem back {p : Program} {l : Launch} {e : Env} {R : Room} {s : State} {args : Array Value} {below : List Frame} {len W : Nat} {Z : State} {a0 : Array Value} {h : Heap} (hZ : Z.Warmed39 s.vm) (hw : ∀ d ∈ words, d.before a0 Z = true) {kI : Nat} (wi : (Jvm.Cond.instantiable ST kI).before a0 Z = true)
    {x b : Addr} {A : Cell} {z : Int32} {v0 c0 : Value} (E : RoadKit.Exa Z h x ST) (V : RoadKit.Fld Z h x ST "value" "[B" v0) (C : RoadKit.Fld Z h x ST "coder" "B" c0) (K : RoadKit.Arr Z h b A .char) (hty : Typed .char A) (S : RoadKit.Sta Z h ST "COMPACT_STRINGS" "Z" (.int z)) (hz : ¬ z = 0)
    (l0 : 0 < A.slots.size) (l2 : A.slots.size ≤ 536870912) (hp : ∀ i, i < A.slots.size → ¬ 255 < cv A i) (hfr : 4 ≤ R.frames) (hlo : W + 65 ≤ R.locals) :
    Back l R p e below s args New1.yN len W (fun P a => a = #[.ref x, .ref b] ∧ P.U.heap = h ∧ P.cells + 1 ≤ R.cells ∧ P.slots + A.slots.size ≤ R.slots)
      (fun P _ v B => ∃ L, Q Z x A h v B.U.heap L ∧ B.locs = P.locs ++ L ∧ B.cells = P.cells + 1 ∧ B.slots = P.slots + A.slots.size) := by
  intro m meth c P g ig mk a X hg hsize hdg hW hn hp'
  obtain ⟨rfl, rfl, r1, r2⟩ := hp'
  have al : Z.vm.Alike P.U.vm := hZ.alike.trans X.warmed.alike
  obtain ⟨D, cfV, kV, iV, fV, hD, gV, stV, knV, obV, asV, slV⟩ := id V
  obtain ⟨D', cfC, kC, iC, fC, hD', gC, stC, -, -, asC, slC⟩ := id C
  cases hD.symm.trans hD'
  obtain ⟨D2, kD, e1, e2, e3, e4, e5⟩ := id E
  cases hD.symm.trans e1
  obtain ⟨c2, k2, i1, i2, i3, -⟩ := Cond.instantiable_spec wi
  cases e2.symm.trans i1
  cases e3.symm.trans i2
  obtain ⟨kU, u1, u2⟩ := al.2.2 _ _ e3
  have hB : Blank ST x D P.U := ⟨hD, ⟨knV, fun q hq => by rw [hq] at obV; cases obV⟩, by rw [al.findClass]; exact e2, kU, u1, by rw [u2]; exact i3, by rw [u2]; exact e5 i3⟩
  have F1 : Found ST "value" "[B" fV P.U := ⟨SBG.found_only al ⟨cfV, kV, iV, gV⟩, stV⟩
  have F2 : Found ST "coder" "B" fC P.U := ⟨SBG.found_only al ⟨cfC, kC, iC, gC⟩, stC⟩
  have hA : Ch b A P.U := ⟨⟨K.1, State.isArrayOf_alike al K.2.1, K.2.2, by omega⟩, hty⟩
  have hS : StaticIs P.U ST "COMPACT_STRINGS" "Z" (.int z) := by
    obtain ⟨cfS, iS, kS, fS, st, cS, t1, t2, t3, t4, t5, t6, t7⟩ := S
    exact StaticIs.there (s := { Z with heap := P.U.heap }) ⟨cfS, iS, kS, fS, st, cS, t1, t2, t3, t4, t5, (fun q => by rw [q] at t6; cases t6), t7⟩ al rfl
  obtain ⟨v, B, X', ⟨⟨hv, E', V', q1, q2, q3, q4, q5, q6, q7, q8, q9, q10, q11⟩, hl, hc, hs⟩, st⟩ := New1.pays x D fV fC b A z (tab_of (moved hZ hw)) hfr hlo m meth c P g ig mk _ X hg hsize hdg hW hn ⟨r1, r2, rfl, hB, F1, F2, hA, hS, hz, l0, l2, hp⟩
  have al' : Z.vm.Alike B.U.vm := hZ.alike.trans X'.warmed.alike
  have hsz : E'.slots.size = D.slots.size := by
    obtain ⟨-, -, -, kB, w1, w2, w3⟩ := q1
    obtain ⟨kB', y1, y2⟩ := al'.2.2 _ _ e3
    rw [q2.2.1] at w1
    cases w1.symm.trans y1
    rw [w3, e5 i3, y2]
  refine ⟨v, B, X', ⟨_, ⟨hv, ?_, ⟨by omega, fun y cy hy hn' => q10 y cy (by simpa using hn') hy, fun y cy hy => ?_⟩, q11, ⟨E', _, q1.1, by rw [q2.2.1]; exact e2, by rw [q2.2.1]; exact e3, by rw [q2.1]; exact obV, fun _ => by rw [hsz]; exact e5 i3⟩,
    ⟨E', cfV, kV, iV, fV, q1.1, gV, stV, by rw [q2.1]; exact knV, by rw [q2.1]; exact obV, by rw [q2.2.1]; exact asV, q3⟩, ⟨E', cfC, kC, iC, fC, q1.1, gC, stC, by rw [q2.1]; exact knV, by rw [q2.1]; exact obV, by rw [q2.2.1]; exact asC, q4⟩,
    ⟨V', ⟨q5.1, State.isArrayOf_alike al'.symm q5.2.1, q5.2.2.1⟩, q6, by rw [← al'.findClass]; exact q7, q8, fun j hj => by have := q9 j hj; rwa [Nat.zero_add] at this⟩, fun O n d w F n1 n2 => ?_⟩, hl, hc, hs⟩, st⟩
  · intro y hy
    simp only [List.mem_cons, List.not_mem_nil, or_false] at hy
    rcases hy with rfl | rfl <;> rfl
  · by_cases q : y = x
    · subst q
      cases hD.symm.trans hy
      exact ⟨E', q1.1, q2.2.1, q2.1, hsz⟩
    · exact ⟨cy, q10 y cy q hy, rfl, rfl, rfl⟩
  · obtain ⟨D3, cf, k, i, f, g1, g2, g3, g4, g5, g6, g7⟩ := F
    cases hD.symm.trans g1
    simp only [RoadKit.slotOf, g2, gV, gC, Option.map_some, Option.getD_some] at n1 n2
    exact ⟨E', cf, k, i, f, q1.1, g2, g3, by rw [q2.1]; exact g4, by rw [q2.1]; exact g5, by rw [q2.2.1]; exact g6, by rw [q2.2.2 f.slot (by simp [n1, n2])]; exact g7⟩
end StrChars.Road
namespace StrChars.Road
open Jvm Sem ClassFile Op Lib Jvm.Stand Jvm.Free Jvm.Free.XT
/-- WHAT COMES BACK, the byte[] as a list of values -/
def QA (Z : State) (x : Addr) (zn : Int32) (cs : List Int32) (h : Heap) (v : Option Value) (h' : Heap) (L : List Loc) : Prop := v = none ∧ (∀ y ∈ L, y.base = x) ∧ RoadKit.Keep h h' [x] ∧ h'.size = h.size + 1 ∧ RoadKit.Exa Z h' x ST ∧ RoadKit.Fld Z h' x ST "value" "[B" (.ref h.size) ∧ RoadKit.Fld Z h' x ST "coder" "B" (.int 0) ∧
  (∃ kb, Z.vm.findClass "[B" = some kb ∧ RoadKit.Arv Z h' h.size kb .byte zn (cs.map fun c => .int (lo8 c)) (.int 0)) ∧
  ∀ (O n d : String) (w : Value), RoadKit.Fld Z h x O n d w → RoadKit.slotOf Z O n d ≠ RoadKit.slotOf Z ST "value" "[B" → RoadKit.slotOf Z O n d ≠ RoadKit.slotOf Z ST "coder" "B" → RoadKit.Fld Z h' x O n d w
/-- **new String(chars) AT A CALL, THE ARRAYS AS LISTS**: the char[] at b holds cs, not empty, no char above 255 -/
theorem backArv {p : Program} {l : Launch} {e : Env} {R : Room} {s : State} {args : Array Value} {below : List Frame} {len W : Nat} {Z : State} {a0 : Array Value} {h : Heap} (hZ : Z.Warmed39 s.vm) (hw : ∀ d ∈ words, d.before a0 Z = true) {kI : Nat} (wi : (Jvm.Cond.instantiable ST kI).before a0 Z = true)
    {x b : Addr} {k : ClassId} {zn z : Int32} {cs : List Int32} {dv v0 c0 : Value} (E : RoadKit.Exa Z h x ST) (V : RoadKit.Fld Z h x ST "value" "[B" v0) (C : RoadKit.Fld Z h x ST "coder" "B" c0) (K : RoadKit.Arv Z h b k .char zn (cs.map Value.int) dv) (S : RoadKit.Sta Z h ST "COMPACT_STRINGS" "Z" (.int z)) (hz : ¬ z = 0)
    (hlen : zn.toNatClampNeg = cs.length) (h0 : 0 < cs.length) (hbig : cs.length ≤ 536870912) (hall : ∀ c ∈ cs, ¬ 255 < c) (hfr : 4 ≤ R.frames) (hlo : W + 65 ≤ R.locals) :
    Back l R p e below s args New1.yN len W (fun P a => a = #[.ref x, .ref b] ∧ P.U.heap = h ∧ P.cells + 1 ≤ R.cells ∧ P.slots + cs.length ≤ R.slots)
      (fun P _ v B => ∃ L, QA Z x zn cs h v B.U.heap L ∧ B.locs = P.locs ++ L ∧ B.cells = P.cells + 1 ∧ B.slots = P.slots + cs.length) := by
  obtain ⟨A, K1, K2, K3, K4, K5, K6⟩ := K
  have e : A.slots.size = cs.length := K3.trans hlen
  have hat : ∀ (i : Nat) (hi : i < cs.length), A.slots[i]? = some (.int cs[i]) := fun i hi => by rw [K5 i (by omega)]; simp [List.getD_eq_getElem?_getD, hi]
  have hcv : ∀ (i : Nat) (hi : i < cs.length), cv A i = cs[i] := fun i hi => by unfold cv; rw [hat i hi]
  have hty : Typed .char A := fun i v hv => by
    have hi : i < A.slots.size := (Array.getElem?_eq_some_iff.mp hv).1
    have q := K5 i hi
    rw [hv] at q
    rw [Option.some.inj q]
    exact K6 i hi
  refine Back.mono (back hZ hw wi E V C K1 hty S hz (by omega) (by omega) (fun i hi => by rw [hcv i (by omega)]; exact hall _ (List.getElem_mem _)) hfr hlo) (fun P a hp => ⟨hp.1, hp.2.1, hp.2.2.1, by rw [e]; exact hp.2.2.2⟩) (fun P a v B hp hq => ?_)
  obtain ⟨L, ⟨q1, q2, q3, q4, q5, q6, q7, ⟨V', v1, v2, v3, v4, v5⟩, q9⟩, hl, hc, hs⟩ := hq
  refine ⟨L, ⟨q1, q2, q3, q4, q5, q6, q7, ⟨V'.cls, v3, V', v1, rfl, by rw [v4, e, hlen], K4, fun i hi => ?_, fun i hi => ?_⟩, q9⟩, hl, hc, by rw [hs, e]⟩
  · have hi' : i < cs.length := by omega
    rw [v5 i (by omega), hcv i hi']; simp [List.getD_eq_getElem?_getD, hi']
  · have hi' : i < cs.length := by omega
    simp only [List.getD_eq_getElem?_getD, List.getElem?_map, List.getElem?_eq_getElem hi', Option.map_some, Option.getD_some]
    exact fits_lo8 _
end StrChars.Road
namespace StrChars.Road
open Jvm Sem ClassFile Op Lib Jvm.Stand Jvm.Free Jvm.Free.XT
/-- WHAT COMES BACK, in the writer's own shape -/
def QV (Z : State) (x : Addr) (N : Int32) (bs : List Int32) (h : Heap) (n0 : Nat) (v : Option Value) (h' : Heap) (L : List Loc) : Prop := v = none ∧ RoadKit.Fr n0 L ∧ RoadKit.Keep h h' [x] ∧ RoadKit.Exa Z h' x ST ∧ RoadKit.Fld Z h' x ST "coder" "B" (.int 0) ∧
  ∃ (t : Addr) (kb : ClassId), n0 ≤ t ∧ h.size ≤ t ∧ ¬ t = x ∧ RoadKit.Fld Z h' x ST "value" "[B" (.ref t) ∧ RoadKit.Arv Z h' t kb .byte N (bs.map Value.int) (.int 0)
/-- **new String(chars) AT A CALL, FOR THE WRITER**: a char[] of n known ints, each 0 to 255 -/
theorem backV {p : Program} {l : Launch} {e : Env} {R : Room} {s : State} {args : Array Value} {below : List Frame} {len W : Nat} {Z : State} {a0 : Array Value} {h : Heap} (hZ : Z.Warmed39 s.vm) (hw : ∀ d ∈ words, d.before a0 Z = true) {kI : Nat} (wi : (Jvm.Cond.instantiable ST kI).before a0 Z = true)
    {x b : Addr} {kC : ClassId} {cs bs : List Int32} {d v0 c0 : Value} {z N : Int32} {n n0 : Nat} (hx0 : n0 ≤ x) (hh0 : n0 ≤ h.size) (E : RoadKit.Exa Z h x ST) (V : RoadKit.Fld Z h x ST "value" "[B" v0) (C : RoadKit.Fld Z h x ST "coder" "B" c0) (K : RoadKit.Arv Z h b kC .char N (cs.map Value.int) d) (S : RoadKit.Sta Z h ST "COMPACT_STRINGS" "Z" (.int z)) (hz : ¬ z = 0)
    (hn : cs.length = n) (hN : N = Int32.ofNat n) (l0 : 0 < n) (l2 : n ≤ 4000) (hp : ∀ c ∈ cs, ¬ c < 0 ∧ ¬ (255 : Int32) < c) (hb : bs = cs.map (fun c => c.toInt8.toInt32)) (hfr : 4 ≤ R.frames) (hlo : W + 65 ≤ R.locals) :
    Back l R p e below s args (⟨"java/lang/String", "<init>", "([C)V"⟩ : MethodName) len W (fun P a => a = #[.ref x, .ref b] ∧ P.U.heap = h ∧ P.cells + 1 ≤ R.cells ∧ P.slots + n ≤ R.slots)
      (fun P _ v B => ∃ L, QV Z x N bs h n0 v B.U.heap L ∧ B.locs = P.locs ++ L ∧ B.cells = P.cells + 1 ∧ B.slots = P.slots + n) := by
  subst hn hN hb
  refine Back.mono (backArv hZ hw wi E V C K S hz (n32 (by omega)) l0 (by omega) (fun c hc => (hp c hc).2) hfr hlo) (fun P a hp => hp) (fun P a v B hp hq => ?_)
  obtain ⟨L, ⟨q1, q2, q3, q4, q5, q6, q7, ⟨kb, v1, v2⟩, q9⟩, hl, hc, hs⟩ := hq
  exact ⟨L, ⟨q1, fun y hy => by rw [q2 y hy]; exact hx0, q3, q5, q7, h.size, kb, hh0, Nat.le_refl _, Nat.ne_of_gt E.lt, q6, by rw [List.map_map]; exact v2⟩, hl, hc, hs⟩
end StrChars.Road
end Jvm.Pilot.@@N@@
namespace Jvm.Pilot.@@N@@
open Jvm Jvm.ClassFile Sem Op Lib Jvm.Free Jvm.Stand Jvm.LawKit Jvm.RoadKit Bundle Jvm.Own Jvm.Pilot.@@N@@.Jvm.D
theorem Hw {Z : State} {a0 : Array Value} (hw : ∀ d ∈ tables_1, d.before a0 Z = true) {d : Jvm.Cond} (i : Nat) (h : tables_1[i]? = some d) : d.before a0 Z = true := hw d (List.mem_of_getElem? h)
theorem own_EL {Z : State} {a0 : Array Value} (hw : ∀ d ∈ tables_1, d.before a0 Z = true) : EW Z a0 consts_1 := (EW.cons (Hw hw 74 rfl) (by decide) (EW.cons (Hw hw 79 rfl) (by decide) (EW.cons (Hw hw 80 rfl) (by decide) (EW.cons (Hw hw 110 rfl) (by decide) (EW.cons (Hw hw 25 rfl) (by decide) EW.nil)))))
theorem own_wS {Z : State} {a0 : Array Value} (hw : ∀ d ∈ tables_1, d.before a0 Z = true) : ∀ d ∈ Bundle.stringAtoms, d.before a0 Z = true := fun d hd => hw d ((by decide +kernel : ∀ d ∈ Bundle.stringAtoms, d ∈ tables_1) d hd)
theorem own_hws {Z : State} {a0 : Array Value} (hw : ∀ d ∈ tables_1, d.before a0 Z = true) : ∀ d ∈ StrChars.Road.words, d.before a0 Z = true := fun d hd => hw d ((by decide +kernel : ∀ d ∈ StrChars.Road.words, d ∈ tables_1) d hd)
theorem e0_0 : decode jdk_42_method_149_code 0 = .ok (.aload_n 0, 1) := by decide +kernel
theorem e0_1 : decode jdk_42_method_149_code 1 = .ok (.invokespecial 1, 3) := by decide +kernel
theorem e0_4 : decode jdk_42_method_149_code 4 = .ok (.iload_n 3, 1) := by decide +kernel
theorem e0_5 : decode jdk_42_method_149_code 5 = .ok (.ifCond .ne 22, 3) := by decide +kernel
theorem e0_8 : decode jdk_42_method_149_code 8 = .ok (.aload_n 0, 1) := by decide +kernel
theorem e0_9 : decode jdk_42_method_149_code 9 = .ok (.ldc 7, 2) := by decide +kernel
theorem e0_11 : decode jdk_42_method_149_code 11 = .ok (.getfield 9, 3) := by decide +kernel
theorem e0_14 : decode jdk_42_method_149_code 14 = .ok (.putfield 9, 3) := by decide +kernel
theorem e0_17 : decode jdk_42_method_149_code 17 = .ok (.aload_n 0, 1) := by decide +kernel
theorem e0_18 : decode jdk_42_method_149_code 18 = .ok (.ldc 7, 2) := by decide +kernel
theorem e0_20 : decode jdk_42_method_149_code 20 = .ok (.getfield 15, 3) := by decide +kernel
theorem e0_23 : decode jdk_42_method_149_code 23 = .ok (.putfield 15, 3) := by decide +kernel
theorem e0_26 : decode jdk_42_method_149_code 26 = .ok (.return_, 1) := by decide +kernel
theorem e0_27 : decode jdk_42_method_149_code 27 = .ok (.getstatic 38, 3) := by decide +kernel
theorem e0_30 : decode jdk_42_method_149_code 30 = .ok (.ifCond .eq 28, 3) := by decide +kernel
theorem e0_33 : decode jdk_42_method_149_code 33 = .ok (.aload_n 1, 1) := by decide +kernel
theorem e0_34 : decode jdk_42_method_149_code 34 = .ok (.iload_n 2, 1) := by decide +kernel
theorem e0_35 : decode jdk_42_method_149_code 35 = .ok (.iload_n 3, 1) := by decide +kernel
theorem e0_36 : decode jdk_42_method_149_code 36 = .ok (.invokestatic 177, 3) := by decide +kernel
theorem e0_39 : decode jdk_42_method_149_code 39 = .ok (.astore 5, 2) := by decide +kernel
theorem e0_41 : decode jdk_42_method_149_code 41 = .ok (.aload_n 0, 1) := by decide +kernel
theorem e0_42 : decode jdk_42_method_149_code 42 = .ok (.aload 5, 2) := by decide +kernel
theorem e0_44 : decode jdk_42_method_149_code 44 = .ok (.iload_n 3, 1) := by decide +kernel
theorem e0_45 : decode jdk_42_method_149_code 45 = .ok (.invokestatic 47, 3) := by decide +kernel
theorem e0_48 : decode jdk_42_method_149_code 48 = .ok (.putfield 15, 3) := by decide +kernel
theorem e0_51 : decode jdk_42_method_149_code 51 = .ok (.aload_n 0, 1) := by decide +kernel
theorem e0_52 : decode jdk_42_method_149_code 52 = .ok (.aload 5, 2) := by decide +kernel
theorem e0_54 : decode jdk_42_method_149_code 54 = .ok (.putfield 9, 3) := by decide +kernel
theorem e0_57 : decode jdk_42_method_149_code 57 = .ok (.return_, 1) := by decide +kernel
theorem e0_58 : decode jdk_42_method_149_code 58 = .ok (.aload_n 0, 1) := by decide +kernel
theorem e0_59 : decode jdk_42_method_149_code 59 = .ok (.iconst 1, 1) := by decide +kernel
theorem e0_60 : decode jdk_42_method_149_code 60 = .ok (.putfield 15, 3) := by decide +kernel
theorem e0_63 : decode jdk_42_method_149_code 63 = .ok (.aload_n 0, 1) := by decide +kernel
theorem e0_64 : decode jdk_42_method_149_code 64 = .ok (.aload_n 1, 1) := by decide +kernel
theorem e0_65 : decode jdk_42_method_149_code 65 = .ok (.iload_n 2, 1) := by decide +kernel
theorem e0_66 : decode jdk_42_method_149_code 66 = .ok (.iload_n 3, 1) := by decide +kernel
theorem e0_67 : decode jdk_42_method_149_code 67 = .ok (.invokestatic 180, 3) := by decide +kernel
theorem e0_70 : decode jdk_42_method_149_code 70 = .ok (.putfield 9, 3) := by decide +kernel
theorem e0_73 : decode jdk_42_method_149_code 73 = .ok (.return_, 1) := by decide +kernel
theorem pn0 : plainName "java/lang/String" = true := by first | (simp [plainName, overriddenIn]; done) | decide +kernel
set_option maxRecDepth 65536 in
set_option maxHeartbeats 40000000 in
theorem con_new4E (l : Launch) (Z : State) (a0 : Array Value) (hw : ∀ d ∈ tables_1, d.before a0 Z = true) (x b : Addr) (h0 : Heap) (O0 : Ext Z.heap h0) (X_x : Exa Z h0 x "java/lang/String") (F_value_x : Fld Z h0 x "java/lang/String" "value" "[B" .null) (F_coder_x : Fld Z h0 x "java/lang/String" "coder" "B" (.int (0 : Int32))) (n_x : Z.heap.size ≤ x) :
    Con l Z consts_1 false (⟨"java/lang/String", "<init>", "([CIILjava/lang/Void;)V"⟩ : MethodName) jdk_42_method_149_code 6 none [] ({ frames := 1, cells := 4, slots := 8, locals := 12 } : Room) #[(.ref x), (.ref b), (.int (0 : Int32)), (.int (0 : Int32)), .null] [] h0 (fun v h => v = none ∧ Keep h0 h [x] ∧ Sg Z h x []) := by
  refine Con.intro (Ls := #[.val (.ref x), .val (.ref b), .val (.int (0 : Int32)), .val (.int (0 : Int32)), .val .null, .unset]) (plainFor_of_name pn0) (own_EL hw) O0 (fun m => by first | (simp [entryFrame, mkF, argsToLocals, Value.category]; done) | rfl) (fun p e s m below meth cc_ T w sf_ => ?_)
  have K0 := Keep.refl h0 [x]
  have s_x := safe_null (EL := consts_1) (vm := s.vm) w.wz.alike (Hw hw 12 rfl) X_x F_value_x
  refine g_aloadN w e0_0 (q := 1) rfl rfl rfl ?_
  refine g_initO w e0_1 (q := 4) rfl rfl (Hw hw 22 rfl) (Hw hw 23 rfl) (Hw hw 24 rfl) (W := 0) (Nat.le_of_eq rfl) (by decide) (by decide) (fun T w => ?_)
  refine g_iloadN w e0_4 (q := 5) rfl rfl ?_
  refine g_ifN w e0_5 (q := 8) rfl (by decide) ?_
  refine g_aloadN w e0_8 (q := 9) rfl rfl rfl ?_
  refine g_ldcS w e0_9 (q := 11) rfl rfl (Hw hw 25 rfl) (own_wS hw) (by decide) (vs := []) (z := 0) ⟨by decide, by decide⟩ (by decide) (by decide) (nn := 0) (by decide) (by decide) (by decide) (by decide) (fun T vm h t2 b_t2 kb_t2 w E X_t2 Fc_t2 Fv_t2 Ab_t2 C Sf => ?_)
  replace s_x := C.safe X_x.lt s_x
  have nb_x_t2 := (Sf _ s_x).2
  have ne_x_t2 := (Sf _ s_x).1
  have ne_x_b_t2 := nb_x_t2
  replace K0 := K0.ext E
  replace X_x := X_x.ext E
  replace F_value_x := F_value_x.ext E
  replace F_coder_x := F_coder_x.ext E
  refine g_getF w e0_11 (q := 14) rfl (host := "") (Or.inl (Hw hw 31 rfl)) Via.refl Fv_t2 (fun T w => ?_)
  have g_ := w.chv
  refine g_putF w e0_14 (q := 17) rfl (Hw hw 31 rfl) Via.refl F_value_x X_x (Or.inr ⟨(Hw hw 27 rfl), rfl, rfl⟩) (Hw hw 12 rfl) (ty := (.array .byte)) (by decide) (v' := (.ref b_t2)) rfl rfl n_x s_x (fun T h w W => ?_)
  replace K0 := K0.wr W (Or.inl (List.mem_singleton.mpr rfl))
  replace s_x := Safe.wr W s_x g_ s_x
  replace X_x := X_x.wr W
  replace F_value_x := F_value_x.same W
  replace F_coder_x := F_coder_x.other W (Or.inr (slot_ne (Or.inr (Hw hw 28 rfl)) (Or.inr (Hw hw 27 rfl)) (by decide) (t := .byte) (t' := (.array .byte)) (by decide) (by decide)))
  replace X_t2 := X_t2.wr W
  replace Fc_t2 := Fc_t2.other W (Or.inl ne_x_t2.symm)
  replace Fv_t2 := Fv_t2.other W (Or.inl ne_x_t2.symm)
  replace Ab_t2 := Ab_t2.other W ne_x_b_t2.symm
  refine g_aloadN w e0_17 (q := 18) rfl rfl rfl ?_
  refine g_ldcS w e0_18 (q := 20) rfl rfl (Hw hw 25 rfl) (own_wS hw) (by decide) (vs := []) (z := 0) ⟨by decide, by decide⟩ (by decide) (by decide) (nn := 0) (by decide) (by decide) (by decide) (by decide) (fun T vm h t3 b_t3 kb_t3 w E X_t3 Fc_t3 Fv_t3 Ab_t3 C Sf => ?_)
  replace s_x := C.safe X_x.lt s_x
  have nb_x_t3 := (Sf _ s_x).2
  have ne_x_t3 := (Sf _ s_x).1
  have ne_x_b_t3 := nb_x_t3
  replace K0 := K0.ext E
  replace X_x := X_x.ext E
  replace F_value_x := F_value_x.ext E
  replace F_coder_x := F_coder_x.ext E
  replace X_t2 := X_t2.ext E
  replace Fc_t2 := Fc_t2.ext E
  replace Fv_t2 := Fv_t2.ext E
  replace Ab_t2 := Ab_t2.ext E
  refine g_getF w e0_20 (q := 23) rfl (host := "") (Or.inl (Hw hw 32 rfl)) Via.refl Fc_t3 (fun T w => ?_)
  have g_ := w.chv
  refine g_putF w e0_23 (q := 26) rfl (Hw hw 32 rfl) Via.refl F_coder_x X_x (Or.inr ⟨(Hw hw 28 rfl), rfl, rfl⟩) (Hw hw 12 rfl) (ty := .byte) (by decide) (v' := (.int (0 : Int32))) rfl rfl n_x s_x (fun T h w W => ?_)
  replace K0 := K0.wr W (Or.inl (List.mem_singleton.mpr rfl))
  replace s_x := Safe.wr W s_x g_ s_x
  replace X_x := X_x.wr W
  replace F_value_x := F_value_x.other W (Or.inr (slot_ne (Or.inr (Hw hw 27 rfl)) (Or.inr (Hw hw 28 rfl)) (by decide) (t := (.array .byte)) (t' := .byte) (by decide) (by decide)))
  replace F_coder_x := F_coder_x.same W
  replace X_t2 := X_t2.wr W
  replace Fc_t2 := Fc_t2.other W (Or.inl ne_x_t2.symm)
  replace Fv_t2 := Fv_t2.other W (Or.inl ne_x_t2.symm)
  replace Ab_t2 := Ab_t2.other W ne_x_b_t2.symm
  replace X_t3 := X_t3.wr W
  replace Fc_t3 := Fc_t3.other W (Or.inl ne_x_t3.symm)
  replace Fv_t3 := Fv_t3.other W (Or.inl ne_x_t3.symm)
  replace Ab_t3 := Ab_t3.other W ne_x_b_t3.symm
  exact g_return w e0_26 rfl (by decide) (by decide) ⟨rfl, K0, ⟨Nat.le_of_ble_eq_true rfl, cs0, X_x, b_t2, kb_t2, F_value_x, F_coder_x, Ab_t2⟩⟩
theorem e1_0 : decode jdk_42_method_3_code 0 = .ok (.aload_n 0, 1) := by decide +kernel
theorem e1_1 : decode jdk_42_method_3_code 1 = .ok (.aload_n 1, 1) := by decide +kernel
theorem e1_2 : decode jdk_42_method_3_code 2 = .ok (.iconst 0, 1) := by decide +kernel
theorem e1_3 : decode jdk_42_method_3_code 3 = .ok (.aload_n 1, 1) := by decide +kernel
theorem e1_4 : decode jdk_42_method_3_code 4 = .ok (.arraylength, 1) := by decide +kernel
theorem e1_5 : decode jdk_42_method_3_code 5 = .ok (.aconst_null, 1) := by decide +kernel
theorem e1_6 : decode jdk_42_method_3_code 6 = .ok (.invokespecial 27, 3) := by decide +kernel
theorem e1_9 : decode jdk_42_method_3_code 9 = .ok (.return_, 1) := by decide +kernel
theorem pd0 : parseMethodDescriptor "([CIILjava/lang/Void;)V" = some ⟨[(.array .char), .int, .int, (.object "java/lang/Void")], none⟩ := by decide +kernel
set_option maxRecDepth 65536 in
set_option maxHeartbeats 40000000 in
theorem con_new1E (l : Launch) (Z : State) (a0 : Array Value) (hw : ∀ d ∈ tables_1, d.before a0 Z = true) (x b : Addr) (h0 : Heap) (O0 : Ext Z.heap h0) (X_x : Exa Z h0 x "java/lang/String") (F_value_x : Fld Z h0 x "java/lang/String" "value" "[B" .null) (F_coder_x : Fld Z h0 x "java/lang/String" "coder" "B" (.int (0 : Int32))) (n_x : Z.heap.size ≤ x) (A_b : Ar Z h0 b .char []) (ne_b_x : b ≠ x) :
    Con l Z consts_1 false (⟨"java/lang/String", "<init>", "([C)V"⟩ : MethodName) jdk_42_method_3_code 2 none [] ({ frames := 2, cells := 4, slots := 8, locals := 29 } : Room) #[(.ref x), (.ref b)] [] h0 (fun v h => v = none ∧ Keep h0 h [x] ∧ Sg Z h x []) := by
  refine Con.intro (Ls := #[.val (.ref x), .val (.ref b)]) (plainFor_of_name pn0) (own_EL hw) O0 (fun m => by first | (simp [entryFrame, mkF, argsToLocals, Value.category]; done) | rfl) (fun p e s m below meth cc_ T w sf_ => ?_)
  have K0 := Keep.refl h0 [x]
  refine g_aloadN w e1_0 (q := 1) rfl rfl rfl ?_
  refine g_aloadN w e1_1 (q := 2) rfl rfl rfl ?_
  refine g_iconst w e1_2 (q := 3) rfl (v := (0 : Int32)) (by decide) ?_
  refine g_aloadN w e1_3 (q := 4) rfl rfl rfl ?_
  refine g_alen w e1_4 (q := 5) rfl A_b ?_
  show Go p e below _ (State.setTop T (mkF m 5 #[.val (.ref x), .val (.ref b)] [(.int (0 : Int32)), (.int (0 : Int32)), (.ref b), (.ref x)]))
  refine g_anull w e1_5 (q := 6) rfl ?_
  refine g_special w (con_new4E l Z a0 hw x b _ w.old X_x F_value_x F_coder_x n_x) no0 e1_6 (q := 9) rfl rfl rfl (Hw hw 18 rfl) (Hw hw 19 rfl) (Hw hw 13 rfl) (Hw hw 21 rfl) (by decide) pd0 rfl rfl (W := 0) (Nat.le_of_eq rfl) (by decide) (by decide) (by decide) (by decide) (fun T h v w gs C q => ?_)
  obtain ⟨rfl, K, S_x⟩ := q
  replace K0 := keep_same K0 K
  have X0 := X_x
  replace X_x := X_x.keep K
  replace A_b := A_b.keep K (not1 ne_b_x)
  show Go p e below _ (State.setTop T (mkF m 9 #[.val (.ref x), .val (.ref b)] []))
  exact g_return w e1_9 rfl (by decide) (by decide) ⟨rfl, K0, S_x⟩
theorem e2_0 : decode jdk_30_method_1_code 0 = .ok (.aload_n 0, 1) := by decide +kernel
theorem e2_1 : decode jdk_30_method_1_code 1 = .ok (.invokespecial 1, 3) := by decide +kernel
theorem e2_4 : decode jdk_30_method_1_code 4 = .ok (.return_, 1) := by decide +kernel
theorem pn1 : plainName "java/lang/Record" = true := by first | (simp [plainName, overriddenIn]; done) | decide +kernel
set_option maxRecDepth 65536 in
set_option maxHeartbeats 40000000 in
theorem con_rec (l : Launch) (Z : State) (a0 : Array Value) (hw : ∀ d ∈ tables_1, d.before a0 Z = true) (x : Addr) (h0 : Heap) (O0 : Ext Z.heap h0) :
    Con l Z consts_1 false (⟨"java/lang/Record", "<init>", "()V"⟩ : MethodName) jdk_30_method_1_code 1 none [] ({ frames := 1, cells := 0, slots := 0, locals := 12 } : Room) #[(.ref x)] [] h0 (fun v h => v = none ∧ h = h0) := by
  refine Con.intro (Ls := #[.val (.ref x)]) (plainFor_of_name pn1) (own_EL hw) O0 (fun m => by first | (simp [entryFrame, mkF, argsToLocals, Value.category]; done) | rfl) (fun p e s m below meth cc_ T w sf_ => ?_)
  have E0 := ext_refl h0
  refine g_aloadN w e2_0 (q := 1) rfl rfl rfl ?_
  refine g_initO w e2_1 (q := 4) rfl rfl (Hw hw 73 rfl) (Hw hw 23 rfl) (Hw hw 24 rfl) (W := 0) (Nat.le_of_eq rfl) (by decide) (by decide) (fun T w => ?_)
  exact g_return w e2_4 rfl (by decide) (by decide) ⟨rfl, rfl⟩
theorem e3_0 : decode jdk_22_method_1_code 0 = .ok (.aload_n 0, 1) := by decide +kernel
theorem e3_1 : decode jdk_22_method_1_code 1 = .ok (.invokespecial 1, 3) := by decide +kernel
theorem e3_4 : decode jdk_22_method_1_code 4 = .ok (.return_, 1) := by decide +kernel
theorem pn2 : plainName "java/util/AbstractCollection" = true := by first | (simp [plainName, overriddenIn]; done) | decide +kernel
set_option maxRecDepth 65536 in
set_option maxHeartbeats 40000000 in
theorem con_ac (l : Launch) (Z : State) (a0 : Array Value) (hw : ∀ d ∈ tables_1, d.before a0 Z = true) (x : Addr) (h0 : Heap) (O0 : Ext Z.heap h0) :
    Con l Z consts_1 false (⟨"java/util/AbstractCollection", "<init>", "()V"⟩ : MethodName) jdk_22_method_1_code 1 none [] ({ frames := 1, cells := 0, slots := 0, locals := 12 } : Room) #[(.ref x)] [] h0 (fun v h => v = none ∧ h = h0) := by
  refine Con.intro (Ls := #[.val (.ref x)]) (plainFor_of_name pn2) (own_EL hw) O0 (fun m => by first | (simp [entryFrame, mkF, argsToLocals, Value.category]; done) | rfl) (fun p e s m below meth cc_ T w sf_ => ?_)
  have E0 := ext_refl h0
  refine g_aloadN w e3_0 (q := 1) rfl rfl rfl ?_
  refine g_initO w e3_1 (q := 4) rfl rfl (Hw hw 51 rfl) (Hw hw 23 rfl) (Hw hw 24 rfl) (W := 0) (Nat.le_of_eq rfl) (by decide) (by decide) (fun T w => ?_)
  exact g_return w e3_4 rfl (by decide) (by decide) ⟨rfl, rfl⟩
theorem e4_0 : decode jdk_47_method_1_code 0 = .ok (.aload_n 0, 1) := by decide +kernel
theorem e4_1 : decode jdk_47_method_1_code 1 = .ok (.invokespecial 1, 3) := by decide +kernel
theorem e4_4 : decode jdk_47_method_1_code 4 = .ok (.return_, 1) := by decide +kernel
theorem pd1 : parseMethodDescriptor "()V" = some ⟨[], none⟩ := by decide +kernel
theorem pn3 : plainName "java/util/ImmutableCollections$AbstractImmutableCollection" = true := by first | (simp [plainName, overriddenIn]; done) | decide +kernel
set_option maxRecDepth 65536 in
set_option maxHeartbeats 40000000 in
theorem con_aic (l : Launch) (Z : State) (a0 : Array Value) (hw : ∀ d ∈ tables_1, d.before a0 Z = true) (x : Addr) (h0 : Heap) (O0 : Ext Z.heap h0) :
    Con l Z consts_1 false (⟨"java/util/ImmutableCollections$AbstractImmutableCollection", "<init>", "()V"⟩ : MethodName) jdk_47_method_1_code 1 none [] ({ frames := 2, cells := 0, slots := 0, locals := 24 } : Room) #[(.ref x)] [] h0 (fun v h => v = none ∧ h = h0) := by
  refine Con.intro (Ls := #[.val (.ref x)]) (plainFor_of_name pn3) (own_EL hw) O0 (fun m => by first | (simp [entryFrame, mkF, argsToLocals, Value.category]; done) | rfl) (fun p e s m below meth cc_ T w sf_ => ?_)
  have E0 := ext_refl h0
  refine g_aloadN w e4_0 (q := 1) rfl rfl rfl ?_
  refine g_specialP w (con_ac l Z a0 hw x _ w.old) no0 e4_1 (q := 4) rfl rfl rfl (Hw hw 319 rfl) (Hw hw 46 rfl) (Hw hw 49 rfl) (Hw hw 50 rfl) (by decide) pd1 rfl rfl (W := 0) (Nat.le_of_eq rfl) (by decide) (by decide) (by decide) (by decide) (fun T v w C q => ?_)
  obtain rfl := q
  show Go p e below _ (State.setTop T (mkF m 4 #[.val (.ref x)] []))
  exact g_return w e4_4 rfl (by decide) (by decide) ⟨rfl, rfl⟩
theorem e5_0 : decode jdk_46_method_1_code 0 = .ok (.aload_n 0, 1) := by decide +kernel
theorem e5_1 : decode jdk_46_method_1_code 1 = .ok (.invokespecial 1, 3) := by decide +kernel
theorem e5_4 : decode jdk_46_method_1_code 4 = .ok (.return_, 1) := by decide +kernel
theorem pn4 : plainName "java/util/ImmutableCollections$AbstractImmutableList" = true := by first | (simp [plainName, overriddenIn]; done) | decide +kernel
set_option maxRecDepth 65536 in
set_option maxHeartbeats 40000000 in
theorem con_ail (l : Launch) (Z : State) (a0 : Array Value) (hw : ∀ d ∈ tables_1, d.before a0 Z = true) (x : Addr) (h0 : Heap) (O0 : Ext Z.heap h0) :
    Con l Z consts_1 false (⟨"java/util/ImmutableCollections$AbstractImmutableList", "<init>", "()V"⟩ : MethodName) jdk_46_method_1_code 1 none [] ({ frames := 3, cells := 0, slots := 0, locals := 36 } : Room) #[(.ref x)] [] h0 (fun v h => v = none ∧ h = h0) := by
  refine Con.intro (Ls := #[.val (.ref x)]) (plainFor_of_name pn4) (own_EL hw) O0 (fun m => by first | (simp [entryFrame, mkF, argsToLocals, Value.category]; done) | rfl) (fun p e s m below meth cc_ T w sf_ => ?_)
  have E0 := ext_refl h0
  refine g_aloadN w e5_0 (q := 1) rfl rfl rfl ?_
  refine g_specialP w (con_aic l Z a0 hw x _ w.old) no0 e5_1 (q := 4) rfl rfl rfl (Hw hw 313 rfl) (Hw hw 314 rfl) (Hw hw 317 rfl) (Hw hw 318 rfl) (by decide) pd1 rfl rfl (W := 0) (Nat.le_of_eq rfl) (by decide) (by decide) (by decide) (by decide) (fun T v w C q => ?_)
  obtain rfl := q
  show Go p e below _ (State.setTop T (mkF m 4 #[.val (.ref x)] []))
  exact g_return w e5_4 rfl (by decide) (by decide) ⟨rfl, rfl⟩
theorem e6_0 : decode jdk_18_method_1_code 0 = .ok (.aload_n 0, 1) := by decide +kernel
theorem e6_1 : decode jdk_18_method_1_code 1 = .ok (.invokespecial 1, 3) := by decide +kernel
theorem e6_4 : decode jdk_18_method_1_code 4 = .ok (.return_, 1) := by decide +kernel
theorem pn5 : plainName "java/lang/Number" = true := by first | (simp [plainName, overriddenIn]; done) | decide +kernel
set_option maxRecDepth 65536 in
set_option maxHeartbeats 40000000 in
theorem con_num (l : Launch) (Z : State) (a0 : Array Value) (hw : ∀ d ∈ tables_1, d.before a0 Z = true) (x : Addr) (h0 : Heap) (O0 : Ext Z.heap h0) :
    Con l Z consts_1 false (⟨"java/lang/Number", "<init>", "()V"⟩ : MethodName) jdk_18_method_1_code 1 none [] ({ frames := 1, cells := 0, slots := 0, locals := 12 } : Room) #[(.ref x)] [] h0 (fun v h => v = none ∧ h = h0) := by
  refine Con.intro (Ls := #[.val (.ref x)]) (plainFor_of_name pn5) (own_EL hw) O0 (fun m => by first | (simp [entryFrame, mkF, argsToLocals, Value.category]; done) | rfl) (fun p e s m below meth cc_ T w sf_ => ?_)
  have E0 := ext_refl h0
  refine g_aloadN w e6_0 (q := 1) rfl rfl rfl ?_
  refine g_initO w e6_1 (q := 4) rfl rfl (Hw hw 231 rfl) (Hw hw 23 rfl) (Hw hw 24 rfl) (W := 0) (Nat.le_of_eq rfl) (by decide) (by decide) (fun T w => ?_)
  exact g_return w e6_4 rfl (by decide) (by decide) ⟨rfl, rfl⟩
theorem e7_0 : decode method_2_code 0 = .ok (.iload_n 0, 1) := by decide +kernel
theorem e7_1 : decode method_2_code 1 = .ok (.bipush 16, 2) := by decide +kernel
theorem e7_3 : decode method_2_code 3 = .ok (.iushr, 1) := by decide +kernel
theorem e7_4 : decode method_2_code 4 = .ok (.iconst 3, 1) := by decide +kernel
theorem e7_5 : decode method_2_code 5 = .ok (.iand, 1) := by decide +kernel
theorem e7_6 : decode method_2_code 6 = .ok (.istore_n 1, 1) := by decide +kernel
theorem e7_7 : decode method_2_code 7 = .ok (.iload_n 1, 1) := by decide +kernel
theorem e7_8 : decode method_2_code 8 = .ok (.ifCond .ne 14, 3) := by decide +kernel
theorem e7_11 : decode method_2_code 11 = .ok (.new 7, 3) := by decide +kernel
theorem e7_14 : decode method_2_code 14 = .ok (.dup, 1) := by decide +kernel
theorem e7_15 : decode method_2_code 15 = .ok (.iconst 0, 1) := by decide +kernel
theorem e7_16 : decode method_2_code 16 = .ok (.newarray .char, 2) := by decide +kernel
theorem e7_18 : decode method_2_code 18 = .ok (.invokespecial 9, 3) := by decide +kernel
theorem e7_21 : decode method_2_code 21 = .ok (.areturn, 1) := by decide +kernel
theorem e7_22 : decode method_2_code 22 = .ok (.iload_n 1, 1) := by decide +kernel
theorem e7_23 : decode method_2_code 23 = .ok (.iconst 1, 1) := by decide +kernel
theorem e7_24 : decode method_2_code 24 = .ok (.if_icmp .ne 25, 3) := by decide +kernel
theorem e7_27 : decode method_2_code 27 = .ok (.iconst 1, 1) := by decide +kernel
theorem e7_28 : decode method_2_code 28 = .ok (.newarray .char, 2) := by decide +kernel
theorem e7_30 : decode method_2_code 30 = .ok (.astore_n 2, 1) := by decide +kernel
theorem e7_31 : decode method_2_code 31 = .ok (.aload_n 2, 1) := by decide +kernel
theorem e7_32 : decode method_2_code 32 = .ok (.iconst 0, 1) := by decide +kernel
theorem e7_33 : decode method_2_code 33 = .ok (.iload_n 0, 1) := by decide +kernel
theorem e7_34 : decode method_2_code 34 = .ok (.sipush 255, 3) := by decide +kernel
theorem e7_37 : decode method_2_code 37 = .ok (.iand, 1) := by decide +kernel
theorem e7_38 : decode method_2_code 38 = .ok (.i2c, 1) := by decide +kernel
theorem e7_39 : decode method_2_code 39 = .ok (.castore, 1) := by decide +kernel
theorem e7_40 : decode method_2_code 40 = .ok (.new 7, 3) := by decide +kernel
theorem e7_43 : decode method_2_code 43 = .ok (.dup, 1) := by decide +kernel
theorem e7_44 : decode method_2_code 44 = .ok (.aload_n 2, 1) := by decide +kernel
theorem e7_45 : decode method_2_code 45 = .ok (.invokespecial 9, 3) := by decide +kernel
theorem e7_48 : decode method_2_code 48 = .ok (.areturn, 1) := by decide +kernel
theorem e7_49 : decode method_2_code 49 = .ok (.iconst 2, 1) := by decide +kernel
theorem e7_50 : decode method_2_code 50 = .ok (.newarray .char, 2) := by decide +kernel
theorem e7_52 : decode method_2_code 52 = .ok (.astore_n 2, 1) := by decide +kernel
theorem e7_53 : decode method_2_code 53 = .ok (.aload_n 2, 1) := by decide +kernel
theorem e7_54 : decode method_2_code 54 = .ok (.iconst 0, 1) := by decide +kernel
theorem e7_55 : decode method_2_code 55 = .ok (.iload_n 0, 1) := by decide +kernel
theorem e7_56 : decode method_2_code 56 = .ok (.sipush 255, 3) := by decide +kernel
theorem e7_59 : decode method_2_code 59 = .ok (.iand, 1) := by decide +kernel
theorem e7_60 : decode method_2_code 60 = .ok (.i2c, 1) := by decide +kernel
theorem e7_61 : decode method_2_code 61 = .ok (.castore, 1) := by decide +kernel
theorem e7_62 : decode method_2_code 62 = .ok (.aload_n 2, 1) := by decide +kernel
theorem e7_63 : decode method_2_code 63 = .ok (.iconst 1, 1) := by decide +kernel
theorem e7_64 : decode method_2_code 64 = .ok (.iload_n 0, 1) := by decide +kernel
theorem e7_65 : decode method_2_code 65 = .ok (.bipush 8, 2) := by decide +kernel
theorem e7_67 : decode method_2_code 67 = .ok (.iushr, 1) := by decide +kernel
theorem e7_68 : decode method_2_code 68 = .ok (.sipush 255, 3) := by decide +kernel
theorem e7_71 : decode method_2_code 71 = .ok (.iand, 1) := by decide +kernel
theorem e7_72 : decode method_2_code 72 = .ok (.i2c, 1) := by decide +kernel
theorem e7_73 : decode method_2_code 73 = .ok (.castore, 1) := by decide +kernel
theorem e7_74 : decode method_2_code 74 = .ok (.new 7, 3) := by decide +kernel
theorem e7_77 : decode method_2_code 77 = .ok (.dup, 1) := by decide +kernel
theorem e7_78 : decode method_2_code 78 = .ok (.aload_n 2, 1) := by decide +kernel
theorem e7_79 : decode method_2_code 79 = .ok (.invokespecial 9, 3) := by decide +kernel
theorem e7_82 : decode method_2_code 82 = .ok (.areturn, 1) := by decide +kernel
theorem pd2 : parseMethodDescriptor "([C)V" = some ⟨[(.array .char)], none⟩ := by decide +kernel
theorem pn6 : plainName "com/example/stepwize/stepwize/engine/MessageAboutPinLaw" = true := by first | (simp [plainName, overriddenIn]; done) | decide +kernel
set_option maxRecDepth 65536 in
set_option maxHeartbeats 40000000 in
theorem con_str (l : Launch) (Z : State) (a0 : Array Value) (hw : ∀ d ∈ tables_1, d.before a0 Z = true) (i_ : Int32) (h0 : Heap) (O0 : Ext Z.heap h0) (hcm : Cpt Z) :
    Con l Z consts_1 false (⟨"com/example/stepwize/stepwize/engine/MessageAboutPinLaw", "str", "(I)Ljava/lang/String;"⟩ : MethodName) method_2_code 3 (some (.object "java/lang/String")) [] ({ frames := 4, cells := 6, slots := 12, locals := 66 } : Room) #[(.int i_)] [] h0 (fun v h => ∃ x, v = some (.ref x) ∧ Ext h0 h ∧ h0.size ≤ x ∧ Exa Z h x "java/lang/String") := by
  refine Con.intro (Ls := #[.val (.int i_), .unset, .unset]) (plainFor_of_name pn6) (own_EL hw) O0 (fun m => by first | (simp [entryFrame, mkF, argsToLocals, Value.category]; done) | rfl) (fun p e s m below meth cc_ T w sf_ => ?_)
  have E0 := ext_refl h0
  obtain ⟨z_, hz_, SC_⟩ := id hcm
  refine g_iloadN w e7_0 (q := 1) rfl rfl ?_
  refine g_bipush w e7_1 (q := 3) rfl (v := (16 : Int32)) (by decide) ?_
  refine g_iushr w e7_3 (q := 4) rfl ?_
  refine g_iconst w e7_4 (q := 5) rfl (v := (3 : Int32)) (by decide) ?_
  refine g_iand w e7_5 (q := 6) rfl ?_
  refine g_istoreN w e7_6 (q := 7) rfl (Ls' := #[.val (.int i_), .val (.int ((Jvm.Free.XT.ushr i_ (16 : Int32)) &&& (3 : Int32))), .unset]) rfl ?_
  refine g_iloadN w e7_7 (q := 8) rfl rfl ?_
  refine g_if_ne w e7_8 (by decide) (q := 22) (by decide) (q' := 11) rfl (fun cd1 => ?_) (fun cd1 => ?_)
  · refine g_iloadN w e7_22 (q := 23) rfl rfl ?_
    refine g_iconst w e7_23 (q := 24) rfl (v := (1 : Int32)) (by decide) ?_
    refine g_ic_ne w e7_24 (by decide) (q := 49) (by decide) (q' := 27) rfl (fun cd2 => ?_) (fun cd2 => ?_)
    · refine g_iconst w e7_49 (q := 50) rfl (v := (2 : Int32)) (by decide) ?_
      refine g_newarr w e7_50 (q := 52) rfl (Hw hw 14 rfl) (len := 2) (cap := 2) (by decide) (by decide) (by decide) (by decide) (by decide) (fun T h a3 w E g_a3 n_a3 A_a3 s_a3 => ?_)
      have z_a3 := Nat.le_trans E0.1 g_a3
      replace E0 := ext_trans E0 E
      replace A_a3 : Ar Z h a3 .char [(.int (0 : Int32)), (.int (0 : Int32))] := A_a3
      refine g_astoreN w e7_52 (q := 53) rfl rfl (Ls' := #[.val (.int i_), .val (.int ((Jvm.Free.XT.ushr i_ (16 : Int32)) &&& (3 : Int32))), .val (.ref a3)]) rfl ?_
      refine g_aloadN w e7_53 (q := 54) rfl rfl rfl ?_
      refine g_iconst w e7_54 (q := 55) rfl (v := (0 : Int32)) (by decide) ?_
      refine g_iloadN w e7_55 (q := 56) rfl rfl ?_
      refine g_sipush w e7_56 (q := 59) rfl (v := (255 : Int32)) (by decide) ?_
      refine g_iand w e7_59 (q := 60) rfl ?_
      refine g_i2cM w e7_60 (q := 61) rfl ?_
      refine g_castore w e7_61 (q := 62) rfl A_a3 (i := 0) (by decide) (Nat.le_of_ble_eq_true rfl) (x' := (i_ &&& (255 : Int32))) (nar_lat (mask255 _)) n_a3 (w.safeAr A_a3 (by decide)) (fun T h w W V => ?_)
      replace E0 := ext_wr E0 W z_a3
      replace A_a3 : Ar Z h a3 .char [(.int (i_ &&& (255 : Int32))), (.int (0 : Int32))] := V
      refine g_aloadN w e7_62 (q := 63) rfl rfl rfl ?_
      refine g_iconst w e7_63 (q := 64) rfl (v := (1 : Int32)) (by decide) ?_
      refine g_iloadN w e7_64 (q := 65) rfl rfl ?_
      refine g_bipush w e7_65 (q := 67) rfl (v := (8 : Int32)) (by decide) ?_
      refine g_iushr w e7_67 (q := 68) rfl ?_
      refine g_sipush w e7_68 (q := 71) rfl (v := (255 : Int32)) (by decide) ?_
      refine g_iand w e7_71 (q := 72) rfl ?_
      refine g_i2cM w e7_72 (q := 73) rfl ?_
      refine g_castore w e7_73 (q := 74) rfl A_a3 (i := 1) (by decide) (Nat.le_of_ble_eq_true rfl) (x' := ((Jvm.Free.XT.ushr i_ (8 : Int32)) &&& (255 : Int32))) (nar_lat (mask255 _)) n_a3 (w.safeAr A_a3 (by decide)) (fun T h w W V => ?_)
      replace E0 := ext_wr E0 W z_a3
      replace A_a3 : Ar Z h a3 .char [(.int (i_ &&& (255 : Int32))), (.int ((Jvm.Free.XT.ushr i_ (8 : Int32)) &&& (255 : Int32)))] := V
      refine g_new w e7_74 (q := 77) rfl (Hw hw 11 rfl) (Hw hw 12 rfl) (Hw hw 13 rfl) (by decide) (by decide) (fun T h a4 w E g_a4 n_a4 X_a4 D_a4 s_a4 => ?_)
      have z_a4 := Nat.le_trans E0.1 g_a4
      have ne_a3_a4 : a3 ≠ a4 := Nat.ne_of_lt (Nat.lt_of_lt_of_le A_a3.lt g_a4)
      replace E0 := ext_trans E0 E
      replace A_a3 := A_a3.ext E
      have F_value_a4 := D_a4 (Or.inr (Hw hw 27 rfl)) (ty := (.array .byte)) (by decide)
      replace F_value_a4 : Fld Z h a4 "java/lang/String" "value" "[B" .null := F_value_a4
      have F_coder_a4 := D_a4 (Or.inr (Hw hw 28 rfl)) (ty := .byte) (by decide)
      replace F_coder_a4 : Fld Z h a4 "java/lang/String" "coder" "B" (.int (0 : Int32)) := F_coder_a4
      refine g_dup w e7_77 (q := 78) rfl rfl ?_
      refine g_aloadN w e7_78 (q := 79) rfl rfl rfl ?_
      obtain ⟨-, kC, dC, KC⟩ := A_a3
      refine g_specialB w (a := a4) (argsL := [.ref a3]) (kc := 1) (ks := 2) (wr := [a4]) (fun s' hZ' => StrChars.Road.backV (W := 1) (len := 3) (n0 := Z.heap.size) hZ' (own_hws hw) (kI := 4) (Hw hw 12 rfl) (cs := [(i_ &&& (255 : Int32)), ((Jvm.Free.XT.ushr i_ (8 : Int32)) &&& (255 : Int32))]) (n := 2) n_a4 w.old.1 X_a4 F_value_a4 F_coder_a4 KC (w.sta SC_) hz_ rfl rfl (by decide) (by decide) (csS (mask255 _) (csS (mask255 _) cs0)) rfl (by decide) (by decide)) (fun v h' L q => ⟨q.2.1, q.2.2.1⟩) (in1 (safe_null w.wz.alike (Hw hw 12 rfl) X_a4 F_value_a4)) (in1 n_a4) e7_79 (q := 82) rfl rfl rfl (Hw hw 15 rfl) (Hw hw 16 rfl) (Hw hw 17 rfl) (by decide) pd2 rfl rfl (W := 1) (Nat.le_of_eq rfl) (by decide) (by decide) (fun T h v L w q => ?_)
      obtain ⟨rfl, -, K, X_t, F_c, t_, kb_, -, -, -, F_v, A_t⟩ := q
      replace E0 := ext_keep E0 K z_a4
      have X0 := X_a4
      replace X_a4 := X_a4.keep K
      have S_a4 : Sg Z h a4 [(i_ &&& (255 : Int32)), ((Jvm.Free.XT.ushr i_ (8 : Int32)) &&& (255 : Int32))] := ⟨Nat.le_of_ble_eq_true rfl, (csS (mask255 _) (csS (mask255 _) cs0)), X_t, t_, kb_, F_v, F_c, A_t⟩
      show Go p e below _ (State.setTop T (mkF m 82 #[.val (.int i_), .val (.int ((Jvm.Free.XT.ushr i_ (16 : Int32)) &&& (3 : Int32))), .val (.ref a3)] [(.ref a4)]))
      exact g_reta w e7_82 rfl rfl rfl (by decide) (by decide) ⟨_, rfl, E0, z_a4, S_a4.exa⟩
    · refine g_iconst w e7_27 (q := 28) rfl (v := (1 : Int32)) (by decide) ?_
      refine g_newarr w e7_28 (q := 30) rfl (Hw hw 14 rfl) (len := 1) (cap := 1) (by decide) (by decide) (by decide) (by decide) (by decide) (fun T h a5 w E g_a5 n_a5 A_a5 s_a5 => ?_)
      have z_a5 := Nat.le_trans E0.1 g_a5
      replace E0 := ext_trans E0 E
      replace A_a5 : Ar Z h a5 .char [(.int (0 : Int32))] := A_a5
      refine g_astoreN w e7_30 (q := 31) rfl rfl (Ls' := #[.val (.int i_), .val (.int ((Jvm.Free.XT.ushr i_ (16 : Int32)) &&& (3 : Int32))), .val (.ref a5)]) rfl ?_
      refine g_aloadN w e7_31 (q := 32) rfl rfl rfl ?_
      refine g_iconst w e7_32 (q := 33) rfl (v := (0 : Int32)) (by decide) ?_
      refine g_iloadN w e7_33 (q := 34) rfl rfl ?_
      refine g_sipush w e7_34 (q := 37) rfl (v := (255 : Int32)) (by decide) ?_
      refine g_iand w e7_37 (q := 38) rfl ?_
      refine g_i2cM w e7_38 (q := 39) rfl ?_
      refine g_castore w e7_39 (q := 40) rfl A_a5 (i := 0) (by decide) (Nat.le_of_ble_eq_true rfl) (x' := (i_ &&& (255 : Int32))) (nar_lat (mask255 _)) n_a5 (w.safeAr A_a5 (by decide)) (fun T h w W V => ?_)
      replace E0 := ext_wr E0 W z_a5
      replace A_a5 : Ar Z h a5 .char [(.int (i_ &&& (255 : Int32)))] := V
      refine g_new w e7_40 (q := 43) rfl (Hw hw 11 rfl) (Hw hw 12 rfl) (Hw hw 13 rfl) (by decide) (by decide) (fun T h a6 w E g_a6 n_a6 X_a6 D_a6 s_a6 => ?_)
      have z_a6 := Nat.le_trans E0.1 g_a6
      have ne_a5_a6 : a5 ≠ a6 := Nat.ne_of_lt (Nat.lt_of_lt_of_le A_a5.lt g_a6)
      replace E0 := ext_trans E0 E
      replace A_a5 := A_a5.ext E
      have F_value_a6 := D_a6 (Or.inr (Hw hw 27 rfl)) (ty := (.array .byte)) (by decide)
      replace F_value_a6 : Fld Z h a6 "java/lang/String" "value" "[B" .null := F_value_a6
      have F_coder_a6 := D_a6 (Or.inr (Hw hw 28 rfl)) (ty := .byte) (by decide)
      replace F_coder_a6 : Fld Z h a6 "java/lang/String" "coder" "B" (.int (0 : Int32)) := F_coder_a6
      refine g_dup w e7_43 (q := 44) rfl rfl ?_
      refine g_aloadN w e7_44 (q := 45) rfl rfl rfl ?_
      obtain ⟨-, kC, dC, KC⟩ := A_a5
      refine g_specialB w (a := a6) (argsL := [.ref a5]) (kc := 1) (ks := 1) (wr := [a6]) (fun s' hZ' => StrChars.Road.backV (W := 1) (len := 3) (n0 := Z.heap.size) hZ' (own_hws hw) (kI := 4) (Hw hw 12 rfl) (cs := [(i_ &&& (255 : Int32))]) (n := 1) n_a6 w.old.1 X_a6 F_value_a6 F_coder_a6 KC (w.sta SC_) hz_ rfl rfl (by decide) (by decide) (csS (mask255 _) cs0) rfl (by decide) (by decide)) (fun v h' L q => ⟨q.2.1, q.2.2.1⟩) (in1 (safe_null w.wz.alike (Hw hw 12 rfl) X_a6 F_value_a6)) (in1 n_a6) e7_45 (q := 48) rfl rfl rfl (Hw hw 15 rfl) (Hw hw 16 rfl) (Hw hw 17 rfl) (by decide) pd2 rfl rfl (W := 1) (Nat.le_of_eq rfl) (by decide) (by decide) (fun T h v L w q => ?_)
      obtain ⟨rfl, -, K, X_t, F_c, t_, kb_, -, -, -, F_v, A_t⟩ := q
      replace E0 := ext_keep E0 K z_a6
      have X0 := X_a6
      replace X_a6 := X_a6.keep K
      have S_a6 : Sg Z h a6 [(i_ &&& (255 : Int32))] := ⟨Nat.le_of_ble_eq_true rfl, (csS (mask255 _) cs0), X_t, t_, kb_, F_v, F_c, A_t⟩
      show Go p e below _ (State.setTop T (mkF m 48 #[.val (.int i_), .val (.int ((Jvm.Free.XT.ushr i_ (16 : Int32)) &&& (3 : Int32))), .val (.ref a5)] [(.ref a6)]))
      exact g_reta w e7_48 rfl rfl rfl (by decide) (by decide) ⟨_, rfl, E0, z_a6, S_a6.exa⟩
  · refine g_new w e7_11 (q := 14) rfl (Hw hw 11 rfl) (Hw hw 12 rfl) (Hw hw 13 rfl) (by decide) (by decide) (fun T h a7 w E g_a7 n_a7 X_a7 D_a7 s_a7 => ?_)
    have z_a7 := Nat.le_trans E0.1 g_a7
    replace E0 := ext_trans E0 E
    have F_value_a7 := D_a7 (Or.inr (Hw hw 27 rfl)) (ty := (.array .byte)) (by decide)
    replace F_value_a7 : Fld Z h a7 "java/lang/String" "value" "[B" .null := F_value_a7
    have F_coder_a7 := D_a7 (Or.inr (Hw hw 28 rfl)) (ty := .byte) (by decide)
    replace F_coder_a7 : Fld Z h a7 "java/lang/String" "coder" "B" (.int (0 : Int32)) := F_coder_a7
    refine g_dup w e7_14 (q := 15) rfl rfl ?_
    refine g_iconst w e7_15 (q := 16) rfl (v := (0 : Int32)) (by decide) ?_
    refine g_newarr w e7_16 (q := 18) rfl (Hw hw 14 rfl) (len := 0) (cap := 0) (by decide) (by decide) (by decide) (by decide) (by decide) (fun T h a8 w E g_a8 n_a8 A_a8 s_a8 => ?_)
    have z_a8 := Nat.le_trans E0.1 g_a8
    have ne_a7_a8 : a7 ≠ a8 := Nat.ne_of_lt (Nat.lt_of_lt_of_le X_a7.lt g_a8)
    replace E0 := ext_trans E0 E
    replace X_a7 := X_a7.ext E
    replace F_value_a7 := F_value_a7.ext E
    replace F_coder_a7 := F_coder_a7.ext E
    replace A_a8 : Ar Z h a8 .char [] := A_a8
    refine g_special w (con_new1E l Z a0 hw a7 a8 _ w.old X_a7 F_value_a7 F_coder_a7 n_a7 A_a8 ne_a7_a8.symm) no0 e7_18 (q := 21) rfl rfl rfl (Hw hw 15 rfl) (Hw hw 16 rfl) (Hw hw 13 rfl) (Hw hw 17 rfl) (by decide) pd2 rfl rfl (W := 1) (Nat.le_of_eq rfl) (by decide) (by decide) (by decide) (by decide) (fun T h v w gs C q => ?_)
    obtain ⟨rfl, K, S_a7⟩ := q
    replace E0 := ext_keep E0 K z_a7
    have X0 := X_a7
    replace X_a7 := X_a7.keep K
    replace A_a8 := A_a8.keep K (not1 ne_a7_a8.symm)
    show Go p e below _ (State.setTop T (mkF m 21 #[.val (.int i_), .val (.int ((Jvm.Free.XT.ushr i_ (16 : Int32)) &&& (3 : Int32))), .unset] [(.ref a7)]))
    exact g_reta w e7_21 rfl rfl rfl (by decide) (by decide) ⟨_, rfl, E0, z_a7, S_a7.exa⟩
theorem e8_0 : decode jdk_31_method_10_code 0 = .ok (.aload_n 0, 1) := by decide +kernel
theorem e8_1 : decode jdk_31_method_10_code 1 = .ok (.ifnonnull 11, 3) := by decide +kernel
theorem e8_4 : decode jdk_31_method_10_code 4 = .ok (.new 84, 3) := by decide +kernel
theorem e8_7 : decode jdk_31_method_10_code 7 = .ok (.dup, 1) := by decide +kernel
theorem e8_8 : decode jdk_31_method_10_code 8 = .ok (.invokespecial 86, 3) := by decide +kernel
theorem e8_11 : decode jdk_31_method_10_code 11 = .ok (.athrow, 1) := by decide +kernel
theorem e8_12 : decode jdk_31_method_10_code 12 = .ok (.aload_n 0, 1) := by decide +kernel
theorem e8_13 : decode jdk_31_method_10_code 13 = .ok (.areturn, 1) := by decide +kernel
theorem pn7 : plainName "java/util/Objects" = true := by first | (simp [plainName, overriddenIn]; done) | decide +kernel
set_option maxRecDepth 65536 in
set_option maxHeartbeats 40000000 in
theorem con_rn1 (l : Launch) (Z : State) (a0 : Array Value) (hw : ∀ d ∈ tables_1, d.before a0 Z = true) (x u : Addr) (h0 : Heap) (O0 : Ext Z.heap h0) :
    Con l Z consts_1 false (⟨"java/util/Objects", "requireNonNull", "(Ljava/lang/Object;)Ljava/lang/Object;"⟩ : MethodName) jdk_31_method_10_code 1 (some (.object "java/lang/Object")) [] ({ frames := 0, cells := 0, slots := 0, locals := 0 } : Room) #[(.ref x)] [] h0 (fun v h => v = some (.ref x) ∧ h = h0) := by
  refine Con.intro (Ls := #[.val (.ref x)]) (plainFor_of_name pn7) (own_EL hw) O0 (fun m => by first | (simp [entryFrame, mkF, argsToLocals, Value.category]; done) | rfl) (fun p e s m below meth cc_ T w sf_ => ?_)
  have E0 := ext_refl h0
  refine g_aloadN w e8_0 (q := 1) rfl rfl rfl ?_
  refine g_nonnullY w e8_1 (by decide) (q := 12) (by decide) ?_
  refine g_aloadN w e8_12 (q := 13) rfl rfl rfl ?_
  exact g_reta w e8_13 rfl rfl rfl (by decide) (by decide) ⟨rfl, rfl⟩
theorem e9_0 : decode jdk_31_method_11_code 0 = .ok (.aload_n 0, 1) := by decide +kernel
theorem e9_1 : decode jdk_31_method_11_code 1 = .ok (.ifnonnull 12, 3) := by decide +kernel
theorem e9_4 : decode jdk_31_method_11_code 4 = .ok (.new 84, 3) := by decide +kernel
theorem e9_7 : decode jdk_31_method_11_code 7 = .ok (.dup, 1) := by decide +kernel
theorem e9_8 : decode jdk_31_method_11_code 8 = .ok (.aload_n 1, 1) := by decide +kernel
theorem e9_9 : decode jdk_31_method_11_code 9 = .ok (.invokespecial 87, 3) := by decide +kernel
theorem e9_12 : decode jdk_31_method_11_code 12 = .ok (.athrow, 1) := by decide +kernel
theorem e9_13 : decode jdk_31_method_11_code 13 = .ok (.aload_n 0, 1) := by decide +kernel
theorem e9_14 : decode jdk_31_method_11_code 14 = .ok (.areturn, 1) := by decide +kernel
set_option maxRecDepth 65536 in
set_option maxHeartbeats 40000000 in
theorem con_rn2 (l : Launch) (Z : State) (a0 : Array Value) (hw : ∀ d ∈ tables_1, d.before a0 Z = true) (x u : Addr) (h0 : Heap) (O0 : Ext Z.heap h0) :
    Con l Z consts_1 false (⟨"java/util/Objects", "requireNonNull", "(Ljava/lang/Object;Ljava/lang/String;)Ljava/lang/Object;"⟩ : MethodName) jdk_31_method_11_code 2 (some (.object "java/lang/Object")) [] ({ frames := 0, cells := 0, slots := 0, locals := 0 } : Room) #[(.ref x), (.ref u)] [] h0 (fun v h => v = some (.ref x) ∧ h = h0) := by
  refine Con.intro (Ls := #[.val (.ref x), .val (.ref u)]) (plainFor_of_name pn7) (own_EL hw) O0 (fun m => by first | (simp [entryFrame, mkF, argsToLocals, Value.category]; done) | rfl) (fun p e s m below meth cc_ T w sf_ => ?_)
  have E0 := ext_refl h0
  refine g_aloadN w e9_0 (q := 1) rfl rfl rfl ?_
  refine g_nonnullY w e9_1 (by decide) (q := 13) (by decide) ?_
  refine g_aloadN w e9_13 (q := 14) rfl rfl rfl ?_
  exact g_reta w e9_14 rfl rfl rfl (by decide) (by decide) ⟨rfl, rfl⟩
theorem e10_0 : decode jdk_32_method_2_code 0 = .ok (.aload_n 0, 1) := by decide +kernel
theorem e10_1 : decode jdk_32_method_2_code 1 = .ok (.invokespecial 7, 3) := by decide +kernel
theorem e10_4 : decode jdk_32_method_2_code 4 = .ok (.aload_n 0, 1) := by decide +kernel
theorem e10_5 : decode jdk_32_method_2_code 5 = .ok (.aload_n 1, 1) := by decide +kernel
theorem e10_6 : decode jdk_32_method_2_code 6 = .ok (.putfield 13, 3) := by decide +kernel
theorem e10_9 : decode jdk_32_method_2_code 9 = .ok (.return_, 1) := by decide +kernel
theorem pn8 : plainName "java/util/Optional" = true := by first | (simp [plainName, overriddenIn]; done) | decide +kernel
set_option maxRecDepth 65536 in
set_option maxHeartbeats 40000000 in
theorem con_opi (l : Launch) (Z : State) (a0 : Array Value) (hw : ∀ d ∈ tables_1, d.before a0 Z = true) (x : Addr) (k : Addr) (h0 : Heap) (O0 : Ext Z.heap h0) (X_x : Exa Z h0 x "java/util/Optional") (F_value_x : Fld Z h0 x "java/util/Optional" "value" "Ljava/lang/Object;" .null) (n_x : Z.heap.size ≤ x) :
    Con l Z consts_1 false (⟨"java/util/Optional", "<init>", "(Ljava/lang/Object;)V"⟩ : MethodName) jdk_32_method_2_code 2 none [] ({ frames := 1, cells := 0, slots := 0, locals := 12 } : Room) #[(.ref x), (.ref k)] [] h0 (fun v h => v = none ∧ Keep h0 h [x] ∧ Fld Z h x "java/util/Optional" "value" "Ljava/lang/Object;" (.ref k)) := by
  refine Con.intro (Ls := #[.val (.ref x), .val (.ref k)]) (plainFor_of_name pn8) (own_EL hw) O0 (fun m => by first | (simp [entryFrame, mkF, argsToLocals, Value.category]; done) | rfl) (fun p e s m below meth cc_ T w sf_ => ?_)
  have K0 := Keep.refl h0 [x]
  refine g_aloadN w e10_0 (q := 1) rfl rfl rfl ?_
  refine g_initO w e10_1 (q := 4) rfl rfl (Hw hw 139 rfl) (Hw hw 23 rfl) (Hw hw 24 rfl) (W := 0) (Nat.le_of_eq rfl) (by decide) (by decide) (fun T w => ?_)
  refine g_aloadN w e10_4 (q := 5) rfl rfl rfl ?_
  refine g_aloadN w e10_5 (q := 6) rfl rfl rfl ?_
  have g_ := w.chv
  refine g_putF w e10_6 (q := 9) rfl (Hw hw 140 rfl) Via.refl F_value_x X_x (Or.inr ⟨(Hw hw 141 rfl), rfl, rfl⟩) (Hw hw 131 rfl) (ty := (.object "java/lang/Object")) (by decide) (v' := (.ref k)) rfl rfl n_x (w.safe X_x (by decide) (by decide)) (fun T h w W => ?_)
  replace K0 := K0.wr W (Or.inl (List.mem_singleton.mpr rfl))
  replace X_x := X_x.wr W
  replace F_value_x := F_value_x.same W
  exact g_return w e10_9 rfl (by decide) (by decide) ⟨rfl, K0, F_value_x⟩
theorem e11_0 : decode jdk_32_method_3_code 0 = .ok (.new 2, 3) := by decide +kernel
theorem e11_3 : decode jdk_32_method_3_code 3 = .ok (.dup, 1) := by decide +kernel
theorem e11_4 : decode jdk_32_method_3_code 4 = .ok (.aload_n 0, 1) := by decide +kernel
theorem e11_5 : decode jdk_32_method_3_code 5 = .ok (.invokestatic 17, 3) := by decide +kernel
theorem e11_8 : decode jdk_32_method_3_code 8 = .ok (.invokespecial 23, 3) := by decide +kernel
theorem e11_11 : decode jdk_32_method_3_code 11 = .ok (.areturn, 1) := by decide +kernel
theorem pd3 : parseMethodDescriptor "(Ljava/lang/Object;)Ljava/lang/Object;" = some ⟨[(.object "java/lang/Object")], some (.object "java/lang/Object")⟩ := by decide +kernel
theorem pd4 : parseMethodDescriptor "(Ljava/lang/Object;)V" = some ⟨[(.object "java/lang/Object")], none⟩ := by decide +kernel
set_option maxRecDepth 65536 in
set_option maxHeartbeats 40000000 in
theorem con_of (l : Launch) (Z : State) (a0 : Array Value) (hw : ∀ d ∈ tables_1, d.before a0 Z = true) (k : Addr) (h0 : Heap) (O0 : Ext Z.heap h0) :
    Con l Z consts_1 false (⟨"java/util/Optional", "of", "(Ljava/lang/Object;)Ljava/util/Optional;"⟩ : MethodName) jdk_32_method_3_code 1 (some (.object "java/util/Optional")) [] ({ frames := 2, cells := 1, slots := 1, locals := 26 } : Room) #[(.ref k)] [] h0 (fun v h => ∃ o, v = some (.ref o) ∧ Ext h0 h ∧ h0.size ≤ o ∧ Exa Z h o "java/util/Optional" ∧ Fld Z h o "java/util/Optional" "value" "Ljava/lang/Object;" (.ref k)) := by
  refine Con.intro (Ls := #[.val (.ref k)]) (plainFor_of_name pn8) (own_EL hw) O0 (fun m => by first | (simp [entryFrame, mkF, argsToLocals, Value.category]; done) | rfl) (fun p e s m below meth cc_ T w sf_ => ?_)
  have E0 := ext_refl h0
  refine g_new w e11_0 (q := 3) rfl (Hw hw 130 rfl) (Hw hw 131 rfl) (Hw hw 59 rfl) (by decide) (by decide) (fun T h a1 w E g_a1 n_a1 X_a1 D_a1 s_a1 => ?_)
  have z_a1 := Nat.le_trans E0.1 g_a1
  replace E0 := ext_trans E0 E
  have F_value_a1 := D_a1 (Or.inr (Hw hw 141 rfl)) (ty := (.object "java/lang/Object")) (by decide)
  replace F_value_a1 : Fld Z h a1 "java/util/Optional" "value" "Ljava/lang/Object;" .null := F_value_a1
  refine g_dup w e11_3 (q := 4) rfl rfl ?_
  refine g_aloadN w e11_4 (q := 5) rfl rfl rfl ?_
  refine g_staticP w (con_rn1 l Z a0 hw k k _ w.old) no0 e11_5 (q := 8) rfl rfl (Hw hw 132 rfl) (Hw hw 133 rfl) (Hw hw 77 rfl) (Hw hw 134 rfl) (by decide) pd3 rfl rfl (W := 2) (Nat.le_of_eq rfl) (by decide) (by decide) (by decide) (by decide) (fun T v w C q => ?_)
  obtain rfl := q
  show Go p e below _ (State.setTop T (mkF m 8 #[.val (.ref k)] [(.ref k), (.ref a1), (.ref a1)]))
  refine g_special w (con_opi l Z a0 hw a1 k _ w.old X_a1 F_value_a1 n_a1) no0 e11_8 (q := 11) rfl rfl rfl (Hw hw 135 rfl) (Hw hw 136 rfl) (Hw hw 59 rfl) (Hw hw 138 rfl) (by decide) pd4 rfl rfl (W := 1) (Nat.le_of_eq rfl) (by decide) (by decide) (by decide) (by decide) (fun T h v w gs C q => ?_)
  obtain ⟨rfl, K, G_value⟩ := q
  replace E0 := ext_keep E0 K z_a1
  have X0 := X_a1
  replace X_a1 := X_a1.keep K
  replace F_value_a1 := G_value
  show Go p e below _ (State.setTop T (mkF m 11 #[.val (.ref k)] [(.ref a1)]))
  exact g_reta w e11_11 rfl rfl rfl (by decide) (by decide) ⟨_, rfl, E0, z_a1, X_a1, F_value_a1⟩
theorem e12_0 : decode jdk_32_method_1_code 0 = .ok (.getstatic 1, 3) := by decide +kernel
theorem e12_3 : decode jdk_32_method_1_code 3 = .ok (.astore_n 0, 1) := by decide +kernel
theorem e12_4 : decode jdk_32_method_1_code 4 = .ok (.aload_n 0, 1) := by decide +kernel
theorem e12_5 : decode jdk_32_method_1_code 5 = .ok (.areturn, 1) := by decide +kernel
set_option maxRecDepth 65536 in
set_option maxHeartbeats 40000000 in
theorem con_emp (l : Launch) (Z : State) (a0 : Array Value) (hw : ∀ d ∈ tables_1, d.before a0 Z = true) (em : Addr) (h0 : Heap) (O0 : Ext Z.heap h0) (SE_ : Sta Z Z.heap "java/util/Optional" "EMPTY" "Ljava/util/Optional;" (.ref em)) :
    Con l Z consts_1 false (⟨"java/util/Optional", "empty", "()Ljava/util/Optional;"⟩ : MethodName) jdk_32_method_1_code 1 (some (.object "java/util/Optional")) [] ({ frames := 0, cells := 0, slots := 0, locals := 0 } : Room) #[] [] h0 (fun v h => v = some (.ref em) ∧ h = h0) := by
  refine Con.intro (Ls := #[.unset]) (plainFor_of_name pn8) (own_EL hw) O0 (fun m => by first | (simp [entryFrame, mkF, argsToLocals, Value.category]; done) | rfl) (fun p e s m below meth cc_ T w sf_ => ?_)
  have E0 := ext_refl h0
  refine g_getS w e12_0 (q := 3) rfl (Hw hw 61 rfl) Via.refl SE_ (fun T w => ?_)
  refine g_astoreN w e12_3 (q := 4) rfl rfl (Ls' := #[.val (.ref em)]) rfl ?_
  refine g_aloadN w e12_4 (q := 5) rfl rfl rfl ?_
  exact g_reta w e12_5 rfl rfl rfl (by decide) (by decide) ⟨rfl, rfl⟩
theorem e13_0 : decode jdk_32_method_6_code 0 = .ok (.aload_n 0, 1) := by decide +kernel
theorem e13_1 : decode jdk_32_method_6_code 1 = .ok (.getfield 13, 3) := by decide +kernel
theorem e13_4 : decode jdk_32_method_6_code 4 = .ok (.ifnull 7, 3) := by decide +kernel
theorem e13_7 : decode jdk_32_method_6_code 7 = .ok (.iconst 1, 1) := by decide +kernel
theorem e13_8 : decode jdk_32_method_6_code 8 = .ok (.goto 4, 3) := by decide +kernel
theorem e13_11 : decode jdk_32_method_6_code 11 = .ok (.iconst 0, 1) := by decide +kernel
theorem e13_12 : decode jdk_32_method_6_code 12 = .ok (.ireturn, 1) := by decide +kernel
set_option maxRecDepth 65536 in
set_option maxHeartbeats 40000000 in
theorem con_ip0 (l : Launch) (Z : State) (a0 : Array Value) (hw : ∀ d ∈ tables_1, d.before a0 Z = true) (x k : Addr) (h0 : Heap) (O0 : Ext Z.heap h0) (F_p : Fld Z h0 x "java/util/Optional" "value" "Ljava/lang/Object;" .null) :
    Con l Z consts_1 false (⟨"java/util/Optional", "isPresent", "()Z"⟩ : MethodName) jdk_32_method_6_code 1 (some .boolean) [] ({ frames := 0, cells := 0, slots := 0, locals := 0 } : Room) #[(.ref x)] [] h0 (fun v h => v = some (.int 0) ∧ h = h0) := by
  refine Con.intro (Ls := #[.val (.ref x)]) (plainFor_of_name pn8) (own_EL hw) O0 (fun m => by first | (simp [entryFrame, mkF, argsToLocals, Value.category]; done) | rfl) (fun p e s m below meth cc_ T w sf_ => ?_)
  have E0 := ext_refl h0
  refine g_aloadN w e13_0 (q := 1) rfl rfl rfl ?_
  refine g_getF w e13_1 (q := 4) rfl (host := "") (Or.inl (Hw hw 140 rfl)) Via.refl F_p (fun T w => ?_)
  refine g_nullY w e13_4 (by decide) (q := 11) (by decide) ?_
  refine g_iconst w e13_11 (q := 12) rfl (v := (0 : Int32)) (by decide) ?_
  exact g_retn w e13_12 rfl (by simp) rfl (by decide) (by decide) ⟨rfl, rfl⟩
set_option maxRecDepth 65536 in
set_option maxHeartbeats 40000000 in
theorem con_ip1 (l : Launch) (Z : State) (a0 : Array Value) (hw : ∀ d ∈ tables_1, d.before a0 Z = true) (x k : Addr) (h0 : Heap) (O0 : Ext Z.heap h0) (F_p : Fld Z h0 x "java/util/Optional" "value" "Ljava/lang/Object;" (.ref k)) :
    Con l Z consts_1 false (⟨"java/util/Optional", "isPresent", "()Z"⟩ : MethodName) jdk_32_method_6_code 1 (some .boolean) [] ({ frames := 0, cells := 0, slots := 0, locals := 0 } : Room) #[(.ref x)] [] h0 (fun v h => v = some (.int 1) ∧ h = h0) := by
  refine Con.intro (Ls := #[.val (.ref x)]) (plainFor_of_name pn8) (own_EL hw) O0 (fun m => by first | (simp [entryFrame, mkF, argsToLocals, Value.category]; done) | rfl) (fun p e s m below meth cc_ T w sf_ => ?_)
  have E0 := ext_refl h0
  refine g_aloadN w e13_0 (q := 1) rfl rfl rfl ?_
  refine g_getF w e13_1 (q := 4) rfl (host := "") (Or.inl (Hw hw 140 rfl)) Via.refl F_p (fun T w => ?_)
  refine g_nullN w e13_4 (q := 7) rfl ?_
  refine g_iconst w e13_7 (q := 8) rfl (v := (1 : Int32)) (by decide) ?_
  refine g_goto w e13_8 (by decide) (q := 12) (by decide) ?_
  exact g_retn w e13_12 rfl (by simp) rfl (by decide) (by decide) ⟨rfl, rfl⟩
theorem e14_0 : decode jdk_32_method_5_code 0 = .ok (.aload_n 0, 1) := by decide +kernel
theorem e14_1 : decode jdk_32_method_5_code 1 = .ok (.getfield 13, 3) := by decide +kernel
theorem e14_4 : decode jdk_32_method_5_code 4 = .ok (.ifnonnull 13, 3) := by decide +kernel
theorem e14_7 : decode jdk_32_method_5_code 7 = .ok (.new 26, 3) := by decide +kernel
theorem e14_10 : decode jdk_32_method_5_code 10 = .ok (.dup, 1) := by decide +kernel
theorem e14_11 : decode jdk_32_method_5_code 11 = .ok (.ldc 28, 2) := by decide +kernel
theorem e14_13 : decode jdk_32_method_5_code 13 = .ok (.invokespecial 30, 3) := by decide +kernel
theorem e14_16 : decode jdk_32_method_5_code 16 = .ok (.athrow, 1) := by decide +kernel
theorem e14_17 : decode jdk_32_method_5_code 17 = .ok (.aload_n 0, 1) := by decide +kernel
theorem e14_18 : decode jdk_32_method_5_code 18 = .ok (.getfield 13, 3) := by decide +kernel
theorem e14_21 : decode jdk_32_method_5_code 21 = .ok (.areturn, 1) := by decide +kernel
set_option maxRecDepth 65536 in
set_option maxHeartbeats 40000000 in
theorem con_oget (l : Launch) (Z : State) (a0 : Array Value) (hw : ∀ d ∈ tables_1, d.before a0 Z = true) (x k : Addr) (h0 : Heap) (O0 : Ext Z.heap h0) (F_p : Fld Z h0 x "java/util/Optional" "value" "Ljava/lang/Object;" (.ref k)) :
    Con l Z consts_1 false (⟨"java/util/Optional", "get", "()Ljava/lang/Object;"⟩ : MethodName) jdk_32_method_5_code 1 (some (.object "java/lang/Object")) [] ({ frames := 0, cells := 0, slots := 0, locals := 0 } : Room) #[(.ref x)] [] h0 (fun v h => v = some (.ref k) ∧ h = h0) := by
  refine Con.intro (Ls := #[.val (.ref x)]) (plainFor_of_name pn8) (own_EL hw) O0 (fun m => by first | (simp [entryFrame, mkF, argsToLocals, Value.category]; done) | rfl) (fun p e s m below meth cc_ T w sf_ => ?_)
  have E0 := ext_refl h0
  refine g_aloadN w e14_0 (q := 1) rfl rfl rfl ?_
  refine g_getF w e14_1 (q := 4) rfl (host := "") (Or.inl (Hw hw 140 rfl)) Via.refl F_p (fun T w => ?_)
  refine g_nonnullY w e14_4 (by decide) (q := 17) (by decide) ?_
  refine g_aloadN w e14_17 (q := 18) rfl rfl rfl ?_
  refine g_getF w e14_18 (q := 21) rfl (host := "") (Or.inl (Hw hw 140 rfl)) Via.refl F_p (fun T w => ?_)
  exact g_reta w e14_21 rfl rfl rfl (by decide) (by decide) ⟨rfl, rfl⟩
theorem e15_0 : decode jdk_42_method_66_code 0 = .ok (.aload_n 0, 1) := by decide +kernel
theorem e15_1 : decode jdk_42_method_66_code 1 = .ok (.aload_n 1, 1) := by decide +kernel
theorem e15_2 : decode jdk_42_method_66_code 2 = .ok (.if_acmp .ne 5, 3) := by decide +kernel
theorem e15_5 : decode jdk_42_method_66_code 5 = .ok (.iconst 1, 1) := by decide +kernel
theorem e15_6 : decode jdk_42_method_66_code 6 = .ok (.ireturn, 1) := by decide +kernel
theorem e15_7 : decode jdk_42_method_66_code 7 = .ok (.aload_n 1, 1) := by decide +kernel
theorem e15_8 : decode jdk_42_method_66_code 8 = .ok (.instanceof 10, 3) := by decide +kernel
theorem e15_11 : decode jdk_42_method_66_code 11 = .ok (.ifCond .eq 43, 3) := by decide +kernel
theorem e15_14 : decode jdk_42_method_66_code 14 = .ok (.aload_n 1, 1) := by decide +kernel
theorem e15_15 : decode jdk_42_method_66_code 15 = .ok (.checkcast 10, 3) := by decide +kernel
theorem e15_18 : decode jdk_42_method_66_code 18 = .ok (.astore_n 2, 1) := by decide +kernel
theorem e15_19 : decode jdk_42_method_66_code 19 = .ok (.getstatic 38, 3) := by decide +kernel
theorem e15_22 : decode jdk_42_method_66_code 22 = .ok (.ifCond .eq 14, 3) := by decide +kernel
theorem e15_25 : decode jdk_42_method_66_code 25 = .ok (.aload_n 0, 1) := by decide +kernel
theorem e15_26 : decode jdk_42_method_66_code 26 = .ok (.getfield 15, 3) := by decide +kernel
theorem e15_29 : decode jdk_42_method_66_code 29 = .ok (.aload_n 2, 1) := by decide +kernel
theorem e15_30 : decode jdk_42_method_66_code 30 = .ok (.getfield 15, 3) := by decide +kernel
theorem e15_33 : decode jdk_42_method_66_code 33 = .ok (.if_icmp .ne 21, 3) := by decide +kernel
theorem e15_36 : decode jdk_42_method_66_code 36 = .ok (.aload_n 0, 1) := by decide +kernel
theorem e15_37 : decode jdk_42_method_66_code 37 = .ok (.getfield 9, 3) := by decide +kernel
theorem e15_40 : decode jdk_42_method_66_code 40 = .ok (.aload_n 2, 1) := by decide +kernel
theorem e15_41 : decode jdk_42_method_66_code 41 = .ok (.getfield 9, 3) := by decide +kernel
theorem e15_44 : decode jdk_42_method_66_code 44 = .ok (.invokestatic 541, 3) := by decide +kernel
theorem e15_47 : decode jdk_42_method_66_code 47 = .ok (.ifCond .eq 7, 3) := by decide +kernel
theorem e15_50 : decode jdk_42_method_66_code 50 = .ok (.iconst 1, 1) := by decide +kernel
theorem e15_51 : decode jdk_42_method_66_code 51 = .ok (.goto 4, 3) := by decide +kernel
theorem e15_54 : decode jdk_42_method_66_code 54 = .ok (.iconst 0, 1) := by decide +kernel
theorem e15_55 : decode jdk_42_method_66_code 55 = .ok (.ireturn, 1) := by decide +kernel
set_option maxRecDepth 65536 in
set_option maxHeartbeats 40000000 in
theorem con_eq1 (l : Launch) (Z : State) (a0 : Array Value) (hw : ∀ d ∈ tables_1, d.before a0 Z = true) (x : Addr) (h0 : Heap) (O0 : Ext Z.heap h0) :
    Con l Z consts_1 false (⟨"java/lang/String", "equals", "(Ljava/lang/Object;)Z"⟩ : MethodName) jdk_42_method_66_code 3 (some .boolean) [] ({ frames := 0, cells := 0, slots := 0, locals := 0 } : Room) #[(.ref x), (.ref x)] [] h0 (fun v h => v = some (.int 1) ∧ h = h0) := by
  refine Con.intro (Ls := #[.val (.ref x), .val (.ref x), .unset]) (plainFor_of_name pn0) (own_EL hw) O0 (fun m => by first | (simp [entryFrame, mkF, argsToLocals, Value.category]; done) | rfl) (fun p e s m below meth cc_ T w sf_ => ?_)
  have E0 := ext_refl h0
  refine g_aloadN w e15_0 (q := 1) rfl rfl rfl ?_
  refine g_aloadN w e15_1 (q := 2) rfl rfl rfl ?_
  refine g_acN w e15_2 (q := 5) rfl rfl rfl (Jvm.Free.XT.aa_ne_f rfl) ?_
  refine g_iconst w e15_5 (q := 6) rfl (v := (1 : Int32)) (by decide) ?_
  exact g_retn w e15_6 rfl (by simp) rfl (by decide) (by decide) ⟨rfl, rfl⟩
theorem e16_0 : decode jdk_39_method_1_code 0 = .ok (.aload_n 0, 1) := by decide +kernel
theorem e16_1 : decode jdk_39_method_1_code 1 = .ok (.invokespecial 1, 3) := by decide +kernel
theorem e16_4 : decode jdk_39_method_1_code 4 = .ok (.aload_n 0, 1) := by decide +kernel
theorem e16_5 : decode jdk_39_method_1_code 5 = .ok (.iconst 0, 1) := by decide +kernel
theorem e16_6 : decode jdk_39_method_1_code 6 = .ok (.putfield 7, 3) := by decide +kernel
theorem e16_9 : decode jdk_39_method_1_code 9 = .ok (.return_, 1) := by decide +kernel
theorem pn9 : plainName "java/util/AbstractList" = true := by first | (simp [plainName, overriddenIn]; done) | decide +kernel
set_option maxRecDepth 65536 in
set_option maxHeartbeats 40000000 in
theorem con_ali (l : Launch) (Z : State) (a0 : Array Value) (hw : ∀ d ∈ tables_1, d.before a0 Z = true) (x : Addr) (h0 : Heap) (O0 : Ext Z.heap h0) (X_x : Exa Z h0 x "java/util/ArrayList") (F_elementData_x : Fld Z h0 x "java/util/ArrayList" "elementData" "[Ljava/lang/Object;" .null) (F_size_x : Fld Z h0 x "java/util/ArrayList" "size" "I" (.int (0 : Int32))) (F_modCount_x : Fld Z h0 x "java/util/AbstractList" "modCount" "I" (.int (0 : Int32))) (n_x : Z.heap.size ≤ x) :
    Con l Z consts_1 false (⟨"java/util/AbstractList", "<init>", "()V"⟩ : MethodName) jdk_39_method_1_code 1 none [] ({ frames := 2, cells := 0, slots := 0, locals := 24 } : Room) #[(.ref x)] [] h0 (fun v h => v = none ∧ Keep h0 h [x] ∧ Exa Z h x "java/util/ArrayList" ∧ Fld Z h x "java/util/ArrayList" "elementData" "[Ljava/lang/Object;" .null ∧ Fld Z h x "java/util/ArrayList" "size" "I" (.int (0 : Int32)) ∧ Fld Z h x "java/util/AbstractList" "modCount" "I" (.int (0 : Int32))) := by
  refine Con.intro (Ls := #[.val (.ref x)]) (plainFor_of_name pn9) (own_EL hw) O0 (fun m => by first | (simp [entryFrame, mkF, argsToLocals, Value.category]; done) | rfl) (fun p e s m below meth cc_ T w sf_ => ?_)
  have K0 := Keep.refl h0 [x]
  refine g_aloadN w e16_0 (q := 1) rfl rfl rfl ?_
  refine g_specialP w (con_ac l Z a0 hw x _ w.old) no0 e16_1 (q := 4) rfl rfl rfl (Hw hw 45 rfl) (Hw hw 46 rfl) (Hw hw 49 rfl) (Hw hw 50 rfl) (by decide) pd1 rfl rfl (W := 0) (Nat.le_of_eq rfl) (by decide) (by decide) (by decide) (by decide) (fun T v w C q => ?_)
  obtain rfl := q
  show Go p e below _ (State.setTop T (mkF m 4 #[.val (.ref x)] []))
  refine g_aloadN w e16_4 (q := 5) rfl rfl rfl ?_
  refine g_iconst w e16_5 (q := 6) rfl (v := (0 : Int32)) (by decide) ?_
  have g_ := w.chv
  refine g_putF w e16_6 (q := 9) rfl (Hw hw 52 rfl) Via.refl F_modCount_x X_x (Or.inl (Hw hw 53 rfl)) (Hw hw 34 rfl) (ty := .int) (by decide) (v' := (.int (0 : Int32))) rfl rfl n_x (w.safe X_x (by decide) (by decide)) (fun T h w W => ?_)
  replace K0 := K0.wr W (Or.inl (List.mem_singleton.mpr rfl))
  replace X_x := X_x.wr W
  replace F_elementData_x := F_elementData_x.other W (Or.inr (slot_ne (Or.inl (Hw hw 56 rfl)) (Or.inl (Hw hw 53 rfl)) (by decide) (t := (.array (.object "java/lang/Object"))) (t' := .int) (by decide) (by decide)))
  replace F_size_x := F_size_x.other W (Or.inr (slot_ne (Or.inl (Hw hw 105 rfl)) (Or.inl (Hw hw 53 rfl)) (by decide) (t := .int) (t' := .int) (by decide) (by decide)))
  replace F_modCount_x := F_modCount_x.same W
  exact g_return w e16_9 rfl (by decide) (by decide) ⟨rfl, K0, X_x, F_elementData_x, F_size_x, F_modCount_x⟩
theorem e17_0 : decode jdk_38_method_2_code 0 = .ok (.aload_n 0, 1) := by decide +kernel
theorem e17_1 : decode jdk_38_method_2_code 1 = .ok (.invokespecial 1, 3) := by decide +kernel
theorem e17_4 : decode jdk_38_method_2_code 4 = .ok (.aload_n 0, 1) := by decide +kernel
theorem e17_5 : decode jdk_38_method_2_code 5 = .ok (.getstatic 39, 3) := by decide +kernel
theorem e17_8 : decode jdk_38_method_2_code 8 = .ok (.putfield 9, 3) := by decide +kernel
theorem e17_11 : decode jdk_38_method_2_code 11 = .ok (.return_, 1) := by decide +kernel
theorem pn10 : plainName "java/util/ArrayList" = true := by first | (simp [plainName, overriddenIn]; done) | decide +kernel
set_option maxRecDepth 65536 in
set_option maxHeartbeats 40000000 in
theorem con_al (l : Launch) (Z : State) (a0 : Array Value) (hw : ∀ d ∈ tables_1, d.before a0 Z = true) (x df : Addr) (h0 : Heap) (O0 : Ext Z.heap h0) (X_x : Exa Z h0 x "java/util/ArrayList") (F_elementData_x : Fld Z h0 x "java/util/ArrayList" "elementData" "[Ljava/lang/Object;" .null) (F_size_x : Fld Z h0 x "java/util/ArrayList" "size" "I" (.int (0 : Int32))) (F_modCount_x : Fld Z h0 x "java/util/AbstractList" "modCount" "I" (.int (0 : Int32))) (n_x : Z.heap.size ≤ x) (SD_ : Sta Z Z.heap "java/util/ArrayList" "DEFAULTCAPACITY_EMPTY_ELEMENTDATA" "[Ljava/lang/Object;" (.ref df)) :
    Con l Z consts_1 false (⟨"java/util/ArrayList", "<init>", "()V"⟩ : MethodName) jdk_38_method_2_code 1 none [] ({ frames := 3, cells := 0, slots := 0, locals := 36 } : Room) #[(.ref x)] [] h0 (fun v h => v = none ∧ Keep h0 h [x] ∧ Exa Z h x "java/util/ArrayList" ∧ Fld Z h x "java/util/ArrayList" "elementData" "[Ljava/lang/Object;" (.ref df) ∧ Fld Z h x "java/util/ArrayList" "size" "I" (.int (0 : Int32)) ∧ Fld Z h x "java/util/AbstractList" "modCount" "I" (.int (0 : Int32))) := by
  refine Con.intro (Ls := #[.val (.ref x)]) (plainFor_of_name pn10) (own_EL hw) O0 (fun m => by first | (simp [entryFrame, mkF, argsToLocals, Value.category]; done) | rfl) (fun p e s m below meth cc_ T w sf_ => ?_)
  have K0 := Keep.refl h0 [x]
  refine g_aloadN w e17_0 (q := 1) rfl rfl rfl ?_
  refine g_special w (con_ali l Z a0 hw x _ w.old X_x F_elementData_x F_size_x F_modCount_x n_x) no0 e17_1 (q := 4) rfl rfl rfl (Hw hw 39 rfl) (Hw hw 40 rfl) (Hw hw 43 rfl) (Hw hw 44 rfl) (by decide) pd1 rfl rfl (W := 0) (Nat.le_of_eq rfl) (by decide) (by decide) (by decide) (by decide) (fun T h v w gs C q => ?_)
  obtain ⟨rfl, K, G_X, G_elementData, G_size, G_modCount⟩ := q
  replace K0 := keep_same K0 K
  have X0 := X_x
  replace X_x := X_x.keep K
  replace X_x := G_X
  replace F_elementData_x := G_elementData
  replace F_size_x := G_size
  replace F_modCount_x := G_modCount
  show Go p e below _ (State.setTop T (mkF m 4 #[.val (.ref x)] []))
  refine g_aloadN w e17_4 (q := 5) rfl rfl rfl ?_
  refine g_getS w e17_5 (q := 8) rfl (Hw hw 54 rfl) Via.refl SD_ (fun T w => ?_)
  have g_ := w.chv
  refine g_putF w e17_8 (q := 11) rfl (Hw hw 55 rfl) Via.refl F_elementData_x X_x (Or.inl (Hw hw 56 rfl)) (Hw hw 34 rfl) (ty := (.array (.object "java/lang/Object"))) (by decide) (v' := (.ref df)) rfl rfl n_x (w.safe X_x (by decide) (by decide)) (fun T h w W => ?_)
  replace K0 := K0.wr W (Or.inl (List.mem_singleton.mpr rfl))
  replace X_x := X_x.wr W
  replace F_elementData_x := F_elementData_x.same W
  replace F_size_x := F_size_x.other W (Or.inr (slot_ne (Or.inl (Hw hw 105 rfl)) (Or.inl (Hw hw 56 rfl)) (by decide) (t := .int) (t' := (.array (.object "java/lang/Object"))) (by decide) (by decide)))
  replace F_modCount_x := F_modCount_x.other W (Or.inr (slot_ne (Or.inl (Hw hw 53 rfl)) (Or.inl (Hw hw 56 rfl)) (by decide) (t := .int) (t' := (.array (.object "java/lang/Object"))) (by decide) (by decide)))
  exact g_return w e17_11 rfl (by decide) (by decide) ⟨rfl, K0, X_x, F_elementData_x, F_size_x, F_modCount_x⟩
theorem e18_0 : decode jdk_33_method_23_code 0 = .ok (.aload_n 0, 1) := by decide +kernel
theorem e18_1 : decode jdk_33_method_23_code 1 = .ok (.invokespecial 202, 3) := by decide +kernel
theorem e18_4 : decode jdk_33_method_23_code 4 = .ok (.aload_n 0, 1) := by decide +kernel
theorem e18_5 : decode jdk_33_method_23_code 5 = .ok (.iload_n 1, 1) := by decide +kernel
theorem e18_6 : decode jdk_33_method_23_code 6 = .ok (.putfield 205, 3) := by decide +kernel
theorem e18_9 : decode jdk_33_method_23_code 9 = .ok (.return_, 1) := by decide +kernel
theorem pn11 : plainName "java/lang/Integer" = true := by first | (simp [plainName, overriddenIn]; done) | decide +kernel
set_option maxRecDepth 65536 in
set_option maxHeartbeats 40000000 in
theorem con_int (l : Launch) (Z : State) (a0 : Array Value) (hw : ∀ d ∈ tables_1, d.before a0 Z = true) (x : Addr) (v_ : Int32) (h0 : Heap) (O0 : Ext Z.heap h0) (X_x : Exa Z h0 x "java/lang/Integer") (F_value_x : Fld Z h0 x "java/lang/Integer" "value" "I" (.int (0 : Int32))) (n_x : Z.heap.size ≤ x) :
    Con l Z consts_1 false (⟨"java/lang/Integer", "<init>", "(I)V"⟩ : MethodName) jdk_33_method_23_code 2 none [] ({ frames := 2, cells := 0, slots := 0, locals := 24 } : Room) #[(.ref x), (.int v_)] [] h0 (fun v h => v = none ∧ Keep h0 h [x] ∧ Fld Z h x "java/lang/Integer" "value" "I" (.int v_)) := by
  refine Con.intro (Ls := #[.val (.ref x), .val (.int v_)]) (plainFor_of_name pn11) (own_EL hw) O0 (fun m => by first | (simp [entryFrame, mkF, argsToLocals, Value.category]; done) | rfl) (fun p e s m below meth cc_ T w sf_ => ?_)
  have K0 := Keep.refl h0 [x]
  refine g_aloadN w e18_0 (q := 1) rfl rfl rfl ?_
  refine g_specialP w (con_num l Z a0 hw x _ w.old) no0 e18_1 (q := 4) rfl rfl rfl (Hw hw 225 rfl) (Hw hw 226 rfl) (Hw hw 229 rfl) (Hw hw 230 rfl) (by decide) pd1 rfl rfl (W := 0) (Nat.le_of_eq rfl) (by decide) (by decide) (by decide) (by decide) (fun T v w C q => ?_)
  obtain rfl := q
  show Go p e below _ (State.setTop T (mkF m 4 #[.val (.ref x), .val (.int v_)] []))
  refine g_aloadN w e18_4 (q := 5) rfl rfl rfl ?_
  refine g_iloadN w e18_5 (q := 6) rfl rfl ?_
  have g_ := w.chv
  refine g_putF w e18_6 (q := 9) rfl (Hw hw 232 rfl) Via.refl F_value_x X_x (Or.inr ⟨(Hw hw 233 rfl), rfl, rfl⟩) (Hw hw 220 rfl) (ty := .int) (by decide) (v' := (.int v_)) rfl rfl n_x (w.safe X_x (by decide) (by decide)) (fun T h w W => ?_)
  replace K0 := K0.wr W (Or.inl (List.mem_singleton.mpr rfl))
  replace X_x := X_x.wr W
  replace F_value_x := F_value_x.same W
  exact g_return w e18_9 rfl (by decide) (by decide) ⟨rfl, K0, F_value_x⟩
theorem e19_0 : decode jdk_29_method_65_code 0 = .ok (.iload_n 0, 1) := by decide +kernel
theorem e19_1 : decode jdk_29_method_65_code 1 = .ok (.iload_n 1, 1) := by decide +kernel
theorem e19_2 : decode jdk_29_method_65_code 2 = .ok (.if_icmp .lt 7, 3) := by decide +kernel
theorem e19_5 : decode jdk_29_method_65_code 5 = .ok (.iload_n 0, 1) := by decide +kernel
theorem e19_6 : decode jdk_29_method_65_code 6 = .ok (.goto 4, 3) := by decide +kernel
theorem e19_9 : decode jdk_29_method_65_code 9 = .ok (.iload_n 1, 1) := by decide +kernel
theorem e19_10 : decode jdk_29_method_65_code 10 = .ok (.ireturn, 1) := by decide +kernel
set_option maxRecDepth 65536 in
set_option maxHeartbeats 40000000 in
theorem con_max (l : Launch) (Z : State) (a0 : Array Value) (hw : ∀ d ∈ tables_1, d.before a0 Z = true) (a b : Int32) (h0 : Heap) (O0 : Ext Z.heap h0) :
    Con l Z consts_1 false (⟨"java/lang/Math", "max", "(II)I"⟩ : MethodName) jdk_29_method_65_code 2 (some .int) [] ({ frames := 0, cells := 0, slots := 0, locals := 0 } : Room) #[(.int a), (.int b)] [] h0 (fun v h => v = some (.int (if a < b then b else a)) ∧ h = h0) := by
  refine Con.intro (Ls := #[.val (.int a), .val (.int b)]) (Jvm.Free.JP.mathPlain rfl (by decide +kernel)) (own_EL hw) O0 (fun m => by first | (simp [entryFrame, mkF, argsToLocals, Value.category]; done) | rfl) (fun p e s m below meth cc_ T w sf_ => ?_)
  have E0 := ext_refl h0
  refine g_iloadN w e19_0 (q := 1) rfl rfl ?_
  refine g_iloadN w e19_1 (q := 2) rfl rfl ?_
  refine g_ic_lt w e19_2 (by decide) (q := 9) (by decide) (q' := 5) rfl (fun cd1 => ?_) (fun cd1 => ?_)
  · refine g_iloadN w e19_9 (q := 10) rfl rfl ?_
    exact g_reti w e19_10 rfl (by decide) (by decide) ⟨by rw [if_pos cd1], rfl⟩
  · refine g_iloadN w e19_5 (q := 6) rfl rfl ?_
    refine g_goto w e19_6 (by decide) (q := 10) (by decide) ?_
    exact g_reti w e19_10 rfl (by decide) (by decide) ⟨by rw [if_neg cd1], rfl⟩
theorem e20_0 : decode jdk_29_method_69_code 0 = .ok (.iload_n 0, 1) := by decide +kernel
theorem e20_1 : decode jdk_29_method_69_code 1 = .ok (.iload_n 1, 1) := by decide +kernel
theorem e20_2 : decode jdk_29_method_69_code 2 = .ok (.if_icmp .gt 7, 3) := by decide +kernel
theorem e20_5 : decode jdk_29_method_69_code 5 = .ok (.iload_n 0, 1) := by decide +kernel
theorem e20_6 : decode jdk_29_method_69_code 6 = .ok (.goto 4, 3) := by decide +kernel
theorem e20_9 : decode jdk_29_method_69_code 9 = .ok (.iload_n 1, 1) := by decide +kernel
theorem e20_10 : decode jdk_29_method_69_code 10 = .ok (.ireturn, 1) := by decide +kernel
set_option maxRecDepth 65536 in
set_option maxHeartbeats 40000000 in
theorem con_min (l : Launch) (Z : State) (a0 : Array Value) (hw : ∀ d ∈ tables_1, d.before a0 Z = true) (a b : Int32) (h0 : Heap) (O0 : Ext Z.heap h0) :
    Con l Z consts_1 false (⟨"java/lang/Math", "min", "(II)I"⟩ : MethodName) jdk_29_method_69_code 2 (some .int) [] ({ frames := 0, cells := 0, slots := 0, locals := 0 } : Room) #[(.int a), (.int b)] [] h0 (fun v h => v = some (.int (if b < a then b else a)) ∧ h = h0) := by
  refine Con.intro (Ls := #[.val (.int a), .val (.int b)]) (Jvm.Free.JP.mathPlain rfl (by decide +kernel)) (own_EL hw) O0 (fun m => by first | (simp [entryFrame, mkF, argsToLocals, Value.category]; done) | rfl) (fun p e s m below meth cc_ T w sf_ => ?_)
  have E0 := ext_refl h0
  refine g_iloadN w e20_0 (q := 1) rfl rfl ?_
  refine g_iloadN w e20_1 (q := 2) rfl rfl ?_
  refine g_ic_gt w e20_2 (by decide) (q := 9) (by decide) (q' := 5) rfl (fun cd1 => ?_) (fun cd1 => ?_)
  · refine g_iloadN w e20_9 (q := 10) rfl rfl ?_
    exact g_reti w e20_10 rfl (by decide) (by decide) ⟨by rw [if_pos cd1], rfl⟩
  · refine g_iloadN w e20_5 (q := 6) rfl rfl ?_
    refine g_goto w e20_6 (by decide) (q := 10) (by decide) ?_
    exact g_reti w e20_10 rfl (by decide) (by decide) ⟨by rw [if_neg cd1], rfl⟩
theorem e21_0 : decode jdk_38_method_6_code 0 = .ok (.aload_n 0, 1) := by decide +kernel
theorem e21_1 : decode jdk_38_method_6_code 1 = .ok (.getfield 9, 3) := by decide +kernel
theorem e21_4 : decode jdk_38_method_6_code 4 = .ok (.arraylength, 1) := by decide +kernel
theorem e21_5 : decode jdk_38_method_6_code 5 = .ok (.istore_n 2, 1) := by decide +kernel
theorem e21_6 : decode jdk_38_method_6_code 6 = .ok (.iload_n 2, 1) := by decide +kernel
theorem e21_7 : decode jdk_38_method_6_code 7 = .ok (.ifCond .gt 13, 3) := by decide +kernel
theorem e21_10 : decode jdk_38_method_6_code 10 = .ok (.aload_n 0, 1) := by decide +kernel
theorem e21_11 : decode jdk_38_method_6_code 11 = .ok (.getfield 9, 3) := by decide +kernel
theorem e21_14 : decode jdk_38_method_6_code 14 = .ok (.getstatic 39, 3) := by decide +kernel
theorem e21_17 : decode jdk_38_method_6_code 17 = .ok (.if_acmp .eq 28, 3) := by decide +kernel
theorem e21_20 : decode jdk_38_method_6_code 20 = .ok (.iload_n 2, 1) := by decide +kernel
theorem e21_21 : decode jdk_38_method_6_code 21 = .ok (.iload_n 1, 1) := by decide +kernel
theorem e21_22 : decode jdk_38_method_6_code 22 = .ok (.iload_n 2, 1) := by decide +kernel
theorem e21_23 : decode jdk_38_method_6_code 23 = .ok (.isub, 1) := by decide +kernel
theorem e21_24 : decode jdk_38_method_6_code 24 = .ok (.iload_n 2, 1) := by decide +kernel
theorem e21_25 : decode jdk_38_method_6_code 25 = .ok (.iconst 1, 1) := by decide +kernel
theorem e21_26 : decode jdk_38_method_6_code 26 = .ok (.ishr, 1) := by decide +kernel
theorem e21_27 : decode jdk_38_method_6_code 27 = .ok (.invokestatic 73, 3) := by decide +kernel
theorem e21_30 : decode jdk_38_method_6_code 30 = .ok (.istore_n 3, 1) := by decide +kernel
theorem e21_31 : decode jdk_38_method_6_code 31 = .ok (.aload_n 0, 1) := by decide +kernel
theorem e21_32 : decode jdk_38_method_6_code 32 = .ok (.aload_n 0, 1) := by decide +kernel
theorem e21_33 : decode jdk_38_method_6_code 33 = .ok (.getfield 9, 3) := by decide +kernel
theorem e21_36 : decode jdk_38_method_6_code 36 = .ok (.iload_n 3, 1) := by decide +kernel
theorem e21_37 : decode jdk_38_method_6_code 37 = .ok (.invokestatic 66, 3) := by decide +kernel
theorem e21_40 : decode jdk_38_method_6_code 40 = .ok (.dup_x1, 1) := by decide +kernel
theorem e21_41 : decode jdk_38_method_6_code 41 = .ok (.putfield 9, 3) := by decide +kernel
theorem e21_44 : decode jdk_38_method_6_code 44 = .ok (.areturn, 1) := by decide +kernel
theorem e21_45 : decode jdk_38_method_6_code 45 = .ok (.aload_n 0, 1) := by decide +kernel
theorem e21_46 : decode jdk_38_method_6_code 46 = .ok (.bipush 10, 2) := by decide +kernel
theorem e21_48 : decode jdk_38_method_6_code 48 = .ok (.iload_n 1, 1) := by decide +kernel
theorem e21_49 : decode jdk_38_method_6_code 49 = .ok (.invokestatic 79, 3) := by decide +kernel
theorem e21_52 : decode jdk_38_method_6_code 52 = .ok (.anewarray 7, 3) := by decide +kernel
theorem e21_55 : decode jdk_38_method_6_code 55 = .ok (.dup_x1, 1) := by decide +kernel
theorem e21_56 : decode jdk_38_method_6_code 56 = .ok (.putfield 9, 3) := by decide +kernel
theorem e21_59 : decode jdk_38_method_6_code 59 = .ok (.areturn, 1) := by decide +kernel
theorem pd5 : parseMethodDescriptor "(II)I" = some ⟨[.int, .int], some .int⟩ := by decide +kernel
set_option maxRecDepth 65536 in
set_option maxHeartbeats 40000000 in
theorem con_g1 (l : Launch) (Z : State) (a0 : Array Value) (hw : ∀ d ∈ tables_1, d.before a0 Z = true) (x df : Addr) (h0 : Heap) (O0 : Ext Z.heap h0) (X_x : Exa Z h0 x "java/util/ArrayList") (F_elementData_x : Fld Z h0 x "java/util/ArrayList" "elementData" "[Ljava/lang/Object;" (.ref df)) (F_size_x : Fld Z h0 x "java/util/ArrayList" "size" "I" (.int (0 : Int32))) (F_modCount_x : Fld Z h0 x "java/util/AbstractList" "modCount" "I" (.int (1 : Int32))) (n_x : Z.heap.size ≤ x) (SD_ : Sta Z Z.heap "java/util/ArrayList" "DEFAULTCAPACITY_EMPTY_ELEMENTDATA" "[Ljava/lang/Object;" (.ref df)) (AD_ : Ar Z Z.heap df (.object "java/lang/Object") []) :
    Con l Z consts_1 false (⟨"java/util/ArrayList", "grow", "(I)[Ljava/lang/Object;"⟩ : MethodName) jdk_38_method_6_code 4 (some (.array (.object "java/lang/Object"))) [] ({ frames := 1, cells := 1, slots := 10, locals := 14 } : Room) #[(.ref x), (.int (1 : Int32))] [] h0 (fun v h => ∃ t, v = some (.ref t) ∧ Keep h0 h [x] ∧ h0.size ≤ t ∧ Ar Z h t (.object "java/lang/Object") [.null, .null, .null, .null, .null, .null, .null, .null, .null, .null] ∧ Exa Z h t "[Ljava/lang/Object;" ∧ OvA Z h t "java/lang/Object" ∧ Exa Z h x "java/util/ArrayList" ∧ Fld Z h x "java/util/ArrayList" "elementData" "[Ljava/lang/Object;" (.ref t) ∧ Fld Z h x "java/util/ArrayList" "size" "I" (.int (0 : Int32)) ∧ Fld Z h x "java/util/AbstractList" "modCount" "I" (.int (1 : Int32))) := by
  refine Con.intro (Ls := #[.val (.ref x), .val (.int (1 : Int32)), .unset, .unset]) (plainFor_of_name pn10) (own_EL hw) O0 (fun m => by first | (simp [entryFrame, mkF, argsToLocals, Value.category]; done) | rfl) (fun p e s m below meth cc_ T w sf_ => ?_)
  have K0 := Keep.refl h0 [x]
  refine g_aloadN w e21_0 (q := 1) rfl rfl rfl ?_
  refine g_getF w e21_1 (q := 4) rfl (host := "") (Or.inl (Hw hw 55 rfl)) Via.refl F_elementData_x (fun T w => ?_)
  have AD1 := AD_.ext w.old
  refine g_alen w e21_4 (q := 5) rfl AD1 ?_
  show Go p e below _ (State.setTop T (mkF m 5 #[.val (.ref x), .val (.int (1 : Int32)), .unset, .unset] [(.int (0 : Int32))]))
  refine g_istoreN w e21_5 (q := 6) rfl (Ls' := #[.val (.ref x), .val (.int (1 : Int32)), .val (.int (0 : Int32)), .unset]) rfl ?_
  refine g_iloadN w e21_6 (q := 7) rfl rfl ?_
  refine g_ifN w e21_7 (q := 10) rfl (by decide) ?_
  refine g_aloadN w e21_10 (q := 11) rfl rfl rfl ?_
  refine g_getF w e21_11 (q := 14) rfl (host := "") (Or.inl (Hw hw 55 rfl)) Via.refl F_elementData_x (fun T w => ?_)
  refine g_getS w e21_14 (q := 17) rfl (Hw hw 54 rfl) Via.refl SD_ (fun T w => ?_)
  refine g_acY w e21_17 (by decide) (q := 45) (by decide) rfl rfl (Jvm.Free.XT.aa_eq_t rfl) ?_
  refine g_aloadN w e21_45 (q := 46) rfl rfl rfl ?_
  refine g_bipush w e21_46 (q := 48) rfl (v := (10 : Int32)) (by decide) ?_
  refine g_iloadN w e21_48 (q := 49) rfl rfl ?_
  refine g_staticP w (con_max l Z a0 hw (10 : Int32) (1 : Int32) _ w.old) no0 e21_49 (q := 52) rfl rfl (Hw hw 260 rfl) (Hw hw 261 rfl) (Hw hw 262 rfl) (Hw hw 263 rfl) (by decide) pd5 rfl rfl (W := 1) (Nat.le_of_eq rfl) (by decide) (by decide) (by decide) (by decide) (fun T v w C q => ?_)
  obtain rfl := q
  show Go p e below _ (State.setTop T (mkF m 52 #[.val (.ref x), .val (.int (1 : Int32)), .val (.int (0 : Int32)), .unset] [(.int (10 : Int32)), (.ref x)]))
  refine g_anew w e21_52 (q := 55) rfl (Hw hw 264 rfl) (Hw hw 265 rfl) (ad := "[Ljava/lang/Object;") (by decide) (len := 10) (cap := 10) (by decide) (by decide) (by decide) (by decide) (by decide) (fun T h t w E g_t n_t A_t X_t O_t s_t => ?_)
  have z_t := Nat.le_trans K0.1 g_t
  have ne_x_t : x ≠ t := Nat.ne_of_lt (Nat.lt_of_lt_of_le X_x.lt g_t)
  replace K0 := K0.ext E
  replace X_x := X_x.ext E
  replace F_elementData_x := F_elementData_x.ext E
  replace F_size_x := F_size_x.ext E
  replace F_modCount_x := F_modCount_x.ext E
  replace A_t : Ar Z h t (.object "java/lang/Object") [.null, .null, .null, .null, .null, .null, .null, .null, .null, .null] := A_t
  refine g_dupX1 w e21_55 (q := 56) rfl rfl rfl ?_
  have g_ := w.chv
  refine g_putF w e21_56 (q := 59) rfl (Hw hw 55 rfl) Via.refl F_elementData_x X_x (Or.inl (Hw hw 56 rfl)) (Hw hw 34 rfl) (ty := (.array (.object "java/lang/Object"))) (by decide) (v' := (.ref t)) rfl rfl n_x (w.safe X_x (by decide) (by decide)) (fun T h w W => ?_)
  replace K0 := K0.wr W (Or.inl (List.mem_singleton.mpr rfl))
  replace X_x := X_x.wr W
  replace F_elementData_x := F_elementData_x.same W
  replace F_size_x := F_size_x.other W (Or.inr (slot_ne (Or.inl (Hw hw 105 rfl)) (Or.inl (Hw hw 56 rfl)) (by decide) (t := .int) (t' := (.array (.object "java/lang/Object"))) (by decide) (by decide)))
  replace F_modCount_x := F_modCount_x.other W (Or.inr (slot_ne (Or.inl (Hw hw 53 rfl)) (Or.inl (Hw hw 56 rfl)) (by decide) (t := .int) (t' := (.array (.object "java/lang/Object"))) (by decide) (by decide)))
  replace A_t := A_t.other W ne_x_t.symm
  replace X_t := X_t.wr W
  replace O_t := O_t.wr W
  exact g_reta w e21_59 rfl rfl rfl (by decide) (by decide) ⟨t, rfl, K0, z_t, A_t, X_t, O_t, X_x, F_elementData_x, F_size_x, F_modCount_x⟩
theorem e22_0 : decode jdk_38_method_7_code 0 = .ok (.aload_n 0, 1) := by decide +kernel
theorem e22_1 : decode jdk_38_method_7_code 1 = .ok (.aload_n 0, 1) := by decide +kernel
theorem e22_2 : decode jdk_38_method_7_code 2 = .ok (.getfield 48, 3) := by decide +kernel
theorem e22_5 : decode jdk_38_method_7_code 5 = .ok (.iconst 1, 1) := by decide +kernel
theorem e22_6 : decode jdk_38_method_7_code 6 = .ok (.iadd, 1) := by decide +kernel
theorem e22_7 : decode jdk_38_method_7_code 7 = .ok (.invokevirtual 69, 3) := by decide +kernel
theorem e22_10 : decode jdk_38_method_7_code 10 = .ok (.areturn, 1) := by decide +kernel
theorem pd6 : parseMethodDescriptor "(I)[Ljava/lang/Object;" = some ⟨[.int], some (.array (.object "java/lang/Object"))⟩ := by decide +kernel
set_option maxRecDepth 65536 in
set_option maxHeartbeats 40000000 in
theorem con_g0 (l : Launch) (Z : State) (a0 : Array Value) (hw : ∀ d ∈ tables_1, d.before a0 Z = true) (x df : Addr) (h0 : Heap) (O0 : Ext Z.heap h0) (X_x : Exa Z h0 x "java/util/ArrayList") (F_elementData_x : Fld Z h0 x "java/util/ArrayList" "elementData" "[Ljava/lang/Object;" (.ref df)) (F_size_x : Fld Z h0 x "java/util/ArrayList" "size" "I" (.int (0 : Int32))) (F_modCount_x : Fld Z h0 x "java/util/AbstractList" "modCount" "I" (.int (1 : Int32))) (n_x : Z.heap.size ≤ x) (SD_ : Sta Z Z.heap "java/util/ArrayList" "DEFAULTCAPACITY_EMPTY_ELEMENTDATA" "[Ljava/lang/Object;" (.ref df)) (AD_ : Ar Z Z.heap df (.object "java/lang/Object") []) :
    Con l Z consts_1 false (⟨"java/util/ArrayList", "grow", "()[Ljava/lang/Object;"⟩ : MethodName) jdk_38_method_7_code 1 (some (.array (.object "java/lang/Object"))) [] ({ frames := 2, cells := 1, slots := 10, locals := 29 } : Room) #[(.ref x)] [] h0 (fun v h => ∃ t, v = some (.ref t) ∧ Keep h0 h [x] ∧ h0.size ≤ t ∧ Ar Z h t (.object "java/lang/Object") [.null, .null, .null, .null, .null, .null, .null, .null, .null, .null] ∧ Exa Z h t "[Ljava/lang/Object;" ∧ OvA Z h t "java/lang/Object" ∧ Exa Z h x "java/util/ArrayList" ∧ Fld Z h x "java/util/ArrayList" "elementData" "[Ljava/lang/Object;" (.ref t) ∧ Fld Z h x "java/util/ArrayList" "size" "I" (.int (0 : Int32)) ∧ Fld Z h x "java/util/AbstractList" "modCount" "I" (.int (1 : Int32))) := by
  refine Con.intro (Ls := #[.val (.ref x)]) (plainFor_of_name pn10) (own_EL hw) O0 (fun m => by first | (simp [entryFrame, mkF, argsToLocals, Value.category]; done) | rfl) (fun p e s m below meth cc_ T w sf_ => ?_)
  have K0 := Keep.refl h0 [x]
  refine g_aloadN w e22_0 (q := 1) rfl rfl rfl ?_
  refine g_aloadN w e22_1 (q := 2) rfl rfl rfl ?_
  refine g_getF w e22_2 (q := 5) rfl (host := "") (Or.inl (Hw hw 104 rfl)) Via.refl F_size_x (fun T w => ?_)
  refine g_iconst w e22_5 (q := 6) rfl (v := (1 : Int32)) (by decide) ?_
  refine g_iadd w e22_6 (q := 7) rfl ?_
  rw [show ((0 : Int32) + (1 : Int32)) = 1 from by decide]
  show Go p e below _ (State.setTop T (mkF m 7 #[.val (.ref x)] [(.int (1 : Int32)), (.ref x)]))
  refine g_priv w (con_g1 l Z a0 hw x df _ w.old X_x F_elementData_x F_size_x F_modCount_x n_x SD_ AD_) no0 X_x e22_7 (q := 10) rfl rfl (Hw hw 255 rfl) (Hw hw 257 rfl) (Hw hw 258 rfl) (Hw hw 256 rfl) (Hw hw 35 rfl) (Hw hw 259 rfl) (by decide) pd6 rfl rfl (W := 0) (Nat.le_of_eq rfl) (by decide) (by decide) (by decide) (by decide) (fun T h v w gs C q => ?_)
  obtain ⟨t, rfl, K, g_t, A_t, X_t, O_t, G_X, G_elementData, G_size, G_modCount⟩ := q
  have z_t := Nat.le_trans K0.1 g_t
  have ne_x_t : x ≠ t := Nat.ne_of_lt (Nat.lt_of_lt_of_le X_x.lt g_t)
  replace K0 := keep_same K0 K
  have X0 := X_x
  replace X_x := X_x.keep K
  replace X_x := G_X
  replace F_elementData_x := G_elementData
  replace F_size_x := G_size
  replace F_modCount_x := G_modCount
  show Go p e below _ (State.setTop T (mkF m 10 #[.val (.ref x)] [(.ref t)]))
  exact g_reta w e22_10 rfl rfl rfl (by decide) (by decide) ⟨t, rfl, K0, z_t, A_t, X_t, O_t, X_x, F_elementData_x, F_size_x, F_modCount_x⟩
theorem e23_0 : decode jdk_38_method_24_code 0 = .ok (.iload_n 3, 1) := by decide +kernel
theorem e23_1 : decode jdk_38_method_24_code 1 = .ok (.aload_n 2, 1) := by decide +kernel
theorem e23_2 : decode jdk_38_method_24_code 2 = .ok (.arraylength, 1) := by decide +kernel
theorem e23_3 : decode jdk_38_method_24_code 3 = .ok (.if_icmp .ne 8, 3) := by decide +kernel
theorem e23_6 : decode jdk_38_method_24_code 6 = .ok (.aload_n 0, 1) := by decide +kernel
theorem e23_7 : decode jdk_38_method_24_code 7 = .ok (.invokevirtual 129, 3) := by decide +kernel
theorem e23_10 : decode jdk_38_method_24_code 10 = .ok (.astore_n 2, 1) := by decide +kernel
theorem e23_11 : decode jdk_38_method_24_code 11 = .ok (.aload_n 2, 1) := by decide +kernel
theorem e23_12 : decode jdk_38_method_24_code 12 = .ok (.iload_n 3, 1) := by decide +kernel
theorem e23_13 : decode jdk_38_method_24_code 13 = .ok (.aload_n 1, 1) := by decide +kernel
theorem e23_14 : decode jdk_38_method_24_code 14 = .ok (.aastore, 1) := by decide +kernel
theorem e23_15 : decode jdk_38_method_24_code 15 = .ok (.aload_n 0, 1) := by decide +kernel
theorem e23_16 : decode jdk_38_method_24_code 16 = .ok (.iload_n 3, 1) := by decide +kernel
theorem e23_17 : decode jdk_38_method_24_code 17 = .ok (.iconst 1, 1) := by decide +kernel
theorem e23_18 : decode jdk_38_method_24_code 18 = .ok (.iadd, 1) := by decide +kernel
theorem e23_19 : decode jdk_38_method_24_code 19 = .ok (.putfield 48, 3) := by decide +kernel
theorem e23_22 : decode jdk_38_method_24_code 22 = .ok (.return_, 1) := by decide +kernel
theorem pd7 : parseMethodDescriptor "()[Ljava/lang/Object;" = some ⟨[], some (.array (.object "java/lang/Object"))⟩ := by decide +kernel
set_option maxRecDepth 65536 in
set_option maxHeartbeats 40000000 in
theorem con_a3 (l : Launch) (Z : State) (a0 : Array Value) (hw : ∀ d ∈ tables_1, d.before a0 Z = true) (x df ev : Addr) (iv : Int32) (h0 : Heap) (O0 : Ext Z.heap h0) (X_x : Exa Z h0 x "java/util/ArrayList") (F_elementData_x : Fld Z h0 x "java/util/ArrayList" "elementData" "[Ljava/lang/Object;" (.ref df)) (F_size_x : Fld Z h0 x "java/util/ArrayList" "size" "I" (.int (0 : Int32))) (F_modCount_x : Fld Z h0 x "java/util/AbstractList" "modCount" "I" (.int (1 : Int32))) (n_x : Z.heap.size ≤ x) (X_e : Exa Z h0 ev "java/lang/Integer") (F_e : Fld Z h0 ev "java/lang/Integer" "value" "I" (.int iv)) (ne_ev_x : ev ≠ x) (SD_ : Sta Z Z.heap "java/util/ArrayList" "DEFAULTCAPACITY_EMPTY_ELEMENTDATA" "[Ljava/lang/Object;" (.ref df)) (AD_ : Ar Z Z.heap df (.object "java/lang/Object") []) :
    Con l Z consts_1 false (⟨"java/util/ArrayList", "add", "(Ljava/lang/Object;[Ljava/lang/Object;I)V"⟩ : MethodName) jdk_38_method_24_code 4 none [] ({ frames := 3, cells := 1, slots := 10, locals := 41 } : Room) #[(.ref x), (.ref ev), (.ref df), (.int (0 : Int32))] [] h0 (fun v h => v = none ∧ Keep h0 h [x] ∧ ∃ t, h0.size ≤ t ∧ Ar Z h t (.object "java/lang/Object") [.ref ev, .null, .null, .null, .null, .null, .null, .null, .null, .null] ∧ Exa Z h t "[Ljava/lang/Object;" ∧ OvA Z h t "java/lang/Object" ∧ Exa Z h ev "java/lang/Integer" ∧ Fld Z h ev "java/lang/Integer" "value" "I" (.int iv) ∧ Exa Z h x "java/util/ArrayList" ∧ Fld Z h x "java/util/ArrayList" "elementData" "[Ljava/lang/Object;" (.ref t) ∧ Fld Z h x "java/util/ArrayList" "size" "I" (.int (1 : Int32)) ∧ Fld Z h x "java/util/AbstractList" "modCount" "I" (.int (1 : Int32))) := by
  refine Con.intro (Ls := #[.val (.ref x), .val (.ref ev), .val (.ref df), .val (.int (0 : Int32))]) (plainFor_of_name pn10) (own_EL hw) O0 (fun m => by first | (simp [entryFrame, mkF, argsToLocals, Value.category]; done) | rfl) (fun p e s m below meth cc_ T w sf_ => ?_)
  have K0 := Keep.refl h0 [x]
  refine g_iloadN w e23_0 (q := 1) rfl rfl ?_
  refine g_aloadN w e23_1 (q := 2) rfl rfl rfl ?_
  have AD1 := AD_.ext w.old
  refine g_alen w e23_2 (q := 3) rfl AD1 ?_
  show Go p e below _ (State.setTop T (mkF m 3 #[.val (.ref x), .val (.ref ev), .val (.ref df), .val (.int (0 : Int32))] [(.int (0 : Int32)), (.int (0 : Int32))]))
  refine g_icN w e23_3 (q := 6) rfl (Jvm.Free.XT.ii_ne_f rfl) ?_
  refine g_aloadN w e23_6 (q := 7) rfl rfl rfl ?_
  refine g_priv w (con_g0 l Z a0 hw x df _ w.old X_x F_elementData_x F_size_x F_modCount_x n_x SD_ AD_) no0 X_x e23_7 (q := 10) rfl rfl (Hw hw 250 rfl) (Hw hw 252 rfl) (Hw hw 253 rfl) (Hw hw 251 rfl) (Hw hw 35 rfl) (Hw hw 254 rfl) (by decide) pd7 rfl rfl (W := 0) (Nat.le_of_eq rfl) (by decide) (by decide) (by decide) (by decide) (fun T h v w gs C q => ?_)
  obtain ⟨t, rfl, K, g_t, A_t, X_t, O_t, G_X, G_elementData, G_size, G_modCount⟩ := q
  have z_t := Nat.le_trans K0.1 g_t
  have ne_x_t : x ≠ t := Nat.ne_of_lt (Nat.lt_of_lt_of_le X_x.lt g_t)
  have ne_ev_t : ev ≠ t := Nat.ne_of_lt (Nat.lt_of_lt_of_le X_e.lt g_t)
  replace K0 := keep_same K0 K
  have X0 := X_x
  replace X_x := X_x.keep K
  replace X_e := X_e.keep K
  replace F_e := F_e.keep K (not1 ne_ev_x)
  replace X_x := G_X
  replace F_elementData_x := G_elementData
  replace F_size_x := G_size
  replace F_modCount_x := G_modCount
  show Go p e below _ (State.setTop T (mkF m 10 #[.val (.ref x), .val (.ref ev), .val (.ref df), .val (.int (0 : Int32))] [(.ref t)]))
  refine g_astoreN w e23_10 (q := 11) rfl rfl (Ls' := #[.val (.ref x), .val (.ref ev), .val (.ref t), .val (.int (0 : Int32))]) rfl ?_
  refine g_aloadN w e23_11 (q := 12) rfl rfl rfl ?_
  refine g_iloadN w e23_12 (q := 13) rfl rfl ?_
  refine g_aloadN w e23_13 (q := 14) rfl rfl rfl ?_
  have n_t : Z.heap.size ≤ t := Nat.le_trans O0.1 z_t
  refine g_aastore w e23_14 (q := 15) rfl A_t (i := 0) rfl (Nat.le_of_ble_eq_true rfl) (sto_of A_t O_t (Ins.of_exa X_e (Hw hw 266 rfl))) rfl n_t (w.safe X_t (by decide) (by decide)) (fun T h w W V => ?_)
  replace K0 := K0.wr W (Or.inr z_t)
  replace X_e := X_e.wr W
  replace F_e := F_e.other W (Or.inl ne_ev_t)
  replace X_x := X_x.wr W
  replace F_elementData_x := F_elementData_x.other W (Or.inl ne_x_t)
  replace F_size_x := F_size_x.other W (Or.inl ne_x_t)
  replace F_modCount_x := F_modCount_x.other W (Or.inl ne_x_t)
  replace X_t := X_t.wr W
  replace O_t := O_t.wr W
  replace A_t : Ar Z h t (.object "java/lang/Object") [.ref ev, .null, .null, .null, .null, .null, .null, .null, .null, .null] := V
  refine g_aloadN w e23_15 (q := 16) rfl rfl rfl ?_
  refine g_iloadN w e23_16 (q := 17) rfl rfl ?_
  refine g_iconst w e23_17 (q := 18) rfl (v := (1 : Int32)) (by decide) ?_
  refine g_iadd w e23_18 (q := 19) rfl ?_
  rw [show ((0 : Int32) + (1 : Int32)) = 1 from by decide]
  show Go p e below _ (State.setTop T (mkF m 19 #[.val (.ref x), .val (.ref ev), .val (.ref t), .val (.int (0 : Int32))] [(.int (1 : Int32)), (.ref x)]))
  have g_ := w.chv
  refine g_putF w e23_19 (q := 22) rfl (Hw hw 104 rfl) Via.refl F_size_x X_x (Or.inl (Hw hw 105 rfl)) (Hw hw 34 rfl) (ty := .int) (by decide) (v' := (.int (1 : Int32))) rfl rfl n_x (w.safe X_x (by decide) (by decide)) (fun T h w W => ?_)
  replace K0 := K0.wr W (Or.inl (List.mem_singleton.mpr rfl))
  replace X_e := X_e.wr W
  replace F_e := F_e.other W (Or.inl ne_ev_x)
  replace X_x := X_x.wr W
  replace F_elementData_x := F_elementData_x.other W (Or.inr (slot_ne (Or.inl (Hw hw 56 rfl)) (Or.inl (Hw hw 105 rfl)) (by decide) (t := (.array (.object "java/lang/Object"))) (t' := .int) (by decide) (by decide)))
  replace F_size_x := F_size_x.same W
  replace F_modCount_x := F_modCount_x.other W (Or.inr (slot_ne (Or.inl (Hw hw 53 rfl)) (Or.inl (Hw hw 105 rfl)) (by decide) (t := .int) (t' := .int) (by decide) (by decide)))
  replace A_t := A_t.other W ne_x_t.symm
  replace X_t := X_t.wr W
  replace O_t := O_t.wr W
  exact g_return w e23_22 rfl (by decide) (by decide) ⟨rfl, K0, t, z_t, A_t, X_t, O_t, X_e, F_e, X_x, F_elementData_x, F_size_x, F_modCount_x⟩
theorem e24_0 : decode jdk_38_method_25_code 0 = .ok (.aload_n 0, 1) := by decide +kernel
theorem e24_1 : decode jdk_38_method_25_code 1 = .ok (.dup, 1) := by decide +kernel
theorem e24_2 : decode jdk_38_method_25_code 2 = .ok (.getfield 63, 3) := by decide +kernel
theorem e24_5 : decode jdk_38_method_25_code 5 = .ok (.iconst 1, 1) := by decide +kernel
theorem e24_6 : decode jdk_38_method_25_code 6 = .ok (.iadd, 1) := by decide +kernel
theorem e24_7 : decode jdk_38_method_25_code 7 = .ok (.putfield 63, 3) := by decide +kernel
theorem e24_10 : decode jdk_38_method_25_code 10 = .ok (.aload_n 0, 1) := by decide +kernel
theorem e24_11 : decode jdk_38_method_25_code 11 = .ok (.aload_n 1, 1) := by decide +kernel
theorem e24_12 : decode jdk_38_method_25_code 12 = .ok (.aload_n 0, 1) := by decide +kernel
theorem e24_13 : decode jdk_38_method_25_code 13 = .ok (.getfield 9, 3) := by decide +kernel
theorem e24_16 : decode jdk_38_method_25_code 16 = .ok (.aload_n 0, 1) := by decide +kernel
theorem e24_17 : decode jdk_38_method_25_code 17 = .ok (.getfield 48, 3) := by decide +kernel
theorem e24_20 : decode jdk_38_method_25_code 20 = .ok (.invokevirtual 131, 3) := by decide +kernel
theorem e24_23 : decode jdk_38_method_25_code 23 = .ok (.iconst 1, 1) := by decide +kernel
theorem e24_24 : decode jdk_38_method_25_code 24 = .ok (.ireturn, 1) := by decide +kernel
theorem pd8 : parseMethodDescriptor "(Ljava/lang/Object;[Ljava/lang/Object;I)V" = some ⟨[(.object "java/lang/Object"), (.array (.object "java/lang/Object")), .int], none⟩ := by decide +kernel
set_option maxRecDepth 65536 in
set_option maxHeartbeats 40000000 in
theorem con_a1 (l : Launch) (Z : State) (a0 : Array Value) (hw : ∀ d ∈ tables_1, d.before a0 Z = true) (x df ev : Addr) (iv : Int32) (h0 : Heap) (O0 : Ext Z.heap h0) (X_x : Exa Z h0 x "java/util/ArrayList") (F_elementData_x : Fld Z h0 x "java/util/ArrayList" "elementData" "[Ljava/lang/Object;" (.ref df)) (F_size_x : Fld Z h0 x "java/util/ArrayList" "size" "I" (.int (0 : Int32))) (F_modCount_x : Fld Z h0 x "java/util/AbstractList" "modCount" "I" (.int (0 : Int32))) (n_x : Z.heap.size ≤ x) (X_e : Exa Z h0 ev "java/lang/Integer") (F_e : Fld Z h0 ev "java/lang/Integer" "value" "I" (.int iv)) (ne_ev_x : ev ≠ x) (SD_ : Sta Z Z.heap "java/util/ArrayList" "DEFAULTCAPACITY_EMPTY_ELEMENTDATA" "[Ljava/lang/Object;" (.ref df)) (AD_ : Ar Z Z.heap df (.object "java/lang/Object") []) :
    Con l Z consts_1 false (⟨"java/util/ArrayList", "add", "(Ljava/lang/Object;)Z"⟩ : MethodName) jdk_38_method_25_code 2 (some .boolean) [] ({ frames := 4, cells := 1, slots := 10, locals := 56 } : Room) #[(.ref x), (.ref ev)] [] h0 (fun v h => v = some (.int 1) ∧ Keep h0 h [x] ∧ ∃ t, h0.size ≤ t ∧ Ar Z h t (.object "java/lang/Object") [.ref ev, .null, .null, .null, .null, .null, .null, .null, .null, .null] ∧ Exa Z h t "[Ljava/lang/Object;" ∧ OvA Z h t "java/lang/Object" ∧ Exa Z h ev "java/lang/Integer" ∧ Fld Z h ev "java/lang/Integer" "value" "I" (.int iv) ∧ Exa Z h x "java/util/ArrayList" ∧ Fld Z h x "java/util/ArrayList" "elementData" "[Ljava/lang/Object;" (.ref t) ∧ Fld Z h x "java/util/ArrayList" "size" "I" (.int (1 : Int32)) ∧ Fld Z h x "java/util/AbstractList" "modCount" "I" (.int (1 : Int32))) := by
  refine Con.intro (Ls := #[.val (.ref x), .val (.ref ev)]) (plainFor_of_name pn10) (own_EL hw) O0 (fun m => by first | (simp [entryFrame, mkF, argsToLocals, Value.category]; done) | rfl) (fun p e s m below meth cc_ T w sf_ => ?_)
  have K0 := Keep.refl h0 [x]
  refine g_aloadN w e24_0 (q := 1) rfl rfl rfl ?_
  refine g_dup w e24_1 (q := 2) rfl rfl ?_
  refine g_getF w e24_2 (q := 5) rfl (host := "") (Or.inl (Hw hw 243 rfl)) (Via.of (Hw hw 244 rfl)) F_modCount_x (fun T w => ?_)
  refine g_iconst w e24_5 (q := 6) rfl (v := (1 : Int32)) (by decide) ?_
  refine g_iadd w e24_6 (q := 7) rfl ?_
  rw [show ((0 : Int32) + (1 : Int32)) = 1 from by decide]
  show Go p e below _ (State.setTop T (mkF m 7 #[.val (.ref x), .val (.ref ev)] [(.int (1 : Int32)), (.ref x)]))
  have g_ := w.chv
  refine g_putF w e24_7 (q := 10) rfl (Hw hw 243 rfl) (Via.of (Hw hw 244 rfl)) F_modCount_x X_x (Or.inl (Hw hw 53 rfl)) (Hw hw 34 rfl) (ty := .int) (by decide) (v' := (.int (1 : Int32))) rfl rfl n_x (w.safe X_x (by decide) (by decide)) (fun T h w W => ?_)
  replace K0 := K0.wr W (Or.inl (List.mem_singleton.mpr rfl))
  replace X_x := X_x.wr W
  replace F_elementData_x := F_elementData_x.other W (Or.inr (slot_ne (Or.inl (Hw hw 56 rfl)) (Or.inl (Hw hw 53 rfl)) (by decide) (t := (.array (.object "java/lang/Object"))) (t' := .int) (by decide) (by decide)))
  replace F_size_x := F_size_x.other W (Or.inr (slot_ne (Or.inl (Hw hw 105 rfl)) (Or.inl (Hw hw 53 rfl)) (by decide) (t := .int) (t' := .int) (by decide) (by decide)))
  replace F_modCount_x := F_modCount_x.same W
  replace X_e := X_e.wr W
  replace F_e := F_e.other W (Or.inl ne_ev_x)
  refine g_aloadN w e24_10 (q := 11) rfl rfl rfl ?_
  refine g_aloadN w e24_11 (q := 12) rfl rfl rfl ?_
  refine g_aloadN w e24_12 (q := 13) rfl rfl rfl ?_
  refine g_getF w e24_13 (q := 16) rfl (host := "") (Or.inl (Hw hw 55 rfl)) Via.refl F_elementData_x (fun T w => ?_)
  refine g_aloadN w e24_16 (q := 17) rfl rfl rfl ?_
  refine g_getF w e24_17 (q := 20) rfl (host := "") (Or.inl (Hw hw 104 rfl)) Via.refl F_size_x (fun T w => ?_)
  refine g_priv w (con_a3 l Z a0 hw x df ev iv _ w.old X_x F_elementData_x F_size_x F_modCount_x n_x X_e F_e ne_ev_x SD_ AD_) no0 X_x e24_20 (q := 23) rfl rfl (Hw hw 245 rfl) (Hw hw 247 rfl) (Hw hw 248 rfl) (Hw hw 246 rfl) (Hw hw 35 rfl) (Hw hw 249 rfl) (by decide) pd8 rfl rfl (W := 0) (Nat.le_of_eq rfl) (by decide) (by decide) (by decide) (by decide) (fun T h v w gs C q => ?_)
  obtain ⟨rfl, K, t, g_t, A_t, X_t, O_t, H_X, H_F, G_X, G_elementData, G_size, G_modCount⟩ := q
  have z_t := Nat.le_trans K0.1 g_t
  replace K0 := keep_same K0 K
  have X0 := X_x
  replace X_x := X_x.keep K
  replace X_e := X_e.keep K
  replace F_e := F_e.keep K (not1 ne_ev_x)
  replace X_e := H_X
  replace F_e := H_F
  replace X_x := G_X
  replace F_elementData_x := G_elementData
  replace F_size_x := G_size
  replace F_modCount_x := G_modCount
  show Go p e below _ (State.setTop T (mkF m 23 #[.val (.ref x), .val (.ref ev)] []))
  refine g_iconst w e24_23 (q := 24) rfl (v := (1 : Int32)) (by decide) ?_
  exact g_retn w e24_24 rfl (by simp) rfl (by decide) (by decide) ⟨rfl, K0, t, z_t, A_t, X_t, O_t, X_e, F_e, X_x, F_elementData_x, F_size_x, F_modCount_x⟩
theorem e25_0 : decode jdk_38_method_9_code 0 = .ok (.aload_n 0, 1) := by decide +kernel
theorem e25_1 : decode jdk_38_method_9_code 1 = .ok (.getfield 48, 3) := by decide +kernel
theorem e25_4 : decode jdk_38_method_9_code 4 = .ok (.ifCond .ne 7, 3) := by decide +kernel
theorem e25_7 : decode jdk_38_method_9_code 7 = .ok (.iconst 1, 1) := by decide +kernel
theorem e25_8 : decode jdk_38_method_9_code 8 = .ok (.goto 4, 3) := by decide +kernel
theorem e25_11 : decode jdk_38_method_9_code 11 = .ok (.iconst 0, 1) := by decide +kernel
theorem e25_12 : decode jdk_38_method_9_code 12 = .ok (.ireturn, 1) := by decide +kernel
set_option maxRecDepth 65536 in
set_option maxHeartbeats 40000000 in
theorem con_ie0 (l : Launch) (Z : State) (a0 : Array Value) (hw : ∀ d ∈ tables_1, d.before a0 Z = true) (x : Addr) (h0 : Heap) (O0 : Ext Z.heap h0) (F_s : Fld Z h0 x "java/util/ArrayList" "size" "I" (.int 0)) :
    Con l Z consts_1 false (⟨"java/util/ArrayList", "isEmpty", "()Z"⟩ : MethodName) jdk_38_method_9_code 1 (some .boolean) [] ({ frames := 0, cells := 0, slots := 0, locals := 0 } : Room) #[(.ref x)] [] h0 (fun v h => v = some (.int 1) ∧ h = h0) := by
  refine Con.intro (Ls := #[.val (.ref x)]) (plainFor_of_name pn10) (own_EL hw) O0 (fun m => by first | (simp [entryFrame, mkF, argsToLocals, Value.category]; done) | rfl) (fun p e s m below meth cc_ T w sf_ => ?_)
  have E0 := ext_refl h0
  refine g_aloadN w e25_0 (q := 1) rfl rfl rfl ?_
  refine g_getF w e25_1 (q := 4) rfl (host := "") (Or.inl (Hw hw 104 rfl)) Via.refl F_s (fun T w => ?_)
  refine g_ifN w e25_4 (q := 7) rfl (by decide) ?_
  refine g_iconst w e25_7 (q := 8) rfl (v := (1 : Int32)) (by decide) ?_
  refine g_goto w e25_8 (by decide) (q := 12) (by decide) ?_
  exact g_retn w e25_12 rfl (by simp) rfl (by decide) (by decide) ⟨rfl, rfl⟩
set_option maxRecDepth 65536 in
set_option maxHeartbeats 40000000 in
theorem con_ie1 (l : Launch) (Z : State) (a0 : Array Value) (hw : ∀ d ∈ tables_1, d.before a0 Z = true) (x : Addr) (h0 : Heap) (O0 : Ext Z.heap h0) (F_s : Fld Z h0 x "java/util/ArrayList" "size" "I" (.int 1)) :
    Con l Z consts_1 false (⟨"java/util/ArrayList", "isEmpty", "()Z"⟩ : MethodName) jdk_38_method_9_code 1 (some .boolean) [] ({ frames := 0, cells := 0, slots := 0, locals := 0 } : Room) #[(.ref x)] [] h0 (fun v h => v = some (.int 0) ∧ h = h0) := by
  refine Con.intro (Ls := #[.val (.ref x)]) (plainFor_of_name pn10) (own_EL hw) O0 (fun m => by first | (simp [entryFrame, mkF, argsToLocals, Value.category]; done) | rfl) (fun p e s m below meth cc_ T w sf_ => ?_)
  have E0 := ext_refl h0
  refine g_aloadN w e25_0 (q := 1) rfl rfl rfl ?_
  refine g_getF w e25_1 (q := 4) rfl (host := "") (Or.inl (Hw hw 104 rfl)) Via.refl F_s (fun T w => ?_)
  refine g_ifY w e25_4 (by decide) (q := 11) (by decide) (by decide) ?_
  refine g_iconst w e25_11 (q := 12) rfl (v := (0 : Int32)) (by decide) ?_
  exact g_retn w e25_12 rfl (by simp) rfl (by decide) (by decide) ⟨rfl, rfl⟩
theorem e26_0 : decode jdk_65_method_120_code 0 = .ok (.aload_n 2, 1) := by decide +kernel
theorem e26_1 : decode jdk_65_method_120_code 1 = .ok (.ldc 110, 2) := by decide +kernel
theorem e26_3 : decode jdk_65_method_120_code 3 = .ok (.if_acmp .ne 10, 3) := by decide +kernel
theorem e26_6 : decode jdk_65_method_120_code 6 = .ok (.iload_n 1, 1) := by decide +kernel
theorem e26_7 : decode jdk_65_method_120_code 7 = .ok (.anewarray 2, 3) := by decide +kernel
theorem e26_10 : decode jdk_65_method_120_code 10 = .ok (.goto 14, 3) := by decide +kernel
theorem e26_13 : decode jdk_65_method_120_code 13 = .ok (.aload_n 2, 1) := by decide +kernel
theorem e26_14 : decode jdk_65_method_120_code 14 = .ok (.invokevirtual 90, 3) := by decide +kernel
theorem e26_17 : decode jdk_65_method_120_code 17 = .ok (.iload_n 1, 1) := by decide +kernel
theorem e26_18 : decode jdk_65_method_120_code 18 = .ok (.invokestatic 95, 3) := by decide +kernel
theorem e26_21 : decode jdk_65_method_120_code 21 = .ok (.checkcast 110, 3) := by decide +kernel
theorem e26_24 : decode jdk_65_method_120_code 24 = .ok (.astore_n 3, 1) := by decide +kernel
theorem e26_25 : decode jdk_65_method_120_code 25 = .ok (.aload_n 0, 1) := by decide +kernel
theorem e26_26 : decode jdk_65_method_120_code 26 = .ok (.iconst 0, 1) := by decide +kernel
theorem e26_27 : decode jdk_65_method_120_code 27 = .ok (.aload_n 3, 1) := by decide +kernel
theorem e26_28 : decode jdk_65_method_120_code 28 = .ok (.iconst 0, 1) := by decide +kernel
theorem e26_29 : decode jdk_65_method_120_code 29 = .ok (.aload_n 0, 1) := by decide +kernel
theorem e26_30 : decode jdk_65_method_120_code 30 = .ok (.arraylength, 1) := by decide +kernel
theorem e26_31 : decode jdk_65_method_120_code 31 = .ok (.iload_n 1, 1) := by decide +kernel
theorem e26_32 : decode jdk_65_method_120_code 32 = .ok (.invokestatic 304, 3) := by decide +kernel
theorem e26_35 : decode jdk_65_method_120_code 35 = .ok (.invokestatic 150, 3) := by decide +kernel
theorem e26_38 : decode jdk_65_method_120_code 38 = .ok (.aload_n 3, 1) := by decide +kernel
theorem e26_39 : decode jdk_65_method_120_code 39 = .ok (.areturn, 1) := by decide +kernel
theorem pn12 : plainName "java/util/Arrays" = true := by first | (simp [plainName, overriddenIn]; done) | decide +kernel
set_option maxRecDepth 65536 in
set_option maxHeartbeats 40000000 in
theorem con_c3 (l : Launch) (Z : State) (a0 : Array Value) (hw : ∀ d ∈ tables_1, d.before a0 Z = true) (t ev mr : Addr) (h0 : Heap) (O0 : Ext Z.heap h0) (A_t : Ar Z h0 t (.object "java/lang/Object") [.ref ev, .null, .null, .null, .null, .null, .null, .null, .null, .null]) (X_t : Exa Z h0 t "[Ljava/lang/Object;") (X_e : Exa Z h0 ev "java/lang/Integer") (MR_ : Mir Z "[Ljava/lang/Object;" mr) :
    Con l Z consts_1 false (⟨"java/util/Arrays", "copyOf", "([Ljava/lang/Object;ILjava/lang/Class;)[Ljava/lang/Object;"⟩ : MethodName) jdk_65_method_120_code 4 (some (.array (.object "java/lang/Object"))) [] ({ frames := 1, cells := 1, slots := 1, locals := 60 } : Room) #[(.ref t), (.int (1 : Int32)), (.ref mr)] [] h0 (fun v h => ∃ u, v = some (.ref u) ∧ Ext h0 h ∧ h0.size ≤ u ∧ Ar Z h u (.object "java/lang/Object") [.ref ev]) := by
  refine Con.intro (Ls := #[.val (.ref t), .val (.int (1 : Int32)), .val (.ref mr), .unset]) (plainFor_of_name pn12) (own_EL hw) O0 (fun m => by first | (simp [entryFrame, mkF, argsToLocals, Value.category]; done) | rfl) (fun p e s m below meth cc_ T w sf_ => ?_)
  have E0 := ext_refl h0
  refine g_aloadN w e26_0 (q := 1) rfl rfl rfl ?_
  refine g_ldcM w e26_1 (q := 3) rfl (Hw hw 288 rfl) MR_ (fun T w => ?_)
  refine g_acN w e26_3 (q := 6) rfl rfl rfl (Jvm.Free.XT.aa_ne_f rfl) ?_
  refine g_iloadN w e26_6 (q := 7) rfl rfl ?_
  refine g_anew w e26_7 (q := 10) rfl (Hw hw 289 rfl) (Hw hw 265 rfl) (ad := "[Ljava/lang/Object;") (by decide) (len := 1) (cap := 1) (by decide) (by decide) (by decide) (by decide) (by decide) (fun T h u w E g_u n_u A_u X_u O_u s_u => ?_)
  have z_u := Nat.le_trans E0.1 g_u
  have ne_ev_u : ev ≠ u := Nat.ne_of_lt (Nat.lt_of_lt_of_le X_e.lt g_u)
  have ne_t_u : t ≠ u := Nat.ne_of_lt (Nat.lt_of_lt_of_le A_t.lt g_u)
  replace E0 := ext_trans E0 E
  replace A_t := A_t.ext E
  replace X_t := X_t.ext E
  replace X_e := X_e.ext E
  replace A_u : Ar Z h u (.object "java/lang/Object") [.null] := A_u
  refine g_goto w e26_10 (by decide) (q := 24) (by decide) ?_
  refine g_astoreN w e26_24 (q := 25) rfl rfl (Ls' := #[.val (.ref t), .val (.int (1 : Int32)), .val (.ref mr), .val (.ref u)]) rfl ?_
  refine g_aloadN w e26_25 (q := 26) rfl rfl rfl ?_
  refine g_iconst w e26_26 (q := 27) rfl (v := (0 : Int32)) (by decide) ?_
  refine g_aloadN w e26_27 (q := 28) rfl rfl rfl ?_
  refine g_iconst w e26_28 (q := 29) rfl (v := (0 : Int32)) (by decide) ?_
  refine g_aloadN w e26_29 (q := 30) rfl rfl rfl ?_
  refine g_alen w e26_30 (q := 31) rfl A_t ?_
  show Go p e below _ (State.setTop T (mkF m 31 #[.val (.ref t), .val (.int (1 : Int32)), .val (.ref mr), .val (.ref u)] [(.int (10 : Int32)), (.int (0 : Int32)), (.ref u), (.int (0 : Int32)), (.ref t)]))
  refine g_iloadN w e26_31 (q := 32) rfl rfl ?_
  refine g_staticP w (con_min l Z a0 hw (10 : Int32) (1 : Int32) _ w.old) no0 e26_32 (q := 35) rfl rfl (Hw hw 290 rfl) (Hw hw 291 rfl) (Hw hw 262 rfl) (Hw hw 292 rfl) (by decide) pd5 rfl rfl (W := 4) (Nat.le_of_eq rfl) (by decide) (by decide) (by decide) (by decide) (fun T v w C q => ?_)
  obtain rfl := q
  show Go p e below _ (State.setTop T (mkF m 35 #[.val (.ref t), .val (.int (1 : Int32)), .val (.ref mr), .val (.ref u)] [(.int (1 : Int32)), (.int (0 : Int32)), (.ref u), (.int (0 : Int32)), (.ref t)]))
  refine g_acopy w (nn := 1) A_t A_u ⟨sto_of A_u O_u (Ins.of_exa X_e (Hw hw 266 rfl)), trivial⟩ (Nat.le_of_ble_eq_true rfl) (Nat.le_of_ble_eq_true rfl) n_u (w.safe X_u (by decide) (by decide)) e26_35 (q := 38) rfl rfl (Hw hw 293 rfl) (Hw hw 296 rfl) (Hw hw 294 rfl) (Hw hw 295 rfl) (Wd := 0) (Nat.le_of_eq rfl) (by decide) (by decide) (fun T h w K V => ?_)
  replace E0 := ext_keep E0 K z_u
  replace A_t := A_t.keep K (not1 ne_t_u)
  replace X_t := X_t.keep K
  replace X_e := X_e.keep K
  replace X_u := X_u.keep K
  replace O_u := O_u.keep K
  replace A_u : Ar Z h u (.object "java/lang/Object") [.ref ev] := V
  show Go p e below _ (State.setTop T (mkF m 38 #[.val (.ref t), .val (.int (1 : Int32)), .val (.ref mr), .val (.ref u)] []))
  refine g_aloadN w e26_38 (q := 39) rfl rfl rfl ?_
  exact g_reta w e26_39 rfl rfl rfl (by decide) (by decide) ⟨u, rfl, E0, z_u, A_u⟩
theorem e27_0 : decode jdk_65_method_119_code 0 = .ok (.aload_n 0, 1) := by decide +kernel
theorem e27_1 : decode jdk_65_method_119_code 1 = .ok (.iload_n 1, 1) := by decide +kernel
theorem e27_2 : decode jdk_65_method_119_code 2 = .ok (.aload_n 0, 1) := by decide +kernel
theorem e27_3 : decode jdk_65_method_119_code 3 = .ok (.invokevirtual 86, 3) := by decide +kernel
theorem e27_6 : decode jdk_65_method_119_code 6 = .ok (.invokestatic 300, 3) := by decide +kernel
theorem e27_9 : decode jdk_65_method_119_code 9 = .ok (.areturn, 1) := by decide +kernel
theorem pd9 : parseMethodDescriptor "([Ljava/lang/Object;ILjava/lang/Class;)[Ljava/lang/Object;" = some ⟨[(.array (.object "java/lang/Object")), .int, (.object "java/lang/Class")], some (.array (.object "java/lang/Object"))⟩ := by decide +kernel
set_option maxRecDepth 65536 in
set_option maxHeartbeats 40000000 in
theorem con_c2 (l : Launch) (Z : State) (a0 : Array Value) (hw : ∀ d ∈ tables_1, d.before a0 Z = true) (t ev mr : Addr) (h0 : Heap) (O0 : Ext Z.heap h0) (A_t : Ar Z h0 t (.object "java/lang/Object") [.ref ev, .null, .null, .null, .null, .null, .null, .null, .null, .null]) (X_t : Exa Z h0 t "[Ljava/lang/Object;") (X_e : Exa Z h0 ev "java/lang/Integer") (MR_ : Mir Z "[Ljava/lang/Object;" mr) :
    Con l Z consts_1 false (⟨"java/util/Arrays", "copyOf", "([Ljava/lang/Object;I)[Ljava/lang/Object;"⟩ : MethodName) jdk_65_method_119_code 2 (some (.array (.object "java/lang/Object"))) [] ({ frames := 2, cells := 1, slots := 1, locals := 75 } : Room) #[(.ref t), (.int (1 : Int32))] [] h0 (fun v h => ∃ u, v = some (.ref u) ∧ Ext h0 h ∧ h0.size ≤ u ∧ Ar Z h u (.object "java/lang/Object") [.ref ev]) := by
  refine Con.intro (Ls := #[.val (.ref t), .val (.int (1 : Int32))]) (plainFor_of_name pn12) (own_EL hw) O0 (fun m => by first | (simp [entryFrame, mkF, argsToLocals, Value.category]; done) | rfl) (fun p e s m below meth cc_ T w sf_ => ?_)
  have E0 := ext_refl h0
  refine g_aloadN w e27_0 (q := 1) rfl rfl rfl ?_
  refine g_iloadN w e27_1 (q := 2) rfl rfl ?_
  refine g_aloadN w e27_2 (q := 3) rfl rfl rfl ?_
  refine g_gcls w X_t MR_ e27_3 (q := 6) rfl rfl (Hw hw 279 rfl) (Hw hw 280 rfl) (Hw hw 93 rfl) (Hw hw 282 rfl) (Hw hw 281 rfl) (Hw hw 283 rfl) (Wd := 2) (Nat.le_of_eq rfl) (by decide) (by decide) (fun T w => ?_)
  show Go p e below _ (State.setTop T (mkF m 6 #[.val (.ref t), .val (.int (1 : Int32))] [(.ref mr), (.int (1 : Int32)), (.ref t)]))
  refine g_static w (con_c3 l Z a0 hw t ev mr _ w.old A_t X_t X_e MR_) no0 e27_6 (q := 9) rfl rfl (Hw hw 285 rfl) (Hw hw 286 rfl) (Hw hw 277 rfl) (Hw hw 287 rfl) (by decide) pd9 rfl rfl (W := 0) (Nat.le_of_eq rfl) (by decide) (by decide) (by decide) (by decide) (fun T h v w gs C q => ?_)
  obtain ⟨u, rfl, E, g_u, A_u⟩ := q
  have z_u := Nat.le_trans E0.1 g_u
  have ne_ev_u : ev ≠ u := Nat.ne_of_lt (Nat.lt_of_lt_of_le X_e.lt g_u)
  have ne_t_u : t ≠ u := Nat.ne_of_lt (Nat.lt_of_lt_of_le A_t.lt g_u)
  replace E0 := ext_trans E0 E
  replace A_t := A_t.ext E
  replace X_t := X_t.ext E
  replace X_e := X_e.ext E
  show Go p e below _ (State.setTop T (mkF m 9 #[.val (.ref t), .val (.int (1 : Int32))] [(.ref u)]))
  exact g_reta w e27_9 rfl rfl rfl (by decide) (by decide) ⟨u, rfl, E0, z_u, A_u⟩
theorem e28_0 : decode jdk_38_method_16_code 0 = .ok (.aload_n 0, 1) := by decide +kernel
theorem e28_1 : decode jdk_38_method_16_code 1 = .ok (.getfield 9, 3) := by decide +kernel
theorem e28_4 : decode jdk_38_method_16_code 4 = .ok (.aload_n 0, 1) := by decide +kernel
theorem e28_5 : decode jdk_38_method_16_code 5 = .ok (.getfield 48, 3) := by decide +kernel
theorem e28_8 : decode jdk_38_method_16_code 8 = .ok (.invokestatic 66, 3) := by decide +kernel
theorem e28_11 : decode jdk_38_method_16_code 11 = .ok (.areturn, 1) := by decide +kernel
theorem pd10 : parseMethodDescriptor "([Ljava/lang/Object;I)[Ljava/lang/Object;" = some ⟨[(.array (.object "java/lang/Object")), .int], some (.array (.object "java/lang/Object"))⟩ := by decide +kernel
set_option maxRecDepth 65536 in
set_option maxHeartbeats 40000000 in
theorem con_ta (l : Launch) (Z : State) (a0 : Array Value) (hw : ∀ d ∈ tables_1, d.before a0 Z = true) (x t ev mr : Addr) (h0 : Heap) (O0 : Ext Z.heap h0) (F_elementData_x : Fld Z h0 x "java/util/ArrayList" "elementData" "[Ljava/lang/Object;" (.ref t)) (F_size_x : Fld Z h0 x "java/util/ArrayList" "size" "I" (.int 1)) (A_t : Ar Z h0 t (.object "java/lang/Object") [.ref ev, .null, .null, .null, .null, .null, .null, .null, .null, .null]) (X_t : Exa Z h0 t "[Ljava/lang/Object;") (X_e : Exa Z h0 ev "java/lang/Integer") (MR_ : Mir Z "[Ljava/lang/Object;" mr) :
    Con l Z consts_1 false (⟨"java/util/ArrayList", "toArray", "()[Ljava/lang/Object;"⟩ : MethodName) jdk_38_method_16_code 1 (some (.array (.object "java/lang/Object"))) [] ({ frames := 3, cells := 1, slots := 1, locals := 88 } : Room) #[(.ref x)] [] h0 (fun v h => ∃ u, v = some (.ref u) ∧ Ext h0 h ∧ h0.size ≤ u ∧ Ar Z h u (.object "java/lang/Object") [.ref ev]) := by
  refine Con.intro (Ls := #[.val (.ref x)]) (plainFor_of_name pn10) (own_EL hw) O0 (fun m => by first | (simp [entryFrame, mkF, argsToLocals, Value.category]; done) | rfl) (fun p e s m below meth cc_ T w sf_ => ?_)
  have E0 := ext_refl h0
  refine g_aloadN w e28_0 (q := 1) rfl rfl rfl ?_
  refine g_getF w e28_1 (q := 4) rfl (host := "") (Or.inl (Hw hw 55 rfl)) Via.refl F_elementData_x (fun T w => ?_)
  refine g_aloadN w e28_4 (q := 5) rfl rfl rfl ?_
  refine g_getF w e28_5 (q := 8) rfl (host := "") (Or.inl (Hw hw 104 rfl)) Via.refl F_size_x (fun T w => ?_)
  refine g_static w (con_c2 l Z a0 hw t ev mr _ w.old A_t X_t X_e MR_) no0 e28_8 (q := 11) rfl rfl (Hw hw 275 rfl) (Hw hw 276 rfl) (Hw hw 277 rfl) (Hw hw 278 rfl) (by decide) pd10 rfl rfl (W := 0) (Nat.le_of_eq rfl) (by decide) (by decide) (by decide) (by decide) (fun T h v w gs C q => ?_)
  obtain ⟨u, rfl, E, g_u, A_u⟩ := q
  have z_u := Nat.le_trans E0.1 g_u
  have ne_ev_u : ev ≠ u := Nat.ne_of_lt (Nat.lt_of_lt_of_le X_e.lt g_u)
  have ne_t_u : t ≠ u := Nat.ne_of_lt (Nat.lt_of_lt_of_le A_t.lt g_u)
  have ne_x_u : x ≠ u := Nat.ne_of_lt (Nat.lt_of_lt_of_le F_elementData_x.lt g_u)
  replace E0 := ext_trans E0 E
  replace F_elementData_x := F_elementData_x.ext E
  replace F_size_x := F_size_x.ext E
  replace A_t := A_t.ext E
  replace X_t := X_t.ext E
  replace X_e := X_e.ext E
  show Go p e below _ (State.setTop T (mkF m 11 #[.val (.ref x)] [(.ref u)]))
  exact g_reta w e28_11 rfl rfl rfl (by decide) (by decide) ⟨u, rfl, E0, z_u, A_u⟩
theorem e29_0 : decode jdk_44_method_1_code 0 = .ok (.aload_n 0, 1) := by decide +kernel
theorem e29_1 : decode jdk_44_method_1_code 1 = .ok (.invokespecial 1, 3) := by decide +kernel
theorem e29_4 : decode jdk_44_method_1_code 4 = .ok (.aload_n 0, 1) := by decide +kernel
theorem e29_5 : decode jdk_44_method_1_code 5 = .ok (.aload_n 1, 1) := by decide +kernel
theorem e29_6 : decode jdk_44_method_1_code 6 = .ok (.invokestatic 7, 3) := by decide +kernel
theorem e29_9 : decode jdk_44_method_1_code 9 = .ok (.putfield 13, 3) := by decide +kernel
theorem e29_12 : decode jdk_44_method_1_code 12 = .ok (.aload_n 0, 1) := by decide +kernel
theorem e29_13 : decode jdk_44_method_1_code 13 = .ok (.getstatic 19, 3) := by decide +kernel
theorem e29_16 : decode jdk_44_method_1_code 16 = .ok (.putfield 24, 3) := by decide +kernel
theorem e29_19 : decode jdk_44_method_1_code 19 = .ok (.return_, 1) := by decide +kernel
theorem pn13 : plainName "java/util/ImmutableCollections$List12" = true := by first | (simp [plainName, overriddenIn]; done) | decide +kernel
set_option maxRecDepth 65536 in
set_option maxHeartbeats 40000000 in
theorem con_l12 (l : Launch) (Z : State) (a0 : Array Value) (hw : ∀ d ∈ tables_1, d.before a0 Z = true) (x k ic : Addr) (h0 : Heap) (O0 : Ext Z.heap h0) (X_x : Exa Z h0 x "java/util/ImmutableCollections$List12") (F_e0_x : Fld Z h0 x "java/util/ImmutableCollections$List12" "e0" "Ljava/lang/Object;" .null) (F_e1_x : Fld Z h0 x "java/util/ImmutableCollections$List12" "e1" "Ljava/lang/Object;" .null) (n_x : Z.heap.size ≤ x) (SI_ : Sta Z Z.heap "java/util/ImmutableCollections" "EMPTY" "Ljava/lang/Object;" (.ref ic)) :
    Con l Z consts_1 false (⟨"java/util/ImmutableCollections$List12", "<init>", "(Ljava/lang/Object;)V"⟩ : MethodName) jdk_44_method_1_code 2 none [] ({ frames := 4, cells := 0, slots := 0, locals := 48 } : Room) #[(.ref x), (.ref k)] [] h0 (fun v h => v = none ∧ Keep h0 h [x] ∧ Exa Z h x "java/util/ImmutableCollections$List12" ∧ Fld Z h x "java/util/ImmutableCollections$List12" "e0" "Ljava/lang/Object;" (.ref k) ∧ Fld Z h x "java/util/ImmutableCollections$List12" "e1" "Ljava/lang/Object;" (.ref ic)) := by
  refine Con.intro (Ls := #[.val (.ref x), .val (.ref k)]) (plainFor_of_name pn13) (own_EL hw) O0 (fun m => by first | (simp [entryFrame, mkF, argsToLocals, Value.category]; done) | rfl) (fun p e s m below meth cc_ T w sf_ => ?_)
  have K0 := Keep.refl h0 [x]
  refine g_aloadN w e29_0 (q := 1) rfl rfl rfl ?_
  refine g_specialP w (con_ail l Z a0 hw x _ w.old) no0 e29_1 (q := 4) rfl rfl rfl (Hw hw 307 rfl) (Hw hw 308 rfl) (Hw hw 311 rfl) (Hw hw 312 rfl) (by decide) pd1 rfl rfl (W := 0) (Nat.le_of_eq rfl) (by decide) (by decide) (by decide) (by decide) (fun T v w C q => ?_)
  obtain rfl := q
  show Go p e below _ (State.setTop T (mkF m 4 #[.val (.ref x), .val (.ref k)] []))
  refine g_aloadN w e29_4 (q := 5) rfl rfl rfl ?_
  refine g_aloadN w e29_5 (q := 6) rfl rfl rfl ?_
  refine g_staticP w (con_rn1 l Z a0 hw k k _ w.old) no0 e29_6 (q := 9) rfl rfl (Hw hw 321 rfl) (Hw hw 133 rfl) (Hw hw 77 rfl) (Hw hw 134 rfl) (by decide) pd3 rfl rfl (W := 1) (Nat.le_of_eq rfl) (by decide) (by decide) (by decide) (by decide) (fun T v w C q => ?_)
  obtain rfl := q
  show Go p e below _ (State.setTop T (mkF m 9 #[.val (.ref x), .val (.ref k)] [(.ref k), (.ref x)]))
  have g_ := w.chv
  refine g_putF w e29_9 (q := 12) rfl (Hw hw 322 rfl) Via.refl F_e0_x X_x (Or.inr ⟨(Hw hw 323 rfl), rfl, rfl⟩) (Hw hw 301 rfl) (ty := (.object "java/lang/Object")) (by decide) (v' := (.ref k)) rfl rfl n_x (w.safe X_x (by decide) (by decide)) (fun T h w W => ?_)
  replace K0 := K0.wr W (Or.inl (List.mem_singleton.mpr rfl))
  replace X_x := X_x.wr W
  replace F_e0_x := F_e0_x.same W
  replace F_e1_x := F_e1_x.other W (Or.inr (slot_ne (Or.inr (Hw hw 326 rfl)) (Or.inr (Hw hw 323 rfl)) (by decide) (t := (.object "java/lang/Object")) (t' := (.object "java/lang/Object")) (by decide) (by decide)))
  refine g_aloadN w e29_12 (q := 13) rfl rfl rfl ?_
  refine g_getSN w e29_13 (q := 16) rfl (Hw hw 324 rfl) Via.refl SI_ (fun T w => ?_)
  have g_ := w.chv
  refine g_putF w e29_16 (q := 19) rfl (Hw hw 325 rfl) Via.refl F_e1_x X_x (Or.inr ⟨(Hw hw 326 rfl), rfl, rfl⟩) (Hw hw 301 rfl) (ty := (.object "java/lang/Object")) (by decide) (v' := (.ref ic)) rfl rfl n_x (w.safe X_x (by decide) (by decide)) (fun T h w W => ?_)
  replace K0 := K0.wr W (Or.inl (List.mem_singleton.mpr rfl))
  replace X_x := X_x.wr W
  replace F_e0_x := F_e0_x.other W (Or.inr (slot_ne (Or.inr (Hw hw 323 rfl)) (Or.inr (Hw hw 326 rfl)) (by decide) (t := (.object "java/lang/Object")) (t' := (.object "java/lang/Object")) (by decide) (by decide)))
  replace F_e1_x := F_e1_x.same W
  exact g_return w e29_19 rfl (by decide) (by decide) ⟨rfl, K0, X_x, F_e0_x, F_e1_x⟩
theorem e30_0 : decode jdk_40_method_47_code 0 = .ok (.aload_n 0, 1) := by decide +kernel
theorem e30_1 : decode jdk_40_method_47_code 1 = .ok (.arraylength, 1) := by decide +kernel
theorem e30_2 : decode jdk_40_method_47_code 2 = .ok (.tableswitch 57 0 2 #[26, 32, 43], 26) := by decide +kernel
theorem e30_28 : decode jdk_40_method_47_code 28 = .ok (.getstatic 90, 3) := by decide +kernel
theorem e30_31 : decode jdk_40_method_47_code 31 = .ok (.astore_n 1, 1) := by decide +kernel
theorem e30_32 : decode jdk_40_method_47_code 32 = .ok (.aload_n 1, 1) := by decide +kernel
theorem e30_33 : decode jdk_40_method_47_code 33 = .ok (.areturn, 1) := by decide +kernel
theorem e30_34 : decode jdk_40_method_47_code 34 = .ok (.new 96, 3) := by decide +kernel
theorem e30_37 : decode jdk_40_method_47_code 37 = .ok (.dup, 1) := by decide +kernel
theorem e30_38 : decode jdk_40_method_47_code 38 = .ok (.aload_n 0, 1) := by decide +kernel
theorem e30_39 : decode jdk_40_method_47_code 39 = .ok (.iconst 0, 1) := by decide +kernel
theorem e30_40 : decode jdk_40_method_47_code 40 = .ok (.aaload, 1) := by decide +kernel
theorem e30_41 : decode jdk_40_method_47_code 41 = .ok (.invokespecial 98, 3) := by decide +kernel
theorem e30_44 : decode jdk_40_method_47_code 44 = .ok (.areturn, 1) := by decide +kernel
theorem e30_45 : decode jdk_40_method_47_code 45 = .ok (.new 96, 3) := by decide +kernel
theorem e30_48 : decode jdk_40_method_47_code 48 = .ok (.dup, 1) := by decide +kernel
theorem e30_49 : decode jdk_40_method_47_code 49 = .ok (.aload_n 0, 1) := by decide +kernel
theorem e30_50 : decode jdk_40_method_47_code 50 = .ok (.iconst 0, 1) := by decide +kernel
theorem e30_51 : decode jdk_40_method_47_code 51 = .ok (.aaload, 1) := by decide +kernel
theorem e30_52 : decode jdk_40_method_47_code 52 = .ok (.aload_n 0, 1) := by decide +kernel
theorem e30_53 : decode jdk_40_method_47_code 53 = .ok (.iconst 1, 1) := by decide +kernel
theorem e30_54 : decode jdk_40_method_47_code 54 = .ok (.aaload, 1) := by decide +kernel
theorem e30_55 : decode jdk_40_method_47_code 55 = .ok (.invokespecial 100, 3) := by decide +kernel
theorem e30_58 : decode jdk_40_method_47_code 58 = .ok (.areturn, 1) := by decide +kernel
theorem e30_59 : decode jdk_40_method_47_code 59 = .ok (.aload_n 0, 1) := by decide +kernel
theorem e30_60 : decode jdk_40_method_47_code 60 = .ok (.invokestatic 109, 3) := by decide +kernel
theorem e30_63 : decode jdk_40_method_47_code 63 = .ok (.areturn, 1) := by decide +kernel
theorem pn14 : plainName "java/util/List" = true := by first | (simp [plainName, overriddenIn]; done) | decide +kernel
set_option maxRecDepth 65536 in
set_option maxHeartbeats 40000000 in
theorem con_lo (l : Launch) (Z : State) (a0 : Array Value) (hw : ∀ d ∈ tables_1, d.before a0 Z = true) (u ev ic : Addr) (h0 : Heap) (O0 : Ext Z.heap h0) (A_u : Ar Z h0 u (.object "java/lang/Object") [.ref ev]) (SI_ : Sta Z Z.heap "java/util/ImmutableCollections" "EMPTY" "Ljava/lang/Object;" (.ref ic)) :
    Con l Z consts_1 false (⟨"java/util/List", "of", "([Ljava/lang/Object;)Ljava/util/List;"⟩ : MethodName) jdk_40_method_47_code 2 (some (.object "java/util/List")) [] ({ frames := 5, cells := 1, slots := 2, locals := 62 } : Room) #[(.ref u)] [] h0 (fun v h => ∃ y, v = some (.ref y) ∧ Ext h0 h ∧ h0.size ≤ y ∧ Exa Z h y "java/util/ImmutableCollections$List12" ∧ Fld Z h y "java/util/ImmutableCollections$List12" "e0" "Ljava/lang/Object;" (.ref ev) ∧ Fld Z h y "java/util/ImmutableCollections$List12" "e1" "Ljava/lang/Object;" (.ref ic)) := by
  refine Con.intro (Ls := #[.val (.ref u), .unset]) (plainFor_of_name pn14) (own_EL hw) O0 (fun m => by first | (simp [entryFrame, mkF, argsToLocals, Value.category]; done) | rfl) (fun p e s m below meth cc_ T w sf_ => ?_)
  have E0 := ext_refl h0
  refine g_aloadN w e30_0 (q := 1) rfl rfl rfl ?_
  refine g_alen w e30_1 (q := 2) rfl A_u ?_
  show Go p e below _ (State.setTop T (mkF m 2 #[.val (.ref u), .unset] [(.int (1 : Int32))]))
  refine g_tsw w e30_2 (o := 32) (by decide) (by decide) (by decide) (q := 34) (by decide) ?_
  refine g_new w e30_34 (q := 37) rfl (Hw hw 300 rfl) (Hw hw 301 rfl) (Hw hw 302 rfl) (by decide) (by decide) (fun T h a1 w E g_a1 n_a1 X_a1 D_a1 s_a1 => ?_)
  have z_a1 := Nat.le_trans E0.1 g_a1
  have ne_u_a1 : u ≠ a1 := Nat.ne_of_lt (Nat.lt_of_lt_of_le A_u.lt g_a1)
  replace E0 := ext_trans E0 E
  replace A_u := A_u.ext E
  have F_e0_a1 := D_a1 (Or.inr (Hw hw 323 rfl)) (ty := (.object "java/lang/Object")) (by decide)
  replace F_e0_a1 : Fld Z h a1 "java/util/ImmutableCollections$List12" "e0" "Ljava/lang/Object;" .null := F_e0_a1
  have F_e1_a1 := D_a1 (Or.inr (Hw hw 326 rfl)) (ty := (.object "java/lang/Object")) (by decide)
  replace F_e1_a1 : Fld Z h a1 "java/util/ImmutableCollections$List12" "e1" "Ljava/lang/Object;" .null := F_e1_a1
  refine g_dup w e30_37 (q := 38) rfl rfl ?_
  refine g_aloadN w e30_38 (q := 39) rfl rfl rfl ?_
  refine g_iconst w e30_39 (q := 40) rfl (v := (0 : Int32)) (by decide) ?_
  refine g_aaload w e30_40 (q := 41) rfl A_u (i := 0) rfl (Nat.le_of_ble_eq_true rfl) (v := .ref ev) rfl ?_
  refine g_special w (con_l12 l Z a0 hw a1 ev ic _ w.old X_a1 F_e0_a1 F_e1_a1 n_a1 SI_) no0 e30_41 (q := 44) rfl rfl rfl (Hw hw 303 rfl) (Hw hw 304 rfl) (Hw hw 302 rfl) (Hw hw 306 rfl) (by decide) pd4 rfl rfl (W := 1) (Nat.le_of_eq rfl) (by decide) (by decide) (by decide) (by decide) (fun T h v w gs C q => ?_)
  obtain ⟨rfl, K, G_X, G_0, G_1⟩ := q
  replace E0 := ext_keep E0 K z_a1
  have X0 := X_a1
  replace A_u := A_u.keep K (not1 ne_u_a1)
  replace X_a1 := X_a1.keep K
  replace X_a1 := G_X
  replace F_e0_a1 := G_0
  replace F_e1_a1 := G_1
  show Go p e below _ (State.setTop T (mkF m 44 #[.val (.ref u), .unset] [(.ref a1)]))
  exact g_reta w e30_44 rfl rfl rfl (by decide) (by decide) ⟨_, rfl, E0, z_a1, X_a1, F_e0_a1, F_e1_a1⟩
theorem e31_0 : decode jdk_40_method_36_code 0 = .ok (.getstatic 90, 3) := by decide +kernel
theorem e31_3 : decode jdk_40_method_36_code 3 = .ok (.areturn, 1) := by decide +kernel
set_option maxRecDepth 65536 in
set_option maxHeartbeats 40000000 in
theorem con_l0 (l : Launch) (Z : State) (a0 : Array Value) (hw : ∀ d ∈ tables_1, d.before a0 Z = true) (el : Addr) (h0 : Heap) (O0 : Ext Z.heap h0) (SL_ : Sta Z Z.heap "java/util/ImmutableCollections" "EMPTY_LIST" "Ljava/util/ImmutableCollections$ListN;" (.ref el)) :
    Con l Z consts_1 false (⟨"java/util/List", "of", "()Ljava/util/List;"⟩ : MethodName) jdk_40_method_36_code 0 (some (.object "java/util/List")) [] ({ frames := 0, cells := 0, slots := 0, locals := 0 } : Room) #[] [] h0 (fun v h => v = some (.ref el) ∧ h = h0) := by
  refine Con.intro (Ls := #[]) (plainFor_of_name pn14) (own_EL hw) O0 (fun m => by first | (simp [entryFrame, mkF, argsToLocals, Value.category]; done) | rfl) (fun p e s m below meth cc_ T w sf_ => ?_)
  have E0 := ext_refl h0
  refine g_getS w e31_0 (q := 3) rfl (Hw hw 109 rfl) Via.refl SL_ (fun T w => ?_)
  exact g_reta w e31_3 rfl rfl rfl (by decide) (by decide) ⟨rfl, rfl⟩
theorem e32_0 : decode jdk_56_method_3_code 0 = .ok (.aload_n 0, 1) := by decide +kernel
theorem e32_1 : decode jdk_56_method_3_code 1 = .ok (.instanceof 10, 3) := by decide +kernel
theorem e32_4 : decode jdk_56_method_3_code 4 = .ok (.ifCond .ne 22, 3) := by decide +kernel
theorem e32_7 : decode jdk_56_method_3_code 7 = .ok (.aload_n 0, 1) := by decide +kernel
theorem e32_8 : decode jdk_56_method_3_code 8 = .ok (.instanceof 12, 3) := by decide +kernel
theorem e32_11 : decode jdk_56_method_3_code 11 = .ok (.ifCond .eq 20, 3) := by decide +kernel
theorem e32_14 : decode jdk_56_method_3_code 14 = .ok (.aload_n 0, 1) := by decide +kernel
theorem e32_15 : decode jdk_56_method_3_code 15 = .ok (.checkcast 12, 3) := by decide +kernel
theorem e32_18 : decode jdk_56_method_3_code 18 = .ok (.astore_n 1, 1) := by decide +kernel
theorem e32_19 : decode jdk_56_method_3_code 19 = .ok (.aload_n 1, 1) := by decide +kernel
theorem e32_20 : decode jdk_56_method_3_code 20 = .ok (.getfield 14, 3) := by decide +kernel
theorem e32_23 : decode jdk_56_method_3_code 23 = .ok (.ifCond .ne 8, 3) := by decide +kernel
theorem e32_26 : decode jdk_56_method_3_code 26 = .ok (.aload_n 0, 1) := by decide +kernel
theorem e32_27 : decode jdk_56_method_3_code 27 = .ok (.checkcast 18, 3) := by decide +kernel
theorem e32_30 : decode jdk_56_method_3_code 30 = .ok (.areturn, 1) := by decide +kernel
theorem e32_31 : decode jdk_56_method_3_code 31 = .ok (.aload_n 0, 1) := by decide +kernel
theorem e32_32 : decode jdk_56_method_3_code 32 = .ok (.invokeinterface 20 1, 5) := by decide +kernel
theorem e32_37 : decode jdk_56_method_3_code 37 = .ok (.ifCond .eq 7, 3) := by decide +kernel
theorem e32_40 : decode jdk_56_method_3_code 40 = .ok (.invokestatic 26, 3) := by decide +kernel
theorem e32_43 : decode jdk_56_method_3_code 43 = .ok (.areturn, 1) := by decide +kernel
theorem e32_44 : decode jdk_56_method_3_code 44 = .ok (.aload_n 0, 1) := by decide +kernel
theorem e32_45 : decode jdk_56_method_3_code 45 = .ok (.invokeinterface 30 1, 5) := by decide +kernel
theorem e32_50 : decode jdk_56_method_3_code 50 = .ok (.invokestatic 34, 3) := by decide +kernel
theorem e32_53 : decode jdk_56_method_3_code 53 = .ok (.areturn, 1) := by decide +kernel
theorem pd11 : parseMethodDescriptor "()Z" = some ⟨[], some .boolean⟩ := by decide +kernel
theorem pd12 : parseMethodDescriptor "()Ljava/util/List;" = some ⟨[], some (.object "java/util/List")⟩ := by decide +kernel
theorem pn15 : plainName "java/util/ImmutableCollections" = true := by first | (simp [plainName, overriddenIn]; done) | decide +kernel
set_option maxRecDepth 65536 in
set_option maxHeartbeats 40000000 in
theorem con_lc_a (l : Launch) (Z : State) (a0 : Array Value) (hw : ∀ d ∈ tables_1, d.before a0 Z = true) (x el : Addr) (h0 : Heap) (O0 : Ext Z.heap h0) (X_x : Exa Z h0 x "java/util/ArrayList") (F_size_x : Fld Z h0 x "java/util/ArrayList" "size" "I" (.int 0)) (SL_ : Sta Z Z.heap "java/util/ImmutableCollections" "EMPTY_LIST" "Ljava/util/ImmutableCollections$ListN;" (.ref el)) :
    Con l Z consts_1 false (⟨"java/util/ImmutableCollections", "listCopy", "(Ljava/util/Collection;)Ljava/util/List;"⟩ : MethodName) jdk_56_method_3_code 2 (some (.object "java/util/List")) [] ({ frames := 1, cells := 0, slots := 0, locals := 12 } : Room) #[(.ref x)] [] h0 (fun v h => v = some (.ref el) ∧ h = h0) := by
  refine Con.intro (Ls := #[.val (.ref x), .unset]) (plainFor_of_name pn15) (own_EL hw) O0 (fun m => by first | (simp [entryFrame, mkF, argsToLocals, Value.category]; done) | rfl) (fun p e s m below meth cc_ T w sf_ => ?_)
  have E0 := ext_refl h0
  refine g_aloadN w e32_0 (q := 1) rfl rfl rfl ?_
  refine g_instN w e32_1 (q := 4) rfl (Hw hw 89 rfl) X_x (ns_noI (Hw hw 90 rfl) (Hw hw 301 rfl) (NS.step (Hw hw 90 rfl) (NS.step (Hw hw 91 rfl) (NS.step (Hw hw 92 rfl) (ns_rootI (Hw hw 93 rfl) (Hw hw 301 rfl) (by decide)) (by decide)) (by decide)) (by decide)) (by decide)) (fun T w => ?_)
  refine g_ifN w e32_4 (q := 7) rfl (by decide) ?_
  refine g_aloadN w e32_7 (q := 8) rfl rfl rfl ?_
  refine g_instN w e32_8 (q := 11) rfl (Hw hw 94 rfl) X_x (NS.no (Hw hw 90 rfl) (Hw hw 143 rfl) (NS.step (Hw hw 90 rfl) (NS.step (Hw hw 91 rfl) (NS.step (Hw hw 92 rfl) (NS.root (Hw hw 93 rfl) (Hw hw 143 rfl) (by decide)) (by decide)) (by decide)) (by decide)) (by decide)) (fun T w => ?_)
  refine g_ifY w e32_11 (by decide) (q := 31) (by decide) (by decide) ?_
  refine g_aloadN w e32_31 (q := 32) rfl rfl rfl ?_
  refine g_ifaceP w (con_ie0 l Z a0 hw x _ w.old F_size_x) no0 X_x e32_32 (q := 37) rfl rfl (Hw hw 95 rfl) (Hw hw 96 rfl) (Hw hw 97 rfl) (by decide) (Hw hw 100 rfl) (Hw hw 101 rfl) (Hw hw 102 rfl) (Hw hw 98 rfl) (Hw hw 99 rfl) (Hw hw 35 rfl) (Hw hw 103 rfl) (by decide) pd11 rfl rfl (W := 0) (Nat.le_of_eq rfl) (by decide) (by decide) (by decide) (by decide) (fun T v w C q => ?_)
  obtain rfl := q
  show Go p e below _ (State.setTop T (mkF m 37 #[.val (.ref x), .unset] [(.int (1 : Int32))]))
  refine g_ifN w e32_37 (q := 40) rfl (by decide) ?_
  refine g_staticP w (con_l0 l Z a0 hw el _ w.old SL_) no0 e32_40 (q := 43) rfl rfl (Hw hw 106 rfl) (Hw hw 107 rfl) (Hw hw 83 rfl) (Hw hw 108 rfl) (by decide) pd12 rfl rfl (W := 0) (Nat.le_of_eq rfl) (by decide) (by decide) (by decide) (by decide) (fun T v w C q => ?_)
  obtain rfl := q
  show Go p e below _ (State.setTop T (mkF m 43 #[.val (.ref x), .unset] [(.ref el)]))
  exact g_reta w e32_43 rfl rfl rfl (by decide) (by decide) ⟨rfl, rfl⟩
theorem pd13 : parseMethodDescriptor "([Ljava/lang/Object;)Ljava/util/List;" = some ⟨[(.array (.object "java/lang/Object"))], some (.object "java/util/List")⟩ := by decide +kernel
set_option maxRecDepth 65536 in
set_option maxHeartbeats 40000000 in
theorem con_lc_b (l : Launch) (Z : State) (a0 : Array Value) (hw : ∀ d ∈ tables_1, d.before a0 Z = true) (x t ev mr ic : Addr) (h0 : Heap) (O0 : Ext Z.heap h0) (X_x : Exa Z h0 x "java/util/ArrayList") (F_elementData_x : Fld Z h0 x "java/util/ArrayList" "elementData" "[Ljava/lang/Object;" (.ref t)) (F_size_x : Fld Z h0 x "java/util/ArrayList" "size" "I" (.int 1)) (A_t : Ar Z h0 t (.object "java/lang/Object") [.ref ev, .null, .null, .null, .null, .null, .null, .null, .null, .null]) (X_t : Exa Z h0 t "[Ljava/lang/Object;") (X_e : Exa Z h0 ev "java/lang/Integer") (MR_ : Mir Z "[Ljava/lang/Object;" mr) (SI_ : Sta Z Z.heap "java/util/ImmutableCollections" "EMPTY" "Ljava/lang/Object;" (.ref ic)) :
    Con l Z consts_1 false (⟨"java/util/ImmutableCollections", "listCopy", "(Ljava/util/Collection;)Ljava/util/List;"⟩ : MethodName) jdk_56_method_3_code 2 (some (.object "java/util/List")) [] ({ frames := 6, cells := 2, slots := 3, locals := 100 } : Room) #[(.ref x)] [] h0 (fun v h => ∃ y, v = some (.ref y) ∧ Ext h0 h ∧ h0.size ≤ y ∧ Exa Z h y "java/util/ImmutableCollections$List12" ∧ Fld Z h y "java/util/ImmutableCollections$List12" "e0" "Ljava/lang/Object;" (.ref ev) ∧ Fld Z h y "java/util/ImmutableCollections$List12" "e1" "Ljava/lang/Object;" (.ref ic)) := by
  refine Con.intro (Ls := #[.val (.ref x), .unset]) (plainFor_of_name pn15) (own_EL hw) O0 (fun m => by first | (simp [entryFrame, mkF, argsToLocals, Value.category]; done) | rfl) (fun p e s m below meth cc_ T w sf_ => ?_)
  have E0 := ext_refl h0
  refine g_aloadN w e32_0 (q := 1) rfl rfl rfl ?_
  refine g_instN w e32_1 (q := 4) rfl (Hw hw 89 rfl) X_x (ns_noI (Hw hw 90 rfl) (Hw hw 301 rfl) (NS.step (Hw hw 90 rfl) (NS.step (Hw hw 91 rfl) (NS.step (Hw hw 92 rfl) (ns_rootI (Hw hw 93 rfl) (Hw hw 301 rfl) (by decide)) (by decide)) (by decide)) (by decide)) (by decide)) (fun T w => ?_)
  refine g_ifN w e32_4 (q := 7) rfl (by decide) ?_
  refine g_aloadN w e32_7 (q := 8) rfl rfl rfl ?_
  refine g_instN w e32_8 (q := 11) rfl (Hw hw 94 rfl) X_x (NS.no (Hw hw 90 rfl) (Hw hw 143 rfl) (NS.step (Hw hw 90 rfl) (NS.step (Hw hw 91 rfl) (NS.step (Hw hw 92 rfl) (NS.root (Hw hw 93 rfl) (Hw hw 143 rfl) (by decide)) (by decide)) (by decide)) (by decide)) (by decide)) (fun T w => ?_)
  refine g_ifY w e32_11 (by decide) (q := 31) (by decide) (by decide) ?_
  refine g_aloadN w e32_31 (q := 32) rfl rfl rfl ?_
  refine g_ifaceP w (con_ie1 l Z a0 hw x _ w.old F_size_x) no0 X_x e32_32 (q := 37) rfl rfl (Hw hw 95 rfl) (Hw hw 96 rfl) (Hw hw 97 rfl) (by decide) (Hw hw 100 rfl) (Hw hw 101 rfl) (Hw hw 102 rfl) (Hw hw 98 rfl) (Hw hw 99 rfl) (Hw hw 35 rfl) (Hw hw 103 rfl) (by decide) pd11 rfl rfl (W := 0) (Nat.le_of_eq rfl) (by decide) (by decide) (by decide) (by decide) (fun T v w C q => ?_)
  obtain rfl := q
  show Go p e below _ (State.setTop T (mkF m 37 #[.val (.ref x), .unset] [(.int (0 : Int32))]))
  refine g_ifY w e32_37 (by decide) (q := 44) (by decide) (by decide) ?_
  refine g_aloadN w e32_44 (q := 45) rfl rfl rfl ?_
  refine g_iface w (con_ta l Z a0 hw x t ev mr _ w.old F_elementData_x F_size_x A_t X_t X_e MR_) no0 X_x e32_45 (q := 50) rfl rfl (Hw hw 267 rfl) (Hw hw 268 rfl) (Hw hw 269 rfl) (by decide) (Hw hw 272 rfl) (Hw hw 273 rfl) (Hw hw 102 rfl) (Hw hw 270 rfl) (Hw hw 271 rfl) (Hw hw 35 rfl) (Hw hw 274 rfl) (by decide) pd7 rfl rfl (W := 0) (Nat.le_of_eq rfl) (by decide) (by decide) (by decide) (by decide) (fun T h v w gs C q => ?_)
  obtain ⟨u, rfl, E, g_u, A_u⟩ := q
  have z_u := Nat.le_trans E0.1 g_u
  have ne_ev_u : ev ≠ u := Nat.ne_of_lt (Nat.lt_of_lt_of_le X_e.lt g_u)
  have ne_t_u : t ≠ u := Nat.ne_of_lt (Nat.lt_of_lt_of_le A_t.lt g_u)
  have ne_x_u : x ≠ u := Nat.ne_of_lt (Nat.lt_of_lt_of_le X_x.lt g_u)
  replace E0 := ext_trans E0 E
  replace X_x := X_x.ext E
  replace F_elementData_x := F_elementData_x.ext E
  replace F_size_x := F_size_x.ext E
  replace A_t := A_t.ext E
  replace X_t := X_t.ext E
  replace X_e := X_e.ext E
  show Go p e below _ (State.setTop T (mkF m 50 #[.val (.ref x), .unset] [(.ref u)]))
  refine g_static w (con_lo l Z a0 hw u ev ic _ w.old A_u SI_) no0 e32_50 (q := 53) rfl rfl (Hw hw 297 rfl) (Hw hw 298 rfl) (Hw hw 83 rfl) (Hw hw 299 rfl) (by decide) pd13 rfl rfl (W := 0) (Nat.le_of_eq rfl) (by decide) (by decide) (by decide) (by decide) (fun T h v w gs C q => ?_)
  obtain ⟨y4, rfl, E, g_y4, X_y4, F_e0_y4, F_e1_y4⟩ := q
  have z_y4 := Nat.le_trans E0.1 g_y4
  have ne_ev_y4 : ev ≠ y4 := Nat.ne_of_lt (Nat.lt_of_lt_of_le X_e.lt g_y4)
  have ne_t_y4 : t ≠ y4 := Nat.ne_of_lt (Nat.lt_of_lt_of_le A_t.lt g_y4)
  have ne_u_y4 : u ≠ y4 := Nat.ne_of_lt (Nat.lt_of_lt_of_le A_u.lt g_y4)
  have ne_x_y4 : x ≠ y4 := Nat.ne_of_lt (Nat.lt_of_lt_of_le X_x.lt g_y4)
  replace E0 := ext_trans E0 E
  replace X_x := X_x.ext E
  replace F_elementData_x := F_elementData_x.ext E
  replace F_size_x := F_size_x.ext E
  replace A_t := A_t.ext E
  replace X_t := X_t.ext E
  replace X_e := X_e.ext E
  replace A_u := A_u.ext E
  show Go p e below _ (State.setTop T (mkF m 53 #[.val (.ref x), .unset] [(.ref y4)]))
  exact g_reta w e32_53 rfl rfl rfl (by decide) (by decide) ⟨_, rfl, E0, z_y4, X_y4, F_e0_y4, F_e1_y4⟩
set_option maxRecDepth 65536 in
set_option maxHeartbeats 40000000 in
theorem con_lc_c (l : Launch) (Z : State) (a0 : Array Value) (hw : ∀ d ∈ tables_1, d.before a0 Z = true) (x  : Addr) (h0 : Heap) (O0 : Ext Z.heap h0) (X_x : Exa Z h0 x "java/util/ImmutableCollections$ListN") (F_allowNulls_x : Fld Z h0 x "java/util/ImmutableCollections$ListN" "allowNulls" "Z" (.int 0)) :
    Con l Z consts_1 false (⟨"java/util/ImmutableCollections", "listCopy", "(Ljava/util/Collection;)Ljava/util/List;"⟩ : MethodName) jdk_56_method_3_code 2 (some (.object "java/util/List")) [] ({ frames := 0, cells := 0, slots := 0, locals := 0 } : Room) #[(.ref x)] [] h0 (fun v h => v = some (.ref x) ∧ h = h0) := by
  refine Con.intro (Ls := #[.val (.ref x), .unset]) (plainFor_of_name pn15) (own_EL hw) O0 (fun m => by first | (simp [entryFrame, mkF, argsToLocals, Value.category]; done) | rfl) (fun p e s m below meth cc_ T w sf_ => ?_)
  have E0 := ext_refl h0
  refine g_aloadN w e32_0 (q := 1) rfl rfl rfl ?_
  refine g_instN w e32_1 (q := 4) rfl (Hw hw 89 rfl) X_x (ns_noI (Hw hw 143 rfl) (Hw hw 301 rfl) (NS.step (Hw hw 143 rfl) (NS.step (Hw hw 144 rfl) (NS.step (Hw hw 145 rfl) (NS.step (Hw hw 92 rfl) (ns_rootI (Hw hw 93 rfl) (Hw hw 301 rfl) (by decide)) (by decide)) (by decide)) (by decide)) (by decide)) (by decide)) (fun T w => ?_)
  refine g_ifN w e32_4 (q := 7) rfl (by decide) ?_
  refine g_aloadN w e32_7 (q := 8) rfl rfl rfl ?_
  refine g_inst w e32_8 (q := 11) rfl (Hw hw 94 rfl) (Ins.self X_x) (fun T w => ?_)
  refine g_ifN w e32_11 (q := 14) rfl (by decide) ?_
  refine g_aloadN w e32_14 (q := 15) rfl rfl rfl ?_
  refine g_cast w e32_15 (q := 18) rfl (Hw hw 94 rfl) (Ins.self X_x) (fun T w => ?_)
  refine g_astoreN w e32_18 (q := 19) rfl rfl (Ls' := #[.val (.ref x), .val (.ref x)]) rfl ?_
  refine g_aloadN w e32_19 (q := 20) rfl rfl rfl ?_
  refine g_getF w e32_20 (q := 23) rfl (Or.inr (Hw hw 147 rfl)) Via.refl F_allowNulls_x (fun T w => ?_)
  refine g_ifN w e32_23 (q := 26) rfl (by decide) ?_
  refine g_aloadN w e32_26 (q := 27) rfl rfl rfl ?_
  refine g_cast w e32_27 (q := 30) rfl (Hw hw 149 rfl) (Ins.of_exa X_x (Hw hw 150 rfl)) (fun T w => ?_)
  exact g_reta w e32_30 rfl rfl rfl (by decide) (by decide) ⟨rfl, rfl⟩
set_option maxRecDepth 65536 in
set_option maxHeartbeats 40000000 in
theorem con_lc_d (l : Launch) (Z : State) (a0 : Array Value) (hw : ∀ d ∈ tables_1, d.before a0 Z = true) (x  : Addr) (h0 : Heap) (O0 : Ext Z.heap h0) (X_x : Exa Z h0 x "java/util/ImmutableCollections$List12") :
    Con l Z consts_1 false (⟨"java/util/ImmutableCollections", "listCopy", "(Ljava/util/Collection;)Ljava/util/List;"⟩ : MethodName) jdk_56_method_3_code 2 (some (.object "java/util/List")) [] ({ frames := 0, cells := 0, slots := 0, locals := 0 } : Room) #[(.ref x)] [] h0 (fun v h => v = some (.ref x) ∧ h = h0) := by
  refine Con.intro (Ls := #[.val (.ref x), .unset]) (plainFor_of_name pn15) (own_EL hw) O0 (fun m => by first | (simp [entryFrame, mkF, argsToLocals, Value.category]; done) | rfl) (fun p e s m below meth cc_ T w sf_ => ?_)
  have E0 := ext_refl h0
  refine g_aloadN w e32_0 (q := 1) rfl rfl rfl ?_
  refine g_inst w e32_1 (q := 4) rfl (Hw hw 89 rfl) (Ins.self X_x) (fun T w => ?_)
  refine g_ifY w e32_4 (by decide) (q := 26) (by decide) (by decide) ?_
  refine g_aloadN w e32_26 (q := 27) rfl rfl rfl ?_
  refine g_cast w e32_27 (q := 30) rfl (Hw hw 149 rfl) (Ins.of_exa X_x (Hw hw 327 rfl)) (fun T w => ?_)
  exact g_reta w e32_30 rfl rfl rfl (by decide) (by decide) ⟨rfl, rfl⟩
theorem e33_0 : decode jdk_40_method_48_code 0 = .ok (.aload_n 0, 1) := by decide +kernel
theorem e33_1 : decode jdk_40_method_48_code 1 = .ok (.invokestatic 112, 3) := by decide +kernel
theorem e33_4 : decode jdk_40_method_48_code 4 = .ok (.areturn, 1) := by decide +kernel
theorem pd14 : parseMethodDescriptor "(Ljava/util/Collection;)Ljava/util/List;" = some ⟨[(.object "java/util/Collection")], some (.object "java/util/List")⟩ := by decide +kernel
set_option maxRecDepth 65536 in
set_option maxHeartbeats 40000000 in
theorem con_co_a (l : Launch) (Z : State) (a0 : Array Value) (hw : ∀ d ∈ tables_1, d.before a0 Z = true) (x el : Addr) (h0 : Heap) (O0 : Ext Z.heap h0) (X_x : Exa Z h0 x "java/util/ArrayList") (F_size_x : Fld Z h0 x "java/util/ArrayList" "size" "I" (.int 0)) (SL_ : Sta Z Z.heap "java/util/ImmutableCollections" "EMPTY_LIST" "Ljava/util/ImmutableCollections$ListN;" (.ref el)) :
    Con l Z consts_1 false (⟨"java/util/List", "copyOf", "(Ljava/util/Collection;)Ljava/util/List;"⟩ : MethodName) jdk_40_method_48_code 1 (some (.object "java/util/List")) [] ({ frames := 2, cells := 0, slots := 0, locals := 25 } : Room) #[(.ref x)] [] h0 (fun v h => v = some (.ref el) ∧ h = h0) := by
  refine Con.intro (Ls := #[.val (.ref x)]) (plainFor_of_name pn14) (own_EL hw) O0 (fun m => by first | (simp [entryFrame, mkF, argsToLocals, Value.category]; done) | rfl) (fun p e s m below meth cc_ T w sf_ => ?_)
  have E0 := ext_refl h0
  refine g_aloadN w e33_0 (q := 1) rfl rfl rfl ?_
  refine g_staticP w (con_lc_a l Z a0 hw x el _ w.old X_x F_size_x SL_) no0 e33_1 (q := 4) rfl rfl (Hw hw 85 rfl) (Hw hw 86 rfl) (Hw hw 87 rfl) (Hw hw 88 rfl) (by decide) pd14 rfl rfl (W := 0) (Nat.le_of_eq rfl) (by decide) (by decide) (by decide) (by decide) (fun T v w C q => ?_)
  obtain rfl := q
  show Go p e below _ (State.setTop T (mkF m 4 #[.val (.ref x)] [(.ref el)]))
  exact g_reta w e33_4 rfl rfl rfl (by decide) (by decide) ⟨rfl, rfl⟩
set_option maxRecDepth 65536 in
set_option maxHeartbeats 40000000 in
theorem con_co_b (l : Launch) (Z : State) (a0 : Array Value) (hw : ∀ d ∈ tables_1, d.before a0 Z = true) (x t ev mr ic : Addr) (h0 : Heap) (O0 : Ext Z.heap h0) (X_x : Exa Z h0 x "java/util/ArrayList") (F_elementData_x : Fld Z h0 x "java/util/ArrayList" "elementData" "[Ljava/lang/Object;" (.ref t)) (F_size_x : Fld Z h0 x "java/util/ArrayList" "size" "I" (.int 1)) (A_t : Ar Z h0 t (.object "java/lang/Object") [.ref ev, .null, .null, .null, .null, .null, .null, .null, .null, .null]) (X_t : Exa Z h0 t "[Ljava/lang/Object;") (X_e : Exa Z h0 ev "java/lang/Integer") (MR_ : Mir Z "[Ljava/lang/Object;" mr) (SI_ : Sta Z Z.heap "java/util/ImmutableCollections" "EMPTY" "Ljava/lang/Object;" (.ref ic)) :
    Con l Z consts_1 false (⟨"java/util/List", "copyOf", "(Ljava/util/Collection;)Ljava/util/List;"⟩ : MethodName) jdk_40_method_48_code 1 (some (.object "java/util/List")) [] ({ frames := 7, cells := 2, slots := 3, locals := 113 } : Room) #[(.ref x)] [] h0 (fun v h => ∃ y, v = some (.ref y) ∧ Ext h0 h ∧ h0.size ≤ y ∧ Exa Z h y "java/util/ImmutableCollections$List12" ∧ Fld Z h y "java/util/ImmutableCollections$List12" "e0" "Ljava/lang/Object;" (.ref ev) ∧ Fld Z h y "java/util/ImmutableCollections$List12" "e1" "Ljava/lang/Object;" (.ref ic)) := by
  refine Con.intro (Ls := #[.val (.ref x)]) (plainFor_of_name pn14) (own_EL hw) O0 (fun m => by first | (simp [entryFrame, mkF, argsToLocals, Value.category]; done) | rfl) (fun p e s m below meth cc_ T w sf_ => ?_)
  have E0 := ext_refl h0
  refine g_aloadN w e33_0 (q := 1) rfl rfl rfl ?_
  refine g_static w (con_lc_b l Z a0 hw x t ev mr ic _ w.old X_x F_elementData_x F_size_x A_t X_t X_e MR_ SI_) no0 e33_1 (q := 4) rfl rfl (Hw hw 85 rfl) (Hw hw 86 rfl) (Hw hw 87 rfl) (Hw hw 88 rfl) (by decide) pd14 rfl rfl (W := 0) (Nat.le_of_eq rfl) (by decide) (by decide) (by decide) (by decide) (fun T h v w gs C q => ?_)
  obtain ⟨y1, rfl, E, g_y1, X_y1, F_e0_y1, F_e1_y1⟩ := q
  have z_y1 := Nat.le_trans E0.1 g_y1
  have ne_ev_y1 : ev ≠ y1 := Nat.ne_of_lt (Nat.lt_of_lt_of_le X_e.lt g_y1)
  have ne_t_y1 : t ≠ y1 := Nat.ne_of_lt (Nat.lt_of_lt_of_le A_t.lt g_y1)
  have ne_x_y1 : x ≠ y1 := Nat.ne_of_lt (Nat.lt_of_lt_of_le X_x.lt g_y1)
  replace E0 := ext_trans E0 E
  replace X_x := X_x.ext E
  replace F_elementData_x := F_elementData_x.ext E
  replace F_size_x := F_size_x.ext E
  replace A_t := A_t.ext E
  replace X_t := X_t.ext E
  replace X_e := X_e.ext E
  show Go p e below _ (State.setTop T (mkF m 4 #[.val (.ref x)] [(.ref y1)]))
  exact g_reta w e33_4 rfl rfl rfl (by decide) (by decide) ⟨_, rfl, E0, z_y1, X_y1, F_e0_y1, F_e1_y1⟩
set_option maxRecDepth 65536 in
set_option maxHeartbeats 40000000 in
theorem con_co_c (l : Launch) (Z : State) (a0 : Array Value) (hw : ∀ d ∈ tables_1, d.before a0 Z = true) (x  : Addr) (h0 : Heap) (O0 : Ext Z.heap h0) (X_x : Exa Z h0 x "java/util/ImmutableCollections$ListN") (F_allowNulls_x : Fld Z h0 x "java/util/ImmutableCollections$ListN" "allowNulls" "Z" (.int 0)) :
    Con l Z consts_1 false (⟨"java/util/List", "copyOf", "(Ljava/util/Collection;)Ljava/util/List;"⟩ : MethodName) jdk_40_method_48_code 1 (some (.object "java/util/List")) [] ({ frames := 1, cells := 0, slots := 0, locals := 13 } : Room) #[(.ref x)] [] h0 (fun v h => v = some (.ref x) ∧ h = h0) := by
  refine Con.intro (Ls := #[.val (.ref x)]) (plainFor_of_name pn14) (own_EL hw) O0 (fun m => by first | (simp [entryFrame, mkF, argsToLocals, Value.category]; done) | rfl) (fun p e s m below meth cc_ T w sf_ => ?_)
  have E0 := ext_refl h0
  refine g_aloadN w e33_0 (q := 1) rfl rfl rfl ?_
  refine g_staticP w (con_lc_c l Z a0 hw x  _ w.old X_x F_allowNulls_x) no0 e33_1 (q := 4) rfl rfl (Hw hw 85 rfl) (Hw hw 86 rfl) (Hw hw 87 rfl) (Hw hw 88 rfl) (by decide) pd14 rfl rfl (W := 0) (Nat.le_of_eq rfl) (by decide) (by decide) (by decide) (by decide) (fun T v w C q => ?_)
  obtain rfl := q
  show Go p e below _ (State.setTop T (mkF m 4 #[.val (.ref x)] [(.ref x)]))
  exact g_reta w e33_4 rfl rfl rfl (by decide) (by decide) ⟨rfl, rfl⟩
set_option maxRecDepth 65536 in
set_option maxHeartbeats 40000000 in
theorem con_co_d (l : Launch) (Z : State) (a0 : Array Value) (hw : ∀ d ∈ tables_1, d.before a0 Z = true) (x  : Addr) (h0 : Heap) (O0 : Ext Z.heap h0) (X_x : Exa Z h0 x "java/util/ImmutableCollections$List12") :
    Con l Z consts_1 false (⟨"java/util/List", "copyOf", "(Ljava/util/Collection;)Ljava/util/List;"⟩ : MethodName) jdk_40_method_48_code 1 (some (.object "java/util/List")) [] ({ frames := 1, cells := 0, slots := 0, locals := 13 } : Room) #[(.ref x)] [] h0 (fun v h => v = some (.ref x) ∧ h = h0) := by
  refine Con.intro (Ls := #[.val (.ref x)]) (plainFor_of_name pn14) (own_EL hw) O0 (fun m => by first | (simp [entryFrame, mkF, argsToLocals, Value.category]; done) | rfl) (fun p e s m below meth cc_ T w sf_ => ?_)
  have E0 := ext_refl h0
  refine g_aloadN w e33_0 (q := 1) rfl rfl rfl ?_
  refine g_staticP w (con_lc_d l Z a0 hw x  _ w.old X_x) no0 e33_1 (q := 4) rfl rfl (Hw hw 85 rfl) (Hw hw 86 rfl) (Hw hw 87 rfl) (Hw hw 88 rfl) (by decide) pd14 rfl rfl (W := 0) (Nat.le_of_eq rfl) (by decide) (by decide) (by decide) (by decide) (fun T v w C q => ?_)
  obtain rfl := q
  show Go p e below _ (State.setTop T (mkF m 4 #[.val (.ref x)] [(.ref x)]))
  exact g_reta w e33_4 rfl rfl rfl (by decide) (by decide) ⟨rfl, rfl⟩
theorem e34_0 : decode prog_33_method_1_code 0 = .ok (.aload_n 0, 1) := by decide +kernel
theorem e34_1 : decode prog_33_method_1_code 1 = .ok (.invokespecial 1, 3) := by decide +kernel
theorem e34_4 : decode prog_33_method_1_code 4 = .ok (.aload_n 1, 1) := by decide +kernel
theorem e34_5 : decode prog_33_method_1_code 5 = .ok (.ldc 7, 2) := by decide +kernel
theorem e34_7 : decode prog_33_method_1_code 7 = .ok (.invokestatic 9, 3) := by decide +kernel
theorem e34_10 : decode prog_33_method_1_code 10 = .ok (.pop, 1) := by decide +kernel
theorem e34_11 : decode prog_33_method_1_code 11 = .ok (.aload_n 2, 1) := by decide +kernel
theorem e34_12 : decode prog_33_method_1_code 12 = .ok (.ldc 15, 2) := by decide +kernel
theorem e34_14 : decode prog_33_method_1_code 14 = .ok (.invokestatic 9, 3) := by decide +kernel
theorem e34_17 : decode prog_33_method_1_code 17 = .ok (.pop, 1) := by decide +kernel
theorem e34_18 : decode prog_33_method_1_code 18 = .ok (.aload_n 3, 1) := by decide +kernel
theorem e34_19 : decode prog_33_method_1_code 19 = .ok (.ldc 17, 2) := by decide +kernel
theorem e34_21 : decode prog_33_method_1_code 21 = .ok (.invokestatic 9, 3) := by decide +kernel
theorem e34_24 : decode prog_33_method_1_code 24 = .ok (.pop, 1) := by decide +kernel
theorem e34_25 : decode prog_33_method_1_code 25 = .ok (.aload 4, 2) := by decide +kernel
theorem e34_27 : decode prog_33_method_1_code 27 = .ok (.invokestatic 19, 3) := by decide +kernel
theorem e34_30 : decode prog_33_method_1_code 30 = .ok (.astore 4, 2) := by decide +kernel
theorem e34_32 : decode prog_33_method_1_code 32 = .ok (.aload 5, 2) := by decide +kernel
theorem e34_34 : decode prog_33_method_1_code 34 = .ok (.ldc 25, 2) := by decide +kernel
theorem e34_36 : decode prog_33_method_1_code 36 = .ok (.invokestatic 9, 3) := by decide +kernel
theorem e34_39 : decode prog_33_method_1_code 39 = .ok (.pop, 1) := by decide +kernel
theorem e34_40 : decode prog_33_method_1_code 40 = .ok (.aload_n 0, 1) := by decide +kernel
theorem e34_41 : decode prog_33_method_1_code 41 = .ok (.aload_n 1, 1) := by decide +kernel
theorem e34_42 : decode prog_33_method_1_code 42 = .ok (.putfield 27, 3) := by decide +kernel
theorem e34_45 : decode prog_33_method_1_code 45 = .ok (.aload_n 0, 1) := by decide +kernel
theorem e34_46 : decode prog_33_method_1_code 46 = .ok (.aload_n 2, 1) := by decide +kernel
theorem e34_47 : decode prog_33_method_1_code 47 = .ok (.putfield 32, 3) := by decide +kernel
theorem e34_50 : decode prog_33_method_1_code 50 = .ok (.aload_n 0, 1) := by decide +kernel
theorem e34_51 : decode prog_33_method_1_code 51 = .ok (.aload_n 3, 1) := by decide +kernel
theorem e34_52 : decode prog_33_method_1_code 52 = .ok (.putfield 35, 3) := by decide +kernel
theorem e34_55 : decode prog_33_method_1_code 55 = .ok (.aload_n 0, 1) := by decide +kernel
theorem e34_56 : decode prog_33_method_1_code 56 = .ok (.aload 4, 2) := by decide +kernel
theorem e34_58 : decode prog_33_method_1_code 58 = .ok (.putfield 37, 3) := by decide +kernel
theorem e34_61 : decode prog_33_method_1_code 61 = .ok (.aload_n 0, 1) := by decide +kernel
theorem e34_62 : decode prog_33_method_1_code 62 = .ok (.aload 5, 2) := by decide +kernel
theorem e34_64 : decode prog_33_method_1_code 64 = .ok (.putfield 41, 3) := by decide +kernel
theorem e34_67 : decode prog_33_method_1_code 67 = .ok (.return_, 1) := by decide +kernel
theorem pd15 : parseMethodDescriptor "(Ljava/lang/Object;Ljava/lang/String;)Ljava/lang/Object;" = some ⟨[(.object "java/lang/Object"), (.object "java/lang/String")], some (.object "java/lang/Object")⟩ := by decide +kernel
theorem pn16 : plainName "com/example/stepwize/stepwize/engine/Message" = true := by first | (simp [plainName, overriddenIn]; done) | decide +kernel
set_option maxRecDepth 65536 in
set_option maxHeartbeats 40000000 in
theorem con_mi_a (l : Launch) (Z : State) (a0 : Array Value) (hw : ∀ d ∈ tables_1, d.before a0 Z = true) (x sv so co li tx el : Addr) (h0 : Heap) (O0 : Ext Z.heap h0) (X_x : Exa Z h0 x "com/example/stepwize/stepwize/engine/Message") (F_severity_x : Fld Z h0 x "com/example/stepwize/stepwize/engine/Message" "severity" "Lcom/example/stepwize/stepwize/engine/Message$Severity;" .null) (F_source_x : Fld Z h0 x "com/example/stepwize/stepwize/engine/Message" "source" "Ljava/util/Optional;" .null) (F_code_x : Fld Z h0 x "com/example/stepwize/stepwize/engine/Message" "code" "Ljava/util/Optional;" .null) (F_arguments_x : Fld Z h0 x "com/example/stepwize/stepwize/engine/Message" "arguments" "Ljava/util/List;" .null) (F_text_x : Fld Z h0 x "com/example/stepwize/stepwize/engine/Message" "text" "Ljava/lang/String;" .null) (n_x : Z.heap.size ≤ x) (X_li : Exa Z h0 li "java/util/ArrayList") (F_size_li : Fld Z h0 li "java/util/ArrayList" "size" "I" (.int 0)) (SL_ : Sta Z Z.heap "java/util/ImmutableCollections" "EMPTY_LIST" "Ljava/util/ImmutableCollections$ListN;" (.ref el)) :
    Con l Z consts_1 false (⟨"com/example/stepwize/stepwize/engine/Message", "<init>", "(Lcom/example/stepwize/stepwize/engine/Message$Severity;Ljava/util/Optional;Ljava/util/Optional;Ljava/util/List;Ljava/lang/String;)V"⟩ : MethodName) prog_33_method_1_code 6 none [] ({ frames := 3, cells := 8, slots := 104, locals := 37 } : Room) #[(.ref x), (.ref sv), (.ref so), (.ref co), (.ref li), (.ref tx)] [] h0 (fun v h => v = none ∧ Keep h0 h [x] ∧ Fld Z h x "com/example/stepwize/stepwize/engine/Message" "severity" "Lcom/example/stepwize/stepwize/engine/Message$Severity;" (.ref sv) ∧ Fld Z h x "com/example/stepwize/stepwize/engine/Message" "source" "Ljava/util/Optional;" (.ref so) ∧ Fld Z h x "com/example/stepwize/stepwize/engine/Message" "code" "Ljava/util/Optional;" (.ref co) ∧ Fld Z h x "com/example/stepwize/stepwize/engine/Message" "arguments" "Ljava/util/List;" (.ref el) ∧ Fld Z h x "com/example/stepwize/stepwize/engine/Message" "text" "Ljava/lang/String;" (.ref tx)) := by
  refine Con.intro (Ls := #[.val (.ref x), .val (.ref sv), .val (.ref so), .val (.ref co), .val (.ref li), .val (.ref tx)]) (plainFor_of_name pn16) (own_EL hw) O0 (fun m => by first | (simp [entryFrame, mkF, argsToLocals, Value.category]; done) | rfl) (fun p e s m below meth cc_ T w sf_ => ?_)
  have K0 := Keep.refl h0 [x]
  refine g_aloadN w e34_0 (q := 1) rfl rfl rfl ?_
  refine g_specialP w (con_rec l Z a0 hw x _ w.old) no0 e34_1 (q := 4) rfl rfl rfl (Hw hw 68 rfl) (Hw hw 69 rfl) (Hw hw 71 rfl) (Hw hw 72 rfl) (by decide) pd1 rfl rfl (W := 0) (Nat.le_of_eq rfl) (by decide) (by decide) (by decide) (by decide) (fun T v w C q => ?_)
  obtain rfl := q
  show Go p e below _ (State.setTop T (mkF m 4 #[.val (.ref x), .val (.ref sv), .val (.ref so), .val (.ref co), .val (.ref li), .val (.ref tx)] []))
  refine g_aloadN w e34_4 (q := 5) rfl rfl rfl ?_
  refine g_ldcO w e34_5 (q := 7) rfl rfl (Hw hw 74 rfl) (own_wS hw) (nn := 32) (by decide) (by decide) (by decide) (by decide) (fun T vm h t1 w E C => ?_)
  replace K0 := K0.ext E
  replace X_x := X_x.ext E
  replace F_severity_x := F_severity_x.ext E
  replace F_source_x := F_source_x.ext E
  replace F_code_x := F_code_x.ext E
  replace F_arguments_x := F_arguments_x.ext E
  replace F_text_x := F_text_x.ext E
  replace X_li := X_li.ext E
  replace F_size_li := F_size_li.ext E
  refine g_staticP w (con_rn2 l Z a0 hw sv t1 _ w.old) no0 e34_7 (q := 10) rfl rfl (Hw hw 75 rfl) (Hw hw 76 rfl) (Hw hw 77 rfl) (Hw hw 78 rfl) (by decide) pd15 rfl rfl (W := 0) (Nat.le_of_eq rfl) (by decide) (by decide) (by decide) (by decide) (fun T v w C q => ?_)
  obtain rfl := q
  show Go p e below _ (State.setTop T (mkF m 10 #[.val (.ref x), .val (.ref sv), .val (.ref so), .val (.ref co), .val (.ref li), .val (.ref tx)] [(.ref sv)]))
  refine g_pop w e34_10 (q := 11) rfl rfl ?_
  refine g_aloadN w e34_11 (q := 12) rfl rfl rfl ?_
  refine g_ldcO w e34_12 (q := 14) rfl rfl (Hw hw 79 rfl) (own_wS hw) (nn := 24) (by decide) (by decide) (by decide) (by decide) (fun T vm h t2 w E C => ?_)
  replace K0 := K0.ext E
  replace X_x := X_x.ext E
  replace F_severity_x := F_severity_x.ext E
  replace F_source_x := F_source_x.ext E
  replace F_code_x := F_code_x.ext E
  replace F_arguments_x := F_arguments_x.ext E
  replace F_text_x := F_text_x.ext E
  replace X_li := X_li.ext E
  replace F_size_li := F_size_li.ext E
  refine g_staticP w (con_rn2 l Z a0 hw so t2 _ w.old) no0 e34_14 (q := 17) rfl rfl (Hw hw 75 rfl) (Hw hw 76 rfl) (Hw hw 77 rfl) (Hw hw 78 rfl) (by decide) pd15 rfl rfl (W := 0) (Nat.le_of_eq rfl) (by decide) (by decide) (by decide) (by decide) (fun T v w C q => ?_)
  obtain rfl := q
  show Go p e below _ (State.setTop T (mkF m 17 #[.val (.ref x), .val (.ref sv), .val (.ref so), .val (.ref co), .val (.ref li), .val (.ref tx)] [(.ref so)]))
  refine g_pop w e34_17 (q := 18) rfl rfl ?_
  refine g_aloadN w e34_18 (q := 19) rfl rfl rfl ?_
  refine g_ldcO w e34_19 (q := 21) rfl rfl (Hw hw 80 rfl) (own_wS hw) (nn := 16) (by decide) (by decide) (by decide) (by decide) (fun T vm h t3 w E C => ?_)
  replace K0 := K0.ext E
  replace X_x := X_x.ext E
  replace F_severity_x := F_severity_x.ext E
  replace F_source_x := F_source_x.ext E
  replace F_code_x := F_code_x.ext E
  replace F_arguments_x := F_arguments_x.ext E
  replace F_text_x := F_text_x.ext E
  replace X_li := X_li.ext E
  replace F_size_li := F_size_li.ext E
  refine g_staticP w (con_rn2 l Z a0 hw co t3 _ w.old) no0 e34_21 (q := 24) rfl rfl (Hw hw 75 rfl) (Hw hw 76 rfl) (Hw hw 77 rfl) (Hw hw 78 rfl) (by decide) pd15 rfl rfl (W := 0) (Nat.le_of_eq rfl) (by decide) (by decide) (by decide) (by decide) (fun T v w C q => ?_)
  obtain rfl := q
  show Go p e below _ (State.setTop T (mkF m 24 #[.val (.ref x), .val (.ref sv), .val (.ref so), .val (.ref co), .val (.ref li), .val (.ref tx)] [(.ref co)]))
  refine g_pop w e34_24 (q := 25) rfl rfl ?_
  refine g_aload w e34_25 (q := 27) rfl rfl rfl ?_
  refine g_staticP w (con_co_a l Z a0 hw li el _ w.old X_li F_size_li SL_) no0 e34_27 (q := 30) rfl rfl (Hw hw 81 rfl) (Hw hw 82 rfl) (Hw hw 83 rfl) (Hw hw 84 rfl) (by decide) pd14 rfl rfl (W := 0) (Nat.le_of_eq rfl) (by decide) (by decide) (by decide) (by decide) (fun T v w C q => ?_)
  obtain rfl := q
  show Go p e below _ (State.setTop T (mkF m 30 #[.val (.ref x), .val (.ref sv), .val (.ref so), .val (.ref co), .val (.ref li), .val (.ref tx)] [(.ref el)]))
  refine g_astore w e34_30 (q := 32) rfl rfl (Ls' := #[.val (.ref x), .val (.ref sv), .val (.ref so), .val (.ref co), .val (.ref el), .val (.ref tx)]) rfl ?_
  refine g_aload w e34_32 (q := 34) rfl rfl rfl ?_
  refine g_ldcO w e34_34 (q := 36) rfl rfl (Hw hw 110 rfl) (own_wS hw) (nn := 16) (by decide) (by decide) (by decide) (by decide) (fun T vm h t4 w E C => ?_)
  replace K0 := K0.ext E
  replace X_x := X_x.ext E
  replace F_severity_x := F_severity_x.ext E
  replace F_source_x := F_source_x.ext E
  replace F_code_x := F_code_x.ext E
  replace F_arguments_x := F_arguments_x.ext E
  replace F_text_x := F_text_x.ext E
  refine g_staticP w (con_rn2 l Z a0 hw tx t4 _ w.old) no0 e34_36 (q := 39) rfl rfl (Hw hw 75 rfl) (Hw hw 76 rfl) (Hw hw 77 rfl) (Hw hw 78 rfl) (by decide) pd15 rfl rfl (W := 0) (Nat.le_of_eq rfl) (by decide) (by decide) (by decide) (by decide) (fun T v w C q => ?_)
  obtain rfl := q
  show Go p e below _ (State.setTop T (mkF m 39 #[.val (.ref x), .val (.ref sv), .val (.ref so), .val (.ref co), .val (.ref el), .val (.ref tx)] [(.ref tx)]))
  refine g_pop w e34_39 (q := 40) rfl rfl ?_
  refine g_aloadN w e34_40 (q := 41) rfl rfl rfl ?_
  refine g_aloadN w e34_41 (q := 42) rfl rfl rfl ?_
  have g_ := w.chv
  refine g_putF w e34_42 (q := 45) rfl (Hw hw 111 rfl) Via.refl F_severity_x X_x (Or.inr ⟨(Hw hw 112 rfl), rfl, rfl⟩) (Hw hw 63 rfl) (ty := (.object "com/example/stepwize/stepwize/engine/Message$Severity")) (by decide) (v' := (.ref sv)) rfl rfl n_x (w.safe X_x (by decide) (by decide)) (fun T h w W => ?_)
  replace K0 := K0.wr W (Or.inl (List.mem_singleton.mpr rfl))
  replace X_x := X_x.wr W
  replace F_severity_x := F_severity_x.same W
  replace F_source_x := F_source_x.other W (Or.inr (slot_ne (Or.inr (Hw hw 114 rfl)) (Or.inr (Hw hw 112 rfl)) (by decide) (t := (.object "java/util/Optional")) (t' := (.object "com/example/stepwize/stepwize/engine/Message$Severity")) (by decide) (by decide)))
  replace F_code_x := F_code_x.other W (Or.inr (slot_ne (Or.inr (Hw hw 116 rfl)) (Or.inr (Hw hw 112 rfl)) (by decide) (t := (.object "java/util/Optional")) (t' := (.object "com/example/stepwize/stepwize/engine/Message$Severity")) (by decide) (by decide)))
  replace F_arguments_x := F_arguments_x.other W (Or.inr (slot_ne (Or.inr (Hw hw 118 rfl)) (Or.inr (Hw hw 112 rfl)) (by decide) (t := (.object "java/util/List")) (t' := (.object "com/example/stepwize/stepwize/engine/Message$Severity")) (by decide) (by decide)))
  replace F_text_x := F_text_x.other W (Or.inr (slot_ne (Or.inr (Hw hw 120 rfl)) (Or.inr (Hw hw 112 rfl)) (by decide) (t := (.object "java/lang/String")) (t' := (.object "com/example/stepwize/stepwize/engine/Message$Severity")) (by decide) (by decide)))
  refine g_aloadN w e34_45 (q := 46) rfl rfl rfl ?_
  refine g_aloadN w e34_46 (q := 47) rfl rfl rfl ?_
  have g_ := w.chv
  refine g_putF w e34_47 (q := 50) rfl (Hw hw 113 rfl) Via.refl F_source_x X_x (Or.inr ⟨(Hw hw 114 rfl), rfl, rfl⟩) (Hw hw 63 rfl) (ty := (.object "java/util/Optional")) (by decide) (v' := (.ref so)) rfl rfl n_x (w.safe X_x (by decide) (by decide)) (fun T h w W => ?_)
  replace K0 := K0.wr W (Or.inl (List.mem_singleton.mpr rfl))
  replace X_x := X_x.wr W
  replace F_severity_x := F_severity_x.other W (Or.inr (slot_ne (Or.inr (Hw hw 112 rfl)) (Or.inr (Hw hw 114 rfl)) (by decide) (t := (.object "com/example/stepwize/stepwize/engine/Message$Severity")) (t' := (.object "java/util/Optional")) (by decide) (by decide)))
  replace F_source_x := F_source_x.same W
  replace F_code_x := F_code_x.other W (Or.inr (slot_ne (Or.inr (Hw hw 116 rfl)) (Or.inr (Hw hw 114 rfl)) (by decide) (t := (.object "java/util/Optional")) (t' := (.object "java/util/Optional")) (by decide) (by decide)))
  replace F_arguments_x := F_arguments_x.other W (Or.inr (slot_ne (Or.inr (Hw hw 118 rfl)) (Or.inr (Hw hw 114 rfl)) (by decide) (t := (.object "java/util/List")) (t' := (.object "java/util/Optional")) (by decide) (by decide)))
  replace F_text_x := F_text_x.other W (Or.inr (slot_ne (Or.inr (Hw hw 120 rfl)) (Or.inr (Hw hw 114 rfl)) (by decide) (t := (.object "java/lang/String")) (t' := (.object "java/util/Optional")) (by decide) (by decide)))
  refine g_aloadN w e34_50 (q := 51) rfl rfl rfl ?_
  refine g_aloadN w e34_51 (q := 52) rfl rfl rfl ?_
  have g_ := w.chv
  refine g_putF w e34_52 (q := 55) rfl (Hw hw 115 rfl) Via.refl F_code_x X_x (Or.inr ⟨(Hw hw 116 rfl), rfl, rfl⟩) (Hw hw 63 rfl) (ty := (.object "java/util/Optional")) (by decide) (v' := (.ref co)) rfl rfl n_x (w.safe X_x (by decide) (by decide)) (fun T h w W => ?_)
  replace K0 := K0.wr W (Or.inl (List.mem_singleton.mpr rfl))
  replace X_x := X_x.wr W
  replace F_severity_x := F_severity_x.other W (Or.inr (slot_ne (Or.inr (Hw hw 112 rfl)) (Or.inr (Hw hw 116 rfl)) (by decide) (t := (.object "com/example/stepwize/stepwize/engine/Message$Severity")) (t' := (.object "java/util/Optional")) (by decide) (by decide)))
  replace F_source_x := F_source_x.other W (Or.inr (slot_ne (Or.inr (Hw hw 114 rfl)) (Or.inr (Hw hw 116 rfl)) (by decide) (t := (.object "java/util/Optional")) (t' := (.object "java/util/Optional")) (by decide) (by decide)))
  replace F_code_x := F_code_x.same W
  replace F_arguments_x := F_arguments_x.other W (Or.inr (slot_ne (Or.inr (Hw hw 118 rfl)) (Or.inr (Hw hw 116 rfl)) (by decide) (t := (.object "java/util/List")) (t' := (.object "java/util/Optional")) (by decide) (by decide)))
  replace F_text_x := F_text_x.other W (Or.inr (slot_ne (Or.inr (Hw hw 120 rfl)) (Or.inr (Hw hw 116 rfl)) (by decide) (t := (.object "java/lang/String")) (t' := (.object "java/util/Optional")) (by decide) (by decide)))
  refine g_aloadN w e34_55 (q := 56) rfl rfl rfl ?_
  refine g_aload w e34_56 (q := 58) rfl rfl rfl ?_
  have g_ := w.chv
  refine g_putF w e34_58 (q := 61) rfl (Hw hw 117 rfl) Via.refl F_arguments_x X_x (Or.inr ⟨(Hw hw 118 rfl), rfl, rfl⟩) (Hw hw 63 rfl) (ty := (.object "java/util/List")) (by decide) (v' := (.ref el)) rfl rfl n_x (w.safe X_x (by decide) (by decide)) (fun T h w W => ?_)
  replace K0 := K0.wr W (Or.inl (List.mem_singleton.mpr rfl))
  replace X_x := X_x.wr W
  replace F_severity_x := F_severity_x.other W (Or.inr (slot_ne (Or.inr (Hw hw 112 rfl)) (Or.inr (Hw hw 118 rfl)) (by decide) (t := (.object "com/example/stepwize/stepwize/engine/Message$Severity")) (t' := (.object "java/util/List")) (by decide) (by decide)))
  replace F_source_x := F_source_x.other W (Or.inr (slot_ne (Or.inr (Hw hw 114 rfl)) (Or.inr (Hw hw 118 rfl)) (by decide) (t := (.object "java/util/Optional")) (t' := (.object "java/util/List")) (by decide) (by decide)))
  replace F_code_x := F_code_x.other W (Or.inr (slot_ne (Or.inr (Hw hw 116 rfl)) (Or.inr (Hw hw 118 rfl)) (by decide) (t := (.object "java/util/Optional")) (t' := (.object "java/util/List")) (by decide) (by decide)))
  replace F_arguments_x := F_arguments_x.same W
  replace F_text_x := F_text_x.other W (Or.inr (slot_ne (Or.inr (Hw hw 120 rfl)) (Or.inr (Hw hw 118 rfl)) (by decide) (t := (.object "java/lang/String")) (t' := (.object "java/util/List")) (by decide) (by decide)))
  refine g_aloadN w e34_61 (q := 62) rfl rfl rfl ?_
  refine g_aload w e34_62 (q := 64) rfl rfl rfl ?_
  have g_ := w.chv
  refine g_putF w e34_64 (q := 67) rfl (Hw hw 119 rfl) Via.refl F_text_x X_x (Or.inr ⟨(Hw hw 120 rfl), rfl, rfl⟩) (Hw hw 63 rfl) (ty := (.object "java/lang/String")) (by decide) (v' := (.ref tx)) rfl rfl n_x (w.safe X_x (by decide) (by decide)) (fun T h w W => ?_)
  replace K0 := K0.wr W (Or.inl (List.mem_singleton.mpr rfl))
  replace X_x := X_x.wr W
  replace F_severity_x := F_severity_x.other W (Or.inr (slot_ne (Or.inr (Hw hw 112 rfl)) (Or.inr (Hw hw 120 rfl)) (by decide) (t := (.object "com/example/stepwize/stepwize/engine/Message$Severity")) (t' := (.object "java/lang/String")) (by decide) (by decide)))
  replace F_source_x := F_source_x.other W (Or.inr (slot_ne (Or.inr (Hw hw 114 rfl)) (Or.inr (Hw hw 120 rfl)) (by decide) (t := (.object "java/util/Optional")) (t' := (.object "java/lang/String")) (by decide) (by decide)))
  replace F_code_x := F_code_x.other W (Or.inr (slot_ne (Or.inr (Hw hw 116 rfl)) (Or.inr (Hw hw 120 rfl)) (by decide) (t := (.object "java/util/Optional")) (t' := (.object "java/lang/String")) (by decide) (by decide)))
  replace F_arguments_x := F_arguments_x.other W (Or.inr (slot_ne (Or.inr (Hw hw 118 rfl)) (Or.inr (Hw hw 120 rfl)) (by decide) (t := (.object "java/util/List")) (t' := (.object "java/lang/String")) (by decide) (by decide)))
  replace F_text_x := F_text_x.same W
  exact g_return w e34_67 rfl (by decide) (by decide) ⟨rfl, K0, F_severity_x, F_source_x, F_code_x, F_arguments_x, F_text_x⟩
set_option maxRecDepth 65536 in
set_option maxHeartbeats 40000000 in
theorem con_mi_b (l : Launch) (Z : State) (a0 : Array Value) (hw : ∀ d ∈ tables_1, d.before a0 Z = true) (x sv so co li tx t ev mr ic : Addr) (h0 : Heap) (O0 : Ext Z.heap h0) (X_x : Exa Z h0 x "com/example/stepwize/stepwize/engine/Message") (F_severity_x : Fld Z h0 x "com/example/stepwize/stepwize/engine/Message" "severity" "Lcom/example/stepwize/stepwize/engine/Message$Severity;" .null) (F_source_x : Fld Z h0 x "com/example/stepwize/stepwize/engine/Message" "source" "Ljava/util/Optional;" .null) (F_code_x : Fld Z h0 x "com/example/stepwize/stepwize/engine/Message" "code" "Ljava/util/Optional;" .null) (F_arguments_x : Fld Z h0 x "com/example/stepwize/stepwize/engine/Message" "arguments" "Ljava/util/List;" .null) (F_text_x : Fld Z h0 x "com/example/stepwize/stepwize/engine/Message" "text" "Ljava/lang/String;" .null) (n_x : Z.heap.size ≤ x) (X_li : Exa Z h0 li "java/util/ArrayList") (F_elementData_li : Fld Z h0 li "java/util/ArrayList" "elementData" "[Ljava/lang/Object;" (.ref t)) (F_size_li : Fld Z h0 li "java/util/ArrayList" "size" "I" (.int 1)) (A_t : Ar Z h0 t (.object "java/lang/Object") [.ref ev, .null, .null, .null, .null, .null, .null, .null, .null, .null]) (X_t : Exa Z h0 t "[Ljava/lang/Object;") (X_e : Exa Z h0 ev "java/lang/Integer") (MR_ : Mir Z "[Ljava/lang/Object;" mr) (SI_ : Sta Z Z.heap "java/util/ImmutableCollections" "EMPTY" "Ljava/lang/Object;" (.ref ic)) :
    Con l Z consts_1 false (⟨"com/example/stepwize/stepwize/engine/Message", "<init>", "(Lcom/example/stepwize/stepwize/engine/Message$Severity;Ljava/util/Optional;Ljava/util/Optional;Ljava/util/List;Ljava/lang/String;)V"⟩ : MethodName) prog_33_method_1_code 6 none [] ({ frames := 8, cells := 10, slots := 107, locals := 125 } : Room) #[(.ref x), (.ref sv), (.ref so), (.ref co), (.ref li), (.ref tx)] [] h0 (fun v h => v = none ∧ Keep h0 h [x] ∧ ∃ y, h0.size ≤ y ∧ Exa Z h y "java/util/ImmutableCollections$List12" ∧ Fld Z h y "java/util/ImmutableCollections$List12" "e0" "Ljava/lang/Object;" (.ref ev) ∧ Fld Z h y "java/util/ImmutableCollections$List12" "e1" "Ljava/lang/Object;" (.ref ic) ∧ Fld Z h x "com/example/stepwize/stepwize/engine/Message" "severity" "Lcom/example/stepwize/stepwize/engine/Message$Severity;" (.ref sv) ∧ Fld Z h x "com/example/stepwize/stepwize/engine/Message" "source" "Ljava/util/Optional;" (.ref so) ∧ Fld Z h x "com/example/stepwize/stepwize/engine/Message" "code" "Ljava/util/Optional;" (.ref co) ∧ Fld Z h x "com/example/stepwize/stepwize/engine/Message" "arguments" "Ljava/util/List;" (.ref y) ∧ Fld Z h x "com/example/stepwize/stepwize/engine/Message" "text" "Ljava/lang/String;" (.ref tx)) := by
  refine Con.intro (Ls := #[.val (.ref x), .val (.ref sv), .val (.ref so), .val (.ref co), .val (.ref li), .val (.ref tx)]) (plainFor_of_name pn16) (own_EL hw) O0 (fun m => by first | (simp [entryFrame, mkF, argsToLocals, Value.category]; done) | rfl) (fun p e s m below meth cc_ T w sf_ => ?_)
  have K0 := Keep.refl h0 [x]
  refine g_aloadN w e34_0 (q := 1) rfl rfl rfl ?_
  refine g_specialP w (con_rec l Z a0 hw x _ w.old) no0 e34_1 (q := 4) rfl rfl rfl (Hw hw 68 rfl) (Hw hw 69 rfl) (Hw hw 71 rfl) (Hw hw 72 rfl) (by decide) pd1 rfl rfl (W := 0) (Nat.le_of_eq rfl) (by decide) (by decide) (by decide) (by decide) (fun T v w C q => ?_)
  obtain rfl := q
  show Go p e below _ (State.setTop T (mkF m 4 #[.val (.ref x), .val (.ref sv), .val (.ref so), .val (.ref co), .val (.ref li), .val (.ref tx)] []))
  refine g_aloadN w e34_4 (q := 5) rfl rfl rfl ?_
  refine g_ldcO w e34_5 (q := 7) rfl rfl (Hw hw 74 rfl) (own_wS hw) (nn := 32) (by decide) (by decide) (by decide) (by decide) (fun T vm h t1 w E C => ?_)
  replace K0 := K0.ext E
  replace X_x := X_x.ext E
  replace F_severity_x := F_severity_x.ext E
  replace F_source_x := F_source_x.ext E
  replace F_code_x := F_code_x.ext E
  replace F_arguments_x := F_arguments_x.ext E
  replace F_text_x := F_text_x.ext E
  replace X_li := X_li.ext E
  replace F_elementData_li := F_elementData_li.ext E
  replace F_size_li := F_size_li.ext E
  replace A_t := A_t.ext E
  replace X_t := X_t.ext E
  replace X_e := X_e.ext E
  refine g_staticP w (con_rn2 l Z a0 hw sv t1 _ w.old) no0 e34_7 (q := 10) rfl rfl (Hw hw 75 rfl) (Hw hw 76 rfl) (Hw hw 77 rfl) (Hw hw 78 rfl) (by decide) pd15 rfl rfl (W := 0) (Nat.le_of_eq rfl) (by decide) (by decide) (by decide) (by decide) (fun T v w C q => ?_)
  obtain rfl := q
  show Go p e below _ (State.setTop T (mkF m 10 #[.val (.ref x), .val (.ref sv), .val (.ref so), .val (.ref co), .val (.ref li), .val (.ref tx)] [(.ref sv)]))
  refine g_pop w e34_10 (q := 11) rfl rfl ?_
  refine g_aloadN w e34_11 (q := 12) rfl rfl rfl ?_
  refine g_ldcO w e34_12 (q := 14) rfl rfl (Hw hw 79 rfl) (own_wS hw) (nn := 24) (by decide) (by decide) (by decide) (by decide) (fun T vm h t2 w E C => ?_)
  replace K0 := K0.ext E
  replace X_x := X_x.ext E
  replace F_severity_x := F_severity_x.ext E
  replace F_source_x := F_source_x.ext E
  replace F_code_x := F_code_x.ext E
  replace F_arguments_x := F_arguments_x.ext E
  replace F_text_x := F_text_x.ext E
  replace X_li := X_li.ext E
  replace F_elementData_li := F_elementData_li.ext E
  replace F_size_li := F_size_li.ext E
  replace A_t := A_t.ext E
  replace X_t := X_t.ext E
  replace X_e := X_e.ext E
  refine g_staticP w (con_rn2 l Z a0 hw so t2 _ w.old) no0 e34_14 (q := 17) rfl rfl (Hw hw 75 rfl) (Hw hw 76 rfl) (Hw hw 77 rfl) (Hw hw 78 rfl) (by decide) pd15 rfl rfl (W := 0) (Nat.le_of_eq rfl) (by decide) (by decide) (by decide) (by decide) (fun T v w C q => ?_)
  obtain rfl := q
  show Go p e below _ (State.setTop T (mkF m 17 #[.val (.ref x), .val (.ref sv), .val (.ref so), .val (.ref co), .val (.ref li), .val (.ref tx)] [(.ref so)]))
  refine g_pop w e34_17 (q := 18) rfl rfl ?_
  refine g_aloadN w e34_18 (q := 19) rfl rfl rfl ?_
  refine g_ldcO w e34_19 (q := 21) rfl rfl (Hw hw 80 rfl) (own_wS hw) (nn := 16) (by decide) (by decide) (by decide) (by decide) (fun T vm h t3 w E C => ?_)
  replace K0 := K0.ext E
  replace X_x := X_x.ext E
  replace F_severity_x := F_severity_x.ext E
  replace F_source_x := F_source_x.ext E
  replace F_code_x := F_code_x.ext E
  replace F_arguments_x := F_arguments_x.ext E
  replace F_text_x := F_text_x.ext E
  replace X_li := X_li.ext E
  replace F_elementData_li := F_elementData_li.ext E
  replace F_size_li := F_size_li.ext E
  replace A_t := A_t.ext E
  replace X_t := X_t.ext E
  replace X_e := X_e.ext E
  refine g_staticP w (con_rn2 l Z a0 hw co t3 _ w.old) no0 e34_21 (q := 24) rfl rfl (Hw hw 75 rfl) (Hw hw 76 rfl) (Hw hw 77 rfl) (Hw hw 78 rfl) (by decide) pd15 rfl rfl (W := 0) (Nat.le_of_eq rfl) (by decide) (by decide) (by decide) (by decide) (fun T v w C q => ?_)
  obtain rfl := q
  show Go p e below _ (State.setTop T (mkF m 24 #[.val (.ref x), .val (.ref sv), .val (.ref so), .val (.ref co), .val (.ref li), .val (.ref tx)] [(.ref co)]))
  refine g_pop w e34_24 (q := 25) rfl rfl ?_
  refine g_aload w e34_25 (q := 27) rfl rfl rfl ?_
  refine g_static w (con_co_b l Z a0 hw li t ev mr ic _ w.old X_li F_elementData_li F_size_li A_t X_t X_e MR_ SI_) no0 e34_27 (q := 30) rfl rfl (Hw hw 81 rfl) (Hw hw 82 rfl) (Hw hw 83 rfl) (Hw hw 84 rfl) (by decide) pd14 rfl rfl (W := 0) (Nat.le_of_eq rfl) (by decide) (by decide) (by decide) (by decide) (fun T h v w gs C q => ?_)
  obtain ⟨y4, rfl, E, g_y4, X_y4, F_e0_y4, F_e1_y4⟩ := q
  have z_y4 := Nat.le_trans K0.1 g_y4
  have ne_ev_y4 : ev ≠ y4 := Nat.ne_of_lt (Nat.lt_of_lt_of_le X_e.lt g_y4)
  have ne_li_y4 : li ≠ y4 := Nat.ne_of_lt (Nat.lt_of_lt_of_le X_li.lt g_y4)
  have ne_t_y4 : t ≠ y4 := Nat.ne_of_lt (Nat.lt_of_lt_of_le A_t.lt g_y4)
  have ne_x_y4 : x ≠ y4 := Nat.ne_of_lt (Nat.lt_of_lt_of_le X_x.lt g_y4)
  replace K0 := K0.ext E
  replace X_x := X_x.ext E
  replace F_severity_x := F_severity_x.ext E
  replace F_source_x := F_source_x.ext E
  replace F_code_x := F_code_x.ext E
  replace F_arguments_x := F_arguments_x.ext E
  replace F_text_x := F_text_x.ext E
  replace X_li := X_li.ext E
  replace F_elementData_li := F_elementData_li.ext E
  replace F_size_li := F_size_li.ext E
  replace A_t := A_t.ext E
  replace X_t := X_t.ext E
  replace X_e := X_e.ext E
  show Go p e below _ (State.setTop T (mkF m 30 #[.val (.ref x), .val (.ref sv), .val (.ref so), .val (.ref co), .val (.ref li), .val (.ref tx)] [(.ref y4)]))
  refine g_astore w e34_30 (q := 32) rfl rfl (Ls' := #[.val (.ref x), .val (.ref sv), .val (.ref so), .val (.ref co), .val (.ref y4), .val (.ref tx)]) rfl ?_
  refine g_aload w e34_32 (q := 34) rfl rfl rfl ?_
  refine g_ldcO w e34_34 (q := 36) rfl rfl (Hw hw 110 rfl) (own_wS hw) (nn := 16) (by decide) (by decide) (by decide) (by decide) (fun T vm h t5 w E C => ?_)
  replace K0 := K0.ext E
  replace X_x := X_x.ext E
  replace F_severity_x := F_severity_x.ext E
  replace F_source_x := F_source_x.ext E
  replace F_code_x := F_code_x.ext E
  replace F_arguments_x := F_arguments_x.ext E
  replace F_text_x := F_text_x.ext E
  replace X_y4 := X_y4.ext E
  replace F_e0_y4 := F_e0_y4.ext E
  replace F_e1_y4 := F_e1_y4.ext E
  refine g_staticP w (con_rn2 l Z a0 hw tx t5 _ w.old) no0 e34_36 (q := 39) rfl rfl (Hw hw 75 rfl) (Hw hw 76 rfl) (Hw hw 77 rfl) (Hw hw 78 rfl) (by decide) pd15 rfl rfl (W := 0) (Nat.le_of_eq rfl) (by decide) (by decide) (by decide) (by decide) (fun T v w C q => ?_)
  obtain rfl := q
  show Go p e below _ (State.setTop T (mkF m 39 #[.val (.ref x), .val (.ref sv), .val (.ref so), .val (.ref co), .val (.ref y4), .val (.ref tx)] [(.ref tx)]))
  refine g_pop w e34_39 (q := 40) rfl rfl ?_
  refine g_aloadN w e34_40 (q := 41) rfl rfl rfl ?_
  refine g_aloadN w e34_41 (q := 42) rfl rfl rfl ?_
  have g_ := w.chv
  refine g_putF w e34_42 (q := 45) rfl (Hw hw 111 rfl) Via.refl F_severity_x X_x (Or.inr ⟨(Hw hw 112 rfl), rfl, rfl⟩) (Hw hw 63 rfl) (ty := (.object "com/example/stepwize/stepwize/engine/Message$Severity")) (by decide) (v' := (.ref sv)) rfl rfl n_x (w.safe X_x (by decide) (by decide)) (fun T h w W => ?_)
  replace K0 := K0.wr W (Or.inl (List.mem_singleton.mpr rfl))
  replace X_x := X_x.wr W
  replace F_severity_x := F_severity_x.same W
  replace F_source_x := F_source_x.other W (Or.inr (slot_ne (Or.inr (Hw hw 114 rfl)) (Or.inr (Hw hw 112 rfl)) (by decide) (t := (.object "java/util/Optional")) (t' := (.object "com/example/stepwize/stepwize/engine/Message$Severity")) (by decide) (by decide)))
  replace F_code_x := F_code_x.other W (Or.inr (slot_ne (Or.inr (Hw hw 116 rfl)) (Or.inr (Hw hw 112 rfl)) (by decide) (t := (.object "java/util/Optional")) (t' := (.object "com/example/stepwize/stepwize/engine/Message$Severity")) (by decide) (by decide)))
  replace F_arguments_x := F_arguments_x.other W (Or.inr (slot_ne (Or.inr (Hw hw 118 rfl)) (Or.inr (Hw hw 112 rfl)) (by decide) (t := (.object "java/util/List")) (t' := (.object "com/example/stepwize/stepwize/engine/Message$Severity")) (by decide) (by decide)))
  replace F_text_x := F_text_x.other W (Or.inr (slot_ne (Or.inr (Hw hw 120 rfl)) (Or.inr (Hw hw 112 rfl)) (by decide) (t := (.object "java/lang/String")) (t' := (.object "com/example/stepwize/stepwize/engine/Message$Severity")) (by decide) (by decide)))
  replace X_y4 := X_y4.wr W
  replace F_e0_y4 := F_e0_y4.other W (Or.inl ne_x_y4.symm)
  replace F_e1_y4 := F_e1_y4.other W (Or.inl ne_x_y4.symm)
  refine g_aloadN w e34_45 (q := 46) rfl rfl rfl ?_
  refine g_aloadN w e34_46 (q := 47) rfl rfl rfl ?_
  have g_ := w.chv
  refine g_putF w e34_47 (q := 50) rfl (Hw hw 113 rfl) Via.refl F_source_x X_x (Or.inr ⟨(Hw hw 114 rfl), rfl, rfl⟩) (Hw hw 63 rfl) (ty := (.object "java/util/Optional")) (by decide) (v' := (.ref so)) rfl rfl n_x (w.safe X_x (by decide) (by decide)) (fun T h w W => ?_)
  replace K0 := K0.wr W (Or.inl (List.mem_singleton.mpr rfl))
  replace X_x := X_x.wr W
  replace F_severity_x := F_severity_x.other W (Or.inr (slot_ne (Or.inr (Hw hw 112 rfl)) (Or.inr (Hw hw 114 rfl)) (by decide) (t := (.object "com/example/stepwize/stepwize/engine/Message$Severity")) (t' := (.object "java/util/Optional")) (by decide) (by decide)))
  replace F_source_x := F_source_x.same W
  replace F_code_x := F_code_x.other W (Or.inr (slot_ne (Or.inr (Hw hw 116 rfl)) (Or.inr (Hw hw 114 rfl)) (by decide) (t := (.object "java/util/Optional")) (t' := (.object "java/util/Optional")) (by decide) (by decide)))
  replace F_arguments_x := F_arguments_x.other W (Or.inr (slot_ne (Or.inr (Hw hw 118 rfl)) (Or.inr (Hw hw 114 rfl)) (by decide) (t := (.object "java/util/List")) (t' := (.object "java/util/Optional")) (by decide) (by decide)))
  replace F_text_x := F_text_x.other W (Or.inr (slot_ne (Or.inr (Hw hw 120 rfl)) (Or.inr (Hw hw 114 rfl)) (by decide) (t := (.object "java/lang/String")) (t' := (.object "java/util/Optional")) (by decide) (by decide)))
  replace X_y4 := X_y4.wr W
  replace F_e0_y4 := F_e0_y4.other W (Or.inl ne_x_y4.symm)
  replace F_e1_y4 := F_e1_y4.other W (Or.inl ne_x_y4.symm)
  refine g_aloadN w e34_50 (q := 51) rfl rfl rfl ?_
  refine g_aloadN w e34_51 (q := 52) rfl rfl rfl ?_
  have g_ := w.chv
  refine g_putF w e34_52 (q := 55) rfl (Hw hw 115 rfl) Via.refl F_code_x X_x (Or.inr ⟨(Hw hw 116 rfl), rfl, rfl⟩) (Hw hw 63 rfl) (ty := (.object "java/util/Optional")) (by decide) (v' := (.ref co)) rfl rfl n_x (w.safe X_x (by decide) (by decide)) (fun T h w W => ?_)
  replace K0 := K0.wr W (Or.inl (List.mem_singleton.mpr rfl))
  replace X_x := X_x.wr W
  replace F_severity_x := F_severity_x.other W (Or.inr (slot_ne (Or.inr (Hw hw 112 rfl)) (Or.inr (Hw hw 116 rfl)) (by decide) (t := (.object "com/example/stepwize/stepwize/engine/Message$Severity")) (t' := (.object "java/util/Optional")) (by decide) (by decide)))
  replace F_source_x := F_source_x.other W (Or.inr (slot_ne (Or.inr (Hw hw 114 rfl)) (Or.inr (Hw hw 116 rfl)) (by decide) (t := (.object "java/util/Optional")) (t' := (.object "java/util/Optional")) (by decide) (by decide)))
  replace F_code_x := F_code_x.same W
  replace F_arguments_x := F_arguments_x.other W (Or.inr (slot_ne (Or.inr (Hw hw 118 rfl)) (Or.inr (Hw hw 116 rfl)) (by decide) (t := (.object "java/util/List")) (t' := (.object "java/util/Optional")) (by decide) (by decide)))
  replace F_text_x := F_text_x.other W (Or.inr (slot_ne (Or.inr (Hw hw 120 rfl)) (Or.inr (Hw hw 116 rfl)) (by decide) (t := (.object "java/lang/String")) (t' := (.object "java/util/Optional")) (by decide) (by decide)))
  replace X_y4 := X_y4.wr W
  replace F_e0_y4 := F_e0_y4.other W (Or.inl ne_x_y4.symm)
  replace F_e1_y4 := F_e1_y4.other W (Or.inl ne_x_y4.symm)
  refine g_aloadN w e34_55 (q := 56) rfl rfl rfl ?_
  refine g_aload w e34_56 (q := 58) rfl rfl rfl ?_
  have g_ := w.chv
  refine g_putF w e34_58 (q := 61) rfl (Hw hw 117 rfl) Via.refl F_arguments_x X_x (Or.inr ⟨(Hw hw 118 rfl), rfl, rfl⟩) (Hw hw 63 rfl) (ty := (.object "java/util/List")) (by decide) (v' := (.ref y4)) rfl rfl n_x (w.safe X_x (by decide) (by decide)) (fun T h w W => ?_)
  replace K0 := K0.wr W (Or.inl (List.mem_singleton.mpr rfl))
  replace X_x := X_x.wr W
  replace F_severity_x := F_severity_x.other W (Or.inr (slot_ne (Or.inr (Hw hw 112 rfl)) (Or.inr (Hw hw 118 rfl)) (by decide) (t := (.object "com/example/stepwize/stepwize/engine/Message$Severity")) (t' := (.object "java/util/List")) (by decide) (by decide)))
  replace F_source_x := F_source_x.other W (Or.inr (slot_ne (Or.inr (Hw hw 114 rfl)) (Or.inr (Hw hw 118 rfl)) (by decide) (t := (.object "java/util/Optional")) (t' := (.object "java/util/List")) (by decide) (by decide)))
  replace F_code_x := F_code_x.other W (Or.inr (slot_ne (Or.inr (Hw hw 116 rfl)) (Or.inr (Hw hw 118 rfl)) (by decide) (t := (.object "java/util/Optional")) (t' := (.object "java/util/List")) (by decide) (by decide)))
  replace F_arguments_x := F_arguments_x.same W
  replace F_text_x := F_text_x.other W (Or.inr (slot_ne (Or.inr (Hw hw 120 rfl)) (Or.inr (Hw hw 118 rfl)) (by decide) (t := (.object "java/lang/String")) (t' := (.object "java/util/List")) (by decide) (by decide)))
  replace X_y4 := X_y4.wr W
  replace F_e0_y4 := F_e0_y4.other W (Or.inl ne_x_y4.symm)
  replace F_e1_y4 := F_e1_y4.other W (Or.inl ne_x_y4.symm)
  refine g_aloadN w e34_61 (q := 62) rfl rfl rfl ?_
  refine g_aload w e34_62 (q := 64) rfl rfl rfl ?_
  have g_ := w.chv
  refine g_putF w e34_64 (q := 67) rfl (Hw hw 119 rfl) Via.refl F_text_x X_x (Or.inr ⟨(Hw hw 120 rfl), rfl, rfl⟩) (Hw hw 63 rfl) (ty := (.object "java/lang/String")) (by decide) (v' := (.ref tx)) rfl rfl n_x (w.safe X_x (by decide) (by decide)) (fun T h w W => ?_)
  replace K0 := K0.wr W (Or.inl (List.mem_singleton.mpr rfl))
  replace X_x := X_x.wr W
  replace F_severity_x := F_severity_x.other W (Or.inr (slot_ne (Or.inr (Hw hw 112 rfl)) (Or.inr (Hw hw 120 rfl)) (by decide) (t := (.object "com/example/stepwize/stepwize/engine/Message$Severity")) (t' := (.object "java/lang/String")) (by decide) (by decide)))
  replace F_source_x := F_source_x.other W (Or.inr (slot_ne (Or.inr (Hw hw 114 rfl)) (Or.inr (Hw hw 120 rfl)) (by decide) (t := (.object "java/util/Optional")) (t' := (.object "java/lang/String")) (by decide) (by decide)))
  replace F_code_x := F_code_x.other W (Or.inr (slot_ne (Or.inr (Hw hw 116 rfl)) (Or.inr (Hw hw 120 rfl)) (by decide) (t := (.object "java/util/Optional")) (t' := (.object "java/lang/String")) (by decide) (by decide)))
  replace F_arguments_x := F_arguments_x.other W (Or.inr (slot_ne (Or.inr (Hw hw 118 rfl)) (Or.inr (Hw hw 120 rfl)) (by decide) (t := (.object "java/util/List")) (t' := (.object "java/lang/String")) (by decide) (by decide)))
  replace F_text_x := F_text_x.same W
  replace X_y4 := X_y4.wr W
  replace F_e0_y4 := F_e0_y4.other W (Or.inl ne_x_y4.symm)
  replace F_e1_y4 := F_e1_y4.other W (Or.inl ne_x_y4.symm)
  exact g_return w e34_67 rfl (by decide) (by decide) ⟨rfl, K0, y4, z_y4, X_y4, F_e0_y4, F_e1_y4, F_severity_x, F_source_x, F_code_x, F_arguments_x, F_text_x⟩
set_option maxRecDepth 65536 in
set_option maxHeartbeats 40000000 in
theorem con_mi_c (l : Launch) (Z : State) (a0 : Array Value) (hw : ∀ d ∈ tables_1, d.before a0 Z = true) (x sv so co li tx  : Addr) (h0 : Heap) (O0 : Ext Z.heap h0) (X_x : Exa Z h0 x "com/example/stepwize/stepwize/engine/Message") (F_severity_x : Fld Z h0 x "com/example/stepwize/stepwize/engine/Message" "severity" "Lcom/example/stepwize/stepwize/engine/Message$Severity;" .null) (F_source_x : Fld Z h0 x "com/example/stepwize/stepwize/engine/Message" "source" "Ljava/util/Optional;" .null) (F_code_x : Fld Z h0 x "com/example/stepwize/stepwize/engine/Message" "code" "Ljava/util/Optional;" .null) (F_arguments_x : Fld Z h0 x "com/example/stepwize/stepwize/engine/Message" "arguments" "Ljava/util/List;" .null) (F_text_x : Fld Z h0 x "com/example/stepwize/stepwize/engine/Message" "text" "Ljava/lang/String;" .null) (n_x : Z.heap.size ≤ x) (X_li : Exa Z h0 li "java/util/ImmutableCollections$ListN") (F_allowNulls_li : Fld Z h0 li "java/util/ImmutableCollections$ListN" "allowNulls" "Z" (.int 0)) :
    Con l Z consts_1 false (⟨"com/example/stepwize/stepwize/engine/Message", "<init>", "(Lcom/example/stepwize/stepwize/engine/Message$Severity;Ljava/util/Optional;Ljava/util/Optional;Ljava/util/List;Ljava/lang/String;)V"⟩ : MethodName) prog_33_method_1_code 6 none [] ({ frames := 2, cells := 8, slots := 104, locals := 25 } : Room) #[(.ref x), (.ref sv), (.ref so), (.ref co), (.ref li), (.ref tx)] [] h0 (fun v h => v = none ∧ Keep h0 h [x] ∧ Fld Z h x "com/example/stepwize/stepwize/engine/Message" "severity" "Lcom/example/stepwize/stepwize/engine/Message$Severity;" (.ref sv) ∧ Fld Z h x "com/example/stepwize/stepwize/engine/Message" "source" "Ljava/util/Optional;" (.ref so) ∧ Fld Z h x "com/example/stepwize/stepwize/engine/Message" "code" "Ljava/util/Optional;" (.ref co) ∧ Fld Z h x "com/example/stepwize/stepwize/engine/Message" "arguments" "Ljava/util/List;" (.ref li) ∧ Fld Z h x "com/example/stepwize/stepwize/engine/Message" "text" "Ljava/lang/String;" (.ref tx)) := by
  refine Con.intro (Ls := #[.val (.ref x), .val (.ref sv), .val (.ref so), .val (.ref co), .val (.ref li), .val (.ref tx)]) (plainFor_of_name pn16) (own_EL hw) O0 (fun m => by first | (simp [entryFrame, mkF, argsToLocals, Value.category]; done) | rfl) (fun p e s m below meth cc_ T w sf_ => ?_)
  have K0 := Keep.refl h0 [x]
  refine g_aloadN w e34_0 (q := 1) rfl rfl rfl ?_
  refine g_specialP w (con_rec l Z a0 hw x _ w.old) no0 e34_1 (q := 4) rfl rfl rfl (Hw hw 68 rfl) (Hw hw 69 rfl) (Hw hw 71 rfl) (Hw hw 72 rfl) (by decide) pd1 rfl rfl (W := 0) (Nat.le_of_eq rfl) (by decide) (by decide) (by decide) (by decide) (fun T v w C q => ?_)
  obtain rfl := q
  show Go p e below _ (State.setTop T (mkF m 4 #[.val (.ref x), .val (.ref sv), .val (.ref so), .val (.ref co), .val (.ref li), .val (.ref tx)] []))
  refine g_aloadN w e34_4 (q := 5) rfl rfl rfl ?_
  refine g_ldcO w e34_5 (q := 7) rfl rfl (Hw hw 74 rfl) (own_wS hw) (nn := 32) (by decide) (by decide) (by decide) (by decide) (fun T vm h t1 w E C => ?_)
  replace K0 := K0.ext E
  replace X_x := X_x.ext E
  replace F_severity_x := F_severity_x.ext E
  replace F_source_x := F_source_x.ext E
  replace F_code_x := F_code_x.ext E
  replace F_arguments_x := F_arguments_x.ext E
  replace F_text_x := F_text_x.ext E
  replace X_li := X_li.ext E
  replace F_allowNulls_li := F_allowNulls_li.ext E
  refine g_staticP w (con_rn2 l Z a0 hw sv t1 _ w.old) no0 e34_7 (q := 10) rfl rfl (Hw hw 75 rfl) (Hw hw 76 rfl) (Hw hw 77 rfl) (Hw hw 78 rfl) (by decide) pd15 rfl rfl (W := 0) (Nat.le_of_eq rfl) (by decide) (by decide) (by decide) (by decide) (fun T v w C q => ?_)
  obtain rfl := q
  show Go p e below _ (State.setTop T (mkF m 10 #[.val (.ref x), .val (.ref sv), .val (.ref so), .val (.ref co), .val (.ref li), .val (.ref tx)] [(.ref sv)]))
  refine g_pop w e34_10 (q := 11) rfl rfl ?_
  refine g_aloadN w e34_11 (q := 12) rfl rfl rfl ?_
  refine g_ldcO w e34_12 (q := 14) rfl rfl (Hw hw 79 rfl) (own_wS hw) (nn := 24) (by decide) (by decide) (by decide) (by decide) (fun T vm h t2 w E C => ?_)
  replace K0 := K0.ext E
  replace X_x := X_x.ext E
  replace F_severity_x := F_severity_x.ext E
  replace F_source_x := F_source_x.ext E
  replace F_code_x := F_code_x.ext E
  replace F_arguments_x := F_arguments_x.ext E
  replace F_text_x := F_text_x.ext E
  replace X_li := X_li.ext E
  replace F_allowNulls_li := F_allowNulls_li.ext E
  refine g_staticP w (con_rn2 l Z a0 hw so t2 _ w.old) no0 e34_14 (q := 17) rfl rfl (Hw hw 75 rfl) (Hw hw 76 rfl) (Hw hw 77 rfl) (Hw hw 78 rfl) (by decide) pd15 rfl rfl (W := 0) (Nat.le_of_eq rfl) (by decide) (by decide) (by decide) (by decide) (fun T v w C q => ?_)
  obtain rfl := q
  show Go p e below _ (State.setTop T (mkF m 17 #[.val (.ref x), .val (.ref sv), .val (.ref so), .val (.ref co), .val (.ref li), .val (.ref tx)] [(.ref so)]))
  refine g_pop w e34_17 (q := 18) rfl rfl ?_
  refine g_aloadN w e34_18 (q := 19) rfl rfl rfl ?_
  refine g_ldcO w e34_19 (q := 21) rfl rfl (Hw hw 80 rfl) (own_wS hw) (nn := 16) (by decide) (by decide) (by decide) (by decide) (fun T vm h t3 w E C => ?_)
  replace K0 := K0.ext E
  replace X_x := X_x.ext E
  replace F_severity_x := F_severity_x.ext E
  replace F_source_x := F_source_x.ext E
  replace F_code_x := F_code_x.ext E
  replace F_arguments_x := F_arguments_x.ext E
  replace F_text_x := F_text_x.ext E
  replace X_li := X_li.ext E
  replace F_allowNulls_li := F_allowNulls_li.ext E
  refine g_staticP w (con_rn2 l Z a0 hw co t3 _ w.old) no0 e34_21 (q := 24) rfl rfl (Hw hw 75 rfl) (Hw hw 76 rfl) (Hw hw 77 rfl) (Hw hw 78 rfl) (by decide) pd15 rfl rfl (W := 0) (Nat.le_of_eq rfl) (by decide) (by decide) (by decide) (by decide) (fun T v w C q => ?_)
  obtain rfl := q
  show Go p e below _ (State.setTop T (mkF m 24 #[.val (.ref x), .val (.ref sv), .val (.ref so), .val (.ref co), .val (.ref li), .val (.ref tx)] [(.ref co)]))
  refine g_pop w e34_24 (q := 25) rfl rfl ?_
  refine g_aload w e34_25 (q := 27) rfl rfl rfl ?_
  refine g_staticP w (con_co_c l Z a0 hw li  _ w.old X_li F_allowNulls_li) no0 e34_27 (q := 30) rfl rfl (Hw hw 81 rfl) (Hw hw 82 rfl) (Hw hw 83 rfl) (Hw hw 84 rfl) (by decide) pd14 rfl rfl (W := 0) (Nat.le_of_eq rfl) (by decide) (by decide) (by decide) (by decide) (fun T v w C q => ?_)
  obtain rfl := q
  show Go p e below _ (State.setTop T (mkF m 30 #[.val (.ref x), .val (.ref sv), .val (.ref so), .val (.ref co), .val (.ref li), .val (.ref tx)] [(.ref li)]))
  refine g_astore w e34_30 (q := 32) rfl rfl (Ls' := #[.val (.ref x), .val (.ref sv), .val (.ref so), .val (.ref co), .val (.ref li), .val (.ref tx)]) rfl ?_
  refine g_aload w e34_32 (q := 34) rfl rfl rfl ?_
  refine g_ldcO w e34_34 (q := 36) rfl rfl (Hw hw 110 rfl) (own_wS hw) (nn := 16) (by decide) (by decide) (by decide) (by decide) (fun T vm h t4 w E C => ?_)
  replace K0 := K0.ext E
  replace X_x := X_x.ext E
  replace F_severity_x := F_severity_x.ext E
  replace F_source_x := F_source_x.ext E
  replace F_code_x := F_code_x.ext E
  replace F_arguments_x := F_arguments_x.ext E
  replace F_text_x := F_text_x.ext E
  refine g_staticP w (con_rn2 l Z a0 hw tx t4 _ w.old) no0 e34_36 (q := 39) rfl rfl (Hw hw 75 rfl) (Hw hw 76 rfl) (Hw hw 77 rfl) (Hw hw 78 rfl) (by decide) pd15 rfl rfl (W := 0) (Nat.le_of_eq rfl) (by decide) (by decide) (by decide) (by decide) (fun T v w C q => ?_)
  obtain rfl := q
  show Go p e below _ (State.setTop T (mkF m 39 #[.val (.ref x), .val (.ref sv), .val (.ref so), .val (.ref co), .val (.ref li), .val (.ref tx)] [(.ref tx)]))
  refine g_pop w e34_39 (q := 40) rfl rfl ?_
  refine g_aloadN w e34_40 (q := 41) rfl rfl rfl ?_
  refine g_aloadN w e34_41 (q := 42) rfl rfl rfl ?_
  have g_ := w.chv
  refine g_putF w e34_42 (q := 45) rfl (Hw hw 111 rfl) Via.refl F_severity_x X_x (Or.inr ⟨(Hw hw 112 rfl), rfl, rfl⟩) (Hw hw 63 rfl) (ty := (.object "com/example/stepwize/stepwize/engine/Message$Severity")) (by decide) (v' := (.ref sv)) rfl rfl n_x (w.safe X_x (by decide) (by decide)) (fun T h w W => ?_)
  replace K0 := K0.wr W (Or.inl (List.mem_singleton.mpr rfl))
  replace X_x := X_x.wr W
  replace F_severity_x := F_severity_x.same W
  replace F_source_x := F_source_x.other W (Or.inr (slot_ne (Or.inr (Hw hw 114 rfl)) (Or.inr (Hw hw 112 rfl)) (by decide) (t := (.object "java/util/Optional")) (t' := (.object "com/example/stepwize/stepwize/engine/Message$Severity")) (by decide) (by decide)))
  replace F_code_x := F_code_x.other W (Or.inr (slot_ne (Or.inr (Hw hw 116 rfl)) (Or.inr (Hw hw 112 rfl)) (by decide) (t := (.object "java/util/Optional")) (t' := (.object "com/example/stepwize/stepwize/engine/Message$Severity")) (by decide) (by decide)))
  replace F_arguments_x := F_arguments_x.other W (Or.inr (slot_ne (Or.inr (Hw hw 118 rfl)) (Or.inr (Hw hw 112 rfl)) (by decide) (t := (.object "java/util/List")) (t' := (.object "com/example/stepwize/stepwize/engine/Message$Severity")) (by decide) (by decide)))
  replace F_text_x := F_text_x.other W (Or.inr (slot_ne (Or.inr (Hw hw 120 rfl)) (Or.inr (Hw hw 112 rfl)) (by decide) (t := (.object "java/lang/String")) (t' := (.object "com/example/stepwize/stepwize/engine/Message$Severity")) (by decide) (by decide)))
  refine g_aloadN w e34_45 (q := 46) rfl rfl rfl ?_
  refine g_aloadN w e34_46 (q := 47) rfl rfl rfl ?_
  have g_ := w.chv
  refine g_putF w e34_47 (q := 50) rfl (Hw hw 113 rfl) Via.refl F_source_x X_x (Or.inr ⟨(Hw hw 114 rfl), rfl, rfl⟩) (Hw hw 63 rfl) (ty := (.object "java/util/Optional")) (by decide) (v' := (.ref so)) rfl rfl n_x (w.safe X_x (by decide) (by decide)) (fun T h w W => ?_)
  replace K0 := K0.wr W (Or.inl (List.mem_singleton.mpr rfl))
  replace X_x := X_x.wr W
  replace F_severity_x := F_severity_x.other W (Or.inr (slot_ne (Or.inr (Hw hw 112 rfl)) (Or.inr (Hw hw 114 rfl)) (by decide) (t := (.object "com/example/stepwize/stepwize/engine/Message$Severity")) (t' := (.object "java/util/Optional")) (by decide) (by decide)))
  replace F_source_x := F_source_x.same W
  replace F_code_x := F_code_x.other W (Or.inr (slot_ne (Or.inr (Hw hw 116 rfl)) (Or.inr (Hw hw 114 rfl)) (by decide) (t := (.object "java/util/Optional")) (t' := (.object "java/util/Optional")) (by decide) (by decide)))
  replace F_arguments_x := F_arguments_x.other W (Or.inr (slot_ne (Or.inr (Hw hw 118 rfl)) (Or.inr (Hw hw 114 rfl)) (by decide) (t := (.object "java/util/List")) (t' := (.object "java/util/Optional")) (by decide) (by decide)))
  replace F_text_x := F_text_x.other W (Or.inr (slot_ne (Or.inr (Hw hw 120 rfl)) (Or.inr (Hw hw 114 rfl)) (by decide) (t := (.object "java/lang/String")) (t' := (.object "java/util/Optional")) (by decide) (by decide)))
  refine g_aloadN w e34_50 (q := 51) rfl rfl rfl ?_
  refine g_aloadN w e34_51 (q := 52) rfl rfl rfl ?_
  have g_ := w.chv
  refine g_putF w e34_52 (q := 55) rfl (Hw hw 115 rfl) Via.refl F_code_x X_x (Or.inr ⟨(Hw hw 116 rfl), rfl, rfl⟩) (Hw hw 63 rfl) (ty := (.object "java/util/Optional")) (by decide) (v' := (.ref co)) rfl rfl n_x (w.safe X_x (by decide) (by decide)) (fun T h w W => ?_)
  replace K0 := K0.wr W (Or.inl (List.mem_singleton.mpr rfl))
  replace X_x := X_x.wr W
  replace F_severity_x := F_severity_x.other W (Or.inr (slot_ne (Or.inr (Hw hw 112 rfl)) (Or.inr (Hw hw 116 rfl)) (by decide) (t := (.object "com/example/stepwize/stepwize/engine/Message$Severity")) (t' := (.object "java/util/Optional")) (by decide) (by decide)))
  replace F_source_x := F_source_x.other W (Or.inr (slot_ne (Or.inr (Hw hw 114 rfl)) (Or.inr (Hw hw 116 rfl)) (by decide) (t := (.object "java/util/Optional")) (t' := (.object "java/util/Optional")) (by decide) (by decide)))
  replace F_code_x := F_code_x.same W
  replace F_arguments_x := F_arguments_x.other W (Or.inr (slot_ne (Or.inr (Hw hw 118 rfl)) (Or.inr (Hw hw 116 rfl)) (by decide) (t := (.object "java/util/List")) (t' := (.object "java/util/Optional")) (by decide) (by decide)))
  replace F_text_x := F_text_x.other W (Or.inr (slot_ne (Or.inr (Hw hw 120 rfl)) (Or.inr (Hw hw 116 rfl)) (by decide) (t := (.object "java/lang/String")) (t' := (.object "java/util/Optional")) (by decide) (by decide)))
  refine g_aloadN w e34_55 (q := 56) rfl rfl rfl ?_
  refine g_aload w e34_56 (q := 58) rfl rfl rfl ?_
  have g_ := w.chv
  refine g_putF w e34_58 (q := 61) rfl (Hw hw 117 rfl) Via.refl F_arguments_x X_x (Or.inr ⟨(Hw hw 118 rfl), rfl, rfl⟩) (Hw hw 63 rfl) (ty := (.object "java/util/List")) (by decide) (v' := (.ref li)) rfl rfl n_x (w.safe X_x (by decide) (by decide)) (fun T h w W => ?_)
  replace K0 := K0.wr W (Or.inl (List.mem_singleton.mpr rfl))
  replace X_x := X_x.wr W
  replace F_severity_x := F_severity_x.other W (Or.inr (slot_ne (Or.inr (Hw hw 112 rfl)) (Or.inr (Hw hw 118 rfl)) (by decide) (t := (.object "com/example/stepwize/stepwize/engine/Message$Severity")) (t' := (.object "java/util/List")) (by decide) (by decide)))
  replace F_source_x := F_source_x.other W (Or.inr (slot_ne (Or.inr (Hw hw 114 rfl)) (Or.inr (Hw hw 118 rfl)) (by decide) (t := (.object "java/util/Optional")) (t' := (.object "java/util/List")) (by decide) (by decide)))
  replace F_code_x := F_code_x.other W (Or.inr (slot_ne (Or.inr (Hw hw 116 rfl)) (Or.inr (Hw hw 118 rfl)) (by decide) (t := (.object "java/util/Optional")) (t' := (.object "java/util/List")) (by decide) (by decide)))
  replace F_arguments_x := F_arguments_x.same W
  replace F_text_x := F_text_x.other W (Or.inr (slot_ne (Or.inr (Hw hw 120 rfl)) (Or.inr (Hw hw 118 rfl)) (by decide) (t := (.object "java/lang/String")) (t' := (.object "java/util/List")) (by decide) (by decide)))
  refine g_aloadN w e34_61 (q := 62) rfl rfl rfl ?_
  refine g_aload w e34_62 (q := 64) rfl rfl rfl ?_
  have g_ := w.chv
  refine g_putF w e34_64 (q := 67) rfl (Hw hw 119 rfl) Via.refl F_text_x X_x (Or.inr ⟨(Hw hw 120 rfl), rfl, rfl⟩) (Hw hw 63 rfl) (ty := (.object "java/lang/String")) (by decide) (v' := (.ref tx)) rfl rfl n_x (w.safe X_x (by decide) (by decide)) (fun T h w W => ?_)
  replace K0 := K0.wr W (Or.inl (List.mem_singleton.mpr rfl))
  replace X_x := X_x.wr W
  replace F_severity_x := F_severity_x.other W (Or.inr (slot_ne (Or.inr (Hw hw 112 rfl)) (Or.inr (Hw hw 120 rfl)) (by decide) (t := (.object "com/example/stepwize/stepwize/engine/Message$Severity")) (t' := (.object "java/lang/String")) (by decide) (by decide)))
  replace F_source_x := F_source_x.other W (Or.inr (slot_ne (Or.inr (Hw hw 114 rfl)) (Or.inr (Hw hw 120 rfl)) (by decide) (t := (.object "java/util/Optional")) (t' := (.object "java/lang/String")) (by decide) (by decide)))
  replace F_code_x := F_code_x.other W (Or.inr (slot_ne (Or.inr (Hw hw 116 rfl)) (Or.inr (Hw hw 120 rfl)) (by decide) (t := (.object "java/util/Optional")) (t' := (.object "java/lang/String")) (by decide) (by decide)))
  replace F_arguments_x := F_arguments_x.other W (Or.inr (slot_ne (Or.inr (Hw hw 118 rfl)) (Or.inr (Hw hw 120 rfl)) (by decide) (t := (.object "java/util/List")) (t' := (.object "java/lang/String")) (by decide) (by decide)))
  replace F_text_x := F_text_x.same W
  exact g_return w e34_67 rfl (by decide) (by decide) ⟨rfl, K0, F_severity_x, F_source_x, F_code_x, F_arguments_x, F_text_x⟩
set_option maxRecDepth 65536 in
set_option maxHeartbeats 40000000 in
theorem con_mi_d (l : Launch) (Z : State) (a0 : Array Value) (hw : ∀ d ∈ tables_1, d.before a0 Z = true) (x sv so co li tx  : Addr) (h0 : Heap) (O0 : Ext Z.heap h0) (X_x : Exa Z h0 x "com/example/stepwize/stepwize/engine/Message") (F_severity_x : Fld Z h0 x "com/example/stepwize/stepwize/engine/Message" "severity" "Lcom/example/stepwize/stepwize/engine/Message$Severity;" .null) (F_source_x : Fld Z h0 x "com/example/stepwize/stepwize/engine/Message" "source" "Ljava/util/Optional;" .null) (F_code_x : Fld Z h0 x "com/example/stepwize/stepwize/engine/Message" "code" "Ljava/util/Optional;" .null) (F_arguments_x : Fld Z h0 x "com/example/stepwize/stepwize/engine/Message" "arguments" "Ljava/util/List;" .null) (F_text_x : Fld Z h0 x "com/example/stepwize/stepwize/engine/Message" "text" "Ljava/lang/String;" .null) (n_x : Z.heap.size ≤ x) (X_li : Exa Z h0 li "java/util/ImmutableCollections$List12") :
    Con l Z consts_1 false (⟨"com/example/stepwize/stepwize/engine/Message", "<init>", "(Lcom/example/stepwize/stepwize/engine/Message$Severity;Ljava/util/Optional;Ljava/util/Optional;Ljava/util/List;Ljava/lang/String;)V"⟩ : MethodName) prog_33_method_1_code 6 none [] ({ frames := 2, cells := 8, slots := 104, locals := 25 } : Room) #[(.ref x), (.ref sv), (.ref so), (.ref co), (.ref li), (.ref tx)] [] h0 (fun v h => v = none ∧ Keep h0 h [x] ∧ Fld Z h x "com/example/stepwize/stepwize/engine/Message" "severity" "Lcom/example/stepwize/stepwize/engine/Message$Severity;" (.ref sv) ∧ Fld Z h x "com/example/stepwize/stepwize/engine/Message" "source" "Ljava/util/Optional;" (.ref so) ∧ Fld Z h x "com/example/stepwize/stepwize/engine/Message" "code" "Ljava/util/Optional;" (.ref co) ∧ Fld Z h x "com/example/stepwize/stepwize/engine/Message" "arguments" "Ljava/util/List;" (.ref li) ∧ Fld Z h x "com/example/stepwize/stepwize/engine/Message" "text" "Ljava/lang/String;" (.ref tx)) := by
  refine Con.intro (Ls := #[.val (.ref x), .val (.ref sv), .val (.ref so), .val (.ref co), .val (.ref li), .val (.ref tx)]) (plainFor_of_name pn16) (own_EL hw) O0 (fun m => by first | (simp [entryFrame, mkF, argsToLocals, Value.category]; done) | rfl) (fun p e s m below meth cc_ T w sf_ => ?_)
  have K0 := Keep.refl h0 [x]
  refine g_aloadN w e34_0 (q := 1) rfl rfl rfl ?_
  refine g_specialP w (con_rec l Z a0 hw x _ w.old) no0 e34_1 (q := 4) rfl rfl rfl (Hw hw 68 rfl) (Hw hw 69 rfl) (Hw hw 71 rfl) (Hw hw 72 rfl) (by decide) pd1 rfl rfl (W := 0) (Nat.le_of_eq rfl) (by decide) (by decide) (by decide) (by decide) (fun T v w C q => ?_)
  obtain rfl := q
  show Go p e below _ (State.setTop T (mkF m 4 #[.val (.ref x), .val (.ref sv), .val (.ref so), .val (.ref co), .val (.ref li), .val (.ref tx)] []))
  refine g_aloadN w e34_4 (q := 5) rfl rfl rfl ?_
  refine g_ldcO w e34_5 (q := 7) rfl rfl (Hw hw 74 rfl) (own_wS hw) (nn := 32) (by decide) (by decide) (by decide) (by decide) (fun T vm h t1 w E C => ?_)
  replace K0 := K0.ext E
  replace X_x := X_x.ext E
  replace F_severity_x := F_severity_x.ext E
  replace F_source_x := F_source_x.ext E
  replace F_code_x := F_code_x.ext E
  replace F_arguments_x := F_arguments_x.ext E
  replace F_text_x := F_text_x.ext E
  replace X_li := X_li.ext E
  refine g_staticP w (con_rn2 l Z a0 hw sv t1 _ w.old) no0 e34_7 (q := 10) rfl rfl (Hw hw 75 rfl) (Hw hw 76 rfl) (Hw hw 77 rfl) (Hw hw 78 rfl) (by decide) pd15 rfl rfl (W := 0) (Nat.le_of_eq rfl) (by decide) (by decide) (by decide) (by decide) (fun T v w C q => ?_)
  obtain rfl := q
  show Go p e below _ (State.setTop T (mkF m 10 #[.val (.ref x), .val (.ref sv), .val (.ref so), .val (.ref co), .val (.ref li), .val (.ref tx)] [(.ref sv)]))
  refine g_pop w e34_10 (q := 11) rfl rfl ?_
  refine g_aloadN w e34_11 (q := 12) rfl rfl rfl ?_
  refine g_ldcO w e34_12 (q := 14) rfl rfl (Hw hw 79 rfl) (own_wS hw) (nn := 24) (by decide) (by decide) (by decide) (by decide) (fun T vm h t2 w E C => ?_)
  replace K0 := K0.ext E
  replace X_x := X_x.ext E
  replace F_severity_x := F_severity_x.ext E
  replace F_source_x := F_source_x.ext E
  replace F_code_x := F_code_x.ext E
  replace F_arguments_x := F_arguments_x.ext E
  replace F_text_x := F_text_x.ext E
  replace X_li := X_li.ext E
  refine g_staticP w (con_rn2 l Z a0 hw so t2 _ w.old) no0 e34_14 (q := 17) rfl rfl (Hw hw 75 rfl) (Hw hw 76 rfl) (Hw hw 77 rfl) (Hw hw 78 rfl) (by decide) pd15 rfl rfl (W := 0) (Nat.le_of_eq rfl) (by decide) (by decide) (by decide) (by decide) (fun T v w C q => ?_)
  obtain rfl := q
  show Go p e below _ (State.setTop T (mkF m 17 #[.val (.ref x), .val (.ref sv), .val (.ref so), .val (.ref co), .val (.ref li), .val (.ref tx)] [(.ref so)]))
  refine g_pop w e34_17 (q := 18) rfl rfl ?_
  refine g_aloadN w e34_18 (q := 19) rfl rfl rfl ?_
  refine g_ldcO w e34_19 (q := 21) rfl rfl (Hw hw 80 rfl) (own_wS hw) (nn := 16) (by decide) (by decide) (by decide) (by decide) (fun T vm h t3 w E C => ?_)
  replace K0 := K0.ext E
  replace X_x := X_x.ext E
  replace F_severity_x := F_severity_x.ext E
  replace F_source_x := F_source_x.ext E
  replace F_code_x := F_code_x.ext E
  replace F_arguments_x := F_arguments_x.ext E
  replace F_text_x := F_text_x.ext E
  replace X_li := X_li.ext E
  refine g_staticP w (con_rn2 l Z a0 hw co t3 _ w.old) no0 e34_21 (q := 24) rfl rfl (Hw hw 75 rfl) (Hw hw 76 rfl) (Hw hw 77 rfl) (Hw hw 78 rfl) (by decide) pd15 rfl rfl (W := 0) (Nat.le_of_eq rfl) (by decide) (by decide) (by decide) (by decide) (fun T v w C q => ?_)
  obtain rfl := q
  show Go p e below _ (State.setTop T (mkF m 24 #[.val (.ref x), .val (.ref sv), .val (.ref so), .val (.ref co), .val (.ref li), .val (.ref tx)] [(.ref co)]))
  refine g_pop w e34_24 (q := 25) rfl rfl ?_
  refine g_aload w e34_25 (q := 27) rfl rfl rfl ?_
  refine g_staticP w (con_co_d l Z a0 hw li  _ w.old X_li) no0 e34_27 (q := 30) rfl rfl (Hw hw 81 rfl) (Hw hw 82 rfl) (Hw hw 83 rfl) (Hw hw 84 rfl) (by decide) pd14 rfl rfl (W := 0) (Nat.le_of_eq rfl) (by decide) (by decide) (by decide) (by decide) (fun T v w C q => ?_)
  obtain rfl := q
  show Go p e below _ (State.setTop T (mkF m 30 #[.val (.ref x), .val (.ref sv), .val (.ref so), .val (.ref co), .val (.ref li), .val (.ref tx)] [(.ref li)]))
  refine g_astore w e34_30 (q := 32) rfl rfl (Ls' := #[.val (.ref x), .val (.ref sv), .val (.ref so), .val (.ref co), .val (.ref li), .val (.ref tx)]) rfl ?_
  refine g_aload w e34_32 (q := 34) rfl rfl rfl ?_
  refine g_ldcO w e34_34 (q := 36) rfl rfl (Hw hw 110 rfl) (own_wS hw) (nn := 16) (by decide) (by decide) (by decide) (by decide) (fun T vm h t4 w E C => ?_)
  replace K0 := K0.ext E
  replace X_x := X_x.ext E
  replace F_severity_x := F_severity_x.ext E
  replace F_source_x := F_source_x.ext E
  replace F_code_x := F_code_x.ext E
  replace F_arguments_x := F_arguments_x.ext E
  replace F_text_x := F_text_x.ext E
  refine g_staticP w (con_rn2 l Z a0 hw tx t4 _ w.old) no0 e34_36 (q := 39) rfl rfl (Hw hw 75 rfl) (Hw hw 76 rfl) (Hw hw 77 rfl) (Hw hw 78 rfl) (by decide) pd15 rfl rfl (W := 0) (Nat.le_of_eq rfl) (by decide) (by decide) (by decide) (by decide) (fun T v w C q => ?_)
  obtain rfl := q
  show Go p e below _ (State.setTop T (mkF m 39 #[.val (.ref x), .val (.ref sv), .val (.ref so), .val (.ref co), .val (.ref li), .val (.ref tx)] [(.ref tx)]))
  refine g_pop w e34_39 (q := 40) rfl rfl ?_
  refine g_aloadN w e34_40 (q := 41) rfl rfl rfl ?_
  refine g_aloadN w e34_41 (q := 42) rfl rfl rfl ?_
  have g_ := w.chv
  refine g_putF w e34_42 (q := 45) rfl (Hw hw 111 rfl) Via.refl F_severity_x X_x (Or.inr ⟨(Hw hw 112 rfl), rfl, rfl⟩) (Hw hw 63 rfl) (ty := (.object "com/example/stepwize/stepwize/engine/Message$Severity")) (by decide) (v' := (.ref sv)) rfl rfl n_x (w.safe X_x (by decide) (by decide)) (fun T h w W => ?_)
  replace K0 := K0.wr W (Or.inl (List.mem_singleton.mpr rfl))
  replace X_x := X_x.wr W
  replace F_severity_x := F_severity_x.same W
  replace F_source_x := F_source_x.other W (Or.inr (slot_ne (Or.inr (Hw hw 114 rfl)) (Or.inr (Hw hw 112 rfl)) (by decide) (t := (.object "java/util/Optional")) (t' := (.object "com/example/stepwize/stepwize/engine/Message$Severity")) (by decide) (by decide)))
  replace F_code_x := F_code_x.other W (Or.inr (slot_ne (Or.inr (Hw hw 116 rfl)) (Or.inr (Hw hw 112 rfl)) (by decide) (t := (.object "java/util/Optional")) (t' := (.object "com/example/stepwize/stepwize/engine/Message$Severity")) (by decide) (by decide)))
  replace F_arguments_x := F_arguments_x.other W (Or.inr (slot_ne (Or.inr (Hw hw 118 rfl)) (Or.inr (Hw hw 112 rfl)) (by decide) (t := (.object "java/util/List")) (t' := (.object "com/example/stepwize/stepwize/engine/Message$Severity")) (by decide) (by decide)))
  replace F_text_x := F_text_x.other W (Or.inr (slot_ne (Or.inr (Hw hw 120 rfl)) (Or.inr (Hw hw 112 rfl)) (by decide) (t := (.object "java/lang/String")) (t' := (.object "com/example/stepwize/stepwize/engine/Message$Severity")) (by decide) (by decide)))
  refine g_aloadN w e34_45 (q := 46) rfl rfl rfl ?_
  refine g_aloadN w e34_46 (q := 47) rfl rfl rfl ?_
  have g_ := w.chv
  refine g_putF w e34_47 (q := 50) rfl (Hw hw 113 rfl) Via.refl F_source_x X_x (Or.inr ⟨(Hw hw 114 rfl), rfl, rfl⟩) (Hw hw 63 rfl) (ty := (.object "java/util/Optional")) (by decide) (v' := (.ref so)) rfl rfl n_x (w.safe X_x (by decide) (by decide)) (fun T h w W => ?_)
  replace K0 := K0.wr W (Or.inl (List.mem_singleton.mpr rfl))
  replace X_x := X_x.wr W
  replace F_severity_x := F_severity_x.other W (Or.inr (slot_ne (Or.inr (Hw hw 112 rfl)) (Or.inr (Hw hw 114 rfl)) (by decide) (t := (.object "com/example/stepwize/stepwize/engine/Message$Severity")) (t' := (.object "java/util/Optional")) (by decide) (by decide)))
  replace F_source_x := F_source_x.same W
  replace F_code_x := F_code_x.other W (Or.inr (slot_ne (Or.inr (Hw hw 116 rfl)) (Or.inr (Hw hw 114 rfl)) (by decide) (t := (.object "java/util/Optional")) (t' := (.object "java/util/Optional")) (by decide) (by decide)))
  replace F_arguments_x := F_arguments_x.other W (Or.inr (slot_ne (Or.inr (Hw hw 118 rfl)) (Or.inr (Hw hw 114 rfl)) (by decide) (t := (.object "java/util/List")) (t' := (.object "java/util/Optional")) (by decide) (by decide)))
  replace F_text_x := F_text_x.other W (Or.inr (slot_ne (Or.inr (Hw hw 120 rfl)) (Or.inr (Hw hw 114 rfl)) (by decide) (t := (.object "java/lang/String")) (t' := (.object "java/util/Optional")) (by decide) (by decide)))
  refine g_aloadN w e34_50 (q := 51) rfl rfl rfl ?_
  refine g_aloadN w e34_51 (q := 52) rfl rfl rfl ?_
  have g_ := w.chv
  refine g_putF w e34_52 (q := 55) rfl (Hw hw 115 rfl) Via.refl F_code_x X_x (Or.inr ⟨(Hw hw 116 rfl), rfl, rfl⟩) (Hw hw 63 rfl) (ty := (.object "java/util/Optional")) (by decide) (v' := (.ref co)) rfl rfl n_x (w.safe X_x (by decide) (by decide)) (fun T h w W => ?_)
  replace K0 := K0.wr W (Or.inl (List.mem_singleton.mpr rfl))
  replace X_x := X_x.wr W
  replace F_severity_x := F_severity_x.other W (Or.inr (slot_ne (Or.inr (Hw hw 112 rfl)) (Or.inr (Hw hw 116 rfl)) (by decide) (t := (.object "com/example/stepwize/stepwize/engine/Message$Severity")) (t' := (.object "java/util/Optional")) (by decide) (by decide)))
  replace F_source_x := F_source_x.other W (Or.inr (slot_ne (Or.inr (Hw hw 114 rfl)) (Or.inr (Hw hw 116 rfl)) (by decide) (t := (.object "java/util/Optional")) (t' := (.object "java/util/Optional")) (by decide) (by decide)))
  replace F_code_x := F_code_x.same W
  replace F_arguments_x := F_arguments_x.other W (Or.inr (slot_ne (Or.inr (Hw hw 118 rfl)) (Or.inr (Hw hw 116 rfl)) (by decide) (t := (.object "java/util/List")) (t' := (.object "java/util/Optional")) (by decide) (by decide)))
  replace F_text_x := F_text_x.other W (Or.inr (slot_ne (Or.inr (Hw hw 120 rfl)) (Or.inr (Hw hw 116 rfl)) (by decide) (t := (.object "java/lang/String")) (t' := (.object "java/util/Optional")) (by decide) (by decide)))
  refine g_aloadN w e34_55 (q := 56) rfl rfl rfl ?_
  refine g_aload w e34_56 (q := 58) rfl rfl rfl ?_
  have g_ := w.chv
  refine g_putF w e34_58 (q := 61) rfl (Hw hw 117 rfl) Via.refl F_arguments_x X_x (Or.inr ⟨(Hw hw 118 rfl), rfl, rfl⟩) (Hw hw 63 rfl) (ty := (.object "java/util/List")) (by decide) (v' := (.ref li)) rfl rfl n_x (w.safe X_x (by decide) (by decide)) (fun T h w W => ?_)
  replace K0 := K0.wr W (Or.inl (List.mem_singleton.mpr rfl))
  replace X_x := X_x.wr W
  replace F_severity_x := F_severity_x.other W (Or.inr (slot_ne (Or.inr (Hw hw 112 rfl)) (Or.inr (Hw hw 118 rfl)) (by decide) (t := (.object "com/example/stepwize/stepwize/engine/Message$Severity")) (t' := (.object "java/util/List")) (by decide) (by decide)))
  replace F_source_x := F_source_x.other W (Or.inr (slot_ne (Or.inr (Hw hw 114 rfl)) (Or.inr (Hw hw 118 rfl)) (by decide) (t := (.object "java/util/Optional")) (t' := (.object "java/util/List")) (by decide) (by decide)))
  replace F_code_x := F_code_x.other W (Or.inr (slot_ne (Or.inr (Hw hw 116 rfl)) (Or.inr (Hw hw 118 rfl)) (by decide) (t := (.object "java/util/Optional")) (t' := (.object "java/util/List")) (by decide) (by decide)))
  replace F_arguments_x := F_arguments_x.same W
  replace F_text_x := F_text_x.other W (Or.inr (slot_ne (Or.inr (Hw hw 120 rfl)) (Or.inr (Hw hw 118 rfl)) (by decide) (t := (.object "java/lang/String")) (t' := (.object "java/util/List")) (by decide) (by decide)))
  refine g_aloadN w e34_61 (q := 62) rfl rfl rfl ?_
  refine g_aload w e34_62 (q := 64) rfl rfl rfl ?_
  have g_ := w.chv
  refine g_putF w e34_64 (q := 67) rfl (Hw hw 119 rfl) Via.refl F_text_x X_x (Or.inr ⟨(Hw hw 120 rfl), rfl, rfl⟩) (Hw hw 63 rfl) (ty := (.object "java/lang/String")) (by decide) (v' := (.ref tx)) rfl rfl n_x (w.safe X_x (by decide) (by decide)) (fun T h w W => ?_)
  replace K0 := K0.wr W (Or.inl (List.mem_singleton.mpr rfl))
  replace X_x := X_x.wr W
  replace F_severity_x := F_severity_x.other W (Or.inr (slot_ne (Or.inr (Hw hw 112 rfl)) (Or.inr (Hw hw 120 rfl)) (by decide) (t := (.object "com/example/stepwize/stepwize/engine/Message$Severity")) (t' := (.object "java/lang/String")) (by decide) (by decide)))
  replace F_source_x := F_source_x.other W (Or.inr (slot_ne (Or.inr (Hw hw 114 rfl)) (Or.inr (Hw hw 120 rfl)) (by decide) (t := (.object "java/util/Optional")) (t' := (.object "java/lang/String")) (by decide) (by decide)))
  replace F_code_x := F_code_x.other W (Or.inr (slot_ne (Or.inr (Hw hw 116 rfl)) (Or.inr (Hw hw 120 rfl)) (by decide) (t := (.object "java/util/Optional")) (t' := (.object "java/lang/String")) (by decide) (by decide)))
  replace F_arguments_x := F_arguments_x.other W (Or.inr (slot_ne (Or.inr (Hw hw 118 rfl)) (Or.inr (Hw hw 120 rfl)) (by decide) (t := (.object "java/util/List")) (t' := (.object "java/lang/String")) (by decide) (by decide)))
  replace F_text_x := F_text_x.same W
  exact g_return w e34_67 rfl (by decide) (by decide) ⟨rfl, K0, F_severity_x, F_source_x, F_code_x, F_arguments_x, F_text_x⟩
theorem e35_0 : decode prog_33_method_8_code 0 = .ok (.aload_n 0, 1) := by decide +kernel
theorem e35_1 : decode prog_33_method_8_code 1 = .ok (.getfield 27, 3) := by decide +kernel
theorem e35_4 : decode prog_33_method_8_code 4 = .ok (.areturn, 1) := by decide +kernel
set_option maxRecDepth 65536 in
set_option maxHeartbeats 40000000 in
theorem con_g_severity (l : Launch) (Z : State) (a0 : Array Value) (hw : ∀ d ∈ tables_1, d.before a0 Z = true) (x u : Addr) (h0 : Heap) (O0 : Ext Z.heap h0) (F_x : Fld Z h0 x "com/example/stepwize/stepwize/engine/Message" "severity" "Lcom/example/stepwize/stepwize/engine/Message$Severity;" (.ref u)) :
    Con l Z consts_1 false (⟨"com/example/stepwize/stepwize/engine/Message", "severity", "()Lcom/example/stepwize/stepwize/engine/Message$Severity;"⟩ : MethodName) prog_33_method_8_code 1 (some (.object "com/example/stepwize/stepwize/engine/Message$Severity")) [] ({ frames := 0, cells := 0, slots := 0, locals := 0 } : Room) #[(.ref x)] [] h0 (fun v h => v = some (.ref u) ∧ h = h0) := by
  refine Con.intro (Ls := #[.val (.ref x)]) (plainFor_of_name pn16) (own_EL hw) O0 (fun m => by first | (simp [entryFrame, mkF, argsToLocals, Value.category]; done) | rfl) (fun p e s m below meth cc_ T w sf_ => ?_)
  have E0 := ext_refl h0
  refine g_aloadN w e35_0 (q := 1) rfl rfl rfl ?_
  refine g_getF w e35_1 (q := 4) rfl (host := "") (Or.inl (Hw hw 111 rfl)) Via.refl F_x (fun T w => ?_)
  exact g_reta w e35_4 rfl rfl rfl (by decide) (by decide) ⟨rfl, rfl⟩
theorem e36_0 : decode prog_33_method_9_code 0 = .ok (.aload_n 0, 1) := by decide +kernel
theorem e36_1 : decode prog_33_method_9_code 1 = .ok (.getfield 32, 3) := by decide +kernel
theorem e36_4 : decode prog_33_method_9_code 4 = .ok (.areturn, 1) := by decide +kernel
set_option maxRecDepth 65536 in
set_option maxHeartbeats 40000000 in
theorem con_g_source (l : Launch) (Z : State) (a0 : Array Value) (hw : ∀ d ∈ tables_1, d.before a0 Z = true) (x u : Addr) (h0 : Heap) (O0 : Ext Z.heap h0) (F_x : Fld Z h0 x "com/example/stepwize/stepwize/engine/Message" "source" "Ljava/util/Optional;" (.ref u)) :
    Con l Z consts_1 false (⟨"com/example/stepwize/stepwize/engine/Message", "source", "()Ljava/util/Optional;"⟩ : MethodName) prog_33_method_9_code 1 (some (.object "java/util/Optional")) [] ({ frames := 0, cells := 0, slots := 0, locals := 0 } : Room) #[(.ref x)] [] h0 (fun v h => v = some (.ref u) ∧ h = h0) := by
  refine Con.intro (Ls := #[.val (.ref x)]) (plainFor_of_name pn16) (own_EL hw) O0 (fun m => by first | (simp [entryFrame, mkF, argsToLocals, Value.category]; done) | rfl) (fun p e s m below meth cc_ T w sf_ => ?_)
  have E0 := ext_refl h0
  refine g_aloadN w e36_0 (q := 1) rfl rfl rfl ?_
  refine g_getF w e36_1 (q := 4) rfl (host := "") (Or.inl (Hw hw 113 rfl)) Via.refl F_x (fun T w => ?_)
  exact g_reta w e36_4 rfl rfl rfl (by decide) (by decide) ⟨rfl, rfl⟩
theorem e37_0 : decode prog_33_method_10_code 0 = .ok (.aload_n 0, 1) := by decide +kernel
theorem e37_1 : decode prog_33_method_10_code 1 = .ok (.getfield 35, 3) := by decide +kernel
theorem e37_4 : decode prog_33_method_10_code 4 = .ok (.areturn, 1) := by decide +kernel
set_option maxRecDepth 65536 in
set_option maxHeartbeats 40000000 in
theorem con_g_code (l : Launch) (Z : State) (a0 : Array Value) (hw : ∀ d ∈ tables_1, d.before a0 Z = true) (x u : Addr) (h0 : Heap) (O0 : Ext Z.heap h0) (F_x : Fld Z h0 x "com/example/stepwize/stepwize/engine/Message" "code" "Ljava/util/Optional;" (.ref u)) :
    Con l Z consts_1 false (⟨"com/example/stepwize/stepwize/engine/Message", "code", "()Ljava/util/Optional;"⟩ : MethodName) prog_33_method_10_code 1 (some (.object "java/util/Optional")) [] ({ frames := 0, cells := 0, slots := 0, locals := 0 } : Room) #[(.ref x)] [] h0 (fun v h => v = some (.ref u) ∧ h = h0) := by
  refine Con.intro (Ls := #[.val (.ref x)]) (plainFor_of_name pn16) (own_EL hw) O0 (fun m => by first | (simp [entryFrame, mkF, argsToLocals, Value.category]; done) | rfl) (fun p e s m below meth cc_ T w sf_ => ?_)
  have E0 := ext_refl h0
  refine g_aloadN w e37_0 (q := 1) rfl rfl rfl ?_
  refine g_getF w e37_1 (q := 4) rfl (host := "") (Or.inl (Hw hw 115 rfl)) Via.refl F_x (fun T w => ?_)
  exact g_reta w e37_4 rfl rfl rfl (by decide) (by decide) ⟨rfl, rfl⟩
theorem e38_0 : decode prog_33_method_11_code 0 = .ok (.aload_n 0, 1) := by decide +kernel
theorem e38_1 : decode prog_33_method_11_code 1 = .ok (.getfield 37, 3) := by decide +kernel
theorem e38_4 : decode prog_33_method_11_code 4 = .ok (.areturn, 1) := by decide +kernel
set_option maxRecDepth 65536 in
set_option maxHeartbeats 40000000 in
theorem con_g_arguments (l : Launch) (Z : State) (a0 : Array Value) (hw : ∀ d ∈ tables_1, d.before a0 Z = true) (x u : Addr) (h0 : Heap) (O0 : Ext Z.heap h0) (F_x : Fld Z h0 x "com/example/stepwize/stepwize/engine/Message" "arguments" "Ljava/util/List;" (.ref u)) :
    Con l Z consts_1 false (⟨"com/example/stepwize/stepwize/engine/Message", "arguments", "()Ljava/util/List;"⟩ : MethodName) prog_33_method_11_code 1 (some (.object "java/util/List")) [] ({ frames := 0, cells := 0, slots := 0, locals := 0 } : Room) #[(.ref x)] [] h0 (fun v h => v = some (.ref u) ∧ h = h0) := by
  refine Con.intro (Ls := #[.val (.ref x)]) (plainFor_of_name pn16) (own_EL hw) O0 (fun m => by first | (simp [entryFrame, mkF, argsToLocals, Value.category]; done) | rfl) (fun p e s m below meth cc_ T w sf_ => ?_)
  have E0 := ext_refl h0
  refine g_aloadN w e38_0 (q := 1) rfl rfl rfl ?_
  refine g_getF w e38_1 (q := 4) rfl (host := "") (Or.inl (Hw hw 117 rfl)) Via.refl F_x (fun T w => ?_)
  exact g_reta w e38_4 rfl rfl rfl (by decide) (by decide) ⟨rfl, rfl⟩
theorem e39_0 : decode prog_33_method_12_code 0 = .ok (.aload_n 0, 1) := by decide +kernel
theorem e39_1 : decode prog_33_method_12_code 1 = .ok (.getfield 41, 3) := by decide +kernel
theorem e39_4 : decode prog_33_method_12_code 4 = .ok (.areturn, 1) := by decide +kernel
set_option maxRecDepth 65536 in
set_option maxHeartbeats 40000000 in
theorem con_g_text (l : Launch) (Z : State) (a0 : Array Value) (hw : ∀ d ∈ tables_1, d.before a0 Z = true) (x u : Addr) (h0 : Heap) (O0 : Ext Z.heap h0) (F_x : Fld Z h0 x "com/example/stepwize/stepwize/engine/Message" "text" "Ljava/lang/String;" (.ref u)) :
    Con l Z consts_1 false (⟨"com/example/stepwize/stepwize/engine/Message", "text", "()Ljava/lang/String;"⟩ : MethodName) prog_33_method_12_code 1 (some (.object "java/lang/String")) [] ({ frames := 0, cells := 0, slots := 0, locals := 0 } : Room) #[(.ref x)] [] h0 (fun v h => v = some (.ref u) ∧ h = h0) := by
  refine Con.intro (Ls := #[.val (.ref x)]) (plainFor_of_name pn16) (own_EL hw) O0 (fun m => by first | (simp [entryFrame, mkF, argsToLocals, Value.category]; done) | rfl) (fun p e s m below meth cc_ T w sf_ => ?_)
  have E0 := ext_refl h0
  refine g_aloadN w e39_0 (q := 1) rfl rfl rfl ?_
  refine g_getF w e39_1 (q := 4) rfl (host := "") (Or.inl (Hw hw 119 rfl)) Via.refl F_x (fun T w => ?_)
  exact g_reta w e39_4 rfl rfl rfl (by decide) (by decide) ⟨rfl, rfl⟩
theorem e40_0 : decode prog_33_method_4_code 0 = .ok (.new 28, 3) := by decide +kernel
theorem e40_3 : decode prog_33_method_4_code 3 = .ok (.dup, 1) := by decide +kernel
theorem e40_4 : decode prog_33_method_4_code 4 = .ok (.aload_n 0, 1) := by decide +kernel
theorem e40_5 : decode prog_33_method_4_code 5 = .ok (.getfield 27, 3) := by decide +kernel
theorem e40_8 : decode prog_33_method_4_code 8 = .ok (.aload_n 1, 1) := by decide +kernel
theorem e40_9 : decode prog_33_method_4_code 9 = .ok (.invokestatic 57, 3) := by decide +kernel
theorem e40_12 : decode prog_33_method_4_code 12 = .ok (.aload_n 0, 1) := by decide +kernel
theorem e40_13 : decode prog_33_method_4_code 13 = .ok (.getfield 35, 3) := by decide +kernel
theorem e40_16 : decode prog_33_method_4_code 16 = .ok (.aload_n 0, 1) := by decide +kernel
theorem e40_17 : decode prog_33_method_4_code 17 = .ok (.getfield 37, 3) := by decide +kernel
theorem e40_20 : decode prog_33_method_4_code 20 = .ok (.aload_n 0, 1) := by decide +kernel
theorem e40_21 : decode prog_33_method_4_code 21 = .ok (.getfield 41, 3) := by decide +kernel
theorem e40_24 : decode prog_33_method_4_code 24 = .ok (.invokespecial 54, 3) := by decide +kernel
theorem e40_27 : decode prog_33_method_4_code 27 = .ok (.areturn, 1) := by decide +kernel
theorem pd16 : parseMethodDescriptor "(Ljava/lang/Object;)Ljava/util/Optional;" = some ⟨[(.object "java/lang/Object")], some (.object "java/util/Optional")⟩ := by decide +kernel
theorem pd17 : parseMethodDescriptor "(Lcom/example/stepwize/stepwize/engine/Message$Severity;Ljava/util/Optional;Ljava/util/Optional;Ljava/util/List;Ljava/lang/String;)V" = some ⟨[(.object "com/example/stepwize/stepwize/engine/Message$Severity"), (.object "java/util/Optional"), (.object "java/util/Optional"), (.object "java/util/List"), (.object "java/lang/String")], none⟩ := by decide +kernel
set_option maxRecDepth 65536 in
set_option maxHeartbeats 40000000 in
theorem con_ab_c (l : Launch) (Z : State) (a0 : Array Value) (hw : ∀ d ∈ tables_1, d.before a0 Z = true) (x k sv co li tx : Addr) (h0 : Heap) (O0 : Ext Z.heap h0) (F_severity_x : Fld Z h0 x "com/example/stepwize/stepwize/engine/Message" "severity" "Lcom/example/stepwize/stepwize/engine/Message$Severity;" (.ref sv)) (F_code_x : Fld Z h0 x "com/example/stepwize/stepwize/engine/Message" "code" "Ljava/util/Optional;" (.ref co)) (F_arguments_x : Fld Z h0 x "com/example/stepwize/stepwize/engine/Message" "arguments" "Ljava/util/List;" (.ref li)) (F_text_x : Fld Z h0 x "com/example/stepwize/stepwize/engine/Message" "text" "Ljava/lang/String;" (.ref tx)) (X_li : Exa Z h0 li "java/util/ImmutableCollections$ListN") (F_allowNulls_li : Fld Z h0 li "java/util/ImmutableCollections$ListN" "allowNulls" "Z" (.int 0)) :
    Con l Z consts_1 false (⟨"com/example/stepwize/stepwize/engine/Message", "about", "(Ljava/lang/String;)Lcom/example/stepwize/stepwize/engine/Message;"⟩ : MethodName) prog_33_method_4_code 2 (some (.object "com/example/stepwize/stepwize/engine/Message")) [] ({ frames := 3, cells := 10, slots := 110, locals := 43 } : Room) #[(.ref x), (.ref k)] [] h0 (fun v h => ∃ r o, v = some (.ref r) ∧ Ext h0 h ∧ h0.size ≤ r ∧ Exa Z h r "com/example/stepwize/stepwize/engine/Message" ∧ Fld Z h r "com/example/stepwize/stepwize/engine/Message" "severity" "Lcom/example/stepwize/stepwize/engine/Message$Severity;" (.ref sv) ∧ Fld Z h r "com/example/stepwize/stepwize/engine/Message" "source" "Ljava/util/Optional;" (.ref o) ∧ Fld Z h r "com/example/stepwize/stepwize/engine/Message" "code" "Ljava/util/Optional;" (.ref co) ∧ Fld Z h r "com/example/stepwize/stepwize/engine/Message" "arguments" "Ljava/util/List;" (.ref li) ∧ Fld Z h r "com/example/stepwize/stepwize/engine/Message" "text" "Ljava/lang/String;" (.ref tx) ∧ Exa Z h o "java/util/Optional" ∧ Fld Z h o "java/util/Optional" "value" "Ljava/lang/Object;" (.ref k)) := by
  refine Con.intro (Ls := #[.val (.ref x), .val (.ref k)]) (plainFor_of_name pn16) (own_EL hw) O0 (fun m => by first | (simp [entryFrame, mkF, argsToLocals, Value.category]; done) | rfl) (fun p e s m below meth cc_ T w sf_ => ?_)
  have E0 := ext_refl h0
  refine g_new w e40_0 (q := 3) rfl (Hw hw 126 rfl) (Hw hw 63 rfl) (Hw hw 64 rfl) (by decide) (by decide) (fun T h a1 w E g_a1 n_a1 X_a1 D_a1 s_a1 => ?_)
  have z_a1 := Nat.le_trans E0.1 g_a1
  have ne_li_a1 : li ≠ a1 := Nat.ne_of_lt (Nat.lt_of_lt_of_le X_li.lt g_a1)
  have ne_x_a1 : x ≠ a1 := Nat.ne_of_lt (Nat.lt_of_lt_of_le F_severity_x.lt g_a1)
  replace E0 := ext_trans E0 E
  replace F_severity_x := F_severity_x.ext E
  replace F_code_x := F_code_x.ext E
  replace F_arguments_x := F_arguments_x.ext E
  replace F_text_x := F_text_x.ext E
  replace X_li := X_li.ext E
  replace F_allowNulls_li := F_allowNulls_li.ext E
  have F_severity_a1 := D_a1 (Or.inr (Hw hw 112 rfl)) (ty := (.object "com/example/stepwize/stepwize/engine/Message$Severity")) (by decide)
  replace F_severity_a1 : Fld Z h a1 "com/example/stepwize/stepwize/engine/Message" "severity" "Lcom/example/stepwize/stepwize/engine/Message$Severity;" .null := F_severity_a1
  have F_source_a1 := D_a1 (Or.inr (Hw hw 114 rfl)) (ty := (.object "java/util/Optional")) (by decide)
  replace F_source_a1 : Fld Z h a1 "com/example/stepwize/stepwize/engine/Message" "source" "Ljava/util/Optional;" .null := F_source_a1
  have F_code_a1 := D_a1 (Or.inr (Hw hw 116 rfl)) (ty := (.object "java/util/Optional")) (by decide)
  replace F_code_a1 : Fld Z h a1 "com/example/stepwize/stepwize/engine/Message" "code" "Ljava/util/Optional;" .null := F_code_a1
  have F_arguments_a1 := D_a1 (Or.inr (Hw hw 118 rfl)) (ty := (.object "java/util/List")) (by decide)
  replace F_arguments_a1 : Fld Z h a1 "com/example/stepwize/stepwize/engine/Message" "arguments" "Ljava/util/List;" .null := F_arguments_a1
  have F_text_a1 := D_a1 (Or.inr (Hw hw 120 rfl)) (ty := (.object "java/lang/String")) (by decide)
  replace F_text_a1 : Fld Z h a1 "com/example/stepwize/stepwize/engine/Message" "text" "Ljava/lang/String;" .null := F_text_a1
  refine g_dup w e40_3 (q := 4) rfl rfl ?_
  refine g_aloadN w e40_4 (q := 5) rfl rfl rfl ?_
  refine g_getF w e40_5 (q := 8) rfl (host := "") (Or.inl (Hw hw 111 rfl)) Via.refl F_severity_x (fun T w => ?_)
  refine g_aloadN w e40_8 (q := 9) rfl rfl rfl ?_
  refine g_static w (con_of l Z a0 hw k _ w.old) no0 e40_9 (q := 12) rfl rfl (Hw hw 127 rfl) (Hw hw 128 rfl) (Hw hw 59 rfl) (Hw hw 129 rfl) (by decide) pd16 rfl rfl (W := 3) (Nat.le_of_eq rfl) (by decide) (by decide) (by decide) (by decide) (fun T h v w gs C q => ?_)
  obtain ⟨o2, rfl, E, g_o2, X_o2, F_value_o2⟩ := q
  have z_o2 := Nat.le_trans E0.1 g_o2
  have ne_a1_o2 : a1 ≠ o2 := Nat.ne_of_lt (Nat.lt_of_lt_of_le X_a1.lt g_o2)
  have ne_li_o2 : li ≠ o2 := Nat.ne_of_lt (Nat.lt_of_lt_of_le X_li.lt g_o2)
  have ne_x_o2 : x ≠ o2 := Nat.ne_of_lt (Nat.lt_of_lt_of_le F_severity_x.lt g_o2)
  replace E0 := ext_trans E0 E
  replace F_severity_x := F_severity_x.ext E
  replace F_code_x := F_code_x.ext E
  replace F_arguments_x := F_arguments_x.ext E
  replace F_text_x := F_text_x.ext E
  replace X_li := X_li.ext E
  replace F_allowNulls_li := F_allowNulls_li.ext E
  replace X_a1 := X_a1.ext E
  replace F_severity_a1 := F_severity_a1.ext E
  replace F_source_a1 := F_source_a1.ext E
  replace F_code_a1 := F_code_a1.ext E
  replace F_arguments_a1 := F_arguments_a1.ext E
  replace F_text_a1 := F_text_a1.ext E
  show Go p e below _ (State.setTop T (mkF m 12 #[.val (.ref x), .val (.ref k)] [(.ref o2), (.ref sv), (.ref a1), (.ref a1)]))
  refine g_aloadN w e40_12 (q := 13) rfl rfl rfl ?_
  refine g_getF w e40_13 (q := 16) rfl (host := "") (Or.inl (Hw hw 115 rfl)) Via.refl F_code_x (fun T w => ?_)
  refine g_aloadN w e40_16 (q := 17) rfl rfl rfl ?_
  refine g_getF w e40_17 (q := 20) rfl (host := "") (Or.inl (Hw hw 117 rfl)) Via.refl F_arguments_x (fun T w => ?_)
  refine g_aloadN w e40_20 (q := 21) rfl rfl rfl ?_
  refine g_getF w e40_21 (q := 24) rfl (host := "") (Or.inl (Hw hw 119 rfl)) Via.refl F_text_x (fun T w => ?_)
  refine g_special w (con_mi_c l Z a0 hw a1 sv o2 co li tx  _ w.old X_a1 F_severity_a1 F_source_a1 F_code_a1 F_arguments_a1 F_text_a1 n_a1 X_li F_allowNulls_li) no0 e40_24 (q := 27) rfl rfl rfl (Hw hw 142 rfl) (Hw hw 66 rfl) (Hw hw 64 rfl) (Hw hw 67 rfl) (by decide) pd17 rfl rfl (W := 1) (Nat.le_of_eq rfl) (by decide) (by decide) (by decide) (by decide) (fun T h v w gs C q => ?_)
  obtain ⟨rfl, K, G_severity, G_source, G_code, G_arguments, G_text⟩ := q
  replace E0 := ext_keep E0 K z_a1
  have X0 := X_a1
  replace F_severity_x := F_severity_x.keep K (not1 ne_x_a1)
  replace F_code_x := F_code_x.keep K (not1 ne_x_a1)
  replace F_arguments_x := F_arguments_x.keep K (not1 ne_x_a1)
  replace F_text_x := F_text_x.keep K (not1 ne_x_a1)
  replace X_li := X_li.keep K
  replace F_allowNulls_li := F_allowNulls_li.keep K (not1 ne_li_a1)
  replace X_a1 := X_a1.keep K
  replace X_o2 := X_o2.keep K
  replace F_value_o2 := F_value_o2.keep K (not1 ne_a1_o2.symm)
  replace F_severity_a1 := G_severity
  replace F_source_a1 := G_source
  replace F_code_a1 := G_code
  replace F_arguments_a1 := G_arguments
  replace F_text_a1 := G_text
  show Go p e below _ (State.setTop T (mkF m 27 #[.val (.ref x), .val (.ref k)] [(.ref a1)]))
  exact g_reta w e40_27 rfl rfl rfl (by decide) (by decide) ⟨_, o2, rfl, E0, z_a1, X_a1, F_severity_a1, F_source_a1, F_code_a1, F_arguments_a1, F_text_a1, X_o2, F_value_o2⟩
set_option maxRecDepth 65536 in
set_option maxHeartbeats 40000000 in
theorem con_ab_d (l : Launch) (Z : State) (a0 : Array Value) (hw : ∀ d ∈ tables_1, d.before a0 Z = true) (x k sv co li tx : Addr) (h0 : Heap) (O0 : Ext Z.heap h0) (F_severity_x : Fld Z h0 x "com/example/stepwize/stepwize/engine/Message" "severity" "Lcom/example/stepwize/stepwize/engine/Message$Severity;" (.ref sv)) (F_code_x : Fld Z h0 x "com/example/stepwize/stepwize/engine/Message" "code" "Ljava/util/Optional;" (.ref co)) (F_arguments_x : Fld Z h0 x "com/example/stepwize/stepwize/engine/Message" "arguments" "Ljava/util/List;" (.ref li)) (F_text_x : Fld Z h0 x "com/example/stepwize/stepwize/engine/Message" "text" "Ljava/lang/String;" (.ref tx)) (X_li : Exa Z h0 li "java/util/ImmutableCollections$List12") :
    Con l Z consts_1 false (⟨"com/example/stepwize/stepwize/engine/Message", "about", "(Ljava/lang/String;)Lcom/example/stepwize/stepwize/engine/Message;"⟩ : MethodName) prog_33_method_4_code 2 (some (.object "com/example/stepwize/stepwize/engine/Message")) [] ({ frames := 3, cells := 10, slots := 110, locals := 43 } : Room) #[(.ref x), (.ref k)] [] h0 (fun v h => ∃ r o, v = some (.ref r) ∧ Ext h0 h ∧ h0.size ≤ r ∧ Exa Z h r "com/example/stepwize/stepwize/engine/Message" ∧ Fld Z h r "com/example/stepwize/stepwize/engine/Message" "severity" "Lcom/example/stepwize/stepwize/engine/Message$Severity;" (.ref sv) ∧ Fld Z h r "com/example/stepwize/stepwize/engine/Message" "source" "Ljava/util/Optional;" (.ref o) ∧ Fld Z h r "com/example/stepwize/stepwize/engine/Message" "code" "Ljava/util/Optional;" (.ref co) ∧ Fld Z h r "com/example/stepwize/stepwize/engine/Message" "arguments" "Ljava/util/List;" (.ref li) ∧ Fld Z h r "com/example/stepwize/stepwize/engine/Message" "text" "Ljava/lang/String;" (.ref tx) ∧ Exa Z h o "java/util/Optional" ∧ Fld Z h o "java/util/Optional" "value" "Ljava/lang/Object;" (.ref k)) := by
  refine Con.intro (Ls := #[.val (.ref x), .val (.ref k)]) (plainFor_of_name pn16) (own_EL hw) O0 (fun m => by first | (simp [entryFrame, mkF, argsToLocals, Value.category]; done) | rfl) (fun p e s m below meth cc_ T w sf_ => ?_)
  have E0 := ext_refl h0
  refine g_new w e40_0 (q := 3) rfl (Hw hw 126 rfl) (Hw hw 63 rfl) (Hw hw 64 rfl) (by decide) (by decide) (fun T h a1 w E g_a1 n_a1 X_a1 D_a1 s_a1 => ?_)
  have z_a1 := Nat.le_trans E0.1 g_a1
  have ne_li_a1 : li ≠ a1 := Nat.ne_of_lt (Nat.lt_of_lt_of_le X_li.lt g_a1)
  have ne_x_a1 : x ≠ a1 := Nat.ne_of_lt (Nat.lt_of_lt_of_le F_severity_x.lt g_a1)
  replace E0 := ext_trans E0 E
  replace F_severity_x := F_severity_x.ext E
  replace F_code_x := F_code_x.ext E
  replace F_arguments_x := F_arguments_x.ext E
  replace F_text_x := F_text_x.ext E
  replace X_li := X_li.ext E
  have F_severity_a1 := D_a1 (Or.inr (Hw hw 112 rfl)) (ty := (.object "com/example/stepwize/stepwize/engine/Message$Severity")) (by decide)
  replace F_severity_a1 : Fld Z h a1 "com/example/stepwize/stepwize/engine/Message" "severity" "Lcom/example/stepwize/stepwize/engine/Message$Severity;" .null := F_severity_a1
  have F_source_a1 := D_a1 (Or.inr (Hw hw 114 rfl)) (ty := (.object "java/util/Optional")) (by decide)
  replace F_source_a1 : Fld Z h a1 "com/example/stepwize/stepwize/engine/Message" "source" "Ljava/util/Optional;" .null := F_source_a1
  have F_code_a1 := D_a1 (Or.inr (Hw hw 116 rfl)) (ty := (.object "java/util/Optional")) (by decide)
  replace F_code_a1 : Fld Z h a1 "com/example/stepwize/stepwize/engine/Message" "code" "Ljava/util/Optional;" .null := F_code_a1
  have F_arguments_a1 := D_a1 (Or.inr (Hw hw 118 rfl)) (ty := (.object "java/util/List")) (by decide)
  replace F_arguments_a1 : Fld Z h a1 "com/example/stepwize/stepwize/engine/Message" "arguments" "Ljava/util/List;" .null := F_arguments_a1
  have F_text_a1 := D_a1 (Or.inr (Hw hw 120 rfl)) (ty := (.object "java/lang/String")) (by decide)
  replace F_text_a1 : Fld Z h a1 "com/example/stepwize/stepwize/engine/Message" "text" "Ljava/lang/String;" .null := F_text_a1
  refine g_dup w e40_3 (q := 4) rfl rfl ?_
  refine g_aloadN w e40_4 (q := 5) rfl rfl rfl ?_
  refine g_getF w e40_5 (q := 8) rfl (host := "") (Or.inl (Hw hw 111 rfl)) Via.refl F_severity_x (fun T w => ?_)
  refine g_aloadN w e40_8 (q := 9) rfl rfl rfl ?_
  refine g_static w (con_of l Z a0 hw k _ w.old) no0 e40_9 (q := 12) rfl rfl (Hw hw 127 rfl) (Hw hw 128 rfl) (Hw hw 59 rfl) (Hw hw 129 rfl) (by decide) pd16 rfl rfl (W := 3) (Nat.le_of_eq rfl) (by decide) (by decide) (by decide) (by decide) (fun T h v w gs C q => ?_)
  obtain ⟨o2, rfl, E, g_o2, X_o2, F_value_o2⟩ := q
  have z_o2 := Nat.le_trans E0.1 g_o2
  have ne_a1_o2 : a1 ≠ o2 := Nat.ne_of_lt (Nat.lt_of_lt_of_le X_a1.lt g_o2)
  have ne_li_o2 : li ≠ o2 := Nat.ne_of_lt (Nat.lt_of_lt_of_le X_li.lt g_o2)
  have ne_x_o2 : x ≠ o2 := Nat.ne_of_lt (Nat.lt_of_lt_of_le F_severity_x.lt g_o2)
  replace E0 := ext_trans E0 E
  replace F_severity_x := F_severity_x.ext E
  replace F_code_x := F_code_x.ext E
  replace F_arguments_x := F_arguments_x.ext E
  replace F_text_x := F_text_x.ext E
  replace X_li := X_li.ext E
  replace X_a1 := X_a1.ext E
  replace F_severity_a1 := F_severity_a1.ext E
  replace F_source_a1 := F_source_a1.ext E
  replace F_code_a1 := F_code_a1.ext E
  replace F_arguments_a1 := F_arguments_a1.ext E
  replace F_text_a1 := F_text_a1.ext E
  show Go p e below _ (State.setTop T (mkF m 12 #[.val (.ref x), .val (.ref k)] [(.ref o2), (.ref sv), (.ref a1), (.ref a1)]))
  refine g_aloadN w e40_12 (q := 13) rfl rfl rfl ?_
  refine g_getF w e40_13 (q := 16) rfl (host := "") (Or.inl (Hw hw 115 rfl)) Via.refl F_code_x (fun T w => ?_)
  refine g_aloadN w e40_16 (q := 17) rfl rfl rfl ?_
  refine g_getF w e40_17 (q := 20) rfl (host := "") (Or.inl (Hw hw 117 rfl)) Via.refl F_arguments_x (fun T w => ?_)
  refine g_aloadN w e40_20 (q := 21) rfl rfl rfl ?_
  refine g_getF w e40_21 (q := 24) rfl (host := "") (Or.inl (Hw hw 119 rfl)) Via.refl F_text_x (fun T w => ?_)
  refine g_special w (con_mi_d l Z a0 hw a1 sv o2 co li tx  _ w.old X_a1 F_severity_a1 F_source_a1 F_code_a1 F_arguments_a1 F_text_a1 n_a1 X_li) no0 e40_24 (q := 27) rfl rfl rfl (Hw hw 142 rfl) (Hw hw 66 rfl) (Hw hw 64 rfl) (Hw hw 67 rfl) (by decide) pd17 rfl rfl (W := 1) (Nat.le_of_eq rfl) (by decide) (by decide) (by decide) (by decide) (fun T h v w gs C q => ?_)
  obtain ⟨rfl, K, G_severity, G_source, G_code, G_arguments, G_text⟩ := q
  replace E0 := ext_keep E0 K z_a1
  have X0 := X_a1
  replace F_severity_x := F_severity_x.keep K (not1 ne_x_a1)
  replace F_code_x := F_code_x.keep K (not1 ne_x_a1)
  replace F_arguments_x := F_arguments_x.keep K (not1 ne_x_a1)
  replace F_text_x := F_text_x.keep K (not1 ne_x_a1)
  replace X_li := X_li.keep K
  replace X_a1 := X_a1.keep K
  replace X_o2 := X_o2.keep K
  replace F_value_o2 := F_value_o2.keep K (not1 ne_a1_o2.symm)
  replace F_severity_a1 := G_severity
  replace F_source_a1 := G_source
  replace F_code_a1 := G_code
  replace F_arguments_a1 := G_arguments
  replace F_text_a1 := G_text
  show Go p e below _ (State.setTop T (mkF m 27 #[.val (.ref x), .val (.ref k)] [(.ref a1)]))
  exact g_reta w e40_27 rfl rfl rfl (by decide) (by decide) ⟨_, o2, rfl, E0, z_a1, X_a1, F_severity_a1, F_source_a1, F_code_a1, F_arguments_a1, F_text_a1, X_o2, F_value_o2⟩
theorem e41_0 : decode jdk_45_method_3_code 0 = .ok (.aload_n 0, 1) := by decide +kernel
theorem e41_1 : decode jdk_45_method_3_code 1 = .ok (.getfield 7, 3) := by decide +kernel
theorem e41_4 : decode jdk_45_method_3_code 4 = .ok (.arraylength, 1) := by decide +kernel
theorem e41_5 : decode jdk_45_method_3_code 5 = .ok (.ireturn, 1) := by decide +kernel
theorem pn17 : plainName "java/util/ImmutableCollections$ListN" = true := by first | (simp [plainName, overriddenIn]; done) | decide +kernel
set_option maxRecDepth 65536 in
set_option maxHeartbeats 40000000 in
theorem con_lns (l : Launch) (Z : State) (a0 : Array Value) (hw : ∀ d ∈ tables_1, d.before a0 Z = true) (x u : Addr) (h0 : Heap) (O0 : Ext Z.heap h0) (F_e : Fld Z h0 x "java/util/ImmutableCollections$ListN" "elements" "[Ljava/lang/Object;" (.ref u)) (A_u : Ar Z h0 u (.object "java/lang/Object") []) :
    Con l Z consts_1 false (⟨"java/util/ImmutableCollections$ListN", "size", "()I"⟩ : MethodName) jdk_45_method_3_code 1 (some .int) [] ({ frames := 0, cells := 0, slots := 0, locals := 0 } : Room) #[(.ref x)] [] h0 (fun v h => v = some (.int 0) ∧ h = h0) := by
  refine Con.intro (Ls := #[.val (.ref x)]) (plainFor_of_name pn17) (own_EL hw) O0 (fun m => by first | (simp [entryFrame, mkF, argsToLocals, Value.category]; done) | rfl) (fun p e s m below meth cc_ T w sf_ => ?_)
  have E0 := ext_refl h0
  refine g_aloadN w e41_0 (q := 1) rfl rfl rfl ?_
  refine g_getF w e41_1 (q := 4) rfl (host := "") (Or.inl (Hw hw 195 rfl)) Via.refl F_e (fun T w => ?_)
  refine g_alen w e41_4 (q := 5) rfl A_u ?_
  show Go p e below _ (State.setTop T (mkF m 5 #[.val (.ref x)] [(.int (0 : Int32))]))
  exact g_reti w e41_5 rfl (by decide) (by decide) ⟨rfl, rfl⟩
theorem e42_0 : decode jdk_44_method_3_code 0 = .ok (.aload_n 0, 1) := by decide +kernel
theorem e42_1 : decode jdk_44_method_3_code 1 = .ok (.getfield 24, 3) := by decide +kernel
theorem e42_4 : decode jdk_44_method_3_code 4 = .ok (.getstatic 19, 3) := by decide +kernel
theorem e42_7 : decode jdk_44_method_3_code 7 = .ok (.if_acmp .eq 7, 3) := by decide +kernel
theorem e42_10 : decode jdk_44_method_3_code 10 = .ok (.iconst 2, 1) := by decide +kernel
theorem e42_11 : decode jdk_44_method_3_code 11 = .ok (.goto 4, 3) := by decide +kernel
theorem e42_14 : decode jdk_44_method_3_code 14 = .ok (.iconst 1, 1) := by decide +kernel
theorem e42_15 : decode jdk_44_method_3_code 15 = .ok (.ireturn, 1) := by decide +kernel
set_option maxRecDepth 65536 in
set_option maxHeartbeats 40000000 in
theorem con_l12s (l : Launch) (Z : State) (a0 : Array Value) (hw : ∀ d ∈ tables_1, d.before a0 Z = true) (x ic : Addr) (h0 : Heap) (O0 : Ext Z.heap h0) (F_e : Fld Z h0 x "java/util/ImmutableCollections$List12" "e1" "Ljava/lang/Object;" (.ref ic)) (SI_ : Sta Z Z.heap "java/util/ImmutableCollections" "EMPTY" "Ljava/lang/Object;" (.ref ic)) :
    Con l Z consts_1 false (⟨"java/util/ImmutableCollections$List12", "size", "()I"⟩ : MethodName) jdk_44_method_3_code 1 (some .int) [] ({ frames := 0, cells := 0, slots := 0, locals := 0 } : Room) #[(.ref x)] [] h0 (fun v h => v = some (.int 1) ∧ h = h0) := by
  refine Con.intro (Ls := #[.val (.ref x)]) (plainFor_of_name pn13) (own_EL hw) O0 (fun m => by first | (simp [entryFrame, mkF, argsToLocals, Value.category]; done) | rfl) (fun p e s m below meth cc_ T w sf_ => ?_)
  have E0 := ext_refl h0
  refine g_aloadN w e42_0 (q := 1) rfl rfl rfl ?_
  refine g_getF w e42_1 (q := 4) rfl (host := "") (Or.inl (Hw hw 325 rfl)) Via.refl F_e (fun T w => ?_)
  refine g_getSN w e42_4 (q := 7) rfl (Hw hw 324 rfl) Via.refl SI_ (fun T w => ?_)
  refine g_acY w e42_7 (by decide) (q := 14) (by decide) rfl rfl (Jvm.Free.XT.aa_eq_t rfl) ?_
  refine g_iconst w e42_14 (q := 15) rfl (v := (1 : Int32)) (by decide) ?_
  exact g_reti w e42_15 rfl (by decide) (by decide) ⟨rfl, rfl⟩
theorem e43_0 : decode jdk_44_method_5_code 0 = .ok (.iload_n 1, 1) := by decide +kernel
theorem e43_1 : decode jdk_44_method_5_code 1 = .ok (.ifCond .ne 8, 3) := by decide +kernel
theorem e43_4 : decode jdk_44_method_5_code 4 = .ok (.aload_n 0, 1) := by decide +kernel
theorem e43_5 : decode jdk_44_method_5_code 5 = .ok (.getfield 13, 3) := by decide +kernel
theorem e43_8 : decode jdk_44_method_5_code 8 = .ok (.areturn, 1) := by decide +kernel
theorem e43_9 : decode jdk_44_method_5_code 9 = .ok (.iload_n 1, 1) := by decide +kernel
theorem e43_10 : decode jdk_44_method_5_code 10 = .ok (.iconst 1, 1) := by decide +kernel
theorem e43_11 : decode jdk_44_method_5_code 11 = .ok (.if_icmp .ne 18, 3) := by decide +kernel
theorem e43_14 : decode jdk_44_method_5_code 14 = .ok (.aload_n 0, 1) := by decide +kernel
theorem e43_15 : decode jdk_44_method_5_code 15 = .ok (.getfield 24, 3) := by decide +kernel
theorem e43_18 : decode jdk_44_method_5_code 18 = .ok (.getstatic 19, 3) := by decide +kernel
theorem e43_21 : decode jdk_44_method_5_code 21 = .ok (.if_acmp .eq 8, 3) := by decide +kernel
theorem e43_24 : decode jdk_44_method_5_code 24 = .ok (.aload_n 0, 1) := by decide +kernel
theorem e43_25 : decode jdk_44_method_5_code 25 = .ok (.getfield 24, 3) := by decide +kernel
theorem e43_28 : decode jdk_44_method_5_code 28 = .ok (.areturn, 1) := by decide +kernel
theorem e43_29 : decode jdk_44_method_5_code 29 = .ok (.aload_n 0, 1) := by decide +kernel
theorem e43_30 : decode jdk_44_method_5_code 30 = .ok (.iload_n 1, 1) := by decide +kernel
theorem e43_31 : decode jdk_44_method_5_code 31 = .ok (.invokevirtual 27, 3) := by decide +kernel
theorem e43_34 : decode jdk_44_method_5_code 34 = .ok (.athrow, 1) := by decide +kernel
set_option maxRecDepth 65536 in
set_option maxHeartbeats 40000000 in
theorem con_l12g (l : Launch) (Z : State) (a0 : Array Value) (hw : ∀ d ∈ tables_1, d.before a0 Z = true) (x k : Addr) (h0 : Heap) (O0 : Ext Z.heap h0) (F_e : Fld Z h0 x "java/util/ImmutableCollections$List12" "e0" "Ljava/lang/Object;" (.ref k)) :
    Con l Z consts_1 false (⟨"java/util/ImmutableCollections$List12", "get", "(I)Ljava/lang/Object;"⟩ : MethodName) jdk_44_method_5_code 2 (some (.object "java/lang/Object")) [] ({ frames := 0, cells := 0, slots := 0, locals := 0 } : Room) #[(.ref x), (.int (0 : Int32))] [] h0 (fun v h => v = some (.ref k) ∧ h = h0) := by
  refine Con.intro (Ls := #[.val (.ref x), .val (.int (0 : Int32))]) (plainFor_of_name pn13) (own_EL hw) O0 (fun m => by first | (simp [entryFrame, mkF, argsToLocals, Value.category]; done) | rfl) (fun p e s m below meth cc_ T w sf_ => ?_)
  have E0 := ext_refl h0
  refine g_iloadN w e43_0 (q := 1) rfl rfl ?_
  refine g_ifN w e43_1 (q := 4) rfl (by decide) ?_
  refine g_aloadN w e43_4 (q := 5) rfl rfl rfl ?_
  refine g_getF w e43_5 (q := 8) rfl (host := "") (Or.inl (Hw hw 322 rfl)) Via.refl F_e (fun T w => ?_)
  exact g_reta w e43_8 rfl rfl rfl (by decide) (by decide) ⟨rfl, rfl⟩
theorem e44_0 : decode jdk_33_method_27_code 0 = .ok (.aload_n 0, 1) := by decide +kernel
theorem e44_1 : decode jdk_33_method_27_code 1 = .ok (.getfield 205, 3) := by decide +kernel
theorem e44_4 : decode jdk_33_method_27_code 4 = .ok (.ireturn, 1) := by decide +kernel
set_option maxRecDepth 65536 in
set_option maxHeartbeats 40000000 in
theorem con_iv (l : Launch) (Z : State) (a0 : Array Value) (hw : ∀ d ∈ tables_1, d.before a0 Z = true) (x : Addr) (iv : Int32) (h0 : Heap) (O0 : Ext Z.heap h0) (F_e : Fld Z h0 x "java/lang/Integer" "value" "I" (.int iv)) :
    Con l Z consts_1 false (⟨"java/lang/Integer", "intValue", "()I"⟩ : MethodName) jdk_33_method_27_code 1 (some .int) [] ({ frames := 0, cells := 0, slots := 0, locals := 0 } : Room) #[(.ref x)] [] h0 (fun v h => v = some (.int iv) ∧ h = h0) := by
  refine Con.intro (Ls := #[.val (.ref x)]) (plainFor_of_name pn11) (own_EL hw) O0 (fun m => by first | (simp [entryFrame, mkF, argsToLocals, Value.category]; done) | rfl) (fun p e s m below meth cc_ T w sf_ => ?_)
  have E0 := ext_refl h0
  refine g_aloadN w e44_0 (q := 1) rfl rfl rfl ?_
  refine g_getF w e44_1 (q := 4) rfl (host := "") (Or.inl (Hw hw 232 rfl)) Via.refl F_e (fun T w => ?_)
  exact g_reti w e44_4 rfl (by decide) (by decide) ⟨rfl, rfl⟩
theorem e45_0 : decode jdk_33_method_22_code 0 = .ok (.iload_n 0, 1) := by decide +kernel
theorem e45_1 : decode jdk_33_method_22_code 1 = .ok (.bipush (-128), 2) := by decide +kernel
theorem e45_3 : decode jdk_33_method_22_code 3 = .ok (.if_icmp .lt 20, 3) := by decide +kernel
theorem e45_6 : decode jdk_33_method_22_code 6 = .ok (.iload_n 0, 1) := by decide +kernel
theorem e45_7 : decode jdk_33_method_22_code 7 = .ok (.getstatic 191, 3) := by decide +kernel
theorem e45_10 : decode jdk_33_method_22_code 10 = .ok (.if_icmp .gt 13, 3) := by decide +kernel
theorem e45_13 : decode jdk_33_method_22_code 13 = .ok (.getstatic 195, 3) := by decide +kernel
theorem e45_16 : decode jdk_33_method_22_code 16 = .ok (.iload_n 0, 1) := by decide +kernel
theorem e45_17 : decode jdk_33_method_22_code 17 = .ok (.sipush 128, 3) := by decide +kernel
theorem e45_20 : decode jdk_33_method_22_code 20 = .ok (.iadd, 1) := by decide +kernel
theorem e45_21 : decode jdk_33_method_22_code 21 = .ok (.aaload, 1) := by decide +kernel
theorem e45_22 : decode jdk_33_method_22_code 22 = .ok (.areturn, 1) := by decide +kernel
theorem e45_23 : decode jdk_33_method_22_code 23 = .ok (.new 1, 3) := by decide +kernel
theorem e45_26 : decode jdk_33_method_22_code 26 = .ok (.dup, 1) := by decide +kernel
theorem e45_27 : decode jdk_33_method_22_code 27 = .ok (.iload_n 0, 1) := by decide +kernel
theorem e45_28 : decode jdk_33_method_22_code 28 = .ok (.invokespecial 199, 3) := by decide +kernel
theorem e45_31 : decode jdk_33_method_22_code 31 = .ok (.areturn, 1) := by decide +kernel
theorem pd18 : parseMethodDescriptor "(I)V" = some ⟨[.int], none⟩ := by decide +kernel
set_option maxRecDepth 65536 in
set_option maxHeartbeats 40000000 in
theorem con_vo (l : Launch) (Z : State) (a0 : Array Value) (hw : ∀ d ∈ tables_1, d.before a0 Z = true) (ca : Addr) (ck_ : Cell) (i_ : Int32) (h0 : Heap) (O0 : Ext Z.heap h0) (SH_ : Sta Z Z.heap "java/lang/Integer$IntegerCache" "high" "I" (.int 127)) (SK_ : Sta Z Z.heap "java/lang/Integer$IntegerCache" "cache" "[Ljava/lang/Integer;" (.ref ca)) (BX_ : Bxs Z ca ck_ "java/lang/Integer" "I" 256 (fun j => .int (j - 128))) :
    Con l Z consts_1 false (⟨"java/lang/Integer", "valueOf", "(I)Ljava/lang/Integer;"⟩ : MethodName) jdk_33_method_22_code 1 (some (.object "java/lang/Integer")) [] ({ frames := 3, cells := 1, slots := 1, locals := 38 } : Room) #[(.int i_)] [] h0 (fun v h => ∃ ev, v = some (.ref ev) ∧ Ext h0 h ∧ (h0.size ≤ ev ∨ ev < Z.heap.size) ∧ Exa Z h ev "java/lang/Integer" ∧ Fld Z h ev "java/lang/Integer" "value" "I" (.int i_)) := by
  refine Con.intro (Ls := #[.val (.int i_)]) (plainFor_of_name pn11) (own_EL hw) O0 (fun m => by first | (simp [entryFrame, mkF, argsToLocals, Value.category]; done) | rfl) (fun p e s m below meth cc_ T w sf_ => ?_)
  have E0 := ext_refl h0
  refine g_iloadN w e45_0 (q := 1) rfl rfl ?_
  refine g_bipush w e45_1 (q := 3) rfl (v := (-128 : Int32)) (by decide) ?_
  refine g_ic_lt w e45_3 (by decide) (q := 23) (by decide) (q' := 6) rfl (fun cd1 => ?_) (fun cd1 => ?_)
  · refine g_new w e45_23 (q := 26) rfl (Hw hw 219 rfl) (Hw hw 220 rfl) (Hw hw 217 rfl) (by decide) (by decide) (fun T h a2 w E g_a2 n_a2 X_a2 D_a2 s_a2 => ?_)
    have z_a2 := Nat.le_trans E0.1 g_a2
    replace E0 := ext_trans E0 E
    have F_value_a2 := D_a2 (Or.inr (Hw hw 233 rfl)) (ty := .int) (by decide)
    replace F_value_a2 : Fld Z h a2 "java/lang/Integer" "value" "I" (.int (0 : Int32)) := F_value_a2
    refine g_dup w e45_26 (q := 27) rfl rfl ?_
    refine g_iloadN w e45_27 (q := 28) rfl rfl ?_
    refine g_special w (con_int l Z a0 hw a2 i_ _ w.old X_a2 F_value_a2 n_a2) no0 e45_28 (q := 31) rfl rfl rfl (Hw hw 221 rfl) (Hw hw 222 rfl) (Hw hw 217 rfl) (Hw hw 224 rfl) (by decide) pd18 rfl rfl (W := 1) (Nat.le_of_eq rfl) (by decide) (by decide) (by decide) (by decide) (fun T h v w gs C q => ?_)
    obtain ⟨rfl, K, G_value⟩ := q
    replace E0 := ext_keep E0 K z_a2
    have X0 := X_a2
    replace X_a2 := X_a2.keep K
    replace F_value_a2 := G_value
    show Go p e below _ (State.setTop T (mkF m 31 #[.val (.int i_)] [(.ref a2)]))
    exact g_reta w e45_31 rfl rfl rfl (by decide) (by decide) ⟨_, rfl, E0, Or.inl z_a2, X_a2, F_value_a2⟩
  · refine g_iloadN w e45_6 (q := 7) rfl rfl ?_
    refine g_getS w e45_7 (q := 10) rfl (Hw hw 350 rfl) Via.refl SH_ (fun T w => ?_)
    refine g_ic_gt w e45_10 (by decide) (q := 23) (by decide) (q' := 13) rfl (fun cd3 => ?_) (fun cd3 => ?_)
    · refine g_new w e45_23 (q := 26) rfl (Hw hw 219 rfl) (Hw hw 220 rfl) (Hw hw 217 rfl) (by decide) (by decide) (fun T h a4 w E g_a4 n_a4 X_a4 D_a4 s_a4 => ?_)
      have z_a4 := Nat.le_trans E0.1 g_a4
      replace E0 := ext_trans E0 E
      have F_value_a4 := D_a4 (Or.inr (Hw hw 233 rfl)) (ty := .int) (by decide)
      replace F_value_a4 : Fld Z h a4 "java/lang/Integer" "value" "I" (.int (0 : Int32)) := F_value_a4
      refine g_dup w e45_26 (q := 27) rfl rfl ?_
      refine g_iloadN w e45_27 (q := 28) rfl rfl ?_
      refine g_special w (con_int l Z a0 hw a4 i_ _ w.old X_a4 F_value_a4 n_a4) no0 e45_28 (q := 31) rfl rfl rfl (Hw hw 221 rfl) (Hw hw 222 rfl) (Hw hw 217 rfl) (Hw hw 224 rfl) (by decide) pd18 rfl rfl (W := 1) (Nat.le_of_eq rfl) (by decide) (by decide) (by decide) (by decide) (fun T h v w gs C q => ?_)
      obtain ⟨rfl, K, G_value⟩ := q
      replace E0 := ext_keep E0 K z_a4
      have X0 := X_a4
      replace X_a4 := X_a4.keep K
      replace F_value_a4 := G_value
      show Go p e below _ (State.setTop T (mkF m 31 #[.val (.int i_)] [(.ref a4)]))
      exact g_reta w e45_31 rfl rfl rfl (by decide) (by decide) ⟨_, rfl, E0, Or.inl z_a4, X_a4, F_value_a4⟩
    · refine g_getS w e45_13 (q := 16) rfl (Hw hw 352 rfl) Via.refl SK_ (fun T w => ?_)
      refine g_iloadN w e45_16 (q := 17) rfl rfl ?_
      refine g_sipush w e45_17 (q := 20) rfl (v := (128 : Int32)) (by decide) ?_
      refine g_iadd w e45_20 (q := 21) rfl ?_
      refine g_aaloadB w e45_21 (q := 22) rfl BX_ (vo_in cd1 cd3) (fun bx xb fb => ?_)
      have X_bx := xb.ext w.old
      have F_bx := fb.ext w.old
      exact g_reta w e45_22 rfl rfl rfl (by decide) (by decide) ⟨bx, rfl, E0, Or.inr xb.lt, X_bx, by rw [show (i_ + 128) - 128 = i_ from by simp] at F_bx; exact F_bx⟩
theorem e46_0 : decode method_3_code 0 = .ok (.iload_n 0, 1) := by decide +kernel
theorem e46_1 : decode method_3_code 1 = .ok (.ldc 12, 2) := by decide +kernel
theorem e46_3 : decode method_3_code 3 = .ok (.iand, 1) := by decide +kernel
theorem e46_4 : decode method_3_code 4 = .ok (.iconst 3, 1) := by decide +kernel
theorem e46_5 : decode method_3_code 5 = .ok (.irem, 1) := by decide +kernel
theorem e46_6 : decode method_3_code 6 = .ok (.istore_n 1, 1) := by decide +kernel
theorem e46_7 : decode method_3_code 7 = .ok (.iload_n 1, 1) := by decide +kernel
theorem e46_8 : decode method_3_code 8 = .ok (.ifCond .ne 7, 3) := by decide +kernel
theorem e46_11 : decode method_3_code 11 = .ok (.getstatic 13, 3) := by decide +kernel
theorem e46_14 : decode method_3_code 14 = .ok (.areturn, 1) := by decide +kernel
theorem e46_15 : decode method_3_code 15 = .ok (.iload_n 1, 1) := by decide +kernel
theorem e46_16 : decode method_3_code 16 = .ok (.iconst 1, 1) := by decide +kernel
theorem e46_17 : decode method_3_code 17 = .ok (.if_icmp .ne 7, 3) := by decide +kernel
theorem e46_20 : decode method_3_code 20 = .ok (.getstatic 19, 3) := by decide +kernel
theorem e46_23 : decode method_3_code 23 = .ok (.areturn, 1) := by decide +kernel
theorem e46_24 : decode method_3_code 24 = .ok (.getstatic 22, 3) := by decide +kernel
theorem e46_27 : decode method_3_code 27 = .ok (.areturn, 1) := by decide +kernel
set_option maxRecDepth 65536 in
set_option maxHeartbeats 40000000 in
theorem con_sev (l : Launch) (Z : State) (a0 : Array Value) (hw : ∀ d ∈ tables_1, d.before a0 Z = true) (s0 s1 s2 : Addr) (i_ : Int32) (h0 : Heap) (O0 : Ext Z.heap h0) (S0_ : Sta Z Z.heap "com/example/stepwize/stepwize/engine/Message$Severity" "INFO" "Lcom/example/stepwize/stepwize/engine/Message$Severity;" (.ref s0)) (S1_ : Sta Z Z.heap "com/example/stepwize/stepwize/engine/Message$Severity" "WARNING" "Lcom/example/stepwize/stepwize/engine/Message$Severity;" (.ref s1)) (S2_ : Sta Z Z.heap "com/example/stepwize/stepwize/engine/Message$Severity" "ERROR" "Lcom/example/stepwize/stepwize/engine/Message$Severity;" (.ref s2)) :
    Con l Z consts_1 false (⟨"com/example/stepwize/stepwize/engine/MessageAboutPinLaw", "sev", "(I)Lcom/example/stepwize/stepwize/engine/Message$Severity;"⟩ : MethodName) method_3_code 2 (some (.object "com/example/stepwize/stepwize/engine/Message$Severity")) [] ({ frames := 0, cells := 0, slots := 0, locals := 0 } : Room) #[(.int i_)] [] h0 (fun v h => (∃ sv, v = some (.ref sv)) ∧ h = h0) := by
  refine Con.intro (Ls := #[.val (.int i_), .unset]) (plainFor_of_name pn6) (own_EL hw) O0 (fun m => by first | (simp [entryFrame, mkF, argsToLocals, Value.category]; done) | rfl) (fun p e s m below meth cc_ T w sf_ => ?_)
  have E0 := ext_refl h0
  refine g_iloadN w e46_0 (q := 1) rfl rfl ?_
  refine g_ldcI w e46_1 (q := 3) rfl (v := (2147483647 : Int32)) (Hw hw 4 rfl) ?_
  refine g_iand w e46_3 (q := 4) rfl ?_
  refine g_iconst w e46_4 (q := 5) rfl (v := (3 : Int32)) (by decide) ?_
  refine g_irem w e46_5 (q := 6) rfl (by decide) ?_
  refine g_istoreN w e46_6 (q := 7) rfl (Ls' := #[.val (.int i_), .val (.int ((i_ &&& (2147483647 : Int32)) % (3 : Int32)))]) rfl ?_
  refine g_iloadN w e46_7 (q := 8) rfl rfl ?_
  refine g_if_ne w e46_8 (by decide) (q := 15) (by decide) (q' := 11) rfl (fun cd1 => ?_) (fun cd1 => ?_)
  · refine g_iloadN w e46_15 (q := 16) rfl rfl ?_
    refine g_iconst w e46_16 (q := 17) rfl (v := (1 : Int32)) (by decide) ?_
    refine g_ic_ne w e46_17 (by decide) (q := 24) (by decide) (q' := 20) rfl (fun cd2 => ?_) (fun cd2 => ?_)
    · refine g_getS w e46_24 (q := 27) rfl (Hw hw 347 rfl) Via.refl S2_ (fun T w => ?_)
      exact g_reta w e46_27 rfl rfl rfl (by decide) (by decide) ⟨⟨_, rfl⟩, rfl⟩
    · refine g_getS w e46_20 (q := 23) rfl (Hw hw 202 rfl) Via.refl S1_ (fun T w => ?_)
      exact g_reta w e46_23 rfl rfl rfl (by decide) (by decide) ⟨⟨_, rfl⟩, rfl⟩
  · refine g_getS w e46_11 (q := 14) rfl (Hw hw 5 rfl) Via.refl S0_ (fun T w => ?_)
    exact g_reta w e46_14 rfl rfl rfl (by decide) (by decide) ⟨⟨_, rfl⟩, rfl⟩
theorem pd19 : parseMethodDescriptor "(I)Lcom/example/stepwize/stepwize/engine/Message$Severity;" = some ⟨[.int], some (.object "com/example/stepwize/stepwize/engine/Message$Severity")⟩ := by decide +kernel
theorem pd20 : parseMethodDescriptor "(I)Ljava/lang/String;" = some ⟨[.int], some (.object "java/lang/String")⟩ := by decide +kernel
theorem pd21 : parseMethodDescriptor "()Ljava/util/Optional;" = some ⟨[], some (.object "java/util/Optional")⟩ := by decide +kernel
theorem pd22 : parseMethodDescriptor "(Ljava/lang/String;)Lcom/example/stepwize/stepwize/engine/Message;" = some ⟨[(.object "java/lang/String")], some (.object "com/example/stepwize/stepwize/engine/Message")⟩ := by decide +kernel
theorem pd23 : parseMethodDescriptor "()Lcom/example/stepwize/stepwize/engine/Message$Severity;" = some ⟨[], some (.object "com/example/stepwize/stepwize/engine/Message$Severity")⟩ := by decide +kernel
theorem pd24 : parseMethodDescriptor "()Ljava/lang/Object;" = some ⟨[], some (.object "java/lang/Object")⟩ := by decide +kernel
theorem pd25 : parseMethodDescriptor "(Ljava/lang/Object;)Z" = some ⟨[(.object "java/lang/Object")], some .boolean⟩ := by decide +kernel
theorem pd26 : parseMethodDescriptor "()I" = some ⟨[], some .int⟩ := by decide +kernel
theorem pd27 : parseMethodDescriptor "()Ljava/lang/String;" = some ⟨[], some (.object "java/lang/String")⟩ := by decide +kernel
theorem pd28 : parseMethodDescriptor "(I)Ljava/lang/Integer;" = some ⟨[.int], some (.object "java/lang/Integer")⟩ := by decide +kernel
theorem pd29 : parseMethodDescriptor "(I)Ljava/lang/Object;" = some ⟨[.int], some (.object "java/lang/Object")⟩ := by decide +kernel
set_option maxRecDepth 65536 in
set_option maxHeartbeats 40000000 in
theorem con_law (l : Launch) (Z : State) (a0 : Array Value) (hw : ∀ d ∈ tables_1, d.before a0 Z = true) (em df el ee ic ca mr s0 s1 s2 : Addr) (ck_ : Cell) (fl j1 j2 j3 av j5 : Int32) (h0 : Heap) (O0 : Ext Z.heap h0) (hcm : Cpt Z) (SE_ : Sta Z Z.heap "java/util/Optional" "EMPTY" "Ljava/util/Optional;" (.ref em)) (XE_ : Exa Z Z.heap em "java/util/Optional") (FE_ : Fld Z Z.heap em "java/util/Optional" "value" "Ljava/lang/Object;" .null) (SD_ : Sta Z Z.heap "java/util/ArrayList" "DEFAULTCAPACITY_EMPTY_ELEMENTDATA" "[Ljava/lang/Object;" (.ref df)) (AD_ : Ar Z Z.heap df (.object "java/lang/Object") []) (SL_ : Sta Z Z.heap "java/util/ImmutableCollections" "EMPTY_LIST" "Ljava/util/ImmutableCollections$ListN;" (.ref el)) (XL_ : Exa Z Z.heap el "java/util/ImmutableCollections$ListN") (FLe_ : Fld Z Z.heap el "java/util/ImmutableCollections$ListN" "elements" "[Ljava/lang/Object;" (.ref ee)) (AL0_ : Ar Z Z.heap ee (.object "java/lang/Object") []) (FLa_ : Fld Z Z.heap el "java/util/ImmutableCollections$ListN" "allowNulls" "Z" (.int 0)) (SI_ : Sta Z Z.heap "java/util/ImmutableCollections" "EMPTY" "Ljava/lang/Object;" (.ref ic)) (SH_ : Sta Z Z.heap "java/lang/Integer$IntegerCache" "high" "I" (.int 127)) (SK_ : Sta Z Z.heap "java/lang/Integer$IntegerCache" "cache" "[Ljava/lang/Integer;" (.ref ca)) (BX_ : Bxs Z ca ck_ "java/lang/Integer" "I" 256 (fun j => .int (j - 128))) (MR_ : Mir Z "[Ljava/lang/Object;" mr) (S0_ : Sta Z Z.heap "com/example/stepwize/stepwize/engine/Message$Severity" "INFO" "Lcom/example/stepwize/stepwize/engine/Message$Severity;" (.ref s0)) (S1_ : Sta Z Z.heap "com/example/stepwize/stepwize/engine/Message$Severity" "WARNING" "Lcom/example/stepwize/stepwize/engine/Message$Severity;" (.ref s1)) (S2_ : Sta Z Z.heap "com/example/stepwize/stepwize/engine/Message$Severity" "ERROR" "Lcom/example/stepwize/stepwize/engine/Message$Severity;" (.ref s2)) :
    Con l Z consts_1 false x code maxLocals ret tables_1 room_1 #[(.int fl), (.int j1), (.int j2), (.int j3), (.int av), (.int j5)] [] h0 (fun v h => v = some (.int 1)) := by
  refine Con.intro (Ls := #[.val (.int fl), .val (.int j1), .val (.int j2), .val (.int j3), .val (.int av), .val (.int j5), .unset, .unset, .unset, .unset, .unset, .unset, .unset, .unset, .unset, .unset, .unset, .unset, .unset, .unset, .unset, .unset, .unset]) (plainFor_of_name pn6) (own_EL hw) O0 (fun m => by first | (simp [entryFrame, mkF, argsToLocals, Value.category, maxLocals]; done) | rfl) (fun p e s m below meth cc_ T w sf_ => ?_)
  have E0 := ext_refl h0
  obtain ⟨z_, hz_, SC_⟩ := id hcm
  refine g_iloadN w at_0 (q := 1) rfl rfl ?_
  refine g_staticP w (con_sev l Z a0 hw s0 s1 s2 fl _ w.old S0_ S1_ S2_) no0 at_1 (q := 4) rfl rfl (Hw hw 0 rfl) (Hw hw 1 rfl) (Hw hw 2 rfl) (Hw hw 3 rfl) (by decide) pd19 rfl rfl (W := 0) (Nat.le_of_eq rfl) (by decide) (by decide) (by decide) (by decide) (fun T v w C q => ?_)
  obtain ⟨sv, rfl⟩ := q
  show Go p e below _ (State.setTop T (mkF m 4 #[.val (.int fl), .val (.int j1), .val (.int j2), .val (.int j3), .val (.int av), .val (.int j5), .unset, .unset, .unset, .unset, .unset, .unset, .unset, .unset, .unset, .unset, .unset, .unset, .unset, .unset, .unset, .unset, .unset] [(.ref sv)]))
  refine g_astore w at_4 (q := 6) rfl rfl (Ls' := #[.val (.int fl), .val (.int j1), .val (.int j2), .val (.int j3), .val (.int av), .val (.int j5), .val (.ref sv), .unset, .unset, .unset, .unset, .unset, .unset, .unset, .unset, .unset, .unset, .unset, .unset, .unset, .unset, .unset, .unset]) rfl ?_
  refine g_iloadN w at_6 (q := 7) rfl rfl ?_
  refine g_bipush w at_7 (q := 9) rfl (v := (8 : Int32)) (by decide) ?_
  refine g_iushr w at_9 (q := 10) rfl ?_
  refine g_iconst w at_10 (q := 11) rfl (v := (1 : Int32)) (by decide) ?_
  refine g_iand w at_11 (q := 12) rfl ?_
  refine g_if_eq w at_12 (by decide) (q := 19) (by decide) (q' := 15) rfl (fun cd1 => ?_) (fun cd1 => ?_)
  · refine g_iconst w at_19 (q := 20) rfl (v := (0 : Int32)) (by decide) ?_
    refine g_istore w at_20 (q := 22) rfl (Ls' := #[.val (.int fl), .val (.int j1), .val (.int j2), .val (.int j3), .val (.int av), .val (.int j5), .val (.ref sv), .val (.int (0 : Int32)), .unset, .unset, .unset, .unset, .unset, .unset, .unset, .unset, .unset, .unset, .unset, .unset, .unset, .unset, .unset]) rfl ?_
    refine g_iloadN w at_22 (q := 23) rfl rfl ?_
    refine g_bipush w at_23 (q := 25) rfl (v := (9 : Int32)) (by decide) ?_
    refine g_iushr w at_25 (q := 26) rfl ?_
    refine g_iconst w at_26 (q := 27) rfl (v := (1 : Int32)) (by decide) ?_
    refine g_iand w at_27 (q := 28) rfl ?_
    refine g_if_eq w at_28 (by decide) (q := 35) (by decide) (q' := 31) rfl (fun cd2 => ?_) (fun cd2 => ?_)
    · refine g_iconst w at_35 (q := 36) rfl (v := (0 : Int32)) (by decide) ?_
      refine g_istore w at_36 (q := 38) rfl (Ls' := #[.val (.int fl), .val (.int j1), .val (.int j2), .val (.int j3), .val (.int av), .val (.int j5), .val (.ref sv), .val (.int (0 : Int32)), .val (.int (0 : Int32)), .unset, .unset, .unset, .unset, .unset, .unset, .unset, .unset, .unset, .unset, .unset, .unset, .unset, .unset]) rfl ?_
      refine g_iloadN w at_38 (q := 39) rfl rfl ?_
      refine g_bipush w at_39 (q := 41) rfl (v := (10 : Int32)) (by decide) ?_
      refine g_iushr w at_41 (q := 42) rfl ?_
      refine g_iconst w at_42 (q := 43) rfl (v := (1 : Int32)) (by decide) ?_
      refine g_iand w at_43 (q := 44) rfl ?_
      refine g_if_eq w at_44 (by decide) (q := 51) (by decide) (q' := 47) rfl (fun cd3 => ?_) (fun cd3 => ?_)
      · refine g_iconst w at_51 (q := 52) rfl (v := (0 : Int32)) (by decide) ?_
        refine g_istore w at_52 (q := 54) rfl (Ls' := #[.val (.int fl), .val (.int j1), .val (.int j2), .val (.int j3), .val (.int av), .val (.int j5), .val (.ref sv), .val (.int (0 : Int32)), .val (.int (0 : Int32)), .val (.int (0 : Int32)), .unset, .unset, .unset, .unset, .unset, .unset, .unset, .unset, .unset, .unset, .unset, .unset, .unset]) rfl ?_
        refine g_iloadN w at_54 (q := 55) rfl rfl ?_
        refine g_static w (con_str l Z a0 hw j1 _ w.old hcm) no0 at_55 (q := 58) rfl rfl (Hw hw 8 rfl) (Hw hw 9 rfl) (Hw hw 2 rfl) (Hw hw 10 rfl) (by decide) pd20 rfl rfl (W := 0) (Nat.le_of_eq rfl) (by decide) (by decide) (by decide) (by decide) (fun T h v w gs C q => ?_)
        obtain ⟨x4, rfl, E, g_x4, X_x4⟩ := q
        have z_x4 := Nat.le_trans E0.1 g_x4
        replace E0 := ext_trans E0 E
        show Go p e below _ (State.setTop T (mkF m 58 #[.val (.int fl), .val (.int j1), .val (.int j2), .val (.int j3), .val (.int av), .val (.int j5), .val (.ref sv), .val (.int (0 : Int32)), .val (.int (0 : Int32)), .val (.int (0 : Int32)), .unset, .unset, .unset, .unset, .unset, .unset, .unset, .unset, .unset, .unset, .unset, .unset, .unset] [(.ref x4)]))
        refine g_astore w at_58 (q := 60) rfl rfl (Ls' := #[.val (.int fl), .val (.int j1), .val (.int j2), .val (.int j3), .val (.int av), .val (.int j5), .val (.ref sv), .val (.int (0 : Int32)), .val (.int (0 : Int32)), .val (.int (0 : Int32)), .val (.ref x4), .unset, .unset, .unset, .unset, .unset, .unset, .unset, .unset, .unset, .unset, .unset, .unset]) rfl ?_
        refine g_iloadN w at_60 (q := 61) rfl rfl ?_
        refine g_static w (con_str l Z a0 hw j2 _ w.old hcm) no0 at_61 (q := 64) rfl rfl (Hw hw 8 rfl) (Hw hw 9 rfl) (Hw hw 2 rfl) (Hw hw 10 rfl) (by decide) pd20 rfl rfl (W := 0) (Nat.le_of_eq rfl) (by decide) (by decide) (by decide) (by decide) (fun T h v w gs C q => ?_)
        obtain ⟨x5, rfl, E, g_x5, X_x5⟩ := q
        have z_x5 := Nat.le_trans E0.1 g_x5
        have ne_x4_x5 : x4 ≠ x5 := Nat.ne_of_lt (Nat.lt_of_lt_of_le X_x4.lt g_x5)
        replace E0 := ext_trans E0 E
        replace X_x4 := X_x4.ext E
        show Go p e below _ (State.setTop T (mkF m 64 #[.val (.int fl), .val (.int j1), .val (.int j2), .val (.int j3), .val (.int av), .val (.int j5), .val (.ref sv), .val (.int (0 : Int32)), .val (.int (0 : Int32)), .val (.int (0 : Int32)), .val (.ref x4), .unset, .unset, .unset, .unset, .unset, .unset, .unset, .unset, .unset, .unset, .unset, .unset] [(.ref x5)]))
        refine g_astore w at_64 (q := 66) rfl rfl (Ls' := #[.val (.int fl), .val (.int j1), .val (.int j2), .val (.int j3), .val (.int av), .val (.int j5), .val (.ref sv), .val (.int (0 : Int32)), .val (.int (0 : Int32)), .val (.int (0 : Int32)), .val (.ref x4), .val (.ref x5), .unset, .unset, .unset, .unset, .unset, .unset, .unset, .unset, .unset, .unset, .unset]) rfl ?_
        refine g_iloadN w at_66 (q := 67) rfl rfl ?_
        refine g_static w (con_str l Z a0 hw j3 _ w.old hcm) no0 at_67 (q := 70) rfl rfl (Hw hw 8 rfl) (Hw hw 9 rfl) (Hw hw 2 rfl) (Hw hw 10 rfl) (by decide) pd20 rfl rfl (W := 0) (Nat.le_of_eq rfl) (by decide) (by decide) (by decide) (by decide) (fun T h v w gs C q => ?_)
        obtain ⟨x6, rfl, E, g_x6, X_x6⟩ := q
        have z_x6 := Nat.le_trans E0.1 g_x6
        have ne_x4_x6 : x4 ≠ x6 := Nat.ne_of_lt (Nat.lt_of_lt_of_le X_x4.lt g_x6)
        have ne_x5_x6 : x5 ≠ x6 := Nat.ne_of_lt (Nat.lt_of_lt_of_le X_x5.lt g_x6)
        replace E0 := ext_trans E0 E
        replace X_x4 := X_x4.ext E
        replace X_x5 := X_x5.ext E
        show Go p e below _ (State.setTop T (mkF m 70 #[.val (.int fl), .val (.int j1), .val (.int j2), .val (.int j3), .val (.int av), .val (.int j5), .val (.ref sv), .val (.int (0 : Int32)), .val (.int (0 : Int32)), .val (.int (0 : Int32)), .val (.ref x4), .val (.ref x5), .unset, .unset, .unset, .unset, .unset, .unset, .unset, .unset, .unset, .unset, .unset] [(.ref x6)]))
        refine g_astore w at_70 (q := 72) rfl rfl (Ls' := #[.val (.int fl), .val (.int j1), .val (.int j2), .val (.int j3), .val (.int av), .val (.int j5), .val (.ref sv), .val (.int (0 : Int32)), .val (.int (0 : Int32)), .val (.int (0 : Int32)), .val (.ref x4), .val (.ref x5), .val (.ref x6), .unset, .unset, .unset, .unset, .unset, .unset, .unset, .unset, .unset, .unset]) rfl ?_
        refine g_iload w at_72 (q := 74) rfl rfl ?_
        refine g_static w (con_str l Z a0 hw j5 _ w.old hcm) no0 at_74 (q := 77) rfl rfl (Hw hw 8 rfl) (Hw hw 9 rfl) (Hw hw 2 rfl) (Hw hw 10 rfl) (by decide) pd20 rfl rfl (W := 0) (Nat.le_of_eq rfl) (by decide) (by decide) (by decide) (by decide) (fun T h v w gs C q => ?_)
        obtain ⟨x7, rfl, E, g_x7, X_x7⟩ := q
        have z_x7 := Nat.le_trans E0.1 g_x7
        have ne_x4_x7 : x4 ≠ x7 := Nat.ne_of_lt (Nat.lt_of_lt_of_le X_x4.lt g_x7)
        have ne_x5_x7 : x5 ≠ x7 := Nat.ne_of_lt (Nat.lt_of_lt_of_le X_x5.lt g_x7)
        have ne_x6_x7 : x6 ≠ x7 := Nat.ne_of_lt (Nat.lt_of_lt_of_le X_x6.lt g_x7)
        replace E0 := ext_trans E0 E
        replace X_x4 := X_x4.ext E
        replace X_x5 := X_x5.ext E
        replace X_x6 := X_x6.ext E
        show Go p e below _ (State.setTop T (mkF m 77 #[.val (.int fl), .val (.int j1), .val (.int j2), .val (.int j3), .val (.int av), .val (.int j5), .val (.ref sv), .val (.int (0 : Int32)), .val (.int (0 : Int32)), .val (.int (0 : Int32)), .val (.ref x4), .val (.ref x5), .val (.ref x6), .unset, .unset, .unset, .unset, .unset, .unset, .unset, .unset, .unset, .unset] [(.ref x7)]))
        refine g_astore w at_77 (q := 79) rfl rfl (Ls' := #[.val (.int fl), .val (.int j1), .val (.int j2), .val (.int j3), .val (.int av), .val (.int j5), .val (.ref sv), .val (.int (0 : Int32)), .val (.int (0 : Int32)), .val (.int (0 : Int32)), .val (.ref x4), .val (.ref x5), .val (.ref x6), .val (.ref x7), .unset, .unset, .unset, .unset, .unset, .unset, .unset, .unset, .unset]) rfl ?_
        refine g_new w at_79 (q := 82) rfl (Hw hw 33 rfl) (Hw hw 34 rfl) (Hw hw 35 rfl) (by decide) (by decide) (fun T h a8 w E g_a8 n_a8 X_a8 D_a8 s_a8 => ?_)
        have z_a8 := Nat.le_trans E0.1 g_a8
        have ne_x4_a8 : x4 ≠ a8 := Nat.ne_of_lt (Nat.lt_of_lt_of_le X_x4.lt g_a8)
        have ne_x5_a8 : x5 ≠ a8 := Nat.ne_of_lt (Nat.lt_of_lt_of_le X_x5.lt g_a8)
        have ne_x6_a8 : x6 ≠ a8 := Nat.ne_of_lt (Nat.lt_of_lt_of_le X_x6.lt g_a8)
        have ne_x7_a8 : x7 ≠ a8 := Nat.ne_of_lt (Nat.lt_of_lt_of_le X_x7.lt g_a8)
        replace E0 := ext_trans E0 E
        replace X_x4 := X_x4.ext E
        replace X_x5 := X_x5.ext E
        replace X_x6 := X_x6.ext E
        replace X_x7 := X_x7.ext E
        have F_modCount_a8 := D_a8 (Or.inl (Hw hw 53 rfl)) (ty := .int) (by decide)
        replace F_modCount_a8 : Fld Z h a8 "java/util/AbstractList" "modCount" "I" (.int (0 : Int32)) := F_modCount_a8
        have F_elementData_a8 := D_a8 (Or.inl (Hw hw 56 rfl)) (ty := (.array (.object "java/lang/Object"))) (by decide)
        replace F_elementData_a8 : Fld Z h a8 "java/util/ArrayList" "elementData" "[Ljava/lang/Object;" .null := F_elementData_a8
        have F_size_a8 := D_a8 (Or.inl (Hw hw 105 rfl)) (ty := .int) (by decide)
        replace F_size_a8 : Fld Z h a8 "java/util/ArrayList" "size" "I" (.int (0 : Int32)) := F_size_a8
        refine g_dup w at_82 (q := 83) rfl rfl ?_
        refine g_special w (con_al l Z a0 hw a8 df _ w.old X_a8 F_elementData_a8 F_size_a8 F_modCount_a8 n_a8 SD_) no0 at_83 (q := 86) rfl rfl rfl (Hw hw 36 rfl) (Hw hw 37 rfl) (Hw hw 35 rfl) (Hw hw 38 rfl) (by decide) pd1 rfl rfl (W := 1) (Nat.le_of_eq rfl) (by decide) (by decide) (by decide) (by decide) (fun T h v w gs C q => ?_)
        obtain ⟨rfl, K, G_X, G_elementData, G_size, G_modCount⟩ := q
        replace E0 := ext_keep E0 K z_a8
        have X0 := X_a8
        replace X_x4 := X_x4.keep K
        replace X_x5 := X_x5.keep K
        replace X_x6 := X_x6.keep K
        replace X_x7 := X_x7.keep K
        replace X_a8 := X_a8.keep K
        replace X_a8 := G_X
        replace F_elementData_a8 := G_elementData
        replace F_size_a8 := G_size
        replace F_modCount_a8 := G_modCount
        show Go p e below _ (State.setTop T (mkF m 86 #[.val (.int fl), .val (.int j1), .val (.int j2), .val (.int j3), .val (.int av), .val (.int j5), .val (.ref sv), .val (.int (0 : Int32)), .val (.int (0 : Int32)), .val (.int (0 : Int32)), .val (.ref x4), .val (.ref x5), .val (.ref x6), .val (.ref x7), .unset, .unset, .unset, .unset, .unset, .unset, .unset, .unset, .unset] [(.ref a8)]))
        refine g_astore w at_86 (q := 88) rfl rfl (Ls' := #[.val (.int fl), .val (.int j1), .val (.int j2), .val (.int j3), .val (.int av), .val (.int j5), .val (.ref sv), .val (.int (0 : Int32)), .val (.int (0 : Int32)), .val (.int (0 : Int32)), .val (.ref x4), .val (.ref x5), .val (.ref x6), .val (.ref x7), .val (.ref a8), .unset, .unset, .unset, .unset, .unset, .unset, .unset, .unset]) rfl ?_
        refine g_iload w at_88 (q := 90) rfl rfl ?_
        refine g_ifY w at_90 (by decide) (q := 106) (by decide) (by decide) ?_
        refine g_iload w at_106 (q := 108) rfl rfl ?_
        refine g_ifY w at_108 (by decide) (q := 119) (by decide) (by decide) ?_
        refine g_staticP w (con_emp l Z a0 hw em _ w.old SE_) no0 at_119 (q := 122) rfl rfl (Hw hw 57 rfl) (Hw hw 58 rfl) (Hw hw 59 rfl) (Hw hw 60 rfl) (by decide) pd21 rfl rfl (W := 0) (Nat.le_of_eq rfl) (by decide) (by decide) (by decide) (by decide) (fun T v w C q => ?_)
        obtain rfl := q
        show Go p e below _ (State.setTop T (mkF m 122 #[.val (.int fl), .val (.int j1), .val (.int j2), .val (.int j3), .val (.int av), .val (.int j5), .val (.ref sv), .val (.int (0 : Int32)), .val (.int (0 : Int32)), .val (.int (0 : Int32)), .val (.ref x4), .val (.ref x5), .val (.ref x6), .val (.ref x7), .val (.ref a8), .unset, .unset, .unset, .unset, .unset, .unset, .unset, .unset] [(.ref em)]))
        have X_em := XE_.ext w.old
        have F_em := FE_.ext w.old
        refine g_astore w at_122 (q := 124) rfl rfl (Ls' := #[.val (.int fl), .val (.int j1), .val (.int j2), .val (.int j3), .val (.int av), .val (.int j5), .val (.ref sv), .val (.int (0 : Int32)), .val (.int (0 : Int32)), .val (.int (0 : Int32)), .val (.ref x4), .val (.ref x5), .val (.ref x6), .val (.ref x7), .val (.ref a8), .val (.ref em), .unset, .unset, .unset, .unset, .unset, .unset, .unset]) rfl ?_
        refine g_iload w at_124 (q := 126) rfl rfl ?_
        refine g_ifY w at_126 (by decide) (q := 137) (by decide) (by decide) ?_
        refine g_staticP w (con_emp l Z a0 hw em _ w.old SE_) no0 at_137 (q := 140) rfl rfl (Hw hw 57 rfl) (Hw hw 58 rfl) (Hw hw 59 rfl) (Hw hw 60 rfl) (by decide) pd21 rfl rfl (W := 0) (Nat.le_of_eq rfl) (by decide) (by decide) (by decide) (by decide) (fun T v w C q => ?_)
        obtain rfl := q
        show Go p e below _ (State.setTop T (mkF m 140 #[.val (.int fl), .val (.int j1), .val (.int j2), .val (.int j3), .val (.int av), .val (.int j5), .val (.ref sv), .val (.int (0 : Int32)), .val (.int (0 : Int32)), .val (.int (0 : Int32)), .val (.ref x4), .val (.ref x5), .val (.ref x6), .val (.ref x7), .val (.ref a8), .val (.ref em), .unset, .unset, .unset, .unset, .unset, .unset, .unset] [(.ref em)]))
        refine g_astore w at_140 (q := 142) rfl rfl (Ls' := #[.val (.int fl), .val (.int j1), .val (.int j2), .val (.int j3), .val (.int av), .val (.int j5), .val (.ref sv), .val (.int (0 : Int32)), .val (.int (0 : Int32)), .val (.int (0 : Int32)), .val (.ref x4), .val (.ref x5), .val (.ref x6), .val (.ref x7), .val (.ref a8), .val (.ref em), .val (.ref em), .unset, .unset, .unset, .unset, .unset, .unset]) rfl ?_
        refine g_new w at_142 (q := 145) rfl (Hw hw 62 rfl) (Hw hw 63 rfl) (Hw hw 64 rfl) (by decide) (by decide) (fun T h a12 w E g_a12 n_a12 X_a12 D_a12 s_a12 => ?_)
        have z_a12 := Nat.le_trans E0.1 g_a12
        have ne_a8_a12 : a8 ≠ a12 := Nat.ne_of_lt (Nat.lt_of_lt_of_le X_a8.lt g_a12)
        have ne_em_a12 : em ≠ a12 := Nat.ne_of_lt (Nat.lt_of_lt_of_le X_em.lt g_a12)
        have ne_x4_a12 : x4 ≠ a12 := Nat.ne_of_lt (Nat.lt_of_lt_of_le X_x4.lt g_a12)
        have ne_x5_a12 : x5 ≠ a12 := Nat.ne_of_lt (Nat.lt_of_lt_of_le X_x5.lt g_a12)
        have ne_x6_a12 : x6 ≠ a12 := Nat.ne_of_lt (Nat.lt_of_lt_of_le X_x6.lt g_a12)
        have ne_x7_a12 : x7 ≠ a12 := Nat.ne_of_lt (Nat.lt_of_lt_of_le X_x7.lt g_a12)
        replace E0 := ext_trans E0 E
        replace X_x4 := X_x4.ext E
        replace X_x5 := X_x5.ext E
        replace X_x6 := X_x6.ext E
        replace X_x7 := X_x7.ext E
        replace X_a8 := X_a8.ext E
        replace F_elementData_a8 := F_elementData_a8.ext E
        replace F_size_a8 := F_size_a8.ext E
        replace F_modCount_a8 := F_modCount_a8.ext E
        replace X_em := X_em.ext E
        replace F_em := F_em.ext E
        have F_severity_a12 := D_a12 (Or.inr (Hw hw 112 rfl)) (ty := (.object "com/example/stepwize/stepwize/engine/Message$Severity")) (by decide)
        replace F_severity_a12 : Fld Z h a12 "com/example/stepwize/stepwize/engine/Message" "severity" "Lcom/example/stepwize/stepwize/engine/Message$Severity;" .null := F_severity_a12
        have F_source_a12 := D_a12 (Or.inr (Hw hw 114 rfl)) (ty := (.object "java/util/Optional")) (by decide)
        replace F_source_a12 : Fld Z h a12 "com/example/stepwize/stepwize/engine/Message" "source" "Ljava/util/Optional;" .null := F_source_a12
        have F_code_a12 := D_a12 (Or.inr (Hw hw 116 rfl)) (ty := (.object "java/util/Optional")) (by decide)
        replace F_code_a12 : Fld Z h a12 "com/example/stepwize/stepwize/engine/Message" "code" "Ljava/util/Optional;" .null := F_code_a12
        have F_arguments_a12 := D_a12 (Or.inr (Hw hw 118 rfl)) (ty := (.object "java/util/List")) (by decide)
        replace F_arguments_a12 : Fld Z h a12 "com/example/stepwize/stepwize/engine/Message" "arguments" "Ljava/util/List;" .null := F_arguments_a12
        have F_text_a12 := D_a12 (Or.inr (Hw hw 120 rfl)) (ty := (.object "java/lang/String")) (by decide)
        replace F_text_a12 : Fld Z h a12 "com/example/stepwize/stepwize/engine/Message" "text" "Ljava/lang/String;" .null := F_text_a12
        refine g_dup w at_145 (q := 146) rfl rfl ?_
        refine g_aload w at_146 (q := 148) rfl rfl rfl ?_
        refine g_aload w at_148 (q := 150) rfl rfl rfl ?_
        refine g_aload w at_150 (q := 152) rfl rfl rfl ?_
        refine g_aload w at_152 (q := 154) rfl rfl rfl ?_
        refine g_aload w at_154 (q := 156) rfl rfl rfl ?_
        refine g_special w (con_mi_a l Z a0 hw a12 sv em em a8 x6 el _ w.old X_a12 F_severity_a12 F_source_a12 F_code_a12 F_arguments_a12 F_text_a12 n_a12 X_a8 F_size_a8 SL_) no0 at_156 (q := 159) rfl rfl rfl (Hw hw 65 rfl) (Hw hw 66 rfl) (Hw hw 64 rfl) (Hw hw 67 rfl) (by decide) pd17 rfl rfl (W := 1) (Nat.le_of_eq rfl) (by decide) (by decide) (by decide) (by decide) (fun T h v w gs C q => ?_)
        obtain ⟨rfl, K, G_severity, G_source, G_code, G_arguments, G_text⟩ := q
        replace E0 := ext_keep E0 K z_a12
        have X0 := X_a12
        replace X_x4 := X_x4.keep K
        replace X_x5 := X_x5.keep K
        replace X_x6 := X_x6.keep K
        replace X_x7 := X_x7.keep K
        replace X_a8 := X_a8.keep K
        replace F_elementData_a8 := F_elementData_a8.keep K (not1 ne_a8_a12)
        replace F_size_a8 := F_size_a8.keep K (not1 ne_a8_a12)
        replace F_modCount_a8 := F_modCount_a8.keep K (not1 ne_a8_a12)
        replace X_em := X_em.keep K
        replace F_em := F_em.keep K (not1 ne_em_a12)
        replace X_a12 := X_a12.keep K
        replace F_severity_a12 := G_severity
        replace F_source_a12 := G_source
        replace F_code_a12 := G_code
        replace F_arguments_a12 := G_arguments
        replace F_text_a12 := G_text
        have X_el := XL_.ext w.old
        have F_an_el := FLa_.ext w.old
        have F_ee_el := FLe_.ext w.old
        have A_ee := AL0_.ext w.old
        show Go p e below _ (State.setTop T (mkF m 159 #[.val (.int fl), .val (.int j1), .val (.int j2), .val (.int j3), .val (.int av), .val (.int j5), .val (.ref sv), .val (.int (0 : Int32)), .val (.int (0 : Int32)), .val (.int (0 : Int32)), .val (.ref x4), .val (.ref x5), .val (.ref x6), .val (.ref x7), .val (.ref a8), .val (.ref em), .val (.ref em), .unset, .unset, .unset, .unset, .unset, .unset] [(.ref a12)]))
        refine g_astore w at_159 (q := 161) rfl rfl (Ls' := #[.val (.int fl), .val (.int j1), .val (.int j2), .val (.int j3), .val (.int av), .val (.int j5), .val (.ref sv), .val (.int (0 : Int32)), .val (.int (0 : Int32)), .val (.int (0 : Int32)), .val (.ref x4), .val (.ref x5), .val (.ref x6), .val (.ref x7), .val (.ref a8), .val (.ref em), .val (.ref em), .val (.ref a12), .unset, .unset, .unset, .unset, .unset]) rfl ?_
        refine g_aload w at_161 (q := 163) rfl rfl rfl ?_
        refine g_aload w at_163 (q := 165) rfl rfl rfl ?_
        refine g_virtual w (con_ab_c l Z a0 hw a12 x4 sv em el x6 _ w.old F_severity_a12 F_code_a12 F_arguments_a12 F_text_a12 X_el F_an_el) no0 X_a12 at_165 (q := 168) rfl rfl (Hw hw 121 rfl) (Hw hw 122 rfl) (Hw hw 124 rfl) (Hw hw 123 rfl) (Hw hw 64 rfl) (Hw hw 125 rfl) (by decide) (nf (Hw hw 124 rfl)) pd22 rfl rfl (W := 0) (Nat.le_of_eq rfl) (by decide) (by decide) (by decide) (by decide) (fun T h v w gs C q => ?_)
        obtain ⟨r13, o14, rfl, E, g_r13, X_r13, F_severity_r13, F_source_r13, F_code_r13, F_arguments_r13, F_text_r13, X_o14, F_value_o14⟩ := q
        have z_r13 := Nat.le_trans E0.1 g_r13
        have ne_a12_r13 : a12 ≠ r13 := Nat.ne_of_lt (Nat.lt_of_lt_of_le X_a12.lt g_r13)
        have ne_a8_r13 : a8 ≠ r13 := Nat.ne_of_lt (Nat.lt_of_lt_of_le X_a8.lt g_r13)
        have ne_ee_r13 : ee ≠ r13 := Nat.ne_of_lt (Nat.lt_of_lt_of_le A_ee.lt g_r13)
        have ne_el_r13 : el ≠ r13 := Nat.ne_of_lt (Nat.lt_of_lt_of_le X_el.lt g_r13)
        have ne_em_r13 : em ≠ r13 := Nat.ne_of_lt (Nat.lt_of_lt_of_le X_em.lt g_r13)
        have ne_x4_r13 : x4 ≠ r13 := Nat.ne_of_lt (Nat.lt_of_lt_of_le X_x4.lt g_r13)
        have ne_x5_r13 : x5 ≠ r13 := Nat.ne_of_lt (Nat.lt_of_lt_of_le X_x5.lt g_r13)
        have ne_x6_r13 : x6 ≠ r13 := Nat.ne_of_lt (Nat.lt_of_lt_of_le X_x6.lt g_r13)
        have ne_x7_r13 : x7 ≠ r13 := Nat.ne_of_lt (Nat.lt_of_lt_of_le X_x7.lt g_r13)
        replace E0 := ext_trans E0 E
        replace X_x4 := X_x4.ext E
        replace X_x5 := X_x5.ext E
        replace X_x6 := X_x6.ext E
        replace X_x7 := X_x7.ext E
        replace X_a8 := X_a8.ext E
        replace F_elementData_a8 := F_elementData_a8.ext E
        replace F_size_a8 := F_size_a8.ext E
        replace F_modCount_a8 := F_modCount_a8.ext E
        replace X_em := X_em.ext E
        replace F_em := F_em.ext E
        replace X_a12 := X_a12.ext E
        replace F_severity_a12 := F_severity_a12.ext E
        replace F_source_a12 := F_source_a12.ext E
        replace F_code_a12 := F_code_a12.ext E
        replace F_arguments_a12 := F_arguments_a12.ext E
        replace F_text_a12 := F_text_a12.ext E
        replace X_el := X_el.ext E
        replace F_an_el := F_an_el.ext E
        replace F_ee_el := F_ee_el.ext E
        replace A_ee := A_ee.ext E
        show Go p e below _ (State.setTop T (mkF m 168 #[.val (.int fl), .val (.int j1), .val (.int j2), .val (.int j3), .val (.int av), .val (.int j5), .val (.ref sv), .val (.int (0 : Int32)), .val (.int (0 : Int32)), .val (.int (0 : Int32)), .val (.ref x4), .val (.ref x5), .val (.ref x6), .val (.ref x7), .val (.ref a8), .val (.ref em), .val (.ref em), .val (.ref a12), .unset, .unset, .unset, .unset, .unset] [(.ref r13)]))
        refine g_astore w at_168 (q := 170) rfl rfl (Ls' := #[.val (.int fl), .val (.int j1), .val (.int j2), .val (.int j3), .val (.int av), .val (.int j5), .val (.ref sv), .val (.int (0 : Int32)), .val (.int (0 : Int32)), .val (.int (0 : Int32)), .val (.ref x4), .val (.ref x5), .val (.ref x6), .val (.ref x7), .val (.ref a8), .val (.ref em), .val (.ref em), .val (.ref a12), .val (.ref r13), .unset, .unset, .unset, .unset]) rfl ?_
        refine g_aload w at_170 (q := 172) rfl rfl rfl ?_
        refine g_nonnullY w at_172 (by decide) (q := 177) (by decide) ?_
        refine g_aload w at_177 (q := 179) rfl rfl rfl ?_
        refine g_virtualP w (con_g_severity l Z a0 hw r13 sv _ w.old F_severity_r13) no0 X_r13 at_179 (q := 182) rfl rfl (Hw hw 151 rfl) (Hw hw 152 rfl) (Hw hw 154 rfl) (Hw hw 153 rfl) (Hw hw 64 rfl) (Hw hw 155 rfl) (by decide) (nf (Hw hw 154 rfl)) pd23 rfl rfl (W := 0) (Nat.le_of_eq rfl) (by decide) (by decide) (by decide) (by decide) (fun T v w C q => ?_)
        obtain rfl := q
        show Go p e below _ (State.setTop T (mkF m 182 #[.val (.int fl), .val (.int j1), .val (.int j2), .val (.int j3), .val (.int av), .val (.int j5), .val (.ref sv), .val (.int (0 : Int32)), .val (.int (0 : Int32)), .val (.int (0 : Int32)), .val (.ref x4), .val (.ref x5), .val (.ref x6), .val (.ref x7), .val (.ref a8), .val (.ref em), .val (.ref em), .val (.ref a12), .val (.ref r13), .unset, .unset, .unset, .unset] [(.ref sv)]))
        refine g_aload w at_182 (q := 184) rfl rfl rfl ?_
        refine g_acY w at_184 (by decide) (q := 189) (by decide) rfl rfl (Jvm.Free.XT.aa_eq_t rfl) ?_
        refine g_aload w at_189 (q := 191) rfl rfl rfl ?_
        refine g_virtualP w (con_g_source l Z a0 hw r13 o14 _ w.old F_source_r13) no0 X_r13 at_191 (q := 194) rfl rfl (Hw hw 156 rfl) (Hw hw 157 rfl) (Hw hw 159 rfl) (Hw hw 158 rfl) (Hw hw 64 rfl) (Hw hw 160 rfl) (by decide) (nf (Hw hw 159 rfl)) pd21 rfl rfl (W := 0) (Nat.le_of_eq rfl) (by decide) (by decide) (by decide) (by decide) (fun T v w C q => ?_)
        obtain rfl := q
        show Go p e below _ (State.setTop T (mkF m 194 #[.val (.int fl), .val (.int j1), .val (.int j2), .val (.int j3), .val (.int av), .val (.int j5), .val (.ref sv), .val (.int (0 : Int32)), .val (.int (0 : Int32)), .val (.int (0 : Int32)), .val (.ref x4), .val (.ref x5), .val (.ref x6), .val (.ref x7), .val (.ref a8), .val (.ref em), .val (.ref em), .val (.ref a12), .val (.ref r13), .unset, .unset, .unset, .unset] [(.ref o14)]))
        refine g_astore w at_194 (q := 196) rfl rfl (Ls' := #[.val (.int fl), .val (.int j1), .val (.int j2), .val (.int j3), .val (.int av), .val (.int j5), .val (.ref sv), .val (.int (0 : Int32)), .val (.int (0 : Int32)), .val (.int (0 : Int32)), .val (.ref x4), .val (.ref x5), .val (.ref x6), .val (.ref x7), .val (.ref a8), .val (.ref em), .val (.ref em), .val (.ref a12), .val (.ref r13), .val (.ref o14), .unset, .unset, .unset]) rfl ?_
        refine g_aload w at_196 (q := 198) rfl rfl rfl ?_
        refine g_virtualP w (con_ip1 l Z a0 hw o14 x4 _ w.old F_value_o14) no0 X_o14 at_198 (q := 201) rfl rfl (Hw hw 161 rfl) (Hw hw 162 rfl) (Hw hw 164 rfl) (Hw hw 163 rfl) (Hw hw 59 rfl) (Hw hw 165 rfl) (by decide) (nf (Hw hw 164 rfl)) pd11 rfl rfl (W := 0) (Nat.le_of_eq rfl) (by decide) (by decide) (by decide) (by decide) (fun T v w C q => ?_)
        obtain rfl := q
        show Go p e below _ (State.setTop T (mkF m 201 #[.val (.int fl), .val (.int j1), .val (.int j2), .val (.int j3), .val (.int av), .val (.int j5), .val (.ref sv), .val (.int (0 : Int32)), .val (.int (0 : Int32)), .val (.int (0 : Int32)), .val (.ref x4), .val (.ref x5), .val (.ref x6), .val (.ref x7), .val (.ref a8), .val (.ref em), .val (.ref em), .val (.ref a12), .val (.ref r13), .val (.ref o14), .unset, .unset, .unset] [(.int (1 : Int32))]))
        refine g_ifN w at_201 (q := 204) rfl (by decide) ?_
        refine g_aload w at_204 (q := 206) rfl rfl rfl ?_
        refine g_virtualP w (con_oget l Z a0 hw o14 x4 _ w.old F_value_o14) no0 X_o14 at_206 (q := 209) rfl rfl (Hw hw 166 rfl) (Hw hw 167 rfl) (Hw hw 169 rfl) (Hw hw 168 rfl) (Hw hw 59 rfl) (Hw hw 170 rfl) (by decide) (nf (Hw hw 169 rfl)) pd24 rfl rfl (W := 0) (Nat.le_of_eq rfl) (by decide) (by decide) (by decide) (by decide) (fun T v w C q => ?_)
        obtain rfl := q
        show Go p e below _ (State.setTop T (mkF m 209 #[.val (.int fl), .val (.int j1), .val (.int j2), .val (.int j3), .val (.int av), .val (.int j5), .val (.ref sv), .val (.int (0 : Int32)), .val (.int (0 : Int32)), .val (.int (0 : Int32)), .val (.ref x4), .val (.ref x5), .val (.ref x6), .val (.ref x7), .val (.ref a8), .val (.ref em), .val (.ref em), .val (.ref a12), .val (.ref r13), .val (.ref o14), .unset, .unset, .unset] [(.ref x4)]))
        refine g_cast w at_209 (q := 212) rfl (Hw hw 11 rfl) (Ins.self X_x4) (fun T w => ?_)
        refine g_aload w at_212 (q := 214) rfl rfl rfl ?_
        refine g_virtualP w (con_eq1 l Z a0 hw x4 _ w.old) no0 X_x4 at_214 (q := 217) rfl rfl (Hw hw 171 rfl) (Hw hw 172 rfl) (Hw hw 174 rfl) (Hw hw 173 rfl) (Hw hw 13 rfl) (Hw hw 175 rfl) (by decide) (nf (Hw hw 174 rfl)) pd25 rfl rfl (W := 0) (Nat.le_of_eq rfl) (by decide) (by decide) (by decide) (by decide) (fun T v w C q => ?_)
        obtain rfl := q
        show Go p e below _ (State.setTop T (mkF m 217 #[.val (.int fl), .val (.int j1), .val (.int j2), .val (.int j3), .val (.int av), .val (.int j5), .val (.ref sv), .val (.int (0 : Int32)), .val (.int (0 : Int32)), .val (.int (0 : Int32)), .val (.ref x4), .val (.ref x5), .val (.ref x6), .val (.ref x7), .val (.ref a8), .val (.ref em), .val (.ref em), .val (.ref a12), .val (.ref r13), .val (.ref o14), .unset, .unset, .unset] [(.int (1 : Int32))]))
        refine g_ifY w at_217 (by decide) (q := 222) (by decide) (by decide) ?_
        refine g_aload w at_222 (q := 224) rfl rfl rfl ?_
        refine g_virtualP w (con_g_code l Z a0 hw r13 em _ w.old F_code_r13) no0 X_r13 at_224 (q := 227) rfl rfl (Hw hw 176 rfl) (Hw hw 177 rfl) (Hw hw 179 rfl) (Hw hw 178 rfl) (Hw hw 64 rfl) (Hw hw 180 rfl) (by decide) (nf (Hw hw 179 rfl)) pd21 rfl rfl (W := 0) (Nat.le_of_eq rfl) (by decide) (by decide) (by decide) (by decide) (fun T v w C q => ?_)
        obtain rfl := q
        show Go p e below _ (State.setTop T (mkF m 227 #[.val (.int fl), .val (.int j1), .val (.int j2), .val (.int j3), .val (.int av), .val (.int j5), .val (.ref sv), .val (.int (0 : Int32)), .val (.int (0 : Int32)), .val (.int (0 : Int32)), .val (.ref x4), .val (.ref x5), .val (.ref x6), .val (.ref x7), .val (.ref a8), .val (.ref em), .val (.ref em), .val (.ref a12), .val (.ref r13), .val (.ref o14), .unset, .unset, .unset] [(.ref em)]))
        refine g_astore w at_227 (q := 229) rfl rfl (Ls' := #[.val (.int fl), .val (.int j1), .val (.int j2), .val (.int j3), .val (.int av), .val (.int j5), .val (.ref sv), .val (.int (0 : Int32)), .val (.int (0 : Int32)), .val (.int (0 : Int32)), .val (.ref x4), .val (.ref x5), .val (.ref x6), .val (.ref x7), .val (.ref a8), .val (.ref em), .val (.ref em), .val (.ref a12), .val (.ref r13), .val (.ref o14), .val (.ref em), .unset, .unset]) rfl ?_
        refine g_aload w at_229 (q := 231) rfl rfl rfl ?_
        refine g_virtualP w (con_ip0 l Z a0 hw em em _ w.old F_em) no0 X_em at_231 (q := 234) rfl rfl (Hw hw 161 rfl) (Hw hw 162 rfl) (Hw hw 164 rfl) (Hw hw 163 rfl) (Hw hw 59 rfl) (Hw hw 165 rfl) (by decide) (nf (Hw hw 164 rfl)) pd11 rfl rfl (W := 0) (Nat.le_of_eq rfl) (by decide) (by decide) (by decide) (by decide) (fun T v w C q => ?_)
        obtain rfl := q
        show Go p e below _ (State.setTop T (mkF m 234 #[.val (.int fl), .val (.int j1), .val (.int j2), .val (.int j3), .val (.int av), .val (.int j5), .val (.ref sv), .val (.int (0 : Int32)), .val (.int (0 : Int32)), .val (.int (0 : Int32)), .val (.ref x4), .val (.ref x5), .val (.ref x6), .val (.ref x7), .val (.ref a8), .val (.ref em), .val (.ref em), .val (.ref a12), .val (.ref r13), .val (.ref o14), .val (.ref em), .unset, .unset] [(.int (0 : Int32))]))
        refine g_iload w at_234 (q := 236) rfl rfl ?_
        refine g_icY w at_236 (by decide) (q := 241) (by decide) (Jvm.Free.XT.ii_eq_t rfl) ?_
        refine g_iload w at_241 (q := 243) rfl rfl ?_
        refine g_ifY w at_243 (by decide) (q := 264) (by decide) (by decide) ?_
        refine g_aload w at_264 (q := 266) rfl rfl rfl ?_
        refine g_virtualP w (con_g_arguments l Z a0 hw r13 el _ w.old F_arguments_r13) no0 X_r13 at_266 (q := 269) rfl rfl (Hw hw 181 rfl) (Hw hw 182 rfl) (Hw hw 184 rfl) (Hw hw 183 rfl) (Hw hw 64 rfl) (Hw hw 185 rfl) (by decide) (nf (Hw hw 184 rfl)) pd12 rfl rfl (W := 0) (Nat.le_of_eq rfl) (by decide) (by decide) (by decide) (by decide) (fun T v w C q => ?_)
        obtain rfl := q
        show Go p e below _ (State.setTop T (mkF m 269 #[.val (.int fl), .val (.int j1), .val (.int j2), .val (.int j3), .val (.int av), .val (.int j5), .val (.ref sv), .val (.int (0 : Int32)), .val (.int (0 : Int32)), .val (.int (0 : Int32)), .val (.ref x4), .val (.ref x5), .val (.ref x6), .val (.ref x7), .val (.ref a8), .val (.ref em), .val (.ref em), .val (.ref a12), .val (.ref r13), .val (.ref o14), .val (.ref em), .unset, .unset] [(.ref el)]))
        refine g_astore w at_269 (q := 271) rfl rfl (Ls' := #[.val (.int fl), .val (.int j1), .val (.int j2), .val (.int j3), .val (.int av), .val (.int j5), .val (.ref sv), .val (.int (0 : Int32)), .val (.int (0 : Int32)), .val (.int (0 : Int32)), .val (.ref x4), .val (.ref x5), .val (.ref x6), .val (.ref x7), .val (.ref a8), .val (.ref em), .val (.ref em), .val (.ref a12), .val (.ref r13), .val (.ref o14), .val (.ref em), .val (.ref el), .unset]) rfl ?_
        refine g_aload w at_271 (q := 273) rfl rfl rfl ?_
        refine g_ifaceP w (con_lns l Z a0 hw el ee _ w.old F_ee_el A_ee) no0 X_el at_273 (q := 278) rfl rfl (Hw hw 186 rfl) (Hw hw 187 rfl) (Hw hw 188 rfl) (by decide) (Hw hw 191 rfl) (Hw hw 192 rfl) (Hw hw 150 rfl) (Hw hw 189 rfl) (Hw hw 190 rfl) (Hw hw 193 rfl) (Hw hw 194 rfl) (by decide) pd26 rfl rfl (W := 0) (Nat.le_of_eq rfl) (by decide) (by decide) (by decide) (by decide) (fun T v w C q => ?_)
        obtain rfl := q
        show Go p e below _ (State.setTop T (mkF m 278 #[.val (.int fl), .val (.int j1), .val (.int j2), .val (.int j3), .val (.int av), .val (.int j5), .val (.ref sv), .val (.int (0 : Int32)), .val (.int (0 : Int32)), .val (.int (0 : Int32)), .val (.ref x4), .val (.ref x5), .val (.ref x6), .val (.ref x7), .val (.ref a8), .val (.ref em), .val (.ref em), .val (.ref a12), .val (.ref r13), .val (.ref o14), .val (.ref em), .val (.ref el), .unset] [(.int (0 : Int32))]))
        refine g_iload w at_278 (q := 280) rfl rfl ?_
        refine g_ifY w at_280 (by decide) (q := 287) (by decide) (by decide) ?_
        refine g_iconst w at_287 (q := 288) rfl (v := (0 : Int32)) (by decide) ?_
        refine g_icY w at_288 (by decide) (q := 293) (by decide) (Jvm.Free.XT.ii_eq_t rfl) ?_
        refine g_iload w at_293 (q := 295) rfl rfl ?_
        refine g_ifY w at_295 (by decide) (q := 319) (by decide) (by decide) ?_
        refine g_aload w at_319 (q := 321) rfl rfl rfl ?_
        refine g_virtualP w (con_g_text l Z a0 hw r13 x6 _ w.old F_text_r13) no0 X_r13 at_321 (q := 324) rfl rfl (Hw hw 197 rfl) (Hw hw 198 rfl) (Hw hw 200 rfl) (Hw hw 199 rfl) (Hw hw 64 rfl) (Hw hw 201 rfl) (by decide) (nf (Hw hw 200 rfl)) pd27 rfl rfl (W := 0) (Nat.le_of_eq rfl) (by decide) (by decide) (by decide) (by decide) (fun T v w C q => ?_)
        obtain rfl := q
        show Go p e below _ (State.setTop T (mkF m 324 #[.val (.int fl), .val (.int j1), .val (.int j2), .val (.int j3), .val (.int av), .val (.int j5), .val (.ref sv), .val (.int (0 : Int32)), .val (.int (0 : Int32)), .val (.int (0 : Int32)), .val (.ref x4), .val (.ref x5), .val (.ref x6), .val (.ref x7), .val (.ref a8), .val (.ref em), .val (.ref em), .val (.ref a12), .val (.ref r13), .val (.ref o14), .val (.ref em), .val (.ref el), .unset] [(.ref x6)]))
        refine g_aload w at_324 (q := 326) rfl rfl rfl ?_
        refine g_virtualP w (con_eq1 l Z a0 hw x6 _ w.old) no0 X_x6 at_326 (q := 329) rfl rfl (Hw hw 171 rfl) (Hw hw 172 rfl) (Hw hw 174 rfl) (Hw hw 173 rfl) (Hw hw 13 rfl) (Hw hw 175 rfl) (by decide) (nf (Hw hw 174 rfl)) pd25 rfl rfl (W := 0) (Nat.le_of_eq rfl) (by decide) (by decide) (by decide) (by decide) (fun T v w C q => ?_)
        obtain rfl := q
        show Go p e below _ (State.setTop T (mkF m 329 #[.val (.int fl), .val (.int j1), .val (.int j2), .val (.int j3), .val (.int av), .val (.int j5), .val (.ref sv), .val (.int (0 : Int32)), .val (.int (0 : Int32)), .val (.int (0 : Int32)), .val (.ref x4), .val (.ref x5), .val (.ref x6), .val (.ref x7), .val (.ref a8), .val (.ref em), .val (.ref em), .val (.ref a12), .val (.ref r13), .val (.ref o14), .val (.ref em), .val (.ref el), .unset] [(.int (1 : Int32))]))
        refine g_ifY w at_329 (by decide) (q := 334) (by decide) (by decide) ?_
        refine g_aload w at_334 (q := 336) rfl rfl rfl ?_
        refine g_virtualP w (con_g_source l Z a0 hw a12 em _ w.old F_source_a12) no0 X_a12 at_336 (q := 339) rfl rfl (Hw hw 156 rfl) (Hw hw 157 rfl) (Hw hw 159 rfl) (Hw hw 158 rfl) (Hw hw 64 rfl) (Hw hw 160 rfl) (by decide) (nf (Hw hw 159 rfl)) pd21 rfl rfl (W := 0) (Nat.le_of_eq rfl) (by decide) (by decide) (by decide) (by decide) (fun T v w C q => ?_)
        obtain rfl := q
        show Go p e below _ (State.setTop T (mkF m 339 #[.val (.int fl), .val (.int j1), .val (.int j2), .val (.int j3), .val (.int av), .val (.int j5), .val (.ref sv), .val (.int (0 : Int32)), .val (.int (0 : Int32)), .val (.int (0 : Int32)), .val (.ref x4), .val (.ref x5), .val (.ref x6), .val (.ref x7), .val (.ref a8), .val (.ref em), .val (.ref em), .val (.ref a12), .val (.ref r13), .val (.ref o14), .val (.ref em), .val (.ref el), .unset] [(.ref em)]))
        refine g_astore w at_339 (q := 341) rfl rfl (Ls' := #[.val (.int fl), .val (.int j1), .val (.int j2), .val (.int j3), .val (.int av), .val (.int j5), .val (.ref sv), .val (.int (0 : Int32)), .val (.int (0 : Int32)), .val (.int (0 : Int32)), .val (.ref x4), .val (.ref x5), .val (.ref x6), .val (.ref x7), .val (.ref a8), .val (.ref em), .val (.ref em), .val (.ref a12), .val (.ref r13), .val (.ref o14), .val (.ref em), .val (.ref el), .val (.ref em)]) rfl ?_
        refine g_aload w at_341 (q := 343) rfl rfl rfl ?_
        refine g_virtualP w (con_ip0 l Z a0 hw em em _ w.old F_em) no0 X_em at_343 (q := 346) rfl rfl (Hw hw 161 rfl) (Hw hw 162 rfl) (Hw hw 164 rfl) (Hw hw 163 rfl) (Hw hw 59 rfl) (Hw hw 165 rfl) (by decide) (nf (Hw hw 164 rfl)) pd11 rfl rfl (W := 0) (Nat.le_of_eq rfl) (by decide) (by decide) (by decide) (by decide) (fun T v w C q => ?_)
        obtain rfl := q
        show Go p e below _ (State.setTop T (mkF m 346 #[.val (.int fl), .val (.int j1), .val (.int j2), .val (.int j3), .val (.int av), .val (.int j5), .val (.ref sv), .val (.int (0 : Int32)), .val (.int (0 : Int32)), .val (.int (0 : Int32)), .val (.ref x4), .val (.ref x5), .val (.ref x6), .val (.ref x7), .val (.ref a8), .val (.ref em), .val (.ref em), .val (.ref a12), .val (.ref r13), .val (.ref o14), .val (.ref em), .val (.ref el), .val (.ref em)] [(.int (0 : Int32))]))
        refine g_iload w at_346 (q := 348) rfl rfl ?_
        refine g_icY w at_348 (by decide) (q := 353) (by decide) (Jvm.Free.XT.ii_eq_t rfl) ?_
        refine g_iload w at_353 (q := 355) rfl rfl ?_
        refine g_ifY w at_355 (by decide) (q := 376) (by decide) (by decide) ?_
        refine g_iconst w at_376 (q := 377) rfl (v := (1 : Int32)) (by decide) ?_
        exact g_retn w at_377 rfl (by simp) rfl (by decide) (by decide) rfl
      · refine g_iconst w at_47 (q := 48) rfl (v := (1 : Int32)) (by decide) ?_
        refine g_goto w at_48 (by decide) (q := 52) (by decide) ?_
        refine g_istore w at_52 (q := 54) rfl (Ls' := #[.val (.int fl), .val (.int j1), .val (.int j2), .val (.int j3), .val (.int av), .val (.int j5), .val (.ref sv), .val (.int (0 : Int32)), .val (.int (0 : Int32)), .val (.int (1 : Int32)), .unset, .unset, .unset, .unset, .unset, .unset, .unset, .unset, .unset, .unset, .unset, .unset, .unset]) rfl ?_
        refine g_iloadN w at_54 (q := 55) rfl rfl ?_
        refine g_static w (con_str l Z a0 hw j1 _ w.old hcm) no0 at_55 (q := 58) rfl rfl (Hw hw 8 rfl) (Hw hw 9 rfl) (Hw hw 2 rfl) (Hw hw 10 rfl) (by decide) pd20 rfl rfl (W := 0) (Nat.le_of_eq rfl) (by decide) (by decide) (by decide) (by decide) (fun T h v w gs C q => ?_)
        obtain ⟨x26, rfl, E, g_x26, X_x26⟩ := q
        have z_x26 := Nat.le_trans E0.1 g_x26
        replace E0 := ext_trans E0 E
        show Go p e below _ (State.setTop T (mkF m 58 #[.val (.int fl), .val (.int j1), .val (.int j2), .val (.int j3), .val (.int av), .val (.int j5), .val (.ref sv), .val (.int (0 : Int32)), .val (.int (0 : Int32)), .val (.int (1 : Int32)), .unset, .unset, .unset, .unset, .unset, .unset, .unset, .unset, .unset, .unset, .unset, .unset, .unset] [(.ref x26)]))
        refine g_astore w at_58 (q := 60) rfl rfl (Ls' := #[.val (.int fl), .val (.int j1), .val (.int j2), .val (.int j3), .val (.int av), .val (.int j5), .val (.ref sv), .val (.int (0 : Int32)), .val (.int (0 : Int32)), .val (.int (1 : Int32)), .val (.ref x26), .unset, .unset, .unset, .unset, .unset, .unset, .unset, .unset, .unset, .unset, .unset, .unset]) rfl ?_
        refine g_iloadN w at_60 (q := 61) rfl rfl ?_
        refine g_static w (con_str l Z a0 hw j2 _ w.old hcm) no0 at_61 (q := 64) rfl rfl (Hw hw 8 rfl) (Hw hw 9 rfl) (Hw hw 2 rfl) (Hw hw 10 rfl) (by decide) pd20 rfl rfl (W := 0) (Nat.le_of_eq rfl) (by decide) (by decide) (by decide) (by decide) (fun T h v w gs C q => ?_)
        obtain ⟨x27, rfl, E, g_x27, X_x27⟩ := q
        have z_x27 := Nat.le_trans E0.1 g_x27
        have ne_x26_x27 : x26 ≠ x27 := Nat.ne_of_lt (Nat.lt_of_lt_of_le X_x26.lt g_x27)
        replace E0 := ext_trans E0 E
        replace X_x26 := X_x26.ext E
        show Go p e below _ (State.setTop T (mkF m 64 #[.val (.int fl), .val (.int j1), .val (.int j2), .val (.int j3), .val (.int av), .val (.int j5), .val (.ref sv), .val (.int (0 : Int32)), .val (.int (0 : Int32)), .val (.int (1 : Int32)), .val (.ref x26), .unset, .unset, .unset, .unset, .unset, .unset, .unset, .unset, .unset, .unset, .unset, .unset] [(.ref x27)]))
        refine g_astore w at_64 (q := 66) rfl rfl (Ls' := #[.val (.int fl), .val (.int j1), .val (.int j2), .val (.int j3), .val (.int av), .val (.int j5), .val (.ref sv), .val (.int (0 : Int32)), .val (.int (0 : Int32)), .val (.int (1 : Int32)), .val (.ref x26), .val (.ref x27), .unset, .unset, .unset, .unset, .unset, .unset, .unset, .unset, .unset, .unset, .unset]) rfl ?_
        refine g_iloadN w at_66 (q := 67) rfl rfl ?_
        refine g_static w (con_str l Z a0 hw j3 _ w.old hcm) no0 at_67 (q := 70) rfl rfl (Hw hw 8 rfl) (Hw hw 9 rfl) (Hw hw 2 rfl) (Hw hw 10 rfl) (by decide) pd20 rfl rfl (W := 0) (Nat.le_of_eq rfl) (by decide) (by decide) (by decide) (by decide) (fun T h v w gs C q => ?_)
        obtain ⟨x28, rfl, E, g_x28, X_x28⟩ := q
        have z_x28 := Nat.le_trans E0.1 g_x28
        have ne_x26_x28 : x26 ≠ x28 := Nat.ne_of_lt (Nat.lt_of_lt_of_le X_x26.lt g_x28)
        have ne_x27_x28 : x27 ≠ x28 := Nat.ne_of_lt (Nat.lt_of_lt_of_le X_x27.lt g_x28)
        replace E0 := ext_trans E0 E
        replace X_x26 := X_x26.ext E
        replace X_x27 := X_x27.ext E
        show Go p e below _ (State.setTop T (mkF m 70 #[.val (.int fl), .val (.int j1), .val (.int j2), .val (.int j3), .val (.int av), .val (.int j5), .val (.ref sv), .val (.int (0 : Int32)), .val (.int (0 : Int32)), .val (.int (1 : Int32)), .val (.ref x26), .val (.ref x27), .unset, .unset, .unset, .unset, .unset, .unset, .unset, .unset, .unset, .unset, .unset] [(.ref x28)]))
        refine g_astore w at_70 (q := 72) rfl rfl (Ls' := #[.val (.int fl), .val (.int j1), .val (.int j2), .val (.int j3), .val (.int av), .val (.int j5), .val (.ref sv), .val (.int (0 : Int32)), .val (.int (0 : Int32)), .val (.int (1 : Int32)), .val (.ref x26), .val (.ref x27), .val (.ref x28), .unset, .unset, .unset, .unset, .unset, .unset, .unset, .unset, .unset, .unset]) rfl ?_
        refine g_iload w at_72 (q := 74) rfl rfl ?_
        refine g_static w (con_str l Z a0 hw j5 _ w.old hcm) no0 at_74 (q := 77) rfl rfl (Hw hw 8 rfl) (Hw hw 9 rfl) (Hw hw 2 rfl) (Hw hw 10 rfl) (by decide) pd20 rfl rfl (W := 0) (Nat.le_of_eq rfl) (by decide) (by decide) (by decide) (by decide) (fun T h v w gs C q => ?_)
        obtain ⟨x29, rfl, E, g_x29, X_x29⟩ := q
        have z_x29 := Nat.le_trans E0.1 g_x29
        have ne_x26_x29 : x26 ≠ x29 := Nat.ne_of_lt (Nat.lt_of_lt_of_le X_x26.lt g_x29)
        have ne_x27_x29 : x27 ≠ x29 := Nat.ne_of_lt (Nat.lt_of_lt_of_le X_x27.lt g_x29)
        have ne_x28_x29 : x28 ≠ x29 := Nat.ne_of_lt (Nat.lt_of_lt_of_le X_x28.lt g_x29)
        replace E0 := ext_trans E0 E
        replace X_x26 := X_x26.ext E
        replace X_x27 := X_x27.ext E
        replace X_x28 := X_x28.ext E
        show Go p e below _ (State.setTop T (mkF m 77 #[.val (.int fl), .val (.int j1), .val (.int j2), .val (.int j3), .val (.int av), .val (.int j5), .val (.ref sv), .val (.int (0 : Int32)), .val (.int (0 : Int32)), .val (.int (1 : Int32)), .val (.ref x26), .val (.ref x27), .val (.ref x28), .unset, .unset, .unset, .unset, .unset, .unset, .unset, .unset, .unset, .unset] [(.ref x29)]))
        refine g_astore w at_77 (q := 79) rfl rfl (Ls' := #[.val (.int fl), .val (.int j1), .val (.int j2), .val (.int j3), .val (.int av), .val (.int j5), .val (.ref sv), .val (.int (0 : Int32)), .val (.int (0 : Int32)), .val (.int (1 : Int32)), .val (.ref x26), .val (.ref x27), .val (.ref x28), .val (.ref x29), .unset, .unset, .unset, .unset, .unset, .unset, .unset, .unset, .unset]) rfl ?_
        refine g_new w at_79 (q := 82) rfl (Hw hw 33 rfl) (Hw hw 34 rfl) (Hw hw 35 rfl) (by decide) (by decide) (fun T h a30 w E g_a30 n_a30 X_a30 D_a30 s_a30 => ?_)
        have z_a30 := Nat.le_trans E0.1 g_a30
        have ne_x26_a30 : x26 ≠ a30 := Nat.ne_of_lt (Nat.lt_of_lt_of_le X_x26.lt g_a30)
        have ne_x27_a30 : x27 ≠ a30 := Nat.ne_of_lt (Nat.lt_of_lt_of_le X_x27.lt g_a30)
        have ne_x28_a30 : x28 ≠ a30 := Nat.ne_of_lt (Nat.lt_of_lt_of_le X_x28.lt g_a30)
        have ne_x29_a30 : x29 ≠ a30 := Nat.ne_of_lt (Nat.lt_of_lt_of_le X_x29.lt g_a30)
        replace E0 := ext_trans E0 E
        replace X_x26 := X_x26.ext E
        replace X_x27 := X_x27.ext E
        replace X_x28 := X_x28.ext E
        replace X_x29 := X_x29.ext E
        have F_modCount_a30 := D_a30 (Or.inl (Hw hw 53 rfl)) (ty := .int) (by decide)
        replace F_modCount_a30 : Fld Z h a30 "java/util/AbstractList" "modCount" "I" (.int (0 : Int32)) := F_modCount_a30
        have F_elementData_a30 := D_a30 (Or.inl (Hw hw 56 rfl)) (ty := (.array (.object "java/lang/Object"))) (by decide)
        replace F_elementData_a30 : Fld Z h a30 "java/util/ArrayList" "elementData" "[Ljava/lang/Object;" .null := F_elementData_a30
        have F_size_a30 := D_a30 (Or.inl (Hw hw 105 rfl)) (ty := .int) (by decide)
        replace F_size_a30 : Fld Z h a30 "java/util/ArrayList" "size" "I" (.int (0 : Int32)) := F_size_a30
        refine g_dup w at_82 (q := 83) rfl rfl ?_
        refine g_special w (con_al l Z a0 hw a30 df _ w.old X_a30 F_elementData_a30 F_size_a30 F_modCount_a30 n_a30 SD_) no0 at_83 (q := 86) rfl rfl rfl (Hw hw 36 rfl) (Hw hw 37 rfl) (Hw hw 35 rfl) (Hw hw 38 rfl) (by decide) pd1 rfl rfl (W := 1) (Nat.le_of_eq rfl) (by decide) (by decide) (by decide) (by decide) (fun T h v w gs C q => ?_)
        obtain ⟨rfl, K, G_X, G_elementData, G_size, G_modCount⟩ := q
        replace E0 := ext_keep E0 K z_a30
        have X0 := X_a30
        replace X_x26 := X_x26.keep K
        replace X_x27 := X_x27.keep K
        replace X_x28 := X_x28.keep K
        replace X_x29 := X_x29.keep K
        replace X_a30 := X_a30.keep K
        replace X_a30 := G_X
        replace F_elementData_a30 := G_elementData
        replace F_size_a30 := G_size
        replace F_modCount_a30 := G_modCount
        show Go p e below _ (State.setTop T (mkF m 86 #[.val (.int fl), .val (.int j1), .val (.int j2), .val (.int j3), .val (.int av), .val (.int j5), .val (.ref sv), .val (.int (0 : Int32)), .val (.int (0 : Int32)), .val (.int (1 : Int32)), .val (.ref x26), .val (.ref x27), .val (.ref x28), .val (.ref x29), .unset, .unset, .unset, .unset, .unset, .unset, .unset, .unset, .unset] [(.ref a30)]))
        refine g_astore w at_86 (q := 88) rfl rfl (Ls' := #[.val (.int fl), .val (.int j1), .val (.int j2), .val (.int j3), .val (.int av), .val (.int j5), .val (.ref sv), .val (.int (0 : Int32)), .val (.int (0 : Int32)), .val (.int (1 : Int32)), .val (.ref x26), .val (.ref x27), .val (.ref x28), .val (.ref x29), .val (.ref a30), .unset, .unset, .unset, .unset, .unset, .unset, .unset, .unset]) rfl ?_
        refine g_iload w at_88 (q := 90) rfl rfl ?_
        refine g_ifN w at_90 (q := 93) rfl (by decide) ?_
        refine g_aload w at_93 (q := 95) rfl rfl rfl ?_
        refine g_iload w at_95 (q := 97) rfl rfl ?_
        refine g_static w (con_vo l Z a0 hw ca ck_ av _ w.old SH_ SK_ BX_) no0 at_97 (q := 100) rfl rfl (Hw hw 215 rfl) (Hw hw 216 rfl) (Hw hw 217 rfl) (Hw hw 218 rfl) (by decide) pd28 rfl rfl (W := 1) (Nat.le_of_eq rfl) (by decide) (by decide) (by decide) (by decide) (fun T h v w gs C q => ?_)
        obtain ⟨ev, rfl, E, g_ev, X_e, F_e⟩ := q
        have ne_ev_a30 : ev ≠ a30 := g_ev.elim (fun g_ => Nat.ne_of_gt (Nat.lt_of_lt_of_le X_a30.lt g_)) (fun g_ => Nat.ne_of_lt (Nat.lt_of_lt_of_le g_ n_a30))
        replace E0 := ext_trans E0 E
        replace X_x26 := X_x26.ext E
        replace X_x27 := X_x27.ext E
        replace X_x28 := X_x28.ext E
        replace X_x29 := X_x29.ext E
        replace X_a30 := X_a30.ext E
        replace F_elementData_a30 := F_elementData_a30.ext E
        replace F_size_a30 := F_size_a30.ext E
        replace F_modCount_a30 := F_modCount_a30.ext E
        show Go p e below _ (State.setTop T (mkF m 100 #[.val (.int fl), .val (.int j1), .val (.int j2), .val (.int j3), .val (.int av), .val (.int j5), .val (.ref sv), .val (.int (0 : Int32)), .val (.int (0 : Int32)), .val (.int (1 : Int32)), .val (.ref x26), .val (.ref x27), .val (.ref x28), .val (.ref x29), .val (.ref a30), .unset, .unset, .unset, .unset, .unset, .unset, .unset, .unset] [(.ref ev), (.ref a30)]))
        refine g_iface w (con_a1 l Z a0 hw a30 df ev av _ w.old X_a30 F_elementData_a30 F_size_a30 F_modCount_a30 n_a30 X_e F_e ne_ev_a30 SD_ AD_) no0 X_a30 at_100 (q := 105) rfl rfl (Hw hw 234 rfl) (Hw hw 235 rfl) (Hw hw 236 rfl) (by decide) (Hw hw 239 rfl) (Hw hw 240 rfl) (Hw hw 241 rfl) (Hw hw 237 rfl) (Hw hw 238 rfl) (Hw hw 35 rfl) (Hw hw 242 rfl) (by decide) pd25 rfl rfl (W := 0) (Nat.le_of_eq rfl) (by decide) (by decide) (by decide) (by decide) (fun T h v w gs C q => ?_)
        obtain ⟨rfl, K, t, g_t, A_t, X_t, O_t, H_X, H_F, G_X, G_elementData, G_size, G_modCount⟩ := q
        have z_t := Nat.le_trans E0.1 g_t
        replace E0 := ext_keep E0 K z_a30
        have X0 := X_a30
        replace X_x26 := X_x26.keep K
        replace X_x27 := X_x27.keep K
        replace X_x28 := X_x28.keep K
        replace X_x29 := X_x29.keep K
        replace X_a30 := X_a30.keep K
        replace X_e := X_e.keep K
        replace F_e := F_e.keep K (not1 ne_ev_a30)
        replace X_e := H_X
        replace F_e := H_F
        replace X_a30 := G_X
        replace F_elementData_a30 := G_elementData
        replace F_size_a30 := G_size
        replace F_modCount_a30 := G_modCount
        show Go p e below _ (State.setTop T (mkF m 105 #[.val (.int fl), .val (.int j1), .val (.int j2), .val (.int j3), .val (.int av), .val (.int j5), .val (.ref sv), .val (.int (0 : Int32)), .val (.int (0 : Int32)), .val (.int (1 : Int32)), .val (.ref x26), .val (.ref x27), .val (.ref x28), .val (.ref x29), .val (.ref a30), .unset, .unset, .unset, .unset, .unset, .unset, .unset, .unset] [(.int (1 : Int32))]))
        refine g_pop w at_105 (q := 106) rfl rfl ?_
        refine g_iload w at_106 (q := 108) rfl rfl ?_
        refine g_ifY w at_108 (by decide) (q := 119) (by decide) (by decide) ?_
        refine g_staticP w (con_emp l Z a0 hw em _ w.old SE_) no0 at_119 (q := 122) rfl rfl (Hw hw 57 rfl) (Hw hw 58 rfl) (Hw hw 59 rfl) (Hw hw 60 rfl) (by decide) pd21 rfl rfl (W := 0) (Nat.le_of_eq rfl) (by decide) (by decide) (by decide) (by decide) (fun T v w C q => ?_)
        obtain rfl := q
        show Go p e below _ (State.setTop T (mkF m 122 #[.val (.int fl), .val (.int j1), .val (.int j2), .val (.int j3), .val (.int av), .val (.int j5), .val (.ref sv), .val (.int (0 : Int32)), .val (.int (0 : Int32)), .val (.int (1 : Int32)), .val (.ref x26), .val (.ref x27), .val (.ref x28), .val (.ref x29), .val (.ref a30), .unset, .unset, .unset, .unset, .unset, .unset, .unset, .unset] [(.ref em)]))
        have X_em := XE_.ext w.old
        have F_em := FE_.ext w.old
        refine g_astore w at_122 (q := 124) rfl rfl (Ls' := #[.val (.int fl), .val (.int j1), .val (.int j2), .val (.int j3), .val (.int av), .val (.int j5), .val (.ref sv), .val (.int (0 : Int32)), .val (.int (0 : Int32)), .val (.int (1 : Int32)), .val (.ref x26), .val (.ref x27), .val (.ref x28), .val (.ref x29), .val (.ref a30), .val (.ref em), .unset, .unset, .unset, .unset, .unset, .unset, .unset]) rfl ?_
        refine g_iload w at_124 (q := 126) rfl rfl ?_
        refine g_ifY w at_126 (by decide) (q := 137) (by decide) (by decide) ?_
        refine g_staticP w (con_emp l Z a0 hw em _ w.old SE_) no0 at_137 (q := 140) rfl rfl (Hw hw 57 rfl) (Hw hw 58 rfl) (Hw hw 59 rfl) (Hw hw 60 rfl) (by decide) pd21 rfl rfl (W := 0) (Nat.le_of_eq rfl) (by decide) (by decide) (by decide) (by decide) (fun T v w C q => ?_)
        obtain rfl := q
        show Go p e below _ (State.setTop T (mkF m 140 #[.val (.int fl), .val (.int j1), .val (.int j2), .val (.int j3), .val (.int av), .val (.int j5), .val (.ref sv), .val (.int (0 : Int32)), .val (.int (0 : Int32)), .val (.int (1 : Int32)), .val (.ref x26), .val (.ref x27), .val (.ref x28), .val (.ref x29), .val (.ref a30), .val (.ref em), .unset, .unset, .unset, .unset, .unset, .unset, .unset] [(.ref em)]))
        refine g_astore w at_140 (q := 142) rfl rfl (Ls' := #[.val (.int fl), .val (.int j1), .val (.int j2), .val (.int j3), .val (.int av), .val (.int j5), .val (.ref sv), .val (.int (0 : Int32)), .val (.int (0 : Int32)), .val (.int (1 : Int32)), .val (.ref x26), .val (.ref x27), .val (.ref x28), .val (.ref x29), .val (.ref a30), .val (.ref em), .val (.ref em), .unset, .unset, .unset, .unset, .unset, .unset]) rfl ?_
        refine g_new w at_142 (q := 145) rfl (Hw hw 62 rfl) (Hw hw 63 rfl) (Hw hw 64 rfl) (by decide) (by decide) (fun T h a34 w E g_a34 n_a34 X_a34 D_a34 s_a34 => ?_)
        have z_a34 := Nat.le_trans E0.1 g_a34
        have ne_a30_a34 : a30 ≠ a34 := Nat.ne_of_lt (Nat.lt_of_lt_of_le X_a30.lt g_a34)
        have ne_em_a34 : em ≠ a34 := Nat.ne_of_lt (Nat.lt_of_lt_of_le X_em.lt g_a34)
        have ne_ev_a34 : ev ≠ a34 := Nat.ne_of_lt (Nat.lt_of_lt_of_le X_e.lt g_a34)
        have ne_t_a34 : t ≠ a34 := Nat.ne_of_lt (Nat.lt_of_lt_of_le A_t.lt g_a34)
        have ne_x26_a34 : x26 ≠ a34 := Nat.ne_of_lt (Nat.lt_of_lt_of_le X_x26.lt g_a34)
        have ne_x27_a34 : x27 ≠ a34 := Nat.ne_of_lt (Nat.lt_of_lt_of_le X_x27.lt g_a34)
        have ne_x28_a34 : x28 ≠ a34 := Nat.ne_of_lt (Nat.lt_of_lt_of_le X_x28.lt g_a34)
        have ne_x29_a34 : x29 ≠ a34 := Nat.ne_of_lt (Nat.lt_of_lt_of_le X_x29.lt g_a34)
        replace E0 := ext_trans E0 E
        replace X_x26 := X_x26.ext E
        replace X_x27 := X_x27.ext E
        replace X_x28 := X_x28.ext E
        replace X_x29 := X_x29.ext E
        replace X_a30 := X_a30.ext E
        replace F_elementData_a30 := F_elementData_a30.ext E
        replace F_size_a30 := F_size_a30.ext E
        replace F_modCount_a30 := F_modCount_a30.ext E
        replace A_t := A_t.ext E
        replace X_t := X_t.ext E
        replace X_e := X_e.ext E
        replace F_e := F_e.ext E
        replace X_em := X_em.ext E
        replace F_em := F_em.ext E
        have F_severity_a34 := D_a34 (Or.inr (Hw hw 112 rfl)) (ty := (.object "com/example/stepwize/stepwize/engine/Message$Severity")) (by decide)
        replace F_severity_a34 : Fld Z h a34 "com/example/stepwize/stepwize/engine/Message" "severity" "Lcom/example/stepwize/stepwize/engine/Message$Severity;" .null := F_severity_a34
        have F_source_a34 := D_a34 (Or.inr (Hw hw 114 rfl)) (ty := (.object "java/util/Optional")) (by decide)
        replace F_source_a34 : Fld Z h a34 "com/example/stepwize/stepwize/engine/Message" "source" "Ljava/util/Optional;" .null := F_source_a34
        have F_code_a34 := D_a34 (Or.inr (Hw hw 116 rfl)) (ty := (.object "java/util/Optional")) (by decide)
        replace F_code_a34 : Fld Z h a34 "com/example/stepwize/stepwize/engine/Message" "code" "Ljava/util/Optional;" .null := F_code_a34
        have F_arguments_a34 := D_a34 (Or.inr (Hw hw 118 rfl)) (ty := (.object "java/util/List")) (by decide)
        replace F_arguments_a34 : Fld Z h a34 "com/example/stepwize/stepwize/engine/Message" "arguments" "Ljava/util/List;" .null := F_arguments_a34
        have F_text_a34 := D_a34 (Or.inr (Hw hw 120 rfl)) (ty := (.object "java/lang/String")) (by decide)
        replace F_text_a34 : Fld Z h a34 "com/example/stepwize/stepwize/engine/Message" "text" "Ljava/lang/String;" .null := F_text_a34
        refine g_dup w at_145 (q := 146) rfl rfl ?_
        refine g_aload w at_146 (q := 148) rfl rfl rfl ?_
        refine g_aload w at_148 (q := 150) rfl rfl rfl ?_
        refine g_aload w at_150 (q := 152) rfl rfl rfl ?_
        refine g_aload w at_152 (q := 154) rfl rfl rfl ?_
        refine g_aload w at_154 (q := 156) rfl rfl rfl ?_
        refine g_special w (con_mi_b l Z a0 hw a34 sv em em a30 x28 t ev mr ic _ w.old X_a34 F_severity_a34 F_source_a34 F_code_a34 F_arguments_a34 F_text_a34 n_a34 X_a30 F_elementData_a30 F_size_a30 A_t X_t X_e MR_ SI_) no0 at_156 (q := 159) rfl rfl rfl (Hw hw 65 rfl) (Hw hw 66 rfl) (Hw hw 64 rfl) (Hw hw 67 rfl) (by decide) pd17 rfl rfl (W := 1) (Nat.le_of_eq rfl) (by decide) (by decide) (by decide) (by decide) (fun T h v w gs C q => ?_)
        obtain ⟨rfl, K, y35, g_y35, X_y35, F_e0_y35, F_e1_y35, G_severity, G_source, G_code, G_arguments, G_text⟩ := q
        have z_y35 := Nat.le_trans E0.1 g_y35
        have ne_a30_y35 : a30 ≠ y35 := Nat.ne_of_lt (Nat.lt_of_lt_of_le X_a30.lt g_y35)
        have ne_a34_y35 : a34 ≠ y35 := Nat.ne_of_lt (Nat.lt_of_lt_of_le X_a34.lt g_y35)
        have ne_em_y35 : em ≠ y35 := Nat.ne_of_lt (Nat.lt_of_lt_of_le X_em.lt g_y35)
        have ne_ev_y35 : ev ≠ y35 := Nat.ne_of_lt (Nat.lt_of_lt_of_le X_e.lt g_y35)
        have ne_t_y35 : t ≠ y35 := Nat.ne_of_lt (Nat.lt_of_lt_of_le A_t.lt g_y35)
        have ne_x26_y35 : x26 ≠ y35 := Nat.ne_of_lt (Nat.lt_of_lt_of_le X_x26.lt g_y35)
        have ne_x27_y35 : x27 ≠ y35 := Nat.ne_of_lt (Nat.lt_of_lt_of_le X_x27.lt g_y35)
        have ne_x28_y35 : x28 ≠ y35 := Nat.ne_of_lt (Nat.lt_of_lt_of_le X_x28.lt g_y35)
        have ne_x29_y35 : x29 ≠ y35 := Nat.ne_of_lt (Nat.lt_of_lt_of_le X_x29.lt g_y35)
        replace E0 := ext_keep E0 K z_a34
        have X0 := X_a34
        replace X_x26 := X_x26.keep K
        replace X_x27 := X_x27.keep K
        replace X_x28 := X_x28.keep K
        replace X_x29 := X_x29.keep K
        replace X_a30 := X_a30.keep K
        replace F_elementData_a30 := F_elementData_a30.keep K (not1 ne_a30_a34)
        replace F_size_a30 := F_size_a30.keep K (not1 ne_a30_a34)
        replace F_modCount_a30 := F_modCount_a30.keep K (not1 ne_a30_a34)
        replace A_t := A_t.keep K (not1 ne_t_a34)
        replace X_t := X_t.keep K
        replace X_e := X_e.keep K
        replace F_e := F_e.keep K (not1 ne_ev_a34)
        replace X_em := X_em.keep K
        replace F_em := F_em.keep K (not1 ne_em_a34)
        replace X_a34 := X_a34.keep K
        replace F_severity_a34 := G_severity
        replace F_source_a34 := G_source
        replace F_code_a34 := G_code
        replace F_arguments_a34 := G_arguments
        replace F_text_a34 := G_text
        show Go p e below _ (State.setTop T (mkF m 159 #[.val (.int fl), .val (.int j1), .val (.int j2), .val (.int j3), .val (.int av), .val (.int j5), .val (.ref sv), .val (.int (0 : Int32)), .val (.int (0 : Int32)), .val (.int (1 : Int32)), .val (.ref x26), .val (.ref x27), .val (.ref x28), .val (.ref x29), .val (.ref a30), .val (.ref em), .val (.ref em), .unset, .unset, .unset, .unset, .unset, .unset] [(.ref a34)]))
        refine g_astore w at_159 (q := 161) rfl rfl (Ls' := #[.val (.int fl), .val (.int j1), .val (.int j2), .val (.int j3), .val (.int av), .val (.int j5), .val (.ref sv), .val (.int (0 : Int32)), .val (.int (0 : Int32)), .val (.int (1 : Int32)), .val (.ref x26), .val (.ref x27), .val (.ref x28), .val (.ref x29), .val (.ref a30), .val (.ref em), .val (.ref em), .val (.ref a34), .unset, .unset, .unset, .unset, .unset]) rfl ?_
        refine g_aload w at_161 (q := 163) rfl rfl rfl ?_
        refine g_aload w at_163 (q := 165) rfl rfl rfl ?_
        refine g_virtual w (con_ab_d l Z a0 hw a34 x26 sv em y35 x28 _ w.old F_severity_a34 F_code_a34 F_arguments_a34 F_text_a34 X_y35) no0 X_a34 at_165 (q := 168) rfl rfl (Hw hw 121 rfl) (Hw hw 122 rfl) (Hw hw 124 rfl) (Hw hw 123 rfl) (Hw hw 64 rfl) (Hw hw 125 rfl) (by decide) (nf (Hw hw 124 rfl)) pd22 rfl rfl (W := 0) (Nat.le_of_eq rfl) (by decide) (by decide) (by decide) (by decide) (fun T h v w gs C q => ?_)
        obtain ⟨r36, o37, rfl, E, g_r36, X_r36, F_severity_r36, F_source_r36, F_code_r36, F_arguments_r36, F_text_r36, X_o37, F_value_o37⟩ := q
        have z_r36 := Nat.le_trans E0.1 g_r36
        have ne_a30_r36 : a30 ≠ r36 := Nat.ne_of_lt (Nat.lt_of_lt_of_le X_a30.lt g_r36)
        have ne_a34_r36 : a34 ≠ r36 := Nat.ne_of_lt (Nat.lt_of_lt_of_le X_a34.lt g_r36)
        have ne_em_r36 : em ≠ r36 := Nat.ne_of_lt (Nat.lt_of_lt_of_le X_em.lt g_r36)
        have ne_ev_r36 : ev ≠ r36 := Nat.ne_of_lt (Nat.lt_of_lt_of_le X_e.lt g_r36)
        have ne_t_r36 : t ≠ r36 := Nat.ne_of_lt (Nat.lt_of_lt_of_le A_t.lt g_r36)
        have ne_x26_r36 : x26 ≠ r36 := Nat.ne_of_lt (Nat.lt_of_lt_of_le X_x26.lt g_r36)
        have ne_x27_r36 : x27 ≠ r36 := Nat.ne_of_lt (Nat.lt_of_lt_of_le X_x27.lt g_r36)
        have ne_x28_r36 : x28 ≠ r36 := Nat.ne_of_lt (Nat.lt_of_lt_of_le X_x28.lt g_r36)
        have ne_x29_r36 : x29 ≠ r36 := Nat.ne_of_lt (Nat.lt_of_lt_of_le X_x29.lt g_r36)
        have ne_y35_r36 : y35 ≠ r36 := Nat.ne_of_lt (Nat.lt_of_lt_of_le X_y35.lt g_r36)
        replace E0 := ext_trans E0 E
        replace X_x26 := X_x26.ext E
        replace X_x27 := X_x27.ext E
        replace X_x28 := X_x28.ext E
        replace X_x29 := X_x29.ext E
        replace X_a30 := X_a30.ext E
        replace F_elementData_a30 := F_elementData_a30.ext E
        replace F_size_a30 := F_size_a30.ext E
        replace F_modCount_a30 := F_modCount_a30.ext E
        replace A_t := A_t.ext E
        replace X_t := X_t.ext E
        replace X_e := X_e.ext E
        replace F_e := F_e.ext E
        replace X_em := X_em.ext E
        replace F_em := F_em.ext E
        replace X_a34 := X_a34.ext E
        replace F_severity_a34 := F_severity_a34.ext E
        replace F_source_a34 := F_source_a34.ext E
        replace F_code_a34 := F_code_a34.ext E
        replace F_arguments_a34 := F_arguments_a34.ext E
        replace F_text_a34 := F_text_a34.ext E
        replace X_y35 := X_y35.ext E
        replace F_e0_y35 := F_e0_y35.ext E
        replace F_e1_y35 := F_e1_y35.ext E
        show Go p e below _ (State.setTop T (mkF m 168 #[.val (.int fl), .val (.int j1), .val (.int j2), .val (.int j3), .val (.int av), .val (.int j5), .val (.ref sv), .val (.int (0 : Int32)), .val (.int (0 : Int32)), .val (.int (1 : Int32)), .val (.ref x26), .val (.ref x27), .val (.ref x28), .val (.ref x29), .val (.ref a30), .val (.ref em), .val (.ref em), .val (.ref a34), .unset, .unset, .unset, .unset, .unset] [(.ref r36)]))
        refine g_astore w at_168 (q := 170) rfl rfl (Ls' := #[.val (.int fl), .val (.int j1), .val (.int j2), .val (.int j3), .val (.int av), .val (.int j5), .val (.ref sv), .val (.int (0 : Int32)), .val (.int (0 : Int32)), .val (.int (1 : Int32)), .val (.ref x26), .val (.ref x27), .val (.ref x28), .val (.ref x29), .val (.ref a30), .val (.ref em), .val (.ref em), .val (.ref a34), .val (.ref r36), .unset, .unset, .unset, .unset]) rfl ?_
        refine g_aload w at_170 (q := 172) rfl rfl rfl ?_
        refine g_nonnullY w at_172 (by decide) (q := 177) (by decide) ?_
        refine g_aload w at_177 (q := 179) rfl rfl rfl ?_
        refine g_virtualP w (con_g_severity l Z a0 hw r36 sv _ w.old F_severity_r36) no0 X_r36 at_179 (q := 182) rfl rfl (Hw hw 151 rfl) (Hw hw 152 rfl) (Hw hw 154 rfl) (Hw hw 153 rfl) (Hw hw 64 rfl) (Hw hw 155 rfl) (by decide) (nf (Hw hw 154 rfl)) pd23 rfl rfl (W := 0) (Nat.le_of_eq rfl) (by decide) (by decide) (by decide) (by decide) (fun T v w C q => ?_)
        obtain rfl := q
        show Go p e below _ (State.setTop T (mkF m 182 #[.val (.int fl), .val (.int j1), .val (.int j2), .val (.int j3), .val (.int av), .val (.int j5), .val (.ref sv), .val (.int (0 : Int32)), .val (.int (0 : Int32)), .val (.int (1 : Int32)), .val (.ref x26), .val (.ref x27), .val (.ref x28), .val (.ref x29), .val (.ref a30), .val (.ref em), .val (.ref em), .val (.ref a34), .val (.ref r36), .unset, .unset, .unset, .unset] [(.ref sv)]))
        refine g_aload w at_182 (q := 184) rfl rfl rfl ?_
        refine g_acY w at_184 (by decide) (q := 189) (by decide) rfl rfl (Jvm.Free.XT.aa_eq_t rfl) ?_
        refine g_aload w at_189 (q := 191) rfl rfl rfl ?_
        refine g_virtualP w (con_g_source l Z a0 hw r36 o37 _ w.old F_source_r36) no0 X_r36 at_191 (q := 194) rfl rfl (Hw hw 156 rfl) (Hw hw 157 rfl) (Hw hw 159 rfl) (Hw hw 158 rfl) (Hw hw 64 rfl) (Hw hw 160 rfl) (by decide) (nf (Hw hw 159 rfl)) pd21 rfl rfl (W := 0) (Nat.le_of_eq rfl) (by decide) (by decide) (by decide) (by decide) (fun T v w C q => ?_)
        obtain rfl := q
        show Go p e below _ (State.setTop T (mkF m 194 #[.val (.int fl), .val (.int j1), .val (.int j2), .val (.int j3), .val (.int av), .val (.int j5), .val (.ref sv), .val (.int (0 : Int32)), .val (.int (0 : Int32)), .val (.int (1 : Int32)), .val (.ref x26), .val (.ref x27), .val (.ref x28), .val (.ref x29), .val (.ref a30), .val (.ref em), .val (.ref em), .val (.ref a34), .val (.ref r36), .unset, .unset, .unset, .unset] [(.ref o37)]))
        refine g_astore w at_194 (q := 196) rfl rfl (Ls' := #[.val (.int fl), .val (.int j1), .val (.int j2), .val (.int j3), .val (.int av), .val (.int j5), .val (.ref sv), .val (.int (0 : Int32)), .val (.int (0 : Int32)), .val (.int (1 : Int32)), .val (.ref x26), .val (.ref x27), .val (.ref x28), .val (.ref x29), .val (.ref a30), .val (.ref em), .val (.ref em), .val (.ref a34), .val (.ref r36), .val (.ref o37), .unset, .unset, .unset]) rfl ?_
        refine g_aload w at_196 (q := 198) rfl rfl rfl ?_
        refine g_virtualP w (con_ip1 l Z a0 hw o37 x26 _ w.old F_value_o37) no0 X_o37 at_198 (q := 201) rfl rfl (Hw hw 161 rfl) (Hw hw 162 rfl) (Hw hw 164 rfl) (Hw hw 163 rfl) (Hw hw 59 rfl) (Hw hw 165 rfl) (by decide) (nf (Hw hw 164 rfl)) pd11 rfl rfl (W := 0) (Nat.le_of_eq rfl) (by decide) (by decide) (by decide) (by decide) (fun T v w C q => ?_)
        obtain rfl := q
        show Go p e below _ (State.setTop T (mkF m 201 #[.val (.int fl), .val (.int j1), .val (.int j2), .val (.int j3), .val (.int av), .val (.int j5), .val (.ref sv), .val (.int (0 : Int32)), .val (.int (0 : Int32)), .val (.int (1 : Int32)), .val (.ref x26), .val (.ref x27), .val (.ref x28), .val (.ref x29), .val (.ref a30), .val (.ref em), .val (.ref em), .val (.ref a34), .val (.ref r36), .val (.ref o37), .unset, .unset, .unset] [(.int (1 : Int32))]))
        refine g_ifN w at_201 (q := 204) rfl (by decide) ?_
        refine g_aload w at_204 (q := 206) rfl rfl rfl ?_
        refine g_virtualP w (con_oget l Z a0 hw o37 x26 _ w.old F_value_o37) no0 X_o37 at_206 (q := 209) rfl rfl (Hw hw 166 rfl) (Hw hw 167 rfl) (Hw hw 169 rfl) (Hw hw 168 rfl) (Hw hw 59 rfl) (Hw hw 170 rfl) (by decide) (nf (Hw hw 169 rfl)) pd24 rfl rfl (W := 0) (Nat.le_of_eq rfl) (by decide) (by decide) (by decide) (by decide) (fun T v w C q => ?_)
        obtain rfl := q
        show Go p e below _ (State.setTop T (mkF m 209 #[.val (.int fl), .val (.int j1), .val (.int j2), .val (.int j3), .val (.int av), .val (.int j5), .val (.ref sv), .val (.int (0 : Int32)), .val (.int (0 : Int32)), .val (.int (1 : Int32)), .val (.ref x26), .val (.ref x27), .val (.ref x28), .val (.ref x29), .val (.ref a30), .val (.ref em), .val (.ref em), .val (.ref a34), .val (.ref r36), .val (.ref o37), .unset, .unset, .unset] [(.ref x26)]))
        refine g_cast w at_209 (q := 212) rfl (Hw hw 11 rfl) (Ins.self X_x26) (fun T w => ?_)
        refine g_aload w at_212 (q := 214) rfl rfl rfl ?_
        refine g_virtualP w (con_eq1 l Z a0 hw x26 _ w.old) no0 X_x26 at_214 (q := 217) rfl rfl (Hw hw 171 rfl) (Hw hw 172 rfl) (Hw hw 174 rfl) (Hw hw 173 rfl) (Hw hw 13 rfl) (Hw hw 175 rfl) (by decide) (nf (Hw hw 174 rfl)) pd25 rfl rfl (W := 0) (Nat.le_of_eq rfl) (by decide) (by decide) (by decide) (by decide) (fun T v w C q => ?_)
        obtain rfl := q
        show Go p e below _ (State.setTop T (mkF m 217 #[.val (.int fl), .val (.int j1), .val (.int j2), .val (.int j3), .val (.int av), .val (.int j5), .val (.ref sv), .val (.int (0 : Int32)), .val (.int (0 : Int32)), .val (.int (1 : Int32)), .val (.ref x26), .val (.ref x27), .val (.ref x28), .val (.ref x29), .val (.ref a30), .val (.ref em), .val (.ref em), .val (.ref a34), .val (.ref r36), .val (.ref o37), .unset, .unset, .unset] [(.int (1 : Int32))]))
        refine g_ifY w at_217 (by decide) (q := 222) (by decide) (by decide) ?_
        refine g_aload w at_222 (q := 224) rfl rfl rfl ?_
        refine g_virtualP w (con_g_code l Z a0 hw r36 em _ w.old F_code_r36) no0 X_r36 at_224 (q := 227) rfl rfl (Hw hw 176 rfl) (Hw hw 177 rfl) (Hw hw 179 rfl) (Hw hw 178 rfl) (Hw hw 64 rfl) (Hw hw 180 rfl) (by decide) (nf (Hw hw 179 rfl)) pd21 rfl rfl (W := 0) (Nat.le_of_eq rfl) (by decide) (by decide) (by decide) (by decide) (fun T v w C q => ?_)
        obtain rfl := q
        show Go p e below _ (State.setTop T (mkF m 227 #[.val (.int fl), .val (.int j1), .val (.int j2), .val (.int j3), .val (.int av), .val (.int j5), .val (.ref sv), .val (.int (0 : Int32)), .val (.int (0 : Int32)), .val (.int (1 : Int32)), .val (.ref x26), .val (.ref x27), .val (.ref x28), .val (.ref x29), .val (.ref a30), .val (.ref em), .val (.ref em), .val (.ref a34), .val (.ref r36), .val (.ref o37), .unset, .unset, .unset] [(.ref em)]))
        refine g_astore w at_227 (q := 229) rfl rfl (Ls' := #[.val (.int fl), .val (.int j1), .val (.int j2), .val (.int j3), .val (.int av), .val (.int j5), .val (.ref sv), .val (.int (0 : Int32)), .val (.int (0 : Int32)), .val (.int (1 : Int32)), .val (.ref x26), .val (.ref x27), .val (.ref x28), .val (.ref x29), .val (.ref a30), .val (.ref em), .val (.ref em), .val (.ref a34), .val (.ref r36), .val (.ref o37), .val (.ref em), .unset, .unset]) rfl ?_
        refine g_aload w at_229 (q := 231) rfl rfl rfl ?_
        refine g_virtualP w (con_ip0 l Z a0 hw em em _ w.old F_em) no0 X_em at_231 (q := 234) rfl rfl (Hw hw 161 rfl) (Hw hw 162 rfl) (Hw hw 164 rfl) (Hw hw 163 rfl) (Hw hw 59 rfl) (Hw hw 165 rfl) (by decide) (nf (Hw hw 164 rfl)) pd11 rfl rfl (W := 0) (Nat.le_of_eq rfl) (by decide) (by decide) (by decide) (by decide) (fun T v w C q => ?_)
        obtain rfl := q
        show Go p e below _ (State.setTop T (mkF m 234 #[.val (.int fl), .val (.int j1), .val (.int j2), .val (.int j3), .val (.int av), .val (.int j5), .val (.ref sv), .val (.int (0 : Int32)), .val (.int (0 : Int32)), .val (.int (1 : Int32)), .val (.ref x26), .val (.ref x27), .val (.ref x28), .val (.ref x29), .val (.ref a30), .val (.ref em), .val (.ref em), .val (.ref a34), .val (.ref r36), .val (.ref o37), .val (.ref em), .unset, .unset] [(.int (0 : Int32))]))
        refine g_iload w at_234 (q := 236) rfl rfl ?_
        refine g_icY w at_236 (by decide) (q := 241) (by decide) (Jvm.Free.XT.ii_eq_t rfl) ?_
        refine g_iload w at_241 (q := 243) rfl rfl ?_
        refine g_ifY w at_243 (by decide) (q := 264) (by decide) (by decide) ?_
        refine g_aload w at_264 (q := 266) rfl rfl rfl ?_
        refine g_virtualP w (con_g_arguments l Z a0 hw r36 y35 _ w.old F_arguments_r36) no0 X_r36 at_266 (q := 269) rfl rfl (Hw hw 181 rfl) (Hw hw 182 rfl) (Hw hw 184 rfl) (Hw hw 183 rfl) (Hw hw 64 rfl) (Hw hw 185 rfl) (by decide) (nf (Hw hw 184 rfl)) pd12 rfl rfl (W := 0) (Nat.le_of_eq rfl) (by decide) (by decide) (by decide) (by decide) (fun T v w C q => ?_)
        obtain rfl := q
        show Go p e below _ (State.setTop T (mkF m 269 #[.val (.int fl), .val (.int j1), .val (.int j2), .val (.int j3), .val (.int av), .val (.int j5), .val (.ref sv), .val (.int (0 : Int32)), .val (.int (0 : Int32)), .val (.int (1 : Int32)), .val (.ref x26), .val (.ref x27), .val (.ref x28), .val (.ref x29), .val (.ref a30), .val (.ref em), .val (.ref em), .val (.ref a34), .val (.ref r36), .val (.ref o37), .val (.ref em), .unset, .unset] [(.ref y35)]))
        refine g_astore w at_269 (q := 271) rfl rfl (Ls' := #[.val (.int fl), .val (.int j1), .val (.int j2), .val (.int j3), .val (.int av), .val (.int j5), .val (.ref sv), .val (.int (0 : Int32)), .val (.int (0 : Int32)), .val (.int (1 : Int32)), .val (.ref x26), .val (.ref x27), .val (.ref x28), .val (.ref x29), .val (.ref a30), .val (.ref em), .val (.ref em), .val (.ref a34), .val (.ref r36), .val (.ref o37), .val (.ref em), .val (.ref y35), .unset]) rfl ?_
        refine g_aload w at_271 (q := 273) rfl rfl rfl ?_
        refine g_ifaceP w (con_l12s l Z a0 hw y35 ic _ w.old F_e1_y35 SI_) no0 X_y35 at_273 (q := 278) rfl rfl (Hw hw 186 rfl) (Hw hw 187 rfl) (Hw hw 188 rfl) (by decide) (Hw hw 330 rfl) (Hw hw 331 rfl) (Hw hw 327 rfl) (Hw hw 328 rfl) (Hw hw 329 rfl) (Hw hw 302 rfl) (Hw hw 332 rfl) (by decide) pd26 rfl rfl (W := 0) (Nat.le_of_eq rfl) (by decide) (by decide) (by decide) (by decide) (fun T v w C q => ?_)
        obtain rfl := q
        show Go p e below _ (State.setTop T (mkF m 278 #[.val (.int fl), .val (.int j1), .val (.int j2), .val (.int j3), .val (.int av), .val (.int j5), .val (.ref sv), .val (.int (0 : Int32)), .val (.int (0 : Int32)), .val (.int (1 : Int32)), .val (.ref x26), .val (.ref x27), .val (.ref x28), .val (.ref x29), .val (.ref a30), .val (.ref em), .val (.ref em), .val (.ref a34), .val (.ref r36), .val (.ref o37), .val (.ref em), .val (.ref y35), .unset] [(.int (1 : Int32))]))
        refine g_iload w at_278 (q := 280) rfl rfl ?_
        refine g_ifN w at_280 (q := 283) rfl (by decide) ?_
        refine g_iconst w at_283 (q := 284) rfl (v := (1 : Int32)) (by decide) ?_
        refine g_goto w at_284 (by decide) (q := 288) (by decide) ?_
        refine g_icY w at_288 (by decide) (q := 293) (by decide) (Jvm.Free.XT.ii_eq_t rfl) ?_
        refine g_iload w at_293 (q := 295) rfl rfl ?_
        refine g_ifN w at_295 (q := 298) rfl (by decide) ?_
        refine g_aload w at_298 (q := 300) rfl rfl rfl ?_
        refine g_iconst w at_300 (q := 301) rfl (v := (0 : Int32)) (by decide) ?_
        refine g_ifaceP w (con_l12g l Z a0 hw y35 ev _ w.old F_e0_y35) no0 X_y35 at_301 (q := 306) rfl rfl (Hw hw 333 rfl) (Hw hw 334 rfl) (Hw hw 335 rfl) (by decide) (Hw hw 338 rfl) (Hw hw 339 rfl) (Hw hw 327 rfl) (Hw hw 336 rfl) (Hw hw 337 rfl) (Hw hw 302 rfl) (Hw hw 340 rfl) (by decide) pd29 rfl rfl (W := 0) (Nat.le_of_eq rfl) (by decide) (by decide) (by decide) (by decide) (fun T v w C q => ?_)
        obtain rfl := q
        show Go p e below _ (State.setTop T (mkF m 306 #[.val (.int fl), .val (.int j1), .val (.int j2), .val (.int j3), .val (.int av), .val (.int j5), .val (.ref sv), .val (.int (0 : Int32)), .val (.int (0 : Int32)), .val (.int (1 : Int32)), .val (.ref x26), .val (.ref x27), .val (.ref x28), .val (.ref x29), .val (.ref a30), .val (.ref em), .val (.ref em), .val (.ref a34), .val (.ref r36), .val (.ref o37), .val (.ref em), .val (.ref y35), .unset] [(.ref ev)]))
        refine g_cast w at_306 (q := 309) rfl (Hw hw 341 rfl) (Ins.self X_e) (fun T w => ?_)
        refine g_virtualP w (con_iv l Z a0 hw ev av _ w.old F_e) no0 X_e at_309 (q := 312) rfl rfl (Hw hw 342 rfl) (Hw hw 343 rfl) (Hw hw 345 rfl) (Hw hw 344 rfl) (Hw hw 217 rfl) (Hw hw 346 rfl) (by decide) (nf (Hw hw 345 rfl)) pd26 rfl rfl (W := 0) (Nat.le_of_eq rfl) (by decide) (by decide) (by decide) (by decide) (fun T v w C q => ?_)
        obtain rfl := q
        show Go p e below _ (State.setTop T (mkF m 312 #[.val (.int fl), .val (.int j1), .val (.int j2), .val (.int j3), .val (.int av), .val (.int j5), .val (.ref sv), .val (.int (0 : Int32)), .val (.int (0 : Int32)), .val (.int (1 : Int32)), .val (.ref x26), .val (.ref x27), .val (.ref x28), .val (.ref x29), .val (.ref a30), .val (.ref em), .val (.ref em), .val (.ref a34), .val (.ref r36), .val (.ref o37), .val (.ref em), .val (.ref y35), .unset] [(.int av)]))
        refine g_iload w at_312 (q := 314) rfl rfl ?_
        refine g_icY w at_314 (by decide) (q := 319) (by decide) (Jvm.Free.XT.ii_eq_t rfl) ?_
        refine g_aload w at_319 (q := 321) rfl rfl rfl ?_
        refine g_virtualP w (con_g_text l Z a0 hw r36 x28 _ w.old F_text_r36) no0 X_r36 at_321 (q := 324) rfl rfl (Hw hw 197 rfl) (Hw hw 198 rfl) (Hw hw 200 rfl) (Hw hw 199 rfl) (Hw hw 64 rfl) (Hw hw 201 rfl) (by decide) (nf (Hw hw 200 rfl)) pd27 rfl rfl (W := 0) (Nat.le_of_eq rfl) (by decide) (by decide) (by decide) (by decide) (fun T v w C q => ?_)
        obtain rfl := q
        show Go p e below _ (State.setTop T (mkF m 324 #[.val (.int fl), .val (.int j1), .val (.int j2), .val (.int j3), .val (.int av), .val (.int j5), .val (.ref sv), .val (.int (0 : Int32)), .val (.int (0 : Int32)), .val (.int (1 : Int32)), .val (.ref x26), .val (.ref x27), .val (.ref x28), .val (.ref x29), .val (.ref a30), .val (.ref em), .val (.ref em), .val (.ref a34), .val (.ref r36), .val (.ref o37), .val (.ref em), .val (.ref y35), .unset] [(.ref x28)]))
        refine g_aload w at_324 (q := 326) rfl rfl rfl ?_
        refine g_virtualP w (con_eq1 l Z a0 hw x28 _ w.old) no0 X_x28 at_326 (q := 329) rfl rfl (Hw hw 171 rfl) (Hw hw 172 rfl) (Hw hw 174 rfl) (Hw hw 173 rfl) (Hw hw 13 rfl) (Hw hw 175 rfl) (by decide) (nf (Hw hw 174 rfl)) pd25 rfl rfl (W := 0) (Nat.le_of_eq rfl) (by decide) (by decide) (by decide) (by decide) (fun T v w C q => ?_)
        obtain rfl := q
        show Go p e below _ (State.setTop T (mkF m 329 #[.val (.int fl), .val (.int j1), .val (.int j2), .val (.int j3), .val (.int av), .val (.int j5), .val (.ref sv), .val (.int (0 : Int32)), .val (.int (0 : Int32)), .val (.int (1 : Int32)), .val (.ref x26), .val (.ref x27), .val (.ref x28), .val (.ref x29), .val (.ref a30), .val (.ref em), .val (.ref em), .val (.ref a34), .val (.ref r36), .val (.ref o37), .val (.ref em), .val (.ref y35), .unset] [(.int (1 : Int32))]))
        refine g_ifY w at_329 (by decide) (q := 334) (by decide) (by decide) ?_
        refine g_aload w at_334 (q := 336) rfl rfl rfl ?_
        refine g_virtualP w (con_g_source l Z a0 hw a34 em _ w.old F_source_a34) no0 X_a34 at_336 (q := 339) rfl rfl (Hw hw 156 rfl) (Hw hw 157 rfl) (Hw hw 159 rfl) (Hw hw 158 rfl) (Hw hw 64 rfl) (Hw hw 160 rfl) (by decide) (nf (Hw hw 159 rfl)) pd21 rfl rfl (W := 0) (Nat.le_of_eq rfl) (by decide) (by decide) (by decide) (by decide) (fun T v w C q => ?_)
        obtain rfl := q
        show Go p e below _ (State.setTop T (mkF m 339 #[.val (.int fl), .val (.int j1), .val (.int j2), .val (.int j3), .val (.int av), .val (.int j5), .val (.ref sv), .val (.int (0 : Int32)), .val (.int (0 : Int32)), .val (.int (1 : Int32)), .val (.ref x26), .val (.ref x27), .val (.ref x28), .val (.ref x29), .val (.ref a30), .val (.ref em), .val (.ref em), .val (.ref a34), .val (.ref r36), .val (.ref o37), .val (.ref em), .val (.ref y35), .unset] [(.ref em)]))
        refine g_astore w at_339 (q := 341) rfl rfl (Ls' := #[.val (.int fl), .val (.int j1), .val (.int j2), .val (.int j3), .val (.int av), .val (.int j5), .val (.ref sv), .val (.int (0 : Int32)), .val (.int (0 : Int32)), .val (.int (1 : Int32)), .val (.ref x26), .val (.ref x27), .val (.ref x28), .val (.ref x29), .val (.ref a30), .val (.ref em), .val (.ref em), .val (.ref a34), .val (.ref r36), .val (.ref o37), .val (.ref em), .val (.ref y35), .val (.ref em)]) rfl ?_
        refine g_aload w at_341 (q := 343) rfl rfl rfl ?_
        refine g_virtualP w (con_ip0 l Z a0 hw em em _ w.old F_em) no0 X_em at_343 (q := 346) rfl rfl (Hw hw 161 rfl) (Hw hw 162 rfl) (Hw hw 164 rfl) (Hw hw 163 rfl) (Hw hw 59 rfl) (Hw hw 165 rfl) (by decide) (nf (Hw hw 164 rfl)) pd11 rfl rfl (W := 0) (Nat.le_of_eq rfl) (by decide) (by decide) (by decide) (by decide) (fun T v w C q => ?_)
        obtain rfl := q
        show Go p e below _ (State.setTop T (mkF m 346 #[.val (.int fl), .val (.int j1), .val (.int j2), .val (.int j3), .val (.int av), .val (.int j5), .val (.ref sv), .val (.int (0 : Int32)), .val (.int (0 : Int32)), .val (.int (1 : Int32)), .val (.ref x26), .val (.ref x27), .val (.ref x28), .val (.ref x29), .val (.ref a30), .val (.ref em), .val (.ref em), .val (.ref a34), .val (.ref r36), .val (.ref o37), .val (.ref em), .val (.ref y35), .val (.ref em)] [(.int (0 : Int32))]))
        refine g_iload w at_346 (q := 348) rfl rfl ?_
        refine g_icY w at_348 (by decide) (q := 353) (by decide) (Jvm.Free.XT.ii_eq_t rfl) ?_
        refine g_iload w at_353 (q := 355) rfl rfl ?_
        refine g_ifY w at_355 (by decide) (q := 376) (by decide) (by decide) ?_
        refine g_iconst w at_376 (q := 377) rfl (v := (1 : Int32)) (by decide) ?_
        exact g_retn w at_377 rfl (by simp) rfl (by decide) (by decide) rfl
    · refine g_iconst w at_31 (q := 32) rfl (v := (1 : Int32)) (by decide) ?_
      refine g_goto w at_32 (by decide) (q := 36) (by decide) ?_
      refine g_istore w at_36 (q := 38) rfl (Ls' := #[.val (.int fl), .val (.int j1), .val (.int j2), .val (.int j3), .val (.int av), .val (.int j5), .val (.ref sv), .val (.int (0 : Int32)), .val (.int (1 : Int32)), .unset, .unset, .unset, .unset, .unset, .unset, .unset, .unset, .unset, .unset, .unset, .unset, .unset, .unset]) rfl ?_
      refine g_iloadN w at_38 (q := 39) rfl rfl ?_
      refine g_bipush w at_39 (q := 41) rfl (v := (10 : Int32)) (by decide) ?_
      refine g_iushr w at_41 (q := 42) rfl ?_
      refine g_iconst w at_42 (q := 43) rfl (v := (1 : Int32)) (by decide) ?_
      refine g_iand w at_43 (q := 44) rfl ?_
      refine g_if_eq w at_44 (by decide) (q := 51) (by decide) (q' := 47) rfl (fun cd50 => ?_) (fun cd50 => ?_)
      · refine g_iconst w at_51 (q := 52) rfl (v := (0 : Int32)) (by decide) ?_
        refine g_istore w at_52 (q := 54) rfl (Ls' := #[.val (.int fl), .val (.int j1), .val (.int j2), .val (.int j3), .val (.int av), .val (.int j5), .val (.ref sv), .val (.int (0 : Int32)), .val (.int (1 : Int32)), .val (.int (0 : Int32)), .unset, .unset, .unset, .unset, .unset, .unset, .unset, .unset, .unset, .unset, .unset, .unset, .unset]) rfl ?_
        refine g_iloadN w at_54 (q := 55) rfl rfl ?_
        refine g_static w (con_str l Z a0 hw j1 _ w.old hcm) no0 at_55 (q := 58) rfl rfl (Hw hw 8 rfl) (Hw hw 9 rfl) (Hw hw 2 rfl) (Hw hw 10 rfl) (by decide) pd20 rfl rfl (W := 0) (Nat.le_of_eq rfl) (by decide) (by decide) (by decide) (by decide) (fun T h v w gs C q => ?_)
        obtain ⟨x51, rfl, E, g_x51, X_x51⟩ := q
        have z_x51 := Nat.le_trans E0.1 g_x51
        replace E0 := ext_trans E0 E
        show Go p e below _ (State.setTop T (mkF m 58 #[.val (.int fl), .val (.int j1), .val (.int j2), .val (.int j3), .val (.int av), .val (.int j5), .val (.ref sv), .val (.int (0 : Int32)), .val (.int (1 : Int32)), .val (.int (0 : Int32)), .unset, .unset, .unset, .unset, .unset, .unset, .unset, .unset, .unset, .unset, .unset, .unset, .unset] [(.ref x51)]))
        refine g_astore w at_58 (q := 60) rfl rfl (Ls' := #[.val (.int fl), .val (.int j1), .val (.int j2), .val (.int j3), .val (.int av), .val (.int j5), .val (.ref sv), .val (.int (0 : Int32)), .val (.int (1 : Int32)), .val (.int (0 : Int32)), .val (.ref x51), .unset, .unset, .unset, .unset, .unset, .unset, .unset, .unset, .unset, .unset, .unset, .unset]) rfl ?_
        refine g_iloadN w at_60 (q := 61) rfl rfl ?_
        refine g_static w (con_str l Z a0 hw j2 _ w.old hcm) no0 at_61 (q := 64) rfl rfl (Hw hw 8 rfl) (Hw hw 9 rfl) (Hw hw 2 rfl) (Hw hw 10 rfl) (by decide) pd20 rfl rfl (W := 0) (Nat.le_of_eq rfl) (by decide) (by decide) (by decide) (by decide) (fun T h v w gs C q => ?_)
        obtain ⟨x52, rfl, E, g_x52, X_x52⟩ := q
        have z_x52 := Nat.le_trans E0.1 g_x52
        have ne_x51_x52 : x51 ≠ x52 := Nat.ne_of_lt (Nat.lt_of_lt_of_le X_x51.lt g_x52)
        replace E0 := ext_trans E0 E
        replace X_x51 := X_x51.ext E
        show Go p e below _ (State.setTop T (mkF m 64 #[.val (.int fl), .val (.int j1), .val (.int j2), .val (.int j3), .val (.int av), .val (.int j5), .val (.ref sv), .val (.int (0 : Int32)), .val (.int (1 : Int32)), .val (.int (0 : Int32)), .val (.ref x51), .unset, .unset, .unset, .unset, .unset, .unset, .unset, .unset, .unset, .unset, .unset, .unset] [(.ref x52)]))
        refine g_astore w at_64 (q := 66) rfl rfl (Ls' := #[.val (.int fl), .val (.int j1), .val (.int j2), .val (.int j3), .val (.int av), .val (.int j5), .val (.ref sv), .val (.int (0 : Int32)), .val (.int (1 : Int32)), .val (.int (0 : Int32)), .val (.ref x51), .val (.ref x52), .unset, .unset, .unset, .unset, .unset, .unset, .unset, .unset, .unset, .unset, .unset]) rfl ?_
        refine g_iloadN w at_66 (q := 67) rfl rfl ?_
        refine g_static w (con_str l Z a0 hw j3 _ w.old hcm) no0 at_67 (q := 70) rfl rfl (Hw hw 8 rfl) (Hw hw 9 rfl) (Hw hw 2 rfl) (Hw hw 10 rfl) (by decide) pd20 rfl rfl (W := 0) (Nat.le_of_eq rfl) (by decide) (by decide) (by decide) (by decide) (fun T h v w gs C q => ?_)
        obtain ⟨x53, rfl, E, g_x53, X_x53⟩ := q
        have z_x53 := Nat.le_trans E0.1 g_x53
        have ne_x51_x53 : x51 ≠ x53 := Nat.ne_of_lt (Nat.lt_of_lt_of_le X_x51.lt g_x53)
        have ne_x52_x53 : x52 ≠ x53 := Nat.ne_of_lt (Nat.lt_of_lt_of_le X_x52.lt g_x53)
        replace E0 := ext_trans E0 E
        replace X_x51 := X_x51.ext E
        replace X_x52 := X_x52.ext E
        show Go p e below _ (State.setTop T (mkF m 70 #[.val (.int fl), .val (.int j1), .val (.int j2), .val (.int j3), .val (.int av), .val (.int j5), .val (.ref sv), .val (.int (0 : Int32)), .val (.int (1 : Int32)), .val (.int (0 : Int32)), .val (.ref x51), .val (.ref x52), .unset, .unset, .unset, .unset, .unset, .unset, .unset, .unset, .unset, .unset, .unset] [(.ref x53)]))
        refine g_astore w at_70 (q := 72) rfl rfl (Ls' := #[.val (.int fl), .val (.int j1), .val (.int j2), .val (.int j3), .val (.int av), .val (.int j5), .val (.ref sv), .val (.int (0 : Int32)), .val (.int (1 : Int32)), .val (.int (0 : Int32)), .val (.ref x51), .val (.ref x52), .val (.ref x53), .unset, .unset, .unset, .unset, .unset, .unset, .unset, .unset, .unset, .unset]) rfl ?_
        refine g_iload w at_72 (q := 74) rfl rfl ?_
        refine g_static w (con_str l Z a0 hw j5 _ w.old hcm) no0 at_74 (q := 77) rfl rfl (Hw hw 8 rfl) (Hw hw 9 rfl) (Hw hw 2 rfl) (Hw hw 10 rfl) (by decide) pd20 rfl rfl (W := 0) (Nat.le_of_eq rfl) (by decide) (by decide) (by decide) (by decide) (fun T h v w gs C q => ?_)
        obtain ⟨x54, rfl, E, g_x54, X_x54⟩ := q
        have z_x54 := Nat.le_trans E0.1 g_x54
        have ne_x51_x54 : x51 ≠ x54 := Nat.ne_of_lt (Nat.lt_of_lt_of_le X_x51.lt g_x54)
        have ne_x52_x54 : x52 ≠ x54 := Nat.ne_of_lt (Nat.lt_of_lt_of_le X_x52.lt g_x54)
        have ne_x53_x54 : x53 ≠ x54 := Nat.ne_of_lt (Nat.lt_of_lt_of_le X_x53.lt g_x54)
        replace E0 := ext_trans E0 E
        replace X_x51 := X_x51.ext E
        replace X_x52 := X_x52.ext E
        replace X_x53 := X_x53.ext E
        show Go p e below _ (State.setTop T (mkF m 77 #[.val (.int fl), .val (.int j1), .val (.int j2), .val (.int j3), .val (.int av), .val (.int j5), .val (.ref sv), .val (.int (0 : Int32)), .val (.int (1 : Int32)), .val (.int (0 : Int32)), .val (.ref x51), .val (.ref x52), .val (.ref x53), .unset, .unset, .unset, .unset, .unset, .unset, .unset, .unset, .unset, .unset] [(.ref x54)]))
        refine g_astore w at_77 (q := 79) rfl rfl (Ls' := #[.val (.int fl), .val (.int j1), .val (.int j2), .val (.int j3), .val (.int av), .val (.int j5), .val (.ref sv), .val (.int (0 : Int32)), .val (.int (1 : Int32)), .val (.int (0 : Int32)), .val (.ref x51), .val (.ref x52), .val (.ref x53), .val (.ref x54), .unset, .unset, .unset, .unset, .unset, .unset, .unset, .unset, .unset]) rfl ?_
        refine g_new w at_79 (q := 82) rfl (Hw hw 33 rfl) (Hw hw 34 rfl) (Hw hw 35 rfl) (by decide) (by decide) (fun T h a55 w E g_a55 n_a55 X_a55 D_a55 s_a55 => ?_)
        have z_a55 := Nat.le_trans E0.1 g_a55
        have ne_x51_a55 : x51 ≠ a55 := Nat.ne_of_lt (Nat.lt_of_lt_of_le X_x51.lt g_a55)
        have ne_x52_a55 : x52 ≠ a55 := Nat.ne_of_lt (Nat.lt_of_lt_of_le X_x52.lt g_a55)
        have ne_x53_a55 : x53 ≠ a55 := Nat.ne_of_lt (Nat.lt_of_lt_of_le X_x53.lt g_a55)
        have ne_x54_a55 : x54 ≠ a55 := Nat.ne_of_lt (Nat.lt_of_lt_of_le X_x54.lt g_a55)
        replace E0 := ext_trans E0 E
        replace X_x51 := X_x51.ext E
        replace X_x52 := X_x52.ext E
        replace X_x53 := X_x53.ext E
        replace X_x54 := X_x54.ext E
        have F_modCount_a55 := D_a55 (Or.inl (Hw hw 53 rfl)) (ty := .int) (by decide)
        replace F_modCount_a55 : Fld Z h a55 "java/util/AbstractList" "modCount" "I" (.int (0 : Int32)) := F_modCount_a55
        have F_elementData_a55 := D_a55 (Or.inl (Hw hw 56 rfl)) (ty := (.array (.object "java/lang/Object"))) (by decide)
        replace F_elementData_a55 : Fld Z h a55 "java/util/ArrayList" "elementData" "[Ljava/lang/Object;" .null := F_elementData_a55
        have F_size_a55 := D_a55 (Or.inl (Hw hw 105 rfl)) (ty := .int) (by decide)
        replace F_size_a55 : Fld Z h a55 "java/util/ArrayList" "size" "I" (.int (0 : Int32)) := F_size_a55
        refine g_dup w at_82 (q := 83) rfl rfl ?_
        refine g_special w (con_al l Z a0 hw a55 df _ w.old X_a55 F_elementData_a55 F_size_a55 F_modCount_a55 n_a55 SD_) no0 at_83 (q := 86) rfl rfl rfl (Hw hw 36 rfl) (Hw hw 37 rfl) (Hw hw 35 rfl) (Hw hw 38 rfl) (by decide) pd1 rfl rfl (W := 1) (Nat.le_of_eq rfl) (by decide) (by decide) (by decide) (by decide) (fun T h v w gs C q => ?_)
        obtain ⟨rfl, K, G_X, G_elementData, G_size, G_modCount⟩ := q
        replace E0 := ext_keep E0 K z_a55
        have X0 := X_a55
        replace X_x51 := X_x51.keep K
        replace X_x52 := X_x52.keep K
        replace X_x53 := X_x53.keep K
        replace X_x54 := X_x54.keep K
        replace X_a55 := X_a55.keep K
        replace X_a55 := G_X
        replace F_elementData_a55 := G_elementData
        replace F_size_a55 := G_size
        replace F_modCount_a55 := G_modCount
        show Go p e below _ (State.setTop T (mkF m 86 #[.val (.int fl), .val (.int j1), .val (.int j2), .val (.int j3), .val (.int av), .val (.int j5), .val (.ref sv), .val (.int (0 : Int32)), .val (.int (1 : Int32)), .val (.int (0 : Int32)), .val (.ref x51), .val (.ref x52), .val (.ref x53), .val (.ref x54), .unset, .unset, .unset, .unset, .unset, .unset, .unset, .unset, .unset] [(.ref a55)]))
        refine g_astore w at_86 (q := 88) rfl rfl (Ls' := #[.val (.int fl), .val (.int j1), .val (.int j2), .val (.int j3), .val (.int av), .val (.int j5), .val (.ref sv), .val (.int (0 : Int32)), .val (.int (1 : Int32)), .val (.int (0 : Int32)), .val (.ref x51), .val (.ref x52), .val (.ref x53), .val (.ref x54), .val (.ref a55), .unset, .unset, .unset, .unset, .unset, .unset, .unset, .unset]) rfl ?_
        refine g_iload w at_88 (q := 90) rfl rfl ?_
        refine g_ifY w at_90 (by decide) (q := 106) (by decide) (by decide) ?_
        refine g_iload w at_106 (q := 108) rfl rfl ?_
        refine g_ifY w at_108 (by decide) (q := 119) (by decide) (by decide) ?_
        refine g_staticP w (con_emp l Z a0 hw em _ w.old SE_) no0 at_119 (q := 122) rfl rfl (Hw hw 57 rfl) (Hw hw 58 rfl) (Hw hw 59 rfl) (Hw hw 60 rfl) (by decide) pd21 rfl rfl (W := 0) (Nat.le_of_eq rfl) (by decide) (by decide) (by decide) (by decide) (fun T v w C q => ?_)
        obtain rfl := q
        show Go p e below _ (State.setTop T (mkF m 122 #[.val (.int fl), .val (.int j1), .val (.int j2), .val (.int j3), .val (.int av), .val (.int j5), .val (.ref sv), .val (.int (0 : Int32)), .val (.int (1 : Int32)), .val (.int (0 : Int32)), .val (.ref x51), .val (.ref x52), .val (.ref x53), .val (.ref x54), .val (.ref a55), .unset, .unset, .unset, .unset, .unset, .unset, .unset, .unset] [(.ref em)]))
        have X_em := XE_.ext w.old
        have F_em := FE_.ext w.old
        refine g_astore w at_122 (q := 124) rfl rfl (Ls' := #[.val (.int fl), .val (.int j1), .val (.int j2), .val (.int j3), .val (.int av), .val (.int j5), .val (.ref sv), .val (.int (0 : Int32)), .val (.int (1 : Int32)), .val (.int (0 : Int32)), .val (.ref x51), .val (.ref x52), .val (.ref x53), .val (.ref x54), .val (.ref a55), .val (.ref em), .unset, .unset, .unset, .unset, .unset, .unset, .unset]) rfl ?_
        refine g_iload w at_124 (q := 126) rfl rfl ?_
        refine g_ifN w at_126 (q := 129) rfl (by decide) ?_
        refine g_aload w at_129 (q := 131) rfl rfl rfl ?_
        refine g_static w (con_of l Z a0 hw x54 _ w.old) no0 at_131 (q := 134) rfl rfl (Hw hw 349 rfl) (Hw hw 128 rfl) (Hw hw 59 rfl) (Hw hw 129 rfl) (by decide) pd16 rfl rfl (W := 0) (Nat.le_of_eq rfl) (by decide) (by decide) (by decide) (by decide) (fun T h v w gs C q => ?_)
        obtain ⟨o59, rfl, E, g_o59, X_o59, F_value_o59⟩ := q
        have z_o59 := Nat.le_trans E0.1 g_o59
        have ne_a55_o59 : a55 ≠ o59 := Nat.ne_of_lt (Nat.lt_of_lt_of_le X_a55.lt g_o59)
        have ne_em_o59 : em ≠ o59 := Nat.ne_of_lt (Nat.lt_of_lt_of_le X_em.lt g_o59)
        have ne_x51_o59 : x51 ≠ o59 := Nat.ne_of_lt (Nat.lt_of_lt_of_le X_x51.lt g_o59)
        have ne_x52_o59 : x52 ≠ o59 := Nat.ne_of_lt (Nat.lt_of_lt_of_le X_x52.lt g_o59)
        have ne_x53_o59 : x53 ≠ o59 := Nat.ne_of_lt (Nat.lt_of_lt_of_le X_x53.lt g_o59)
        have ne_x54_o59 : x54 ≠ o59 := Nat.ne_of_lt (Nat.lt_of_lt_of_le X_x54.lt g_o59)
        replace E0 := ext_trans E0 E
        replace X_x51 := X_x51.ext E
        replace X_x52 := X_x52.ext E
        replace X_x53 := X_x53.ext E
        replace X_x54 := X_x54.ext E
        replace X_a55 := X_a55.ext E
        replace F_elementData_a55 := F_elementData_a55.ext E
        replace F_size_a55 := F_size_a55.ext E
        replace F_modCount_a55 := F_modCount_a55.ext E
        replace X_em := X_em.ext E
        replace F_em := F_em.ext E
        show Go p e below _ (State.setTop T (mkF m 134 #[.val (.int fl), .val (.int j1), .val (.int j2), .val (.int j3), .val (.int av), .val (.int j5), .val (.ref sv), .val (.int (0 : Int32)), .val (.int (1 : Int32)), .val (.int (0 : Int32)), .val (.ref x51), .val (.ref x52), .val (.ref x53), .val (.ref x54), .val (.ref a55), .val (.ref em), .unset, .unset, .unset, .unset, .unset, .unset, .unset] [(.ref o59)]))
        refine g_goto w at_134 (by decide) (q := 140) (by decide) ?_
        refine g_astore w at_140 (q := 142) rfl rfl (Ls' := #[.val (.int fl), .val (.int j1), .val (.int j2), .val (.int j3), .val (.int av), .val (.int j5), .val (.ref sv), .val (.int (0 : Int32)), .val (.int (1 : Int32)), .val (.int (0 : Int32)), .val (.ref x51), .val (.ref x52), .val (.ref x53), .val (.ref x54), .val (.ref a55), .val (.ref em), .val (.ref o59), .unset, .unset, .unset, .unset, .unset, .unset]) rfl ?_
        refine g_new w at_142 (q := 145) rfl (Hw hw 62 rfl) (Hw hw 63 rfl) (Hw hw 64 rfl) (by decide) (by decide) (fun T h a60 w E g_a60 n_a60 X_a60 D_a60 s_a60 => ?_)
        have z_a60 := Nat.le_trans E0.1 g_a60
        have ne_a55_a60 : a55 ≠ a60 := Nat.ne_of_lt (Nat.lt_of_lt_of_le X_a55.lt g_a60)
        have ne_em_a60 : em ≠ a60 := Nat.ne_of_lt (Nat.lt_of_lt_of_le X_em.lt g_a60)
        have ne_o59_a60 : o59 ≠ a60 := Nat.ne_of_lt (Nat.lt_of_lt_of_le X_o59.lt g_a60)
        have ne_x51_a60 : x51 ≠ a60 := Nat.ne_of_lt (Nat.lt_of_lt_of_le X_x51.lt g_a60)
        have ne_x52_a60 : x52 ≠ a60 := Nat.ne_of_lt (Nat.lt_of_lt_of_le X_x52.lt g_a60)
        have ne_x53_a60 : x53 ≠ a60 := Nat.ne_of_lt (Nat.lt_of_lt_of_le X_x53.lt g_a60)
        have ne_x54_a60 : x54 ≠ a60 := Nat.ne_of_lt (Nat.lt_of_lt_of_le X_x54.lt g_a60)
        replace E0 := ext_trans E0 E
        replace X_x51 := X_x51.ext E
        replace X_x52 := X_x52.ext E
        replace X_x53 := X_x53.ext E
        replace X_x54 := X_x54.ext E
        replace X_a55 := X_a55.ext E
        replace F_elementData_a55 := F_elementData_a55.ext E
        replace F_size_a55 := F_size_a55.ext E
        replace F_modCount_a55 := F_modCount_a55.ext E
        replace X_em := X_em.ext E
        replace F_em := F_em.ext E
        replace X_o59 := X_o59.ext E
        replace F_value_o59 := F_value_o59.ext E
        have F_severity_a60 := D_a60 (Or.inr (Hw hw 112 rfl)) (ty := (.object "com/example/stepwize/stepwize/engine/Message$Severity")) (by decide)
        replace F_severity_a60 : Fld Z h a60 "com/example/stepwize/stepwize/engine/Message" "severity" "Lcom/example/stepwize/stepwize/engine/Message$Severity;" .null := F_severity_a60
        have F_source_a60 := D_a60 (Or.inr (Hw hw 114 rfl)) (ty := (.object "java/util/Optional")) (by decide)
        replace F_source_a60 : Fld Z h a60 "com/example/stepwize/stepwize/engine/Message" "source" "Ljava/util/Optional;" .null := F_source_a60
        have F_code_a60 := D_a60 (Or.inr (Hw hw 116 rfl)) (ty := (.object "java/util/Optional")) (by decide)
        replace F_code_a60 : Fld Z h a60 "com/example/stepwize/stepwize/engine/Message" "code" "Ljava/util/Optional;" .null := F_code_a60
        have F_arguments_a60 := D_a60 (Or.inr (Hw hw 118 rfl)) (ty := (.object "java/util/List")) (by decide)
        replace F_arguments_a60 : Fld Z h a60 "com/example/stepwize/stepwize/engine/Message" "arguments" "Ljava/util/List;" .null := F_arguments_a60
        have F_text_a60 := D_a60 (Or.inr (Hw hw 120 rfl)) (ty := (.object "java/lang/String")) (by decide)
        replace F_text_a60 : Fld Z h a60 "com/example/stepwize/stepwize/engine/Message" "text" "Ljava/lang/String;" .null := F_text_a60
        refine g_dup w at_145 (q := 146) rfl rfl ?_
        refine g_aload w at_146 (q := 148) rfl rfl rfl ?_
        refine g_aload w at_148 (q := 150) rfl rfl rfl ?_
        refine g_aload w at_150 (q := 152) rfl rfl rfl ?_
        refine g_aload w at_152 (q := 154) rfl rfl rfl ?_
        refine g_aload w at_154 (q := 156) rfl rfl rfl ?_
        refine g_special w (con_mi_a l Z a0 hw a60 sv em o59 a55 x53 el _ w.old X_a60 F_severity_a60 F_source_a60 F_code_a60 F_arguments_a60 F_text_a60 n_a60 X_a55 F_size_a55 SL_) no0 at_156 (q := 159) rfl rfl rfl (Hw hw 65 rfl) (Hw hw 66 rfl) (Hw hw 64 rfl) (Hw hw 67 rfl) (by decide) pd17 rfl rfl (W := 1) (Nat.le_of_eq rfl) (by decide) (by decide) (by decide) (by decide) (fun T h v w gs C q => ?_)
        obtain ⟨rfl, K, G_severity, G_source, G_code, G_arguments, G_text⟩ := q
        replace E0 := ext_keep E0 K z_a60
        have X0 := X_a60
        replace X_x51 := X_x51.keep K
        replace X_x52 := X_x52.keep K
        replace X_x53 := X_x53.keep K
        replace X_x54 := X_x54.keep K
        replace X_a55 := X_a55.keep K
        replace F_elementData_a55 := F_elementData_a55.keep K (not1 ne_a55_a60)
        replace F_size_a55 := F_size_a55.keep K (not1 ne_a55_a60)
        replace F_modCount_a55 := F_modCount_a55.keep K (not1 ne_a55_a60)
        replace X_em := X_em.keep K
        replace F_em := F_em.keep K (not1 ne_em_a60)
        replace X_o59 := X_o59.keep K
        replace F_value_o59 := F_value_o59.keep K (not1 ne_o59_a60)
        replace X_a60 := X_a60.keep K
        replace F_severity_a60 := G_severity
        replace F_source_a60 := G_source
        replace F_code_a60 := G_code
        replace F_arguments_a60 := G_arguments
        replace F_text_a60 := G_text
        have X_el := XL_.ext w.old
        have F_an_el := FLa_.ext w.old
        have F_ee_el := FLe_.ext w.old
        have A_ee := AL0_.ext w.old
        show Go p e below _ (State.setTop T (mkF m 159 #[.val (.int fl), .val (.int j1), .val (.int j2), .val (.int j3), .val (.int av), .val (.int j5), .val (.ref sv), .val (.int (0 : Int32)), .val (.int (1 : Int32)), .val (.int (0 : Int32)), .val (.ref x51), .val (.ref x52), .val (.ref x53), .val (.ref x54), .val (.ref a55), .val (.ref em), .val (.ref o59), .unset, .unset, .unset, .unset, .unset, .unset] [(.ref a60)]))
        refine g_astore w at_159 (q := 161) rfl rfl (Ls' := #[.val (.int fl), .val (.int j1), .val (.int j2), .val (.int j3), .val (.int av), .val (.int j5), .val (.ref sv), .val (.int (0 : Int32)), .val (.int (1 : Int32)), .val (.int (0 : Int32)), .val (.ref x51), .val (.ref x52), .val (.ref x53), .val (.ref x54), .val (.ref a55), .val (.ref em), .val (.ref o59), .val (.ref a60), .unset, .unset, .unset, .unset, .unset]) rfl ?_
        refine g_aload w at_161 (q := 163) rfl rfl rfl ?_
        refine g_aload w at_163 (q := 165) rfl rfl rfl ?_
        refine g_virtual w (con_ab_c l Z a0 hw a60 x51 sv o59 el x53 _ w.old F_severity_a60 F_code_a60 F_arguments_a60 F_text_a60 X_el F_an_el) no0 X_a60 at_165 (q := 168) rfl rfl (Hw hw 121 rfl) (Hw hw 122 rfl) (Hw hw 124 rfl) (Hw hw 123 rfl) (Hw hw 64 rfl) (Hw hw 125 rfl) (by decide) (nf (Hw hw 124 rfl)) pd22 rfl rfl (W := 0) (Nat.le_of_eq rfl) (by decide) (by decide) (by decide) (by decide) (fun T h v w gs C q => ?_)
        obtain ⟨r61, o62, rfl, E, g_r61, X_r61, F_severity_r61, F_source_r61, F_code_r61, F_arguments_r61, F_text_r61, X_o62, F_value_o62⟩ := q
        have z_r61 := Nat.le_trans E0.1 g_r61
        have ne_a55_r61 : a55 ≠ r61 := Nat.ne_of_lt (Nat.lt_of_lt_of_le X_a55.lt g_r61)
        have ne_a60_r61 : a60 ≠ r61 := Nat.ne_of_lt (Nat.lt_of_lt_of_le X_a60.lt g_r61)
        have ne_ee_r61 : ee ≠ r61 := Nat.ne_of_lt (Nat.lt_of_lt_of_le A_ee.lt g_r61)
        have ne_el_r61 : el ≠ r61 := Nat.ne_of_lt (Nat.lt_of_lt_of_le X_el.lt g_r61)
        have ne_em_r61 : em ≠ r61 := Nat.ne_of_lt (Nat.lt_of_lt_of_le X_em.lt g_r61)
        have ne_o59_r61 : o59 ≠ r61 := Nat.ne_of_lt (Nat.lt_of_lt_of_le X_o59.lt g_r61)
        have ne_x51_r61 : x51 ≠ r61 := Nat.ne_of_lt (Nat.lt_of_lt_of_le X_x51.lt g_r61)
        have ne_x52_r61 : x52 ≠ r61 := Nat.ne_of_lt (Nat.lt_of_lt_of_le X_x52.lt g_r61)
        have ne_x53_r61 : x53 ≠ r61 := Nat.ne_of_lt (Nat.lt_of_lt_of_le X_x53.lt g_r61)
        have ne_x54_r61 : x54 ≠ r61 := Nat.ne_of_lt (Nat.lt_of_lt_of_le X_x54.lt g_r61)
        replace E0 := ext_trans E0 E
        replace X_x51 := X_x51.ext E
        replace X_x52 := X_x52.ext E
        replace X_x53 := X_x53.ext E
        replace X_x54 := X_x54.ext E
        replace X_a55 := X_a55.ext E
        replace F_elementData_a55 := F_elementData_a55.ext E
        replace F_size_a55 := F_size_a55.ext E
        replace F_modCount_a55 := F_modCount_a55.ext E
        replace X_em := X_em.ext E
        replace F_em := F_em.ext E
        replace X_o59 := X_o59.ext E
        replace F_value_o59 := F_value_o59.ext E
        replace X_a60 := X_a60.ext E
        replace F_severity_a60 := F_severity_a60.ext E
        replace F_source_a60 := F_source_a60.ext E
        replace F_code_a60 := F_code_a60.ext E
        replace F_arguments_a60 := F_arguments_a60.ext E
        replace F_text_a60 := F_text_a60.ext E
        replace X_el := X_el.ext E
        replace F_an_el := F_an_el.ext E
        replace F_ee_el := F_ee_el.ext E
        replace A_ee := A_ee.ext E
        show Go p e below _ (State.setTop T (mkF m 168 #[.val (.int fl), .val (.int j1), .val (.int j2), .val (.int j3), .val (.int av), .val (.int j5), .val (.ref sv), .val (.int (0 : Int32)), .val (.int (1 : Int32)), .val (.int (0 : Int32)), .val (.ref x51), .val (.ref x52), .val (.ref x53), .val (.ref x54), .val (.ref a55), .val (.ref em), .val (.ref o59), .val (.ref a60), .unset, .unset, .unset, .unset, .unset] [(.ref r61)]))
        refine g_astore w at_168 (q := 170) rfl rfl (Ls' := #[.val (.int fl), .val (.int j1), .val (.int j2), .val (.int j3), .val (.int av), .val (.int j5), .val (.ref sv), .val (.int (0 : Int32)), .val (.int (1 : Int32)), .val (.int (0 : Int32)), .val (.ref x51), .val (.ref x52), .val (.ref x53), .val (.ref x54), .val (.ref a55), .val (.ref em), .val (.ref o59), .val (.ref a60), .val (.ref r61), .unset, .unset, .unset, .unset]) rfl ?_
        refine g_aload w at_170 (q := 172) rfl rfl rfl ?_
        refine g_nonnullY w at_172 (by decide) (q := 177) (by decide) ?_
        refine g_aload w at_177 (q := 179) rfl rfl rfl ?_
        refine g_virtualP w (con_g_severity l Z a0 hw r61 sv _ w.old F_severity_r61) no0 X_r61 at_179 (q := 182) rfl rfl (Hw hw 151 rfl) (Hw hw 152 rfl) (Hw hw 154 rfl) (Hw hw 153 rfl) (Hw hw 64 rfl) (Hw hw 155 rfl) (by decide) (nf (Hw hw 154 rfl)) pd23 rfl rfl (W := 0) (Nat.le_of_eq rfl) (by decide) (by decide) (by decide) (by decide) (fun T v w C q => ?_)
        obtain rfl := q
        show Go p e below _ (State.setTop T (mkF m 182 #[.val (.int fl), .val (.int j1), .val (.int j2), .val (.int j3), .val (.int av), .val (.int j5), .val (.ref sv), .val (.int (0 : Int32)), .val (.int (1 : Int32)), .val (.int (0 : Int32)), .val (.ref x51), .val (.ref x52), .val (.ref x53), .val (.ref x54), .val (.ref a55), .val (.ref em), .val (.ref o59), .val (.ref a60), .val (.ref r61), .unset, .unset, .unset, .unset] [(.ref sv)]))
        refine g_aload w at_182 (q := 184) rfl rfl rfl ?_
        refine g_acY w at_184 (by decide) (q := 189) (by decide) rfl rfl (Jvm.Free.XT.aa_eq_t rfl) ?_
        refine g_aload w at_189 (q := 191) rfl rfl rfl ?_
        refine g_virtualP w (con_g_source l Z a0 hw r61 o62 _ w.old F_source_r61) no0 X_r61 at_191 (q := 194) rfl rfl (Hw hw 156 rfl) (Hw hw 157 rfl) (Hw hw 159 rfl) (Hw hw 158 rfl) (Hw hw 64 rfl) (Hw hw 160 rfl) (by decide) (nf (Hw hw 159 rfl)) pd21 rfl rfl (W := 0) (Nat.le_of_eq rfl) (by decide) (by decide) (by decide) (by decide) (fun T v w C q => ?_)
        obtain rfl := q
        show Go p e below _ (State.setTop T (mkF m 194 #[.val (.int fl), .val (.int j1), .val (.int j2), .val (.int j3), .val (.int av), .val (.int j5), .val (.ref sv), .val (.int (0 : Int32)), .val (.int (1 : Int32)), .val (.int (0 : Int32)), .val (.ref x51), .val (.ref x52), .val (.ref x53), .val (.ref x54), .val (.ref a55), .val (.ref em), .val (.ref o59), .val (.ref a60), .val (.ref r61), .unset, .unset, .unset, .unset] [(.ref o62)]))
        refine g_astore w at_194 (q := 196) rfl rfl (Ls' := #[.val (.int fl), .val (.int j1), .val (.int j2), .val (.int j3), .val (.int av), .val (.int j5), .val (.ref sv), .val (.int (0 : Int32)), .val (.int (1 : Int32)), .val (.int (0 : Int32)), .val (.ref x51), .val (.ref x52), .val (.ref x53), .val (.ref x54), .val (.ref a55), .val (.ref em), .val (.ref o59), .val (.ref a60), .val (.ref r61), .val (.ref o62), .unset, .unset, .unset]) rfl ?_
        refine g_aload w at_196 (q := 198) rfl rfl rfl ?_
        refine g_virtualP w (con_ip1 l Z a0 hw o62 x51 _ w.old F_value_o62) no0 X_o62 at_198 (q := 201) rfl rfl (Hw hw 161 rfl) (Hw hw 162 rfl) (Hw hw 164 rfl) (Hw hw 163 rfl) (Hw hw 59 rfl) (Hw hw 165 rfl) (by decide) (nf (Hw hw 164 rfl)) pd11 rfl rfl (W := 0) (Nat.le_of_eq rfl) (by decide) (by decide) (by decide) (by decide) (fun T v w C q => ?_)
        obtain rfl := q
        show Go p e below _ (State.setTop T (mkF m 201 #[.val (.int fl), .val (.int j1), .val (.int j2), .val (.int j3), .val (.int av), .val (.int j5), .val (.ref sv), .val (.int (0 : Int32)), .val (.int (1 : Int32)), .val (.int (0 : Int32)), .val (.ref x51), .val (.ref x52), .val (.ref x53), .val (.ref x54), .val (.ref a55), .val (.ref em), .val (.ref o59), .val (.ref a60), .val (.ref r61), .val (.ref o62), .unset, .unset, .unset] [(.int (1 : Int32))]))
        refine g_ifN w at_201 (q := 204) rfl (by decide) ?_
        refine g_aload w at_204 (q := 206) rfl rfl rfl ?_
        refine g_virtualP w (con_oget l Z a0 hw o62 x51 _ w.old F_value_o62) no0 X_o62 at_206 (q := 209) rfl rfl (Hw hw 166 rfl) (Hw hw 167 rfl) (Hw hw 169 rfl) (Hw hw 168 rfl) (Hw hw 59 rfl) (Hw hw 170 rfl) (by decide) (nf (Hw hw 169 rfl)) pd24 rfl rfl (W := 0) (Nat.le_of_eq rfl) (by decide) (by decide) (by decide) (by decide) (fun T v w C q => ?_)
        obtain rfl := q
        show Go p e below _ (State.setTop T (mkF m 209 #[.val (.int fl), .val (.int j1), .val (.int j2), .val (.int j3), .val (.int av), .val (.int j5), .val (.ref sv), .val (.int (0 : Int32)), .val (.int (1 : Int32)), .val (.int (0 : Int32)), .val (.ref x51), .val (.ref x52), .val (.ref x53), .val (.ref x54), .val (.ref a55), .val (.ref em), .val (.ref o59), .val (.ref a60), .val (.ref r61), .val (.ref o62), .unset, .unset, .unset] [(.ref x51)]))
        refine g_cast w at_209 (q := 212) rfl (Hw hw 11 rfl) (Ins.self X_x51) (fun T w => ?_)
        refine g_aload w at_212 (q := 214) rfl rfl rfl ?_
        refine g_virtualP w (con_eq1 l Z a0 hw x51 _ w.old) no0 X_x51 at_214 (q := 217) rfl rfl (Hw hw 171 rfl) (Hw hw 172 rfl) (Hw hw 174 rfl) (Hw hw 173 rfl) (Hw hw 13 rfl) (Hw hw 175 rfl) (by decide) (nf (Hw hw 174 rfl)) pd25 rfl rfl (W := 0) (Nat.le_of_eq rfl) (by decide) (by decide) (by decide) (by decide) (fun T v w C q => ?_)
        obtain rfl := q
        show Go p e below _ (State.setTop T (mkF m 217 #[.val (.int fl), .val (.int j1), .val (.int j2), .val (.int j3), .val (.int av), .val (.int j5), .val (.ref sv), .val (.int (0 : Int32)), .val (.int (1 : Int32)), .val (.int (0 : Int32)), .val (.ref x51), .val (.ref x52), .val (.ref x53), .val (.ref x54), .val (.ref a55), .val (.ref em), .val (.ref o59), .val (.ref a60), .val (.ref r61), .val (.ref o62), .unset, .unset, .unset] [(.int (1 : Int32))]))
        refine g_ifY w at_217 (by decide) (q := 222) (by decide) (by decide) ?_
        refine g_aload w at_222 (q := 224) rfl rfl rfl ?_
        refine g_virtualP w (con_g_code l Z a0 hw r61 o59 _ w.old F_code_r61) no0 X_r61 at_224 (q := 227) rfl rfl (Hw hw 176 rfl) (Hw hw 177 rfl) (Hw hw 179 rfl) (Hw hw 178 rfl) (Hw hw 64 rfl) (Hw hw 180 rfl) (by decide) (nf (Hw hw 179 rfl)) pd21 rfl rfl (W := 0) (Nat.le_of_eq rfl) (by decide) (by decide) (by decide) (by decide) (fun T v w C q => ?_)
        obtain rfl := q
        show Go p e below _ (State.setTop T (mkF m 227 #[.val (.int fl), .val (.int j1), .val (.int j2), .val (.int j3), .val (.int av), .val (.int j5), .val (.ref sv), .val (.int (0 : Int32)), .val (.int (1 : Int32)), .val (.int (0 : Int32)), .val (.ref x51), .val (.ref x52), .val (.ref x53), .val (.ref x54), .val (.ref a55), .val (.ref em), .val (.ref o59), .val (.ref a60), .val (.ref r61), .val (.ref o62), .unset, .unset, .unset] [(.ref o59)]))
        refine g_astore w at_227 (q := 229) rfl rfl (Ls' := #[.val (.int fl), .val (.int j1), .val (.int j2), .val (.int j3), .val (.int av), .val (.int j5), .val (.ref sv), .val (.int (0 : Int32)), .val (.int (1 : Int32)), .val (.int (0 : Int32)), .val (.ref x51), .val (.ref x52), .val (.ref x53), .val (.ref x54), .val (.ref a55), .val (.ref em), .val (.ref o59), .val (.ref a60), .val (.ref r61), .val (.ref o62), .val (.ref o59), .unset, .unset]) rfl ?_
        refine g_aload w at_229 (q := 231) rfl rfl rfl ?_
        refine g_virtualP w (con_ip1 l Z a0 hw o59 x54 _ w.old F_value_o59) no0 X_o59 at_231 (q := 234) rfl rfl (Hw hw 161 rfl) (Hw hw 162 rfl) (Hw hw 164 rfl) (Hw hw 163 rfl) (Hw hw 59 rfl) (Hw hw 165 rfl) (by decide) (nf (Hw hw 164 rfl)) pd11 rfl rfl (W := 0) (Nat.le_of_eq rfl) (by decide) (by decide) (by decide) (by decide) (fun T v w C q => ?_)
        obtain rfl := q
        show Go p e below _ (State.setTop T (mkF m 234 #[.val (.int fl), .val (.int j1), .val (.int j2), .val (.int j3), .val (.int av), .val (.int j5), .val (.ref sv), .val (.int (0 : Int32)), .val (.int (1 : Int32)), .val (.int (0 : Int32)), .val (.ref x51), .val (.ref x52), .val (.ref x53), .val (.ref x54), .val (.ref a55), .val (.ref em), .val (.ref o59), .val (.ref a60), .val (.ref r61), .val (.ref o62), .val (.ref o59), .unset, .unset] [(.int (1 : Int32))]))
        refine g_iload w at_234 (q := 236) rfl rfl ?_
        refine g_icY w at_236 (by decide) (q := 241) (by decide) (Jvm.Free.XT.ii_eq_t rfl) ?_
        refine g_iload w at_241 (q := 243) rfl rfl ?_
        refine g_ifN w at_243 (q := 246) rfl (by decide) ?_
        refine g_aload w at_246 (q := 248) rfl rfl rfl ?_
        refine g_virtualP w (con_oget l Z a0 hw o59 x54 _ w.old F_value_o59) no0 X_o59 at_248 (q := 251) rfl rfl (Hw hw 166 rfl) (Hw hw 167 rfl) (Hw hw 169 rfl) (Hw hw 168 rfl) (Hw hw 59 rfl) (Hw hw 170 rfl) (by decide) (nf (Hw hw 169 rfl)) pd24 rfl rfl (W := 0) (Nat.le_of_eq rfl) (by decide) (by decide) (by decide) (by decide) (fun T v w C q => ?_)
        obtain rfl := q
        show Go p e below _ (State.setTop T (mkF m 251 #[.val (.int fl), .val (.int j1), .val (.int j2), .val (.int j3), .val (.int av), .val (.int j5), .val (.ref sv), .val (.int (0 : Int32)), .val (.int (1 : Int32)), .val (.int (0 : Int32)), .val (.ref x51), .val (.ref x52), .val (.ref x53), .val (.ref x54), .val (.ref a55), .val (.ref em), .val (.ref o59), .val (.ref a60), .val (.ref r61), .val (.ref o62), .val (.ref o59), .unset, .unset] [(.ref x54)]))
        refine g_cast w at_251 (q := 254) rfl (Hw hw 11 rfl) (Ins.self X_x54) (fun T w => ?_)
        refine g_aload w at_254 (q := 256) rfl rfl rfl ?_
        refine g_virtualP w (con_eq1 l Z a0 hw x54 _ w.old) no0 X_x54 at_256 (q := 259) rfl rfl (Hw hw 171 rfl) (Hw hw 172 rfl) (Hw hw 174 rfl) (Hw hw 173 rfl) (Hw hw 13 rfl) (Hw hw 175 rfl) (by decide) (nf (Hw hw 174 rfl)) pd25 rfl rfl (W := 0) (Nat.le_of_eq rfl) (by decide) (by decide) (by decide) (by decide) (fun T v w C q => ?_)
        obtain rfl := q
        show Go p e below _ (State.setTop T (mkF m 259 #[.val (.int fl), .val (.int j1), .val (.int j2), .val (.int j3), .val (.int av), .val (.int j5), .val (.ref sv), .val (.int (0 : Int32)), .val (.int (1 : Int32)), .val (.int (0 : Int32)), .val (.ref x51), .val (.ref x52), .val (.ref x53), .val (.ref x54), .val (.ref a55), .val (.ref em), .val (.ref o59), .val (.ref a60), .val (.ref r61), .val (.ref o62), .val (.ref o59), .unset, .unset] [(.int (1 : Int32))]))
        refine g_ifY w at_259 (by decide) (q := 264) (by decide) (by decide) ?_
        refine g_aload w at_264 (q := 266) rfl rfl rfl ?_
        refine g_virtualP w (con_g_arguments l Z a0 hw r61 el _ w.old F_arguments_r61) no0 X_r61 at_266 (q := 269) rfl rfl (Hw hw 181 rfl) (Hw hw 182 rfl) (Hw hw 184 rfl) (Hw hw 183 rfl) (Hw hw 64 rfl) (Hw hw 185 rfl) (by decide) (nf (Hw hw 184 rfl)) pd12 rfl rfl (W := 0) (Nat.le_of_eq rfl) (by decide) (by decide) (by decide) (by decide) (fun T v w C q => ?_)
        obtain rfl := q
        show Go p e below _ (State.setTop T (mkF m 269 #[.val (.int fl), .val (.int j1), .val (.int j2), .val (.int j3), .val (.int av), .val (.int j5), .val (.ref sv), .val (.int (0 : Int32)), .val (.int (1 : Int32)), .val (.int (0 : Int32)), .val (.ref x51), .val (.ref x52), .val (.ref x53), .val (.ref x54), .val (.ref a55), .val (.ref em), .val (.ref o59), .val (.ref a60), .val (.ref r61), .val (.ref o62), .val (.ref o59), .unset, .unset] [(.ref el)]))
        refine g_astore w at_269 (q := 271) rfl rfl (Ls' := #[.val (.int fl), .val (.int j1), .val (.int j2), .val (.int j3), .val (.int av), .val (.int j5), .val (.ref sv), .val (.int (0 : Int32)), .val (.int (1 : Int32)), .val (.int (0 : Int32)), .val (.ref x51), .val (.ref x52), .val (.ref x53), .val (.ref x54), .val (.ref a55), .val (.ref em), .val (.ref o59), .val (.ref a60), .val (.ref r61), .val (.ref o62), .val (.ref o59), .val (.ref el), .unset]) rfl ?_
        refine g_aload w at_271 (q := 273) rfl rfl rfl ?_
        refine g_ifaceP w (con_lns l Z a0 hw el ee _ w.old F_ee_el A_ee) no0 X_el at_273 (q := 278) rfl rfl (Hw hw 186 rfl) (Hw hw 187 rfl) (Hw hw 188 rfl) (by decide) (Hw hw 191 rfl) (Hw hw 192 rfl) (Hw hw 150 rfl) (Hw hw 189 rfl) (Hw hw 190 rfl) (Hw hw 193 rfl) (Hw hw 194 rfl) (by decide) pd26 rfl rfl (W := 0) (Nat.le_of_eq rfl) (by decide) (by decide) (by decide) (by decide) (fun T v w C q => ?_)
        obtain rfl := q
        show Go p e below _ (State.setTop T (mkF m 278 #[.val (.int fl), .val (.int j1), .val (.int j2), .val (.int j3), .val (.int av), .val (.int j5), .val (.ref sv), .val (.int (0 : Int32)), .val (.int (1 : Int32)), .val (.int (0 : Int32)), .val (.ref x51), .val (.ref x52), .val (.ref x53), .val (.ref x54), .val (.ref a55), .val (.ref em), .val (.ref o59), .val (.ref a60), .val (.ref r61), .val (.ref o62), .val (.ref o59), .val (.ref el), .unset] [(.int (0 : Int32))]))
        refine g_iload w at_278 (q := 280) rfl rfl ?_
        refine g_ifY w at_280 (by decide) (q := 287) (by decide) (by decide) ?_
        refine g_iconst w at_287 (q := 288) rfl (v := (0 : Int32)) (by decide) ?_
        refine g_icY w at_288 (by decide) (q := 293) (by decide) (Jvm.Free.XT.ii_eq_t rfl) ?_
        refine g_iload w at_293 (q := 295) rfl rfl ?_
        refine g_ifY w at_295 (by decide) (q := 319) (by decide) (by decide) ?_
        refine g_aload w at_319 (q := 321) rfl rfl rfl ?_
        refine g_virtualP w (con_g_text l Z a0 hw r61 x53 _ w.old F_text_r61) no0 X_r61 at_321 (q := 324) rfl rfl (Hw hw 197 rfl) (Hw hw 198 rfl) (Hw hw 200 rfl) (Hw hw 199 rfl) (Hw hw 64 rfl) (Hw hw 201 rfl) (by decide) (nf (Hw hw 200 rfl)) pd27 rfl rfl (W := 0) (Nat.le_of_eq rfl) (by decide) (by decide) (by decide) (by decide) (fun T v w C q => ?_)
        obtain rfl := q
        show Go p e below _ (State.setTop T (mkF m 324 #[.val (.int fl), .val (.int j1), .val (.int j2), .val (.int j3), .val (.int av), .val (.int j5), .val (.ref sv), .val (.int (0 : Int32)), .val (.int (1 : Int32)), .val (.int (0 : Int32)), .val (.ref x51), .val (.ref x52), .val (.ref x53), .val (.ref x54), .val (.ref a55), .val (.ref em), .val (.ref o59), .val (.ref a60), .val (.ref r61), .val (.ref o62), .val (.ref o59), .val (.ref el), .unset] [(.ref x53)]))
        refine g_aload w at_324 (q := 326) rfl rfl rfl ?_
        refine g_virtualP w (con_eq1 l Z a0 hw x53 _ w.old) no0 X_x53 at_326 (q := 329) rfl rfl (Hw hw 171 rfl) (Hw hw 172 rfl) (Hw hw 174 rfl) (Hw hw 173 rfl) (Hw hw 13 rfl) (Hw hw 175 rfl) (by decide) (nf (Hw hw 174 rfl)) pd25 rfl rfl (W := 0) (Nat.le_of_eq rfl) (by decide) (by decide) (by decide) (by decide) (fun T v w C q => ?_)
        obtain rfl := q
        show Go p e below _ (State.setTop T (mkF m 329 #[.val (.int fl), .val (.int j1), .val (.int j2), .val (.int j3), .val (.int av), .val (.int j5), .val (.ref sv), .val (.int (0 : Int32)), .val (.int (1 : Int32)), .val (.int (0 : Int32)), .val (.ref x51), .val (.ref x52), .val (.ref x53), .val (.ref x54), .val (.ref a55), .val (.ref em), .val (.ref o59), .val (.ref a60), .val (.ref r61), .val (.ref o62), .val (.ref o59), .val (.ref el), .unset] [(.int (1 : Int32))]))
        refine g_ifY w at_329 (by decide) (q := 334) (by decide) (by decide) ?_
        refine g_aload w at_334 (q := 336) rfl rfl rfl ?_
        refine g_virtualP w (con_g_source l Z a0 hw a60 em _ w.old F_source_a60) no0 X_a60 at_336 (q := 339) rfl rfl (Hw hw 156 rfl) (Hw hw 157 rfl) (Hw hw 159 rfl) (Hw hw 158 rfl) (Hw hw 64 rfl) (Hw hw 160 rfl) (by decide) (nf (Hw hw 159 rfl)) pd21 rfl rfl (W := 0) (Nat.le_of_eq rfl) (by decide) (by decide) (by decide) (by decide) (fun T v w C q => ?_)
        obtain rfl := q
        show Go p e below _ (State.setTop T (mkF m 339 #[.val (.int fl), .val (.int j1), .val (.int j2), .val (.int j3), .val (.int av), .val (.int j5), .val (.ref sv), .val (.int (0 : Int32)), .val (.int (1 : Int32)), .val (.int (0 : Int32)), .val (.ref x51), .val (.ref x52), .val (.ref x53), .val (.ref x54), .val (.ref a55), .val (.ref em), .val (.ref o59), .val (.ref a60), .val (.ref r61), .val (.ref o62), .val (.ref o59), .val (.ref el), .unset] [(.ref em)]))
        refine g_astore w at_339 (q := 341) rfl rfl (Ls' := #[.val (.int fl), .val (.int j1), .val (.int j2), .val (.int j3), .val (.int av), .val (.int j5), .val (.ref sv), .val (.int (0 : Int32)), .val (.int (1 : Int32)), .val (.int (0 : Int32)), .val (.ref x51), .val (.ref x52), .val (.ref x53), .val (.ref x54), .val (.ref a55), .val (.ref em), .val (.ref o59), .val (.ref a60), .val (.ref r61), .val (.ref o62), .val (.ref o59), .val (.ref el), .val (.ref em)]) rfl ?_
        refine g_aload w at_341 (q := 343) rfl rfl rfl ?_
        refine g_virtualP w (con_ip0 l Z a0 hw em em _ w.old F_em) no0 X_em at_343 (q := 346) rfl rfl (Hw hw 161 rfl) (Hw hw 162 rfl) (Hw hw 164 rfl) (Hw hw 163 rfl) (Hw hw 59 rfl) (Hw hw 165 rfl) (by decide) (nf (Hw hw 164 rfl)) pd11 rfl rfl (W := 0) (Nat.le_of_eq rfl) (by decide) (by decide) (by decide) (by decide) (fun T v w C q => ?_)
        obtain rfl := q
        show Go p e below _ (State.setTop T (mkF m 346 #[.val (.int fl), .val (.int j1), .val (.int j2), .val (.int j3), .val (.int av), .val (.int j5), .val (.ref sv), .val (.int (0 : Int32)), .val (.int (1 : Int32)), .val (.int (0 : Int32)), .val (.ref x51), .val (.ref x52), .val (.ref x53), .val (.ref x54), .val (.ref a55), .val (.ref em), .val (.ref o59), .val (.ref a60), .val (.ref r61), .val (.ref o62), .val (.ref o59), .val (.ref el), .val (.ref em)] [(.int (0 : Int32))]))
        refine g_iload w at_346 (q := 348) rfl rfl ?_
        refine g_icY w at_348 (by decide) (q := 353) (by decide) (Jvm.Free.XT.ii_eq_t rfl) ?_
        refine g_iload w at_353 (q := 355) rfl rfl ?_
        refine g_ifY w at_355 (by decide) (q := 376) (by decide) (by decide) ?_
        refine g_iconst w at_376 (q := 377) rfl (v := (1 : Int32)) (by decide) ?_
        exact g_retn w at_377 rfl (by simp) rfl (by decide) (by decide) rfl
      · refine g_iconst w at_47 (q := 48) rfl (v := (1 : Int32)) (by decide) ?_
        refine g_goto w at_48 (by decide) (q := 52) (by decide) ?_
        refine g_istore w at_52 (q := 54) rfl (Ls' := #[.val (.int fl), .val (.int j1), .val (.int j2), .val (.int j3), .val (.int av), .val (.int j5), .val (.ref sv), .val (.int (0 : Int32)), .val (.int (1 : Int32)), .val (.int (1 : Int32)), .unset, .unset, .unset, .unset, .unset, .unset, .unset, .unset, .unset, .unset, .unset, .unset, .unset]) rfl ?_
        refine g_iloadN w at_54 (q := 55) rfl rfl ?_
        refine g_static w (con_str l Z a0 hw j1 _ w.old hcm) no0 at_55 (q := 58) rfl rfl (Hw hw 8 rfl) (Hw hw 9 rfl) (Hw hw 2 rfl) (Hw hw 10 rfl) (by decide) pd20 rfl rfl (W := 0) (Nat.le_of_eq rfl) (by decide) (by decide) (by decide) (by decide) (fun T h v w gs C q => ?_)
        obtain ⟨x75, rfl, E, g_x75, X_x75⟩ := q
        have z_x75 := Nat.le_trans E0.1 g_x75
        replace E0 := ext_trans E0 E
        show Go p e below _ (State.setTop T (mkF m 58 #[.val (.int fl), .val (.int j1), .val (.int j2), .val (.int j3), .val (.int av), .val (.int j5), .val (.ref sv), .val (.int (0 : Int32)), .val (.int (1 : Int32)), .val (.int (1 : Int32)), .unset, .unset, .unset, .unset, .unset, .unset, .unset, .unset, .unset, .unset, .unset, .unset, .unset] [(.ref x75)]))
        refine g_astore w at_58 (q := 60) rfl rfl (Ls' := #[.val (.int fl), .val (.int j1), .val (.int j2), .val (.int j3), .val (.int av), .val (.int j5), .val (.ref sv), .val (.int (0 : Int32)), .val (.int (1 : Int32)), .val (.int (1 : Int32)), .val (.ref x75), .unset, .unset, .unset, .unset, .unset, .unset, .unset, .unset, .unset, .unset, .unset, .unset]) rfl ?_
        refine g_iloadN w at_60 (q := 61) rfl rfl ?_
        refine g_static w (con_str l Z a0 hw j2 _ w.old hcm) no0 at_61 (q := 64) rfl rfl (Hw hw 8 rfl) (Hw hw 9 rfl) (Hw hw 2 rfl) (Hw hw 10 rfl) (by decide) pd20 rfl rfl (W := 0) (Nat.le_of_eq rfl) (by decide) (by decide) (by decide) (by decide) (fun T h v w gs C q => ?_)
        obtain ⟨x76, rfl, E, g_x76, X_x76⟩ := q
        have z_x76 := Nat.le_trans E0.1 g_x76
        have ne_x75_x76 : x75 ≠ x76 := Nat.ne_of_lt (Nat.lt_of_lt_of_le X_x75.lt g_x76)
        replace E0 := ext_trans E0 E
        replace X_x75 := X_x75.ext E
        show Go p e below _ (State.setTop T (mkF m 64 #[.val (.int fl), .val (.int j1), .val (.int j2), .val (.int j3), .val (.int av), .val (.int j5), .val (.ref sv), .val (.int (0 : Int32)), .val (.int (1 : Int32)), .val (.int (1 : Int32)), .val (.ref x75), .unset, .unset, .unset, .unset, .unset, .unset, .unset, .unset, .unset, .unset, .unset, .unset] [(.ref x76)]))
        refine g_astore w at_64 (q := 66) rfl rfl (Ls' := #[.val (.int fl), .val (.int j1), .val (.int j2), .val (.int j3), .val (.int av), .val (.int j5), .val (.ref sv), .val (.int (0 : Int32)), .val (.int (1 : Int32)), .val (.int (1 : Int32)), .val (.ref x75), .val (.ref x76), .unset, .unset, .unset, .unset, .unset, .unset, .unset, .unset, .unset, .unset, .unset]) rfl ?_
        refine g_iloadN w at_66 (q := 67) rfl rfl ?_
        refine g_static w (con_str l Z a0 hw j3 _ w.old hcm) no0 at_67 (q := 70) rfl rfl (Hw hw 8 rfl) (Hw hw 9 rfl) (Hw hw 2 rfl) (Hw hw 10 rfl) (by decide) pd20 rfl rfl (W := 0) (Nat.le_of_eq rfl) (by decide) (by decide) (by decide) (by decide) (fun T h v w gs C q => ?_)
        obtain ⟨x77, rfl, E, g_x77, X_x77⟩ := q
        have z_x77 := Nat.le_trans E0.1 g_x77
        have ne_x75_x77 : x75 ≠ x77 := Nat.ne_of_lt (Nat.lt_of_lt_of_le X_x75.lt g_x77)
        have ne_x76_x77 : x76 ≠ x77 := Nat.ne_of_lt (Nat.lt_of_lt_of_le X_x76.lt g_x77)
        replace E0 := ext_trans E0 E
        replace X_x75 := X_x75.ext E
        replace X_x76 := X_x76.ext E
        show Go p e below _ (State.setTop T (mkF m 70 #[.val (.int fl), .val (.int j1), .val (.int j2), .val (.int j3), .val (.int av), .val (.int j5), .val (.ref sv), .val (.int (0 : Int32)), .val (.int (1 : Int32)), .val (.int (1 : Int32)), .val (.ref x75), .val (.ref x76), .unset, .unset, .unset, .unset, .unset, .unset, .unset, .unset, .unset, .unset, .unset] [(.ref x77)]))
        refine g_astore w at_70 (q := 72) rfl rfl (Ls' := #[.val (.int fl), .val (.int j1), .val (.int j2), .val (.int j3), .val (.int av), .val (.int j5), .val (.ref sv), .val (.int (0 : Int32)), .val (.int (1 : Int32)), .val (.int (1 : Int32)), .val (.ref x75), .val (.ref x76), .val (.ref x77), .unset, .unset, .unset, .unset, .unset, .unset, .unset, .unset, .unset, .unset]) rfl ?_
        refine g_iload w at_72 (q := 74) rfl rfl ?_
        refine g_static w (con_str l Z a0 hw j5 _ w.old hcm) no0 at_74 (q := 77) rfl rfl (Hw hw 8 rfl) (Hw hw 9 rfl) (Hw hw 2 rfl) (Hw hw 10 rfl) (by decide) pd20 rfl rfl (W := 0) (Nat.le_of_eq rfl) (by decide) (by decide) (by decide) (by decide) (fun T h v w gs C q => ?_)
        obtain ⟨x78, rfl, E, g_x78, X_x78⟩ := q
        have z_x78 := Nat.le_trans E0.1 g_x78
        have ne_x75_x78 : x75 ≠ x78 := Nat.ne_of_lt (Nat.lt_of_lt_of_le X_x75.lt g_x78)
        have ne_x76_x78 : x76 ≠ x78 := Nat.ne_of_lt (Nat.lt_of_lt_of_le X_x76.lt g_x78)
        have ne_x77_x78 : x77 ≠ x78 := Nat.ne_of_lt (Nat.lt_of_lt_of_le X_x77.lt g_x78)
        replace E0 := ext_trans E0 E
        replace X_x75 := X_x75.ext E
        replace X_x76 := X_x76.ext E
        replace X_x77 := X_x77.ext E
        show Go p e below _ (State.setTop T (mkF m 77 #[.val (.int fl), .val (.int j1), .val (.int j2), .val (.int j3), .val (.int av), .val (.int j5), .val (.ref sv), .val (.int (0 : Int32)), .val (.int (1 : Int32)), .val (.int (1 : Int32)), .val (.ref x75), .val (.ref x76), .val (.ref x77), .unset, .unset, .unset, .unset, .unset, .unset, .unset, .unset, .unset, .unset] [(.ref x78)]))
        refine g_astore w at_77 (q := 79) rfl rfl (Ls' := #[.val (.int fl), .val (.int j1), .val (.int j2), .val (.int j3), .val (.int av), .val (.int j5), .val (.ref sv), .val (.int (0 : Int32)), .val (.int (1 : Int32)), .val (.int (1 : Int32)), .val (.ref x75), .val (.ref x76), .val (.ref x77), .val (.ref x78), .unset, .unset, .unset, .unset, .unset, .unset, .unset, .unset, .unset]) rfl ?_
        refine g_new w at_79 (q := 82) rfl (Hw hw 33 rfl) (Hw hw 34 rfl) (Hw hw 35 rfl) (by decide) (by decide) (fun T h a79 w E g_a79 n_a79 X_a79 D_a79 s_a79 => ?_)
        have z_a79 := Nat.le_trans E0.1 g_a79
        have ne_x75_a79 : x75 ≠ a79 := Nat.ne_of_lt (Nat.lt_of_lt_of_le X_x75.lt g_a79)
        have ne_x76_a79 : x76 ≠ a79 := Nat.ne_of_lt (Nat.lt_of_lt_of_le X_x76.lt g_a79)
        have ne_x77_a79 : x77 ≠ a79 := Nat.ne_of_lt (Nat.lt_of_lt_of_le X_x77.lt g_a79)
        have ne_x78_a79 : x78 ≠ a79 := Nat.ne_of_lt (Nat.lt_of_lt_of_le X_x78.lt g_a79)
        replace E0 := ext_trans E0 E
        replace X_x75 := X_x75.ext E
        replace X_x76 := X_x76.ext E
        replace X_x77 := X_x77.ext E
        replace X_x78 := X_x78.ext E
        have F_modCount_a79 := D_a79 (Or.inl (Hw hw 53 rfl)) (ty := .int) (by decide)
        replace F_modCount_a79 : Fld Z h a79 "java/util/AbstractList" "modCount" "I" (.int (0 : Int32)) := F_modCount_a79
        have F_elementData_a79 := D_a79 (Or.inl (Hw hw 56 rfl)) (ty := (.array (.object "java/lang/Object"))) (by decide)
        replace F_elementData_a79 : Fld Z h a79 "java/util/ArrayList" "elementData" "[Ljava/lang/Object;" .null := F_elementData_a79
        have F_size_a79 := D_a79 (Or.inl (Hw hw 105 rfl)) (ty := .int) (by decide)
        replace F_size_a79 : Fld Z h a79 "java/util/ArrayList" "size" "I" (.int (0 : Int32)) := F_size_a79
        refine g_dup w at_82 (q := 83) rfl rfl ?_
        refine g_special w (con_al l Z a0 hw a79 df _ w.old X_a79 F_elementData_a79 F_size_a79 F_modCount_a79 n_a79 SD_) no0 at_83 (q := 86) rfl rfl rfl (Hw hw 36 rfl) (Hw hw 37 rfl) (Hw hw 35 rfl) (Hw hw 38 rfl) (by decide) pd1 rfl rfl (W := 1) (Nat.le_of_eq rfl) (by decide) (by decide) (by decide) (by decide) (fun T h v w gs C q => ?_)
        obtain ⟨rfl, K, G_X, G_elementData, G_size, G_modCount⟩ := q
        replace E0 := ext_keep E0 K z_a79
        have X0 := X_a79
        replace X_x75 := X_x75.keep K
        replace X_x76 := X_x76.keep K
        replace X_x77 := X_x77.keep K
        replace X_x78 := X_x78.keep K
        replace X_a79 := X_a79.keep K
        replace X_a79 := G_X
        replace F_elementData_a79 := G_elementData
        replace F_size_a79 := G_size
        replace F_modCount_a79 := G_modCount
        show Go p e below _ (State.setTop T (mkF m 86 #[.val (.int fl), .val (.int j1), .val (.int j2), .val (.int j3), .val (.int av), .val (.int j5), .val (.ref sv), .val (.int (0 : Int32)), .val (.int (1 : Int32)), .val (.int (1 : Int32)), .val (.ref x75), .val (.ref x76), .val (.ref x77), .val (.ref x78), .unset, .unset, .unset, .unset, .unset, .unset, .unset, .unset, .unset] [(.ref a79)]))
        refine g_astore w at_86 (q := 88) rfl rfl (Ls' := #[.val (.int fl), .val (.int j1), .val (.int j2), .val (.int j3), .val (.int av), .val (.int j5), .val (.ref sv), .val (.int (0 : Int32)), .val (.int (1 : Int32)), .val (.int (1 : Int32)), .val (.ref x75), .val (.ref x76), .val (.ref x77), .val (.ref x78), .val (.ref a79), .unset, .unset, .unset, .unset, .unset, .unset, .unset, .unset]) rfl ?_
        refine g_iload w at_88 (q := 90) rfl rfl ?_
        refine g_ifN w at_90 (q := 93) rfl (by decide) ?_
        refine g_aload w at_93 (q := 95) rfl rfl rfl ?_
        refine g_iload w at_95 (q := 97) rfl rfl ?_
        refine g_static w (con_vo l Z a0 hw ca ck_ av _ w.old SH_ SK_ BX_) no0 at_97 (q := 100) rfl rfl (Hw hw 215 rfl) (Hw hw 216 rfl) (Hw hw 217 rfl) (Hw hw 218 rfl) (by decide) pd28 rfl rfl (W := 1) (Nat.le_of_eq rfl) (by decide) (by decide) (by decide) (by decide) (fun T h v w gs C q => ?_)
        obtain ⟨ev, rfl, E, g_ev, X_e, F_e⟩ := q
        have ne_ev_a79 : ev ≠ a79 := g_ev.elim (fun g_ => Nat.ne_of_gt (Nat.lt_of_lt_of_le X_a79.lt g_)) (fun g_ => Nat.ne_of_lt (Nat.lt_of_lt_of_le g_ n_a79))
        replace E0 := ext_trans E0 E
        replace X_x75 := X_x75.ext E
        replace X_x76 := X_x76.ext E
        replace X_x77 := X_x77.ext E
        replace X_x78 := X_x78.ext E
        replace X_a79 := X_a79.ext E
        replace F_elementData_a79 := F_elementData_a79.ext E
        replace F_size_a79 := F_size_a79.ext E
        replace F_modCount_a79 := F_modCount_a79.ext E
        show Go p e below _ (State.setTop T (mkF m 100 #[.val (.int fl), .val (.int j1), .val (.int j2), .val (.int j3), .val (.int av), .val (.int j5), .val (.ref sv), .val (.int (0 : Int32)), .val (.int (1 : Int32)), .val (.int (1 : Int32)), .val (.ref x75), .val (.ref x76), .val (.ref x77), .val (.ref x78), .val (.ref a79), .unset, .unset, .unset, .unset, .unset, .unset, .unset, .unset] [(.ref ev), (.ref a79)]))
        refine g_iface w (con_a1 l Z a0 hw a79 df ev av _ w.old X_a79 F_elementData_a79 F_size_a79 F_modCount_a79 n_a79 X_e F_e ne_ev_a79 SD_ AD_) no0 X_a79 at_100 (q := 105) rfl rfl (Hw hw 234 rfl) (Hw hw 235 rfl) (Hw hw 236 rfl) (by decide) (Hw hw 239 rfl) (Hw hw 240 rfl) (Hw hw 241 rfl) (Hw hw 237 rfl) (Hw hw 238 rfl) (Hw hw 35 rfl) (Hw hw 242 rfl) (by decide) pd25 rfl rfl (W := 0) (Nat.le_of_eq rfl) (by decide) (by decide) (by decide) (by decide) (fun T h v w gs C q => ?_)
        obtain ⟨rfl, K, t, g_t, A_t, X_t, O_t, H_X, H_F, G_X, G_elementData, G_size, G_modCount⟩ := q
        have z_t := Nat.le_trans E0.1 g_t
        replace E0 := ext_keep E0 K z_a79
        have X0 := X_a79
        replace X_x75 := X_x75.keep K
        replace X_x76 := X_x76.keep K
        replace X_x77 := X_x77.keep K
        replace X_x78 := X_x78.keep K
        replace X_a79 := X_a79.keep K
        replace X_e := X_e.keep K
        replace F_e := F_e.keep K (not1 ne_ev_a79)
        replace X_e := H_X
        replace F_e := H_F
        replace X_a79 := G_X
        replace F_elementData_a79 := G_elementData
        replace F_size_a79 := G_size
        replace F_modCount_a79 := G_modCount
        show Go p e below _ (State.setTop T (mkF m 105 #[.val (.int fl), .val (.int j1), .val (.int j2), .val (.int j3), .val (.int av), .val (.int j5), .val (.ref sv), .val (.int (0 : Int32)), .val (.int (1 : Int32)), .val (.int (1 : Int32)), .val (.ref x75), .val (.ref x76), .val (.ref x77), .val (.ref x78), .val (.ref a79), .unset, .unset, .unset, .unset, .unset, .unset, .unset, .unset] [(.int (1 : Int32))]))
        refine g_pop w at_105 (q := 106) rfl rfl ?_
        refine g_iload w at_106 (q := 108) rfl rfl ?_
        refine g_ifY w at_108 (by decide) (q := 119) (by decide) (by decide) ?_
        refine g_staticP w (con_emp l Z a0 hw em _ w.old SE_) no0 at_119 (q := 122) rfl rfl (Hw hw 57 rfl) (Hw hw 58 rfl) (Hw hw 59 rfl) (Hw hw 60 rfl) (by decide) pd21 rfl rfl (W := 0) (Nat.le_of_eq rfl) (by decide) (by decide) (by decide) (by decide) (fun T v w C q => ?_)
        obtain rfl := q
        show Go p e below _ (State.setTop T (mkF m 122 #[.val (.int fl), .val (.int j1), .val (.int j2), .val (.int j3), .val (.int av), .val (.int j5), .val (.ref sv), .val (.int (0 : Int32)), .val (.int (1 : Int32)), .val (.int (1 : Int32)), .val (.ref x75), .val (.ref x76), .val (.ref x77), .val (.ref x78), .val (.ref a79), .unset, .unset, .unset, .unset, .unset, .unset, .unset, .unset] [(.ref em)]))
        have X_em := XE_.ext w.old
        have F_em := FE_.ext w.old
        refine g_astore w at_122 (q := 124) rfl rfl (Ls' := #[.val (.int fl), .val (.int j1), .val (.int j2), .val (.int j3), .val (.int av), .val (.int j5), .val (.ref sv), .val (.int (0 : Int32)), .val (.int (1 : Int32)), .val (.int (1 : Int32)), .val (.ref x75), .val (.ref x76), .val (.ref x77), .val (.ref x78), .val (.ref a79), .val (.ref em), .unset, .unset, .unset, .unset, .unset, .unset, .unset]) rfl ?_
        refine g_iload w at_124 (q := 126) rfl rfl ?_
        refine g_ifN w at_126 (q := 129) rfl (by decide) ?_
        refine g_aload w at_129 (q := 131) rfl rfl rfl ?_
        refine g_static w (con_of l Z a0 hw x78 _ w.old) no0 at_131 (q := 134) rfl rfl (Hw hw 349 rfl) (Hw hw 128 rfl) (Hw hw 59 rfl) (Hw hw 129 rfl) (by decide) pd16 rfl rfl (W := 0) (Nat.le_of_eq rfl) (by decide) (by decide) (by decide) (by decide) (fun T h v w gs C q => ?_)
        obtain ⟨o83, rfl, E, g_o83, X_o83, F_value_o83⟩ := q
        have z_o83 := Nat.le_trans E0.1 g_o83
        have ne_a79_o83 : a79 ≠ o83 := Nat.ne_of_lt (Nat.lt_of_lt_of_le X_a79.lt g_o83)
        have ne_em_o83 : em ≠ o83 := Nat.ne_of_lt (Nat.lt_of_lt_of_le X_em.lt g_o83)
        have ne_ev_o83 : ev ≠ o83 := Nat.ne_of_lt (Nat.lt_of_lt_of_le X_e.lt g_o83)
        have ne_t_o83 : t ≠ o83 := Nat.ne_of_lt (Nat.lt_of_lt_of_le A_t.lt g_o83)
        have ne_x75_o83 : x75 ≠ o83 := Nat.ne_of_lt (Nat.lt_of_lt_of_le X_x75.lt g_o83)
        have ne_x76_o83 : x76 ≠ o83 := Nat.ne_of_lt (Nat.lt_of_lt_of_le X_x76.lt g_o83)
        have ne_x77_o83 : x77 ≠ o83 := Nat.ne_of_lt (Nat.lt_of_lt_of_le X_x77.lt g_o83)
        have ne_x78_o83 : x78 ≠ o83 := Nat.ne_of_lt (Nat.lt_of_lt_of_le X_x78.lt g_o83)
        replace E0 := ext_trans E0 E
        replace X_x75 := X_x75.ext E
        replace X_x76 := X_x76.ext E
        replace X_x77 := X_x77.ext E
        replace X_x78 := X_x78.ext E
        replace X_a79 := X_a79.ext E
        replace F_elementData_a79 := F_elementData_a79.ext E
        replace F_size_a79 := F_size_a79.ext E
        replace F_modCount_a79 := F_modCount_a79.ext E
        replace A_t := A_t.ext E
        replace X_t := X_t.ext E
        replace X_e := X_e.ext E
        replace F_e := F_e.ext E
        replace X_em := X_em.ext E
        replace F_em := F_em.ext E
        show Go p e below _ (State.setTop T (mkF m 134 #[.val (.int fl), .val (.int j1), .val (.int j2), .val (.int j3), .val (.int av), .val (.int j5), .val (.ref sv), .val (.int (0 : Int32)), .val (.int (1 : Int32)), .val (.int (1 : Int32)), .val (.ref x75), .val (.ref x76), .val (.ref x77), .val (.ref x78), .val (.ref a79), .val (.ref em), .unset, .unset, .unset, .unset, .unset, .unset, .unset] [(.ref o83)]))
        refine g_goto w at_134 (by decide) (q := 140) (by decide) ?_
        refine g_astore w at_140 (q := 142) rfl rfl (Ls' := #[.val (.int fl), .val (.int j1), .val (.int j2), .val (.int j3), .val (.int av), .val (.int j5), .val (.ref sv), .val (.int (0 : Int32)), .val (.int (1 : Int32)), .val (.int (1 : Int32)), .val (.ref x75), .val (.ref x76), .val (.ref x77), .val (.ref x78), .val (.ref a79), .val (.ref em), .val (.ref o83), .unset, .unset, .unset, .unset, .unset, .unset]) rfl ?_
        refine g_new w at_142 (q := 145) rfl (Hw hw 62 rfl) (Hw hw 63 rfl) (Hw hw 64 rfl) (by decide) (by decide) (fun T h a84 w E g_a84 n_a84 X_a84 D_a84 s_a84 => ?_)
        have z_a84 := Nat.le_trans E0.1 g_a84
        have ne_a79_a84 : a79 ≠ a84 := Nat.ne_of_lt (Nat.lt_of_lt_of_le X_a79.lt g_a84)
        have ne_em_a84 : em ≠ a84 := Nat.ne_of_lt (Nat.lt_of_lt_of_le X_em.lt g_a84)
        have ne_ev_a84 : ev ≠ a84 := Nat.ne_of_lt (Nat.lt_of_lt_of_le X_e.lt g_a84)
        have ne_o83_a84 : o83 ≠ a84 := Nat.ne_of_lt (Nat.lt_of_lt_of_le X_o83.lt g_a84)
        have ne_t_a84 : t ≠ a84 := Nat.ne_of_lt (Nat.lt_of_lt_of_le A_t.lt g_a84)
        have ne_x75_a84 : x75 ≠ a84 := Nat.ne_of_lt (Nat.lt_of_lt_of_le X_x75.lt g_a84)
        have ne_x76_a84 : x76 ≠ a84 := Nat.ne_of_lt (Nat.lt_of_lt_of_le X_x76.lt g_a84)
        have ne_x77_a84 : x77 ≠ a84 := Nat.ne_of_lt (Nat.lt_of_lt_of_le X_x77.lt g_a84)
        have ne_x78_a84 : x78 ≠ a84 := Nat.ne_of_lt (Nat.lt_of_lt_of_le X_x78.lt g_a84)
        replace E0 := ext_trans E0 E
        replace X_x75 := X_x75.ext E
        replace X_x76 := X_x76.ext E
        replace X_x77 := X_x77.ext E
        replace X_x78 := X_x78.ext E
        replace X_a79 := X_a79.ext E
        replace F_elementData_a79 := F_elementData_a79.ext E
        replace F_size_a79 := F_size_a79.ext E
        replace F_modCount_a79 := F_modCount_a79.ext E
        replace A_t := A_t.ext E
        replace X_t := X_t.ext E
        replace X_e := X_e.ext E
        replace F_e := F_e.ext E
        replace X_em := X_em.ext E
        replace F_em := F_em.ext E
        replace X_o83 := X_o83.ext E
        replace F_value_o83 := F_value_o83.ext E
        have F_severity_a84 := D_a84 (Or.inr (Hw hw 112 rfl)) (ty := (.object "com/example/stepwize/stepwize/engine/Message$Severity")) (by decide)
        replace F_severity_a84 : Fld Z h a84 "com/example/stepwize/stepwize/engine/Message" "severity" "Lcom/example/stepwize/stepwize/engine/Message$Severity;" .null := F_severity_a84
        have F_source_a84 := D_a84 (Or.inr (Hw hw 114 rfl)) (ty := (.object "java/util/Optional")) (by decide)
        replace F_source_a84 : Fld Z h a84 "com/example/stepwize/stepwize/engine/Message" "source" "Ljava/util/Optional;" .null := F_source_a84
        have F_code_a84 := D_a84 (Or.inr (Hw hw 116 rfl)) (ty := (.object "java/util/Optional")) (by decide)
        replace F_code_a84 : Fld Z h a84 "com/example/stepwize/stepwize/engine/Message" "code" "Ljava/util/Optional;" .null := F_code_a84
        have F_arguments_a84 := D_a84 (Or.inr (Hw hw 118 rfl)) (ty := (.object "java/util/List")) (by decide)
        replace F_arguments_a84 : Fld Z h a84 "com/example/stepwize/stepwize/engine/Message" "arguments" "Ljava/util/List;" .null := F_arguments_a84
        have F_text_a84 := D_a84 (Or.inr (Hw hw 120 rfl)) (ty := (.object "java/lang/String")) (by decide)
        replace F_text_a84 : Fld Z h a84 "com/example/stepwize/stepwize/engine/Message" "text" "Ljava/lang/String;" .null := F_text_a84
        refine g_dup w at_145 (q := 146) rfl rfl ?_
        refine g_aload w at_146 (q := 148) rfl rfl rfl ?_
        refine g_aload w at_148 (q := 150) rfl rfl rfl ?_
        refine g_aload w at_150 (q := 152) rfl rfl rfl ?_
        refine g_aload w at_152 (q := 154) rfl rfl rfl ?_
        refine g_aload w at_154 (q := 156) rfl rfl rfl ?_
        refine g_special w (con_mi_b l Z a0 hw a84 sv em o83 a79 x77 t ev mr ic _ w.old X_a84 F_severity_a84 F_source_a84 F_code_a84 F_arguments_a84 F_text_a84 n_a84 X_a79 F_elementData_a79 F_size_a79 A_t X_t X_e MR_ SI_) no0 at_156 (q := 159) rfl rfl rfl (Hw hw 65 rfl) (Hw hw 66 rfl) (Hw hw 64 rfl) (Hw hw 67 rfl) (by decide) pd17 rfl rfl (W := 1) (Nat.le_of_eq rfl) (by decide) (by decide) (by decide) (by decide) (fun T h v w gs C q => ?_)
        obtain ⟨rfl, K, y85, g_y85, X_y85, F_e0_y85, F_e1_y85, G_severity, G_source, G_code, G_arguments, G_text⟩ := q
        have z_y85 := Nat.le_trans E0.1 g_y85
        have ne_a79_y85 : a79 ≠ y85 := Nat.ne_of_lt (Nat.lt_of_lt_of_le X_a79.lt g_y85)
        have ne_a84_y85 : a84 ≠ y85 := Nat.ne_of_lt (Nat.lt_of_lt_of_le X_a84.lt g_y85)
        have ne_em_y85 : em ≠ y85 := Nat.ne_of_lt (Nat.lt_of_lt_of_le X_em.lt g_y85)
        have ne_ev_y85 : ev ≠ y85 := Nat.ne_of_lt (Nat.lt_of_lt_of_le X_e.lt g_y85)
        have ne_o83_y85 : o83 ≠ y85 := Nat.ne_of_lt (Nat.lt_of_lt_of_le X_o83.lt g_y85)
        have ne_t_y85 : t ≠ y85 := Nat.ne_of_lt (Nat.lt_of_lt_of_le A_t.lt g_y85)
        have ne_x75_y85 : x75 ≠ y85 := Nat.ne_of_lt (Nat.lt_of_lt_of_le X_x75.lt g_y85)
        have ne_x76_y85 : x76 ≠ y85 := Nat.ne_of_lt (Nat.lt_of_lt_of_le X_x76.lt g_y85)
        have ne_x77_y85 : x77 ≠ y85 := Nat.ne_of_lt (Nat.lt_of_lt_of_le X_x77.lt g_y85)
        have ne_x78_y85 : x78 ≠ y85 := Nat.ne_of_lt (Nat.lt_of_lt_of_le X_x78.lt g_y85)
        replace E0 := ext_keep E0 K z_a84
        have X0 := X_a84
        replace X_x75 := X_x75.keep K
        replace X_x76 := X_x76.keep K
        replace X_x77 := X_x77.keep K
        replace X_x78 := X_x78.keep K
        replace X_a79 := X_a79.keep K
        replace F_elementData_a79 := F_elementData_a79.keep K (not1 ne_a79_a84)
        replace F_size_a79 := F_size_a79.keep K (not1 ne_a79_a84)
        replace F_modCount_a79 := F_modCount_a79.keep K (not1 ne_a79_a84)
        replace A_t := A_t.keep K (not1 ne_t_a84)
        replace X_t := X_t.keep K
        replace X_e := X_e.keep K
        replace F_e := F_e.keep K (not1 ne_ev_a84)
        replace X_em := X_em.keep K
        replace F_em := F_em.keep K (not1 ne_em_a84)
        replace X_o83 := X_o83.keep K
        replace F_value_o83 := F_value_o83.keep K (not1 ne_o83_a84)
        replace X_a84 := X_a84.keep K
        replace F_severity_a84 := G_severity
        replace F_source_a84 := G_source
        replace F_code_a84 := G_code
        replace F_arguments_a84 := G_arguments
        replace F_text_a84 := G_text
        show Go p e below _ (State.setTop T (mkF m 159 #[.val (.int fl), .val (.int j1), .val (.int j2), .val (.int j3), .val (.int av), .val (.int j5), .val (.ref sv), .val (.int (0 : Int32)), .val (.int (1 : Int32)), .val (.int (1 : Int32)), .val (.ref x75), .val (.ref x76), .val (.ref x77), .val (.ref x78), .val (.ref a79), .val (.ref em), .val (.ref o83), .unset, .unset, .unset, .unset, .unset, .unset] [(.ref a84)]))
        refine g_astore w at_159 (q := 161) rfl rfl (Ls' := #[.val (.int fl), .val (.int j1), .val (.int j2), .val (.int j3), .val (.int av), .val (.int j5), .val (.ref sv), .val (.int (0 : Int32)), .val (.int (1 : Int32)), .val (.int (1 : Int32)), .val (.ref x75), .val (.ref x76), .val (.ref x77), .val (.ref x78), .val (.ref a79), .val (.ref em), .val (.ref o83), .val (.ref a84), .unset, .unset, .unset, .unset, .unset]) rfl ?_
        refine g_aload w at_161 (q := 163) rfl rfl rfl ?_
        refine g_aload w at_163 (q := 165) rfl rfl rfl ?_
        refine g_virtual w (con_ab_d l Z a0 hw a84 x75 sv o83 y85 x77 _ w.old F_severity_a84 F_code_a84 F_arguments_a84 F_text_a84 X_y85) no0 X_a84 at_165 (q := 168) rfl rfl (Hw hw 121 rfl) (Hw hw 122 rfl) (Hw hw 124 rfl) (Hw hw 123 rfl) (Hw hw 64 rfl) (Hw hw 125 rfl) (by decide) (nf (Hw hw 124 rfl)) pd22 rfl rfl (W := 0) (Nat.le_of_eq rfl) (by decide) (by decide) (by decide) (by decide) (fun T h v w gs C q => ?_)
        obtain ⟨r86, o87, rfl, E, g_r86, X_r86, F_severity_r86, F_source_r86, F_code_r86, F_arguments_r86, F_text_r86, X_o87, F_value_o87⟩ := q
        have z_r86 := Nat.le_trans E0.1 g_r86
        have ne_a79_r86 : a79 ≠ r86 := Nat.ne_of_lt (Nat.lt_of_lt_of_le X_a79.lt g_r86)
        have ne_a84_r86 : a84 ≠ r86 := Nat.ne_of_lt (Nat.lt_of_lt_of_le X_a84.lt g_r86)
        have ne_em_r86 : em ≠ r86 := Nat.ne_of_lt (Nat.lt_of_lt_of_le X_em.lt g_r86)
        have ne_ev_r86 : ev ≠ r86 := Nat.ne_of_lt (Nat.lt_of_lt_of_le X_e.lt g_r86)
        have ne_o83_r86 : o83 ≠ r86 := Nat.ne_of_lt (Nat.lt_of_lt_of_le X_o83.lt g_r86)
        have ne_t_r86 : t ≠ r86 := Nat.ne_of_lt (Nat.lt_of_lt_of_le A_t.lt g_r86)
        have ne_x75_r86 : x75 ≠ r86 := Nat.ne_of_lt (Nat.lt_of_lt_of_le X_x75.lt g_r86)
        have ne_x76_r86 : x76 ≠ r86 := Nat.ne_of_lt (Nat.lt_of_lt_of_le X_x76.lt g_r86)
        have ne_x77_r86 : x77 ≠ r86 := Nat.ne_of_lt (Nat.lt_of_lt_of_le X_x77.lt g_r86)
        have ne_x78_r86 : x78 ≠ r86 := Nat.ne_of_lt (Nat.lt_of_lt_of_le X_x78.lt g_r86)
        have ne_y85_r86 : y85 ≠ r86 := Nat.ne_of_lt (Nat.lt_of_lt_of_le X_y85.lt g_r86)
        replace E0 := ext_trans E0 E
        replace X_x75 := X_x75.ext E
        replace X_x76 := X_x76.ext E
        replace X_x77 := X_x77.ext E
        replace X_x78 := X_x78.ext E
        replace X_a79 := X_a79.ext E
        replace F_elementData_a79 := F_elementData_a79.ext E
        replace F_size_a79 := F_size_a79.ext E
        replace F_modCount_a79 := F_modCount_a79.ext E
        replace A_t := A_t.ext E
        replace X_t := X_t.ext E
        replace X_e := X_e.ext E
        replace F_e := F_e.ext E
        replace X_em := X_em.ext E
        replace F_em := F_em.ext E
        replace X_o83 := X_o83.ext E
        replace F_value_o83 := F_value_o83.ext E
        replace X_a84 := X_a84.ext E
        replace F_severity_a84 := F_severity_a84.ext E
        replace F_source_a84 := F_source_a84.ext E
        replace F_code_a84 := F_code_a84.ext E
        replace F_arguments_a84 := F_arguments_a84.ext E
        replace F_text_a84 := F_text_a84.ext E
        replace X_y85 := X_y85.ext E
        replace F_e0_y85 := F_e0_y85.ext E
        replace F_e1_y85 := F_e1_y85.ext E
        show Go p e below _ (State.setTop T (mkF m 168 #[.val (.int fl), .val (.int j1), .val (.int j2), .val (.int j3), .val (.int av), .val (.int j5), .val (.ref sv), .val (.int (0 : Int32)), .val (.int (1 : Int32)), .val (.int (1 : Int32)), .val (.ref x75), .val (.ref x76), .val (.ref x77), .val (.ref x78), .val (.ref a79), .val (.ref em), .val (.ref o83), .val (.ref a84), .unset, .unset, .unset, .unset, .unset] [(.ref r86)]))
        refine g_astore w at_168 (q := 170) rfl rfl (Ls' := #[.val (.int fl), .val (.int j1), .val (.int j2), .val (.int j3), .val (.int av), .val (.int j5), .val (.ref sv), .val (.int (0 : Int32)), .val (.int (1 : Int32)), .val (.int (1 : Int32)), .val (.ref x75), .val (.ref x76), .val (.ref x77), .val (.ref x78), .val (.ref a79), .val (.ref em), .val (.ref o83), .val (.ref a84), .val (.ref r86), .unset, .unset, .unset, .unset]) rfl ?_
        refine g_aload w at_170 (q := 172) rfl rfl rfl ?_
        refine g_nonnullY w at_172 (by decide) (q := 177) (by decide) ?_
        refine g_aload w at_177 (q := 179) rfl rfl rfl ?_
        refine g_virtualP w (con_g_severity l Z a0 hw r86 sv _ w.old F_severity_r86) no0 X_r86 at_179 (q := 182) rfl rfl (Hw hw 151 rfl) (Hw hw 152 rfl) (Hw hw 154 rfl) (Hw hw 153 rfl) (Hw hw 64 rfl) (Hw hw 155 rfl) (by decide) (nf (Hw hw 154 rfl)) pd23 rfl rfl (W := 0) (Nat.le_of_eq rfl) (by decide) (by decide) (by decide) (by decide) (fun T v w C q => ?_)
        obtain rfl := q
        show Go p e below _ (State.setTop T (mkF m 182 #[.val (.int fl), .val (.int j1), .val (.int j2), .val (.int j3), .val (.int av), .val (.int j5), .val (.ref sv), .val (.int (0 : Int32)), .val (.int (1 : Int32)), .val (.int (1 : Int32)), .val (.ref x75), .val (.ref x76), .val (.ref x77), .val (.ref x78), .val (.ref a79), .val (.ref em), .val (.ref o83), .val (.ref a84), .val (.ref r86), .unset, .unset, .unset, .unset] [(.ref sv)]))
        refine g_aload w at_182 (q := 184) rfl rfl rfl ?_
        refine g_acY w at_184 (by decide) (q := 189) (by decide) rfl rfl (Jvm.Free.XT.aa_eq_t rfl) ?_
        refine g_aload w at_189 (q := 191) rfl rfl rfl ?_
        refine g_virtualP w (con_g_source l Z a0 hw r86 o87 _ w.old F_source_r86) no0 X_r86 at_191 (q := 194) rfl rfl (Hw hw 156 rfl) (Hw hw 157 rfl) (Hw hw 159 rfl) (Hw hw 158 rfl) (Hw hw 64 rfl) (Hw hw 160 rfl) (by decide) (nf (Hw hw 159 rfl)) pd21 rfl rfl (W := 0) (Nat.le_of_eq rfl) (by decide) (by decide) (by decide) (by decide) (fun T v w C q => ?_)
        obtain rfl := q
        show Go p e below _ (State.setTop T (mkF m 194 #[.val (.int fl), .val (.int j1), .val (.int j2), .val (.int j3), .val (.int av), .val (.int j5), .val (.ref sv), .val (.int (0 : Int32)), .val (.int (1 : Int32)), .val (.int (1 : Int32)), .val (.ref x75), .val (.ref x76), .val (.ref x77), .val (.ref x78), .val (.ref a79), .val (.ref em), .val (.ref o83), .val (.ref a84), .val (.ref r86), .unset, .unset, .unset, .unset] [(.ref o87)]))
        refine g_astore w at_194 (q := 196) rfl rfl (Ls' := #[.val (.int fl), .val (.int j1), .val (.int j2), .val (.int j3), .val (.int av), .val (.int j5), .val (.ref sv), .val (.int (0 : Int32)), .val (.int (1 : Int32)), .val (.int (1 : Int32)), .val (.ref x75), .val (.ref x76), .val (.ref x77), .val (.ref x78), .val (.ref a79), .val (.ref em), .val (.ref o83), .val (.ref a84), .val (.ref r86), .val (.ref o87), .unset, .unset, .unset]) rfl ?_
        refine g_aload w at_196 (q := 198) rfl rfl rfl ?_
        refine g_virtualP w (con_ip1 l Z a0 hw o87 x75 _ w.old F_value_o87) no0 X_o87 at_198 (q := 201) rfl rfl (Hw hw 161 rfl) (Hw hw 162 rfl) (Hw hw 164 rfl) (Hw hw 163 rfl) (Hw hw 59 rfl) (Hw hw 165 rfl) (by decide) (nf (Hw hw 164 rfl)) pd11 rfl rfl (W := 0) (Nat.le_of_eq rfl) (by decide) (by decide) (by decide) (by decide) (fun T v w C q => ?_)
        obtain rfl := q
        show Go p e below _ (State.setTop T (mkF m 201 #[.val (.int fl), .val (.int j1), .val (.int j2), .val (.int j3), .val (.int av), .val (.int j5), .val (.ref sv), .val (.int (0 : Int32)), .val (.int (1 : Int32)), .val (.int (1 : Int32)), .val (.ref x75), .val (.ref x76), .val (.ref x77), .val (.ref x78), .val (.ref a79), .val (.ref em), .val (.ref o83), .val (.ref a84), .val (.ref r86), .val (.ref o87), .unset, .unset, .unset] [(.int (1 : Int32))]))
        refine g_ifN w at_201 (q := 204) rfl (by decide) ?_
        refine g_aload w at_204 (q := 206) rfl rfl rfl ?_
        refine g_virtualP w (con_oget l Z a0 hw o87 x75 _ w.old F_value_o87) no0 X_o87 at_206 (q := 209) rfl rfl (Hw hw 166 rfl) (Hw hw 167 rfl) (Hw hw 169 rfl) (Hw hw 168 rfl) (Hw hw 59 rfl) (Hw hw 170 rfl) (by decide) (nf (Hw hw 169 rfl)) pd24 rfl rfl (W := 0) (Nat.le_of_eq rfl) (by decide) (by decide) (by decide) (by decide) (fun T v w C q => ?_)
        obtain rfl := q
        show Go p e below _ (State.setTop T (mkF m 209 #[.val (.int fl), .val (.int j1), .val (.int j2), .val (.int j3), .val (.int av), .val (.int j5), .val (.ref sv), .val (.int (0 : Int32)), .val (.int (1 : Int32)), .val (.int (1 : Int32)), .val (.ref x75), .val (.ref x76), .val (.ref x77), .val (.ref x78), .val (.ref a79), .val (.ref em), .val (.ref o83), .val (.ref a84), .val (.ref r86), .val (.ref o87), .unset, .unset, .unset] [(.ref x75)]))
        refine g_cast w at_209 (q := 212) rfl (Hw hw 11 rfl) (Ins.self X_x75) (fun T w => ?_)
        refine g_aload w at_212 (q := 214) rfl rfl rfl ?_
        refine g_virtualP w (con_eq1 l Z a0 hw x75 _ w.old) no0 X_x75 at_214 (q := 217) rfl rfl (Hw hw 171 rfl) (Hw hw 172 rfl) (Hw hw 174 rfl) (Hw hw 173 rfl) (Hw hw 13 rfl) (Hw hw 175 rfl) (by decide) (nf (Hw hw 174 rfl)) pd25 rfl rfl (W := 0) (Nat.le_of_eq rfl) (by decide) (by decide) (by decide) (by decide) (fun T v w C q => ?_)
        obtain rfl := q
        show Go p e below _ (State.setTop T (mkF m 217 #[.val (.int fl), .val (.int j1), .val (.int j2), .val (.int j3), .val (.int av), .val (.int j5), .val (.ref sv), .val (.int (0 : Int32)), .val (.int (1 : Int32)), .val (.int (1 : Int32)), .val (.ref x75), .val (.ref x76), .val (.ref x77), .val (.ref x78), .val (.ref a79), .val (.ref em), .val (.ref o83), .val (.ref a84), .val (.ref r86), .val (.ref o87), .unset, .unset, .unset] [(.int (1 : Int32))]))
        refine g_ifY w at_217 (by decide) (q := 222) (by decide) (by decide) ?_
        refine g_aload w at_222 (q := 224) rfl rfl rfl ?_
        refine g_virtualP w (con_g_code l Z a0 hw r86 o83 _ w.old F_code_r86) no0 X_r86 at_224 (q := 227) rfl rfl (Hw hw 176 rfl) (Hw hw 177 rfl) (Hw hw 179 rfl) (Hw hw 178 rfl) (Hw hw 64 rfl) (Hw hw 180 rfl) (by decide) (nf (Hw hw 179 rfl)) pd21 rfl rfl (W := 0) (Nat.le_of_eq rfl) (by decide) (by decide) (by decide) (by decide) (fun T v w C q => ?_)
        obtain rfl := q
        show Go p e below _ (State.setTop T (mkF m 227 #[.val (.int fl), .val (.int j1), .val (.int j2), .val (.int j3), .val (.int av), .val (.int j5), .val (.ref sv), .val (.int (0 : Int32)), .val (.int (1 : Int32)), .val (.int (1 : Int32)), .val (.ref x75), .val (.ref x76), .val (.ref x77), .val (.ref x78), .val (.ref a79), .val (.ref em), .val (.ref o83), .val (.ref a84), .val (.ref r86), .val (.ref o87), .unset, .unset, .unset] [(.ref o83)]))
        refine g_astore w at_227 (q := 229) rfl rfl (Ls' := #[.val (.int fl), .val (.int j1), .val (.int j2), .val (.int j3), .val (.int av), .val (.int j5), .val (.ref sv), .val (.int (0 : Int32)), .val (.int (1 : Int32)), .val (.int (1 : Int32)), .val (.ref x75), .val (.ref x76), .val (.ref x77), .val (.ref x78), .val (.ref a79), .val (.ref em), .val (.ref o83), .val (.ref a84), .val (.ref r86), .val (.ref o87), .val (.ref o83), .unset, .unset]) rfl ?_
        refine g_aload w at_229 (q := 231) rfl rfl rfl ?_
        refine g_virtualP w (con_ip1 l Z a0 hw o83 x78 _ w.old F_value_o83) no0 X_o83 at_231 (q := 234) rfl rfl (Hw hw 161 rfl) (Hw hw 162 rfl) (Hw hw 164 rfl) (Hw hw 163 rfl) (Hw hw 59 rfl) (Hw hw 165 rfl) (by decide) (nf (Hw hw 164 rfl)) pd11 rfl rfl (W := 0) (Nat.le_of_eq rfl) (by decide) (by decide) (by decide) (by decide) (fun T v w C q => ?_)
        obtain rfl := q
        show Go p e below _ (State.setTop T (mkF m 234 #[.val (.int fl), .val (.int j1), .val (.int j2), .val (.int j3), .val (.int av), .val (.int j5), .val (.ref sv), .val (.int (0 : Int32)), .val (.int (1 : Int32)), .val (.int (1 : Int32)), .val (.ref x75), .val (.ref x76), .val (.ref x77), .val (.ref x78), .val (.ref a79), .val (.ref em), .val (.ref o83), .val (.ref a84), .val (.ref r86), .val (.ref o87), .val (.ref o83), .unset, .unset] [(.int (1 : Int32))]))
        refine g_iload w at_234 (q := 236) rfl rfl ?_
        refine g_icY w at_236 (by decide) (q := 241) (by decide) (Jvm.Free.XT.ii_eq_t rfl) ?_
        refine g_iload w at_241 (q := 243) rfl rfl ?_
        refine g_ifN w at_243 (q := 246) rfl (by decide) ?_
        refine g_aload w at_246 (q := 248) rfl rfl rfl ?_
        refine g_virtualP w (con_oget l Z a0 hw o83 x78 _ w.old F_value_o83) no0 X_o83 at_248 (q := 251) rfl rfl (Hw hw 166 rfl) (Hw hw 167 rfl) (Hw hw 169 rfl) (Hw hw 168 rfl) (Hw hw 59 rfl) (Hw hw 170 rfl) (by decide) (nf (Hw hw 169 rfl)) pd24 rfl rfl (W := 0) (Nat.le_of_eq rfl) (by decide) (by decide) (by decide) (by decide) (fun T v w C q => ?_)
        obtain rfl := q
        show Go p e below _ (State.setTop T (mkF m 251 #[.val (.int fl), .val (.int j1), .val (.int j2), .val (.int j3), .val (.int av), .val (.int j5), .val (.ref sv), .val (.int (0 : Int32)), .val (.int (1 : Int32)), .val (.int (1 : Int32)), .val (.ref x75), .val (.ref x76), .val (.ref x77), .val (.ref x78), .val (.ref a79), .val (.ref em), .val (.ref o83), .val (.ref a84), .val (.ref r86), .val (.ref o87), .val (.ref o83), .unset, .unset] [(.ref x78)]))
        refine g_cast w at_251 (q := 254) rfl (Hw hw 11 rfl) (Ins.self X_x78) (fun T w => ?_)
        refine g_aload w at_254 (q := 256) rfl rfl rfl ?_
        refine g_virtualP w (con_eq1 l Z a0 hw x78 _ w.old) no0 X_x78 at_256 (q := 259) rfl rfl (Hw hw 171 rfl) (Hw hw 172 rfl) (Hw hw 174 rfl) (Hw hw 173 rfl) (Hw hw 13 rfl) (Hw hw 175 rfl) (by decide) (nf (Hw hw 174 rfl)) pd25 rfl rfl (W := 0) (Nat.le_of_eq rfl) (by decide) (by decide) (by decide) (by decide) (fun T v w C q => ?_)
        obtain rfl := q
        show Go p e below _ (State.setTop T (mkF m 259 #[.val (.int fl), .val (.int j1), .val (.int j2), .val (.int j3), .val (.int av), .val (.int j5), .val (.ref sv), .val (.int (0 : Int32)), .val (.int (1 : Int32)), .val (.int (1 : Int32)), .val (.ref x75), .val (.ref x76), .val (.ref x77), .val (.ref x78), .val (.ref a79), .val (.ref em), .val (.ref o83), .val (.ref a84), .val (.ref r86), .val (.ref o87), .val (.ref o83), .unset, .unset] [(.int (1 : Int32))]))
        refine g_ifY w at_259 (by decide) (q := 264) (by decide) (by decide) ?_
        refine g_aload w at_264 (q := 266) rfl rfl rfl ?_
        refine g_virtualP w (con_g_arguments l Z a0 hw r86 y85 _ w.old F_arguments_r86) no0 X_r86 at_266 (q := 269) rfl rfl (Hw hw 181 rfl) (Hw hw 182 rfl) (Hw hw 184 rfl) (Hw hw 183 rfl) (Hw hw 64 rfl) (Hw hw 185 rfl) (by decide) (nf (Hw hw 184 rfl)) pd12 rfl rfl (W := 0) (Nat.le_of_eq rfl) (by decide) (by decide) (by decide) (by decide) (fun T v w C q => ?_)
        obtain rfl := q
        show Go p e below _ (State.setTop T (mkF m 269 #[.val (.int fl), .val (.int j1), .val (.int j2), .val (.int j3), .val (.int av), .val (.int j5), .val (.ref sv), .val (.int (0 : Int32)), .val (.int (1 : Int32)), .val (.int (1 : Int32)), .val (.ref x75), .val (.ref x76), .val (.ref x77), .val (.ref x78), .val (.ref a79), .val (.ref em), .val (.ref o83), .val (.ref a84), .val (.ref r86), .val (.ref o87), .val (.ref o83), .unset, .unset] [(.ref y85)]))
        refine g_astore w at_269 (q := 271) rfl rfl (Ls' := #[.val (.int fl), .val (.int j1), .val (.int j2), .val (.int j3), .val (.int av), .val (.int j5), .val (.ref sv), .val (.int (0 : Int32)), .val (.int (1 : Int32)), .val (.int (1 : Int32)), .val (.ref x75), .val (.ref x76), .val (.ref x77), .val (.ref x78), .val (.ref a79), .val (.ref em), .val (.ref o83), .val (.ref a84), .val (.ref r86), .val (.ref o87), .val (.ref o83), .val (.ref y85), .unset]) rfl ?_
        refine g_aload w at_271 (q := 273) rfl rfl rfl ?_
        refine g_ifaceP w (con_l12s l Z a0 hw y85 ic _ w.old F_e1_y85 SI_) no0 X_y85 at_273 (q := 278) rfl rfl (Hw hw 186 rfl) (Hw hw 187 rfl) (Hw hw 188 rfl) (by decide) (Hw hw 330 rfl) (Hw hw 331 rfl) (Hw hw 327 rfl) (Hw hw 328 rfl) (Hw hw 329 rfl) (Hw hw 302 rfl) (Hw hw 332 rfl) (by decide) pd26 rfl rfl (W := 0) (Nat.le_of_eq rfl) (by decide) (by decide) (by decide) (by decide) (fun T v w C q => ?_)
        obtain rfl := q
        show Go p e below _ (State.setTop T (mkF m 278 #[.val (.int fl), .val (.int j1), .val (.int j2), .val (.int j3), .val (.int av), .val (.int j5), .val (.ref sv), .val (.int (0 : Int32)), .val (.int (1 : Int32)), .val (.int (1 : Int32)), .val (.ref x75), .val (.ref x76), .val (.ref x77), .val (.ref x78), .val (.ref a79), .val (.ref em), .val (.ref o83), .val (.ref a84), .val (.ref r86), .val (.ref o87), .val (.ref o83), .val (.ref y85), .unset] [(.int (1 : Int32))]))
        refine g_iload w at_278 (q := 280) rfl rfl ?_
        refine g_ifN w at_280 (q := 283) rfl (by decide) ?_
        refine g_iconst w at_283 (q := 284) rfl (v := (1 : Int32)) (by decide) ?_
        refine g_goto w at_284 (by decide) (q := 288) (by decide) ?_
        refine g_icY w at_288 (by decide) (q := 293) (by decide) (Jvm.Free.XT.ii_eq_t rfl) ?_
        refine g_iload w at_293 (q := 295) rfl rfl ?_
        refine g_ifN w at_295 (q := 298) rfl (by decide) ?_
        refine g_aload w at_298 (q := 300) rfl rfl rfl ?_
        refine g_iconst w at_300 (q := 301) rfl (v := (0 : Int32)) (by decide) ?_
        refine g_ifaceP w (con_l12g l Z a0 hw y85 ev _ w.old F_e0_y85) no0 X_y85 at_301 (q := 306) rfl rfl (Hw hw 333 rfl) (Hw hw 334 rfl) (Hw hw 335 rfl) (by decide) (Hw hw 338 rfl) (Hw hw 339 rfl) (Hw hw 327 rfl) (Hw hw 336 rfl) (Hw hw 337 rfl) (Hw hw 302 rfl) (Hw hw 340 rfl) (by decide) pd29 rfl rfl (W := 0) (Nat.le_of_eq rfl) (by decide) (by decide) (by decide) (by decide) (fun T v w C q => ?_)
        obtain rfl := q
        show Go p e below _ (State.setTop T (mkF m 306 #[.val (.int fl), .val (.int j1), .val (.int j2), .val (.int j3), .val (.int av), .val (.int j5), .val (.ref sv), .val (.int (0 : Int32)), .val (.int (1 : Int32)), .val (.int (1 : Int32)), .val (.ref x75), .val (.ref x76), .val (.ref x77), .val (.ref x78), .val (.ref a79), .val (.ref em), .val (.ref o83), .val (.ref a84), .val (.ref r86), .val (.ref o87), .val (.ref o83), .val (.ref y85), .unset] [(.ref ev)]))
        refine g_cast w at_306 (q := 309) rfl (Hw hw 341 rfl) (Ins.self X_e) (fun T w => ?_)
        refine g_virtualP w (con_iv l Z a0 hw ev av _ w.old F_e) no0 X_e at_309 (q := 312) rfl rfl (Hw hw 342 rfl) (Hw hw 343 rfl) (Hw hw 345 rfl) (Hw hw 344 rfl) (Hw hw 217 rfl) (Hw hw 346 rfl) (by decide) (nf (Hw hw 345 rfl)) pd26 rfl rfl (W := 0) (Nat.le_of_eq rfl) (by decide) (by decide) (by decide) (by decide) (fun T v w C q => ?_)
        obtain rfl := q
        show Go p e below _ (State.setTop T (mkF m 312 #[.val (.int fl), .val (.int j1), .val (.int j2), .val (.int j3), .val (.int av), .val (.int j5), .val (.ref sv), .val (.int (0 : Int32)), .val (.int (1 : Int32)), .val (.int (1 : Int32)), .val (.ref x75), .val (.ref x76), .val (.ref x77), .val (.ref x78), .val (.ref a79), .val (.ref em), .val (.ref o83), .val (.ref a84), .val (.ref r86), .val (.ref o87), .val (.ref o83), .val (.ref y85), .unset] [(.int av)]))
        refine g_iload w at_312 (q := 314) rfl rfl ?_
        refine g_icY w at_314 (by decide) (q := 319) (by decide) (Jvm.Free.XT.ii_eq_t rfl) ?_
        refine g_aload w at_319 (q := 321) rfl rfl rfl ?_
        refine g_virtualP w (con_g_text l Z a0 hw r86 x77 _ w.old F_text_r86) no0 X_r86 at_321 (q := 324) rfl rfl (Hw hw 197 rfl) (Hw hw 198 rfl) (Hw hw 200 rfl) (Hw hw 199 rfl) (Hw hw 64 rfl) (Hw hw 201 rfl) (by decide) (nf (Hw hw 200 rfl)) pd27 rfl rfl (W := 0) (Nat.le_of_eq rfl) (by decide) (by decide) (by decide) (by decide) (fun T v w C q => ?_)
        obtain rfl := q
        show Go p e below _ (State.setTop T (mkF m 324 #[.val (.int fl), .val (.int j1), .val (.int j2), .val (.int j3), .val (.int av), .val (.int j5), .val (.ref sv), .val (.int (0 : Int32)), .val (.int (1 : Int32)), .val (.int (1 : Int32)), .val (.ref x75), .val (.ref x76), .val (.ref x77), .val (.ref x78), .val (.ref a79), .val (.ref em), .val (.ref o83), .val (.ref a84), .val (.ref r86), .val (.ref o87), .val (.ref o83), .val (.ref y85), .unset] [(.ref x77)]))
        refine g_aload w at_324 (q := 326) rfl rfl rfl ?_
        refine g_virtualP w (con_eq1 l Z a0 hw x77 _ w.old) no0 X_x77 at_326 (q := 329) rfl rfl (Hw hw 171 rfl) (Hw hw 172 rfl) (Hw hw 174 rfl) (Hw hw 173 rfl) (Hw hw 13 rfl) (Hw hw 175 rfl) (by decide) (nf (Hw hw 174 rfl)) pd25 rfl rfl (W := 0) (Nat.le_of_eq rfl) (by decide) (by decide) (by decide) (by decide) (fun T v w C q => ?_)
        obtain rfl := q
        show Go p e below _ (State.setTop T (mkF m 329 #[.val (.int fl), .val (.int j1), .val (.int j2), .val (.int j3), .val (.int av), .val (.int j5), .val (.ref sv), .val (.int (0 : Int32)), .val (.int (1 : Int32)), .val (.int (1 : Int32)), .val (.ref x75), .val (.ref x76), .val (.ref x77), .val (.ref x78), .val (.ref a79), .val (.ref em), .val (.ref o83), .val (.ref a84), .val (.ref r86), .val (.ref o87), .val (.ref o83), .val (.ref y85), .unset] [(.int (1 : Int32))]))
        refine g_ifY w at_329 (by decide) (q := 334) (by decide) (by decide) ?_
        refine g_aload w at_334 (q := 336) rfl rfl rfl ?_
        refine g_virtualP w (con_g_source l Z a0 hw a84 em _ w.old F_source_a84) no0 X_a84 at_336 (q := 339) rfl rfl (Hw hw 156 rfl) (Hw hw 157 rfl) (Hw hw 159 rfl) (Hw hw 158 rfl) (Hw hw 64 rfl) (Hw hw 160 rfl) (by decide) (nf (Hw hw 159 rfl)) pd21 rfl rfl (W := 0) (Nat.le_of_eq rfl) (by decide) (by decide) (by decide) (by decide) (fun T v w C q => ?_)
        obtain rfl := q
        show Go p e below _ (State.setTop T (mkF m 339 #[.val (.int fl), .val (.int j1), .val (.int j2), .val (.int j3), .val (.int av), .val (.int j5), .val (.ref sv), .val (.int (0 : Int32)), .val (.int (1 : Int32)), .val (.int (1 : Int32)), .val (.ref x75), .val (.ref x76), .val (.ref x77), .val (.ref x78), .val (.ref a79), .val (.ref em), .val (.ref o83), .val (.ref a84), .val (.ref r86), .val (.ref o87), .val (.ref o83), .val (.ref y85), .unset] [(.ref em)]))
        refine g_astore w at_339 (q := 341) rfl rfl (Ls' := #[.val (.int fl), .val (.int j1), .val (.int j2), .val (.int j3), .val (.int av), .val (.int j5), .val (.ref sv), .val (.int (0 : Int32)), .val (.int (1 : Int32)), .val (.int (1 : Int32)), .val (.ref x75), .val (.ref x76), .val (.ref x77), .val (.ref x78), .val (.ref a79), .val (.ref em), .val (.ref o83), .val (.ref a84), .val (.ref r86), .val (.ref o87), .val (.ref o83), .val (.ref y85), .val (.ref em)]) rfl ?_
        refine g_aload w at_341 (q := 343) rfl rfl rfl ?_
        refine g_virtualP w (con_ip0 l Z a0 hw em em _ w.old F_em) no0 X_em at_343 (q := 346) rfl rfl (Hw hw 161 rfl) (Hw hw 162 rfl) (Hw hw 164 rfl) (Hw hw 163 rfl) (Hw hw 59 rfl) (Hw hw 165 rfl) (by decide) (nf (Hw hw 164 rfl)) pd11 rfl rfl (W := 0) (Nat.le_of_eq rfl) (by decide) (by decide) (by decide) (by decide) (fun T v w C q => ?_)
        obtain rfl := q
        show Go p e below _ (State.setTop T (mkF m 346 #[.val (.int fl), .val (.int j1), .val (.int j2), .val (.int j3), .val (.int av), .val (.int j5), .val (.ref sv), .val (.int (0 : Int32)), .val (.int (1 : Int32)), .val (.int (1 : Int32)), .val (.ref x75), .val (.ref x76), .val (.ref x77), .val (.ref x78), .val (.ref a79), .val (.ref em), .val (.ref o83), .val (.ref a84), .val (.ref r86), .val (.ref o87), .val (.ref o83), .val (.ref y85), .val (.ref em)] [(.int (0 : Int32))]))
        refine g_iload w at_346 (q := 348) rfl rfl ?_
        refine g_icY w at_348 (by decide) (q := 353) (by decide) (Jvm.Free.XT.ii_eq_t rfl) ?_
        refine g_iload w at_353 (q := 355) rfl rfl ?_
        refine g_ifY w at_355 (by decide) (q := 376) (by decide) (by decide) ?_
        refine g_iconst w at_376 (q := 377) rfl (v := (1 : Int32)) (by decide) ?_
        exact g_retn w at_377 rfl (by simp) rfl (by decide) (by decide) rfl
  · refine g_iconst w at_15 (q := 16) rfl (v := (1 : Int32)) (by decide) ?_
    refine g_goto w at_16 (by decide) (q := 20) (by decide) ?_
    refine g_istore w at_20 (q := 22) rfl (Ls' := #[.val (.int fl), .val (.int j1), .val (.int j2), .val (.int j3), .val (.int av), .val (.int j5), .val (.ref sv), .val (.int (1 : Int32)), .unset, .unset, .unset, .unset, .unset, .unset, .unset, .unset, .unset, .unset, .unset, .unset, .unset, .unset, .unset]) rfl ?_
    refine g_iloadN w at_22 (q := 23) rfl rfl ?_
    refine g_bipush w at_23 (q := 25) rfl (v := (9 : Int32)) (by decide) ?_
    refine g_iushr w at_25 (q := 26) rfl ?_
    refine g_iconst w at_26 (q := 27) rfl (v := (1 : Int32)) (by decide) ?_
    refine g_iand w at_27 (q := 28) rfl ?_
    refine g_if_eq w at_28 (by decide) (q := 35) (by decide) (q' := 31) rfl (fun cd101 => ?_) (fun cd101 => ?_)
    · refine g_iconst w at_35 (q := 36) rfl (v := (0 : Int32)) (by decide) ?_
      refine g_istore w at_36 (q := 38) rfl (Ls' := #[.val (.int fl), .val (.int j1), .val (.int j2), .val (.int j3), .val (.int av), .val (.int j5), .val (.ref sv), .val (.int (1 : Int32)), .val (.int (0 : Int32)), .unset, .unset, .unset, .unset, .unset, .unset, .unset, .unset, .unset, .unset, .unset, .unset, .unset, .unset]) rfl ?_
      refine g_iloadN w at_38 (q := 39) rfl rfl ?_
      refine g_bipush w at_39 (q := 41) rfl (v := (10 : Int32)) (by decide) ?_
      refine g_iushr w at_41 (q := 42) rfl ?_
      refine g_iconst w at_42 (q := 43) rfl (v := (1 : Int32)) (by decide) ?_
      refine g_iand w at_43 (q := 44) rfl ?_
      refine g_if_eq w at_44 (by decide) (q := 51) (by decide) (q' := 47) rfl (fun cd102 => ?_) (fun cd102 => ?_)
      · refine g_iconst w at_51 (q := 52) rfl (v := (0 : Int32)) (by decide) ?_
        refine g_istore w at_52 (q := 54) rfl (Ls' := #[.val (.int fl), .val (.int j1), .val (.int j2), .val (.int j3), .val (.int av), .val (.int j5), .val (.ref sv), .val (.int (1 : Int32)), .val (.int (0 : Int32)), .val (.int (0 : Int32)), .unset, .unset, .unset, .unset, .unset, .unset, .unset, .unset, .unset, .unset, .unset, .unset, .unset]) rfl ?_
        refine g_iloadN w at_54 (q := 55) rfl rfl ?_
        refine g_static w (con_str l Z a0 hw j1 _ w.old hcm) no0 at_55 (q := 58) rfl rfl (Hw hw 8 rfl) (Hw hw 9 rfl) (Hw hw 2 rfl) (Hw hw 10 rfl) (by decide) pd20 rfl rfl (W := 0) (Nat.le_of_eq rfl) (by decide) (by decide) (by decide) (by decide) (fun T h v w gs C q => ?_)
        obtain ⟨x103, rfl, E, g_x103, X_x103⟩ := q
        have z_x103 := Nat.le_trans E0.1 g_x103
        replace E0 := ext_trans E0 E
        show Go p e below _ (State.setTop T (mkF m 58 #[.val (.int fl), .val (.int j1), .val (.int j2), .val (.int j3), .val (.int av), .val (.int j5), .val (.ref sv), .val (.int (1 : Int32)), .val (.int (0 : Int32)), .val (.int (0 : Int32)), .unset, .unset, .unset, .unset, .unset, .unset, .unset, .unset, .unset, .unset, .unset, .unset, .unset] [(.ref x103)]))
        refine g_astore w at_58 (q := 60) rfl rfl (Ls' := #[.val (.int fl), .val (.int j1), .val (.int j2), .val (.int j3), .val (.int av), .val (.int j5), .val (.ref sv), .val (.int (1 : Int32)), .val (.int (0 : Int32)), .val (.int (0 : Int32)), .val (.ref x103), .unset, .unset, .unset, .unset, .unset, .unset, .unset, .unset, .unset, .unset, .unset, .unset]) rfl ?_
        refine g_iloadN w at_60 (q := 61) rfl rfl ?_
        refine g_static w (con_str l Z a0 hw j2 _ w.old hcm) no0 at_61 (q := 64) rfl rfl (Hw hw 8 rfl) (Hw hw 9 rfl) (Hw hw 2 rfl) (Hw hw 10 rfl) (by decide) pd20 rfl rfl (W := 0) (Nat.le_of_eq rfl) (by decide) (by decide) (by decide) (by decide) (fun T h v w gs C q => ?_)
        obtain ⟨x104, rfl, E, g_x104, X_x104⟩ := q
        have z_x104 := Nat.le_trans E0.1 g_x104
        have ne_x103_x104 : x103 ≠ x104 := Nat.ne_of_lt (Nat.lt_of_lt_of_le X_x103.lt g_x104)
        replace E0 := ext_trans E0 E
        replace X_x103 := X_x103.ext E
        show Go p e below _ (State.setTop T (mkF m 64 #[.val (.int fl), .val (.int j1), .val (.int j2), .val (.int j3), .val (.int av), .val (.int j5), .val (.ref sv), .val (.int (1 : Int32)), .val (.int (0 : Int32)), .val (.int (0 : Int32)), .val (.ref x103), .unset, .unset, .unset, .unset, .unset, .unset, .unset, .unset, .unset, .unset, .unset, .unset] [(.ref x104)]))
        refine g_astore w at_64 (q := 66) rfl rfl (Ls' := #[.val (.int fl), .val (.int j1), .val (.int j2), .val (.int j3), .val (.int av), .val (.int j5), .val (.ref sv), .val (.int (1 : Int32)), .val (.int (0 : Int32)), .val (.int (0 : Int32)), .val (.ref x103), .val (.ref x104), .unset, .unset, .unset, .unset, .unset, .unset, .unset, .unset, .unset, .unset, .unset]) rfl ?_
        refine g_iloadN w at_66 (q := 67) rfl rfl ?_
        refine g_static w (con_str l Z a0 hw j3 _ w.old hcm) no0 at_67 (q := 70) rfl rfl (Hw hw 8 rfl) (Hw hw 9 rfl) (Hw hw 2 rfl) (Hw hw 10 rfl) (by decide) pd20 rfl rfl (W := 0) (Nat.le_of_eq rfl) (by decide) (by decide) (by decide) (by decide) (fun T h v w gs C q => ?_)
        obtain ⟨x105, rfl, E, g_x105, X_x105⟩ := q
        have z_x105 := Nat.le_trans E0.1 g_x105
        have ne_x103_x105 : x103 ≠ x105 := Nat.ne_of_lt (Nat.lt_of_lt_of_le X_x103.lt g_x105)
        have ne_x104_x105 : x104 ≠ x105 := Nat.ne_of_lt (Nat.lt_of_lt_of_le X_x104.lt g_x105)
        replace E0 := ext_trans E0 E
        replace X_x103 := X_x103.ext E
        replace X_x104 := X_x104.ext E
        show Go p e below _ (State.setTop T (mkF m 70 #[.val (.int fl), .val (.int j1), .val (.int j2), .val (.int j3), .val (.int av), .val (.int j5), .val (.ref sv), .val (.int (1 : Int32)), .val (.int (0 : Int32)), .val (.int (0 : Int32)), .val (.ref x103), .val (.ref x104), .unset, .unset, .unset, .unset, .unset, .unset, .unset, .unset, .unset, .unset, .unset] [(.ref x105)]))
        refine g_astore w at_70 (q := 72) rfl rfl (Ls' := #[.val (.int fl), .val (.int j1), .val (.int j2), .val (.int j3), .val (.int av), .val (.int j5), .val (.ref sv), .val (.int (1 : Int32)), .val (.int (0 : Int32)), .val (.int (0 : Int32)), .val (.ref x103), .val (.ref x104), .val (.ref x105), .unset, .unset, .unset, .unset, .unset, .unset, .unset, .unset, .unset, .unset]) rfl ?_
        refine g_iload w at_72 (q := 74) rfl rfl ?_
        refine g_static w (con_str l Z a0 hw j5 _ w.old hcm) no0 at_74 (q := 77) rfl rfl (Hw hw 8 rfl) (Hw hw 9 rfl) (Hw hw 2 rfl) (Hw hw 10 rfl) (by decide) pd20 rfl rfl (W := 0) (Nat.le_of_eq rfl) (by decide) (by decide) (by decide) (by decide) (fun T h v w gs C q => ?_)
        obtain ⟨x106, rfl, E, g_x106, X_x106⟩ := q
        have z_x106 := Nat.le_trans E0.1 g_x106
        have ne_x103_x106 : x103 ≠ x106 := Nat.ne_of_lt (Nat.lt_of_lt_of_le X_x103.lt g_x106)
        have ne_x104_x106 : x104 ≠ x106 := Nat.ne_of_lt (Nat.lt_of_lt_of_le X_x104.lt g_x106)
        have ne_x105_x106 : x105 ≠ x106 := Nat.ne_of_lt (Nat.lt_of_lt_of_le X_x105.lt g_x106)
        replace E0 := ext_trans E0 E
        replace X_x103 := X_x103.ext E
        replace X_x104 := X_x104.ext E
        replace X_x105 := X_x105.ext E
        show Go p e below _ (State.setTop T (mkF m 77 #[.val (.int fl), .val (.int j1), .val (.int j2), .val (.int j3), .val (.int av), .val (.int j5), .val (.ref sv), .val (.int (1 : Int32)), .val (.int (0 : Int32)), .val (.int (0 : Int32)), .val (.ref x103), .val (.ref x104), .val (.ref x105), .unset, .unset, .unset, .unset, .unset, .unset, .unset, .unset, .unset, .unset] [(.ref x106)]))
        refine g_astore w at_77 (q := 79) rfl rfl (Ls' := #[.val (.int fl), .val (.int j1), .val (.int j2), .val (.int j3), .val (.int av), .val (.int j5), .val (.ref sv), .val (.int (1 : Int32)), .val (.int (0 : Int32)), .val (.int (0 : Int32)), .val (.ref x103), .val (.ref x104), .val (.ref x105), .val (.ref x106), .unset, .unset, .unset, .unset, .unset, .unset, .unset, .unset, .unset]) rfl ?_
        refine g_new w at_79 (q := 82) rfl (Hw hw 33 rfl) (Hw hw 34 rfl) (Hw hw 35 rfl) (by decide) (by decide) (fun T h a107 w E g_a107 n_a107 X_a107 D_a107 s_a107 => ?_)
        have z_a107 := Nat.le_trans E0.1 g_a107
        have ne_x103_a107 : x103 ≠ a107 := Nat.ne_of_lt (Nat.lt_of_lt_of_le X_x103.lt g_a107)
        have ne_x104_a107 : x104 ≠ a107 := Nat.ne_of_lt (Nat.lt_of_lt_of_le X_x104.lt g_a107)
        have ne_x105_a107 : x105 ≠ a107 := Nat.ne_of_lt (Nat.lt_of_lt_of_le X_x105.lt g_a107)
        have ne_x106_a107 : x106 ≠ a107 := Nat.ne_of_lt (Nat.lt_of_lt_of_le X_x106.lt g_a107)
        replace E0 := ext_trans E0 E
        replace X_x103 := X_x103.ext E
        replace X_x104 := X_x104.ext E
        replace X_x105 := X_x105.ext E
        replace X_x106 := X_x106.ext E
        have F_modCount_a107 := D_a107 (Or.inl (Hw hw 53 rfl)) (ty := .int) (by decide)
        replace F_modCount_a107 : Fld Z h a107 "java/util/AbstractList" "modCount" "I" (.int (0 : Int32)) := F_modCount_a107
        have F_elementData_a107 := D_a107 (Or.inl (Hw hw 56 rfl)) (ty := (.array (.object "java/lang/Object"))) (by decide)
        replace F_elementData_a107 : Fld Z h a107 "java/util/ArrayList" "elementData" "[Ljava/lang/Object;" .null := F_elementData_a107
        have F_size_a107 := D_a107 (Or.inl (Hw hw 105 rfl)) (ty := .int) (by decide)
        replace F_size_a107 : Fld Z h a107 "java/util/ArrayList" "size" "I" (.int (0 : Int32)) := F_size_a107
        refine g_dup w at_82 (q := 83) rfl rfl ?_
        refine g_special w (con_al l Z a0 hw a107 df _ w.old X_a107 F_elementData_a107 F_size_a107 F_modCount_a107 n_a107 SD_) no0 at_83 (q := 86) rfl rfl rfl (Hw hw 36 rfl) (Hw hw 37 rfl) (Hw hw 35 rfl) (Hw hw 38 rfl) (by decide) pd1 rfl rfl (W := 1) (Nat.le_of_eq rfl) (by decide) (by decide) (by decide) (by decide) (fun T h v w gs C q => ?_)
        obtain ⟨rfl, K, G_X, G_elementData, G_size, G_modCount⟩ := q
        replace E0 := ext_keep E0 K z_a107
        have X0 := X_a107
        replace X_x103 := X_x103.keep K
        replace X_x104 := X_x104.keep K
        replace X_x105 := X_x105.keep K
        replace X_x106 := X_x106.keep K
        replace X_a107 := X_a107.keep K
        replace X_a107 := G_X
        replace F_elementData_a107 := G_elementData
        replace F_size_a107 := G_size
        replace F_modCount_a107 := G_modCount
        show Go p e below _ (State.setTop T (mkF m 86 #[.val (.int fl), .val (.int j1), .val (.int j2), .val (.int j3), .val (.int av), .val (.int j5), .val (.ref sv), .val (.int (1 : Int32)), .val (.int (0 : Int32)), .val (.int (0 : Int32)), .val (.ref x103), .val (.ref x104), .val (.ref x105), .val (.ref x106), .unset, .unset, .unset, .unset, .unset, .unset, .unset, .unset, .unset] [(.ref a107)]))
        refine g_astore w at_86 (q := 88) rfl rfl (Ls' := #[.val (.int fl), .val (.int j1), .val (.int j2), .val (.int j3), .val (.int av), .val (.int j5), .val (.ref sv), .val (.int (1 : Int32)), .val (.int (0 : Int32)), .val (.int (0 : Int32)), .val (.ref x103), .val (.ref x104), .val (.ref x105), .val (.ref x106), .val (.ref a107), .unset, .unset, .unset, .unset, .unset, .unset, .unset, .unset]) rfl ?_
        refine g_iload w at_88 (q := 90) rfl rfl ?_
        refine g_ifY w at_90 (by decide) (q := 106) (by decide) (by decide) ?_
        refine g_iload w at_106 (q := 108) rfl rfl ?_
        refine g_ifN w at_108 (q := 111) rfl (by decide) ?_
        refine g_aload w at_111 (q := 113) rfl rfl rfl ?_
        refine g_static w (con_of l Z a0 hw x104 _ w.old) no0 at_113 (q := 116) rfl rfl (Hw hw 349 rfl) (Hw hw 128 rfl) (Hw hw 59 rfl) (Hw hw 129 rfl) (by decide) pd16 rfl rfl (W := 0) (Nat.le_of_eq rfl) (by decide) (by decide) (by decide) (by decide) (fun T h v w gs C q => ?_)
        obtain ⟨o110, rfl, E, g_o110, X_o110, F_value_o110⟩ := q
        have z_o110 := Nat.le_trans E0.1 g_o110
        have ne_a107_o110 : a107 ≠ o110 := Nat.ne_of_lt (Nat.lt_of_lt_of_le X_a107.lt g_o110)
        have ne_x103_o110 : x103 ≠ o110 := Nat.ne_of_lt (Nat.lt_of_lt_of_le X_x103.lt g_o110)
        have ne_x104_o110 : x104 ≠ o110 := Nat.ne_of_lt (Nat.lt_of_lt_of_le X_x104.lt g_o110)
        have ne_x105_o110 : x105 ≠ o110 := Nat.ne_of_lt (Nat.lt_of_lt_of_le X_x105.lt g_o110)
        have ne_x106_o110 : x106 ≠ o110 := Nat.ne_of_lt (Nat.lt_of_lt_of_le X_x106.lt g_o110)
        replace E0 := ext_trans E0 E
        replace X_x103 := X_x103.ext E
        replace X_x104 := X_x104.ext E
        replace X_x105 := X_x105.ext E
        replace X_x106 := X_x106.ext E
        replace X_a107 := X_a107.ext E
        replace F_elementData_a107 := F_elementData_a107.ext E
        replace F_size_a107 := F_size_a107.ext E
        replace F_modCount_a107 := F_modCount_a107.ext E
        show Go p e below _ (State.setTop T (mkF m 116 #[.val (.int fl), .val (.int j1), .val (.int j2), .val (.int j3), .val (.int av), .val (.int j5), .val (.ref sv), .val (.int (1 : Int32)), .val (.int (0 : Int32)), .val (.int (0 : Int32)), .val (.ref x103), .val (.ref x104), .val (.ref x105), .val (.ref x106), .val (.ref a107), .unset, .unset, .unset, .unset, .unset, .unset, .unset, .unset] [(.ref o110)]))
        refine g_goto w at_116 (by decide) (q := 122) (by decide) ?_
        refine g_astore w at_122 (q := 124) rfl rfl (Ls' := #[.val (.int fl), .val (.int j1), .val (.int j2), .val (.int j3), .val (.int av), .val (.int j5), .val (.ref sv), .val (.int (1 : Int32)), .val (.int (0 : Int32)), .val (.int (0 : Int32)), .val (.ref x103), .val (.ref x104), .val (.ref x105), .val (.ref x106), .val (.ref a107), .val (.ref o110), .unset, .unset, .unset, .unset, .unset, .unset, .unset]) rfl ?_
        refine g_iload w at_124 (q := 126) rfl rfl ?_
        refine g_ifY w at_126 (by decide) (q := 137) (by decide) (by decide) ?_
        refine g_staticP w (con_emp l Z a0 hw em _ w.old SE_) no0 at_137 (q := 140) rfl rfl (Hw hw 57 rfl) (Hw hw 58 rfl) (Hw hw 59 rfl) (Hw hw 60 rfl) (by decide) pd21 rfl rfl (W := 0) (Nat.le_of_eq rfl) (by decide) (by decide) (by decide) (by decide) (fun T v w C q => ?_)
        obtain rfl := q
        show Go p e below _ (State.setTop T (mkF m 140 #[.val (.int fl), .val (.int j1), .val (.int j2), .val (.int j3), .val (.int av), .val (.int j5), .val (.ref sv), .val (.int (1 : Int32)), .val (.int (0 : Int32)), .val (.int (0 : Int32)), .val (.ref x103), .val (.ref x104), .val (.ref x105), .val (.ref x106), .val (.ref a107), .val (.ref o110), .unset, .unset, .unset, .unset, .unset, .unset, .unset] [(.ref em)]))
        have X_em := XE_.ext w.old
        have F_em := FE_.ext w.old
        refine g_astore w at_140 (q := 142) rfl rfl (Ls' := #[.val (.int fl), .val (.int j1), .val (.int j2), .val (.int j3), .val (.int av), .val (.int j5), .val (.ref sv), .val (.int (1 : Int32)), .val (.int (0 : Int32)), .val (.int (0 : Int32)), .val (.ref x103), .val (.ref x104), .val (.ref x105), .val (.ref x106), .val (.ref a107), .val (.ref o110), .val (.ref em), .unset, .unset, .unset, .unset, .unset, .unset]) rfl ?_
        refine g_new w at_142 (q := 145) rfl (Hw hw 62 rfl) (Hw hw 63 rfl) (Hw hw 64 rfl) (by decide) (by decide) (fun T h a112 w E g_a112 n_a112 X_a112 D_a112 s_a112 => ?_)
        have z_a112 := Nat.le_trans E0.1 g_a112
        have ne_a107_a112 : a107 ≠ a112 := Nat.ne_of_lt (Nat.lt_of_lt_of_le X_a107.lt g_a112)
        have ne_em_a112 : em ≠ a112 := Nat.ne_of_lt (Nat.lt_of_lt_of_le X_em.lt g_a112)
        have ne_o110_a112 : o110 ≠ a112 := Nat.ne_of_lt (Nat.lt_of_lt_of_le X_o110.lt g_a112)
        have ne_x103_a112 : x103 ≠ a112 := Nat.ne_of_lt (Nat.lt_of_lt_of_le X_x103.lt g_a112)
        have ne_x104_a112 : x104 ≠ a112 := Nat.ne_of_lt (Nat.lt_of_lt_of_le X_x104.lt g_a112)
        have ne_x105_a112 : x105 ≠ a112 := Nat.ne_of_lt (Nat.lt_of_lt_of_le X_x105.lt g_a112)
        have ne_x106_a112 : x106 ≠ a112 := Nat.ne_of_lt (Nat.lt_of_lt_of_le X_x106.lt g_a112)
        replace E0 := ext_trans E0 E
        replace X_x103 := X_x103.ext E
        replace X_x104 := X_x104.ext E
        replace X_x105 := X_x105.ext E
        replace X_x106 := X_x106.ext E
        replace X_a107 := X_a107.ext E
        replace F_elementData_a107 := F_elementData_a107.ext E
        replace F_size_a107 := F_size_a107.ext E
        replace F_modCount_a107 := F_modCount_a107.ext E
        replace X_o110 := X_o110.ext E
        replace F_value_o110 := F_value_o110.ext E
        replace X_em := X_em.ext E
        replace F_em := F_em.ext E
        have F_severity_a112 := D_a112 (Or.inr (Hw hw 112 rfl)) (ty := (.object "com/example/stepwize/stepwize/engine/Message$Severity")) (by decide)
        replace F_severity_a112 : Fld Z h a112 "com/example/stepwize/stepwize/engine/Message" "severity" "Lcom/example/stepwize/stepwize/engine/Message$Severity;" .null := F_severity_a112
        have F_source_a112 := D_a112 (Or.inr (Hw hw 114 rfl)) (ty := (.object "java/util/Optional")) (by decide)
        replace F_source_a112 : Fld Z h a112 "com/example/stepwize/stepwize/engine/Message" "source" "Ljava/util/Optional;" .null := F_source_a112
        have F_code_a112 := D_a112 (Or.inr (Hw hw 116 rfl)) (ty := (.object "java/util/Optional")) (by decide)
        replace F_code_a112 : Fld Z h a112 "com/example/stepwize/stepwize/engine/Message" "code" "Ljava/util/Optional;" .null := F_code_a112
        have F_arguments_a112 := D_a112 (Or.inr (Hw hw 118 rfl)) (ty := (.object "java/util/List")) (by decide)
        replace F_arguments_a112 : Fld Z h a112 "com/example/stepwize/stepwize/engine/Message" "arguments" "Ljava/util/List;" .null := F_arguments_a112
        have F_text_a112 := D_a112 (Or.inr (Hw hw 120 rfl)) (ty := (.object "java/lang/String")) (by decide)
        replace F_text_a112 : Fld Z h a112 "com/example/stepwize/stepwize/engine/Message" "text" "Ljava/lang/String;" .null := F_text_a112
        refine g_dup w at_145 (q := 146) rfl rfl ?_
        refine g_aload w at_146 (q := 148) rfl rfl rfl ?_
        refine g_aload w at_148 (q := 150) rfl rfl rfl ?_
        refine g_aload w at_150 (q := 152) rfl rfl rfl ?_
        refine g_aload w at_152 (q := 154) rfl rfl rfl ?_
        refine g_aload w at_154 (q := 156) rfl rfl rfl ?_
        refine g_special w (con_mi_a l Z a0 hw a112 sv o110 em a107 x105 el _ w.old X_a112 F_severity_a112 F_source_a112 F_code_a112 F_arguments_a112 F_text_a112 n_a112 X_a107 F_size_a107 SL_) no0 at_156 (q := 159) rfl rfl rfl (Hw hw 65 rfl) (Hw hw 66 rfl) (Hw hw 64 rfl) (Hw hw 67 rfl) (by decide) pd17 rfl rfl (W := 1) (Nat.le_of_eq rfl) (by decide) (by decide) (by decide) (by decide) (fun T h v w gs C q => ?_)
        obtain ⟨rfl, K, G_severity, G_source, G_code, G_arguments, G_text⟩ := q
        replace E0 := ext_keep E0 K z_a112
        have X0 := X_a112
        replace X_x103 := X_x103.keep K
        replace X_x104 := X_x104.keep K
        replace X_x105 := X_x105.keep K
        replace X_x106 := X_x106.keep K
        replace X_a107 := X_a107.keep K
        replace F_elementData_a107 := F_elementData_a107.keep K (not1 ne_a107_a112)
        replace F_size_a107 := F_size_a107.keep K (not1 ne_a107_a112)
        replace F_modCount_a107 := F_modCount_a107.keep K (not1 ne_a107_a112)
        replace X_o110 := X_o110.keep K
        replace F_value_o110 := F_value_o110.keep K (not1 ne_o110_a112)
        replace X_em := X_em.keep K
        replace F_em := F_em.keep K (not1 ne_em_a112)
        replace X_a112 := X_a112.keep K
        replace F_severity_a112 := G_severity
        replace F_source_a112 := G_source
        replace F_code_a112 := G_code
        replace F_arguments_a112 := G_arguments
        replace F_text_a112 := G_text
        have X_el := XL_.ext w.old
        have F_an_el := FLa_.ext w.old
        have F_ee_el := FLe_.ext w.old
        have A_ee := AL0_.ext w.old
        show Go p e below _ (State.setTop T (mkF m 159 #[.val (.int fl), .val (.int j1), .val (.int j2), .val (.int j3), .val (.int av), .val (.int j5), .val (.ref sv), .val (.int (1 : Int32)), .val (.int (0 : Int32)), .val (.int (0 : Int32)), .val (.ref x103), .val (.ref x104), .val (.ref x105), .val (.ref x106), .val (.ref a107), .val (.ref o110), .val (.ref em), .unset, .unset, .unset, .unset, .unset, .unset] [(.ref a112)]))
        refine g_astore w at_159 (q := 161) rfl rfl (Ls' := #[.val (.int fl), .val (.int j1), .val (.int j2), .val (.int j3), .val (.int av), .val (.int j5), .val (.ref sv), .val (.int (1 : Int32)), .val (.int (0 : Int32)), .val (.int (0 : Int32)), .val (.ref x103), .val (.ref x104), .val (.ref x105), .val (.ref x106), .val (.ref a107), .val (.ref o110), .val (.ref em), .val (.ref a112), .unset, .unset, .unset, .unset, .unset]) rfl ?_
        refine g_aload w at_161 (q := 163) rfl rfl rfl ?_
        refine g_aload w at_163 (q := 165) rfl rfl rfl ?_
        refine g_virtual w (con_ab_c l Z a0 hw a112 x103 sv em el x105 _ w.old F_severity_a112 F_code_a112 F_arguments_a112 F_text_a112 X_el F_an_el) no0 X_a112 at_165 (q := 168) rfl rfl (Hw hw 121 rfl) (Hw hw 122 rfl) (Hw hw 124 rfl) (Hw hw 123 rfl) (Hw hw 64 rfl) (Hw hw 125 rfl) (by decide) (nf (Hw hw 124 rfl)) pd22 rfl rfl (W := 0) (Nat.le_of_eq rfl) (by decide) (by decide) (by decide) (by decide) (fun T h v w gs C q => ?_)
        obtain ⟨r113, o114, rfl, E, g_r113, X_r113, F_severity_r113, F_source_r113, F_code_r113, F_arguments_r113, F_text_r113, X_o114, F_value_o114⟩ := q
        have z_r113 := Nat.le_trans E0.1 g_r113
        have ne_a107_r113 : a107 ≠ r113 := Nat.ne_of_lt (Nat.lt_of_lt_of_le X_a107.lt g_r113)
        have ne_a112_r113 : a112 ≠ r113 := Nat.ne_of_lt (Nat.lt_of_lt_of_le X_a112.lt g_r113)
        have ne_ee_r113 : ee ≠ r113 := Nat.ne_of_lt (Nat.lt_of_lt_of_le A_ee.lt g_r113)
        have ne_el_r113 : el ≠ r113 := Nat.ne_of_lt (Nat.lt_of_lt_of_le X_el.lt g_r113)
        have ne_em_r113 : em ≠ r113 := Nat.ne_of_lt (Nat.lt_of_lt_of_le X_em.lt g_r113)
        have ne_o110_r113 : o110 ≠ r113 := Nat.ne_of_lt (Nat.lt_of_lt_of_le X_o110.lt g_r113)
        have ne_x103_r113 : x103 ≠ r113 := Nat.ne_of_lt (Nat.lt_of_lt_of_le X_x103.lt g_r113)
        have ne_x104_r113 : x104 ≠ r113 := Nat.ne_of_lt (Nat.lt_of_lt_of_le X_x104.lt g_r113)
        have ne_x105_r113 : x105 ≠ r113 := Nat.ne_of_lt (Nat.lt_of_lt_of_le X_x105.lt g_r113)
        have ne_x106_r113 : x106 ≠ r113 := Nat.ne_of_lt (Nat.lt_of_lt_of_le X_x106.lt g_r113)
        replace E0 := ext_trans E0 E
        replace X_x103 := X_x103.ext E
        replace X_x104 := X_x104.ext E
        replace X_x105 := X_x105.ext E
        replace X_x106 := X_x106.ext E
        replace X_a107 := X_a107.ext E
        replace F_elementData_a107 := F_elementData_a107.ext E
        replace F_size_a107 := F_size_a107.ext E
        replace F_modCount_a107 := F_modCount_a107.ext E
        replace X_o110 := X_o110.ext E
        replace F_value_o110 := F_value_o110.ext E
        replace X_em := X_em.ext E
        replace F_em := F_em.ext E
        replace X_a112 := X_a112.ext E
        replace F_severity_a112 := F_severity_a112.ext E
        replace F_source_a112 := F_source_a112.ext E
        replace F_code_a112 := F_code_a112.ext E
        replace F_arguments_a112 := F_arguments_a112.ext E
        replace F_text_a112 := F_text_a112.ext E
        replace X_el := X_el.ext E
        replace F_an_el := F_an_el.ext E
        replace F_ee_el := F_ee_el.ext E
        replace A_ee := A_ee.ext E
        show Go p e below _ (State.setTop T (mkF m 168 #[.val (.int fl), .val (.int j1), .val (.int j2), .val (.int j3), .val (.int av), .val (.int j5), .val (.ref sv), .val (.int (1 : Int32)), .val (.int (0 : Int32)), .val (.int (0 : Int32)), .val (.ref x103), .val (.ref x104), .val (.ref x105), .val (.ref x106), .val (.ref a107), .val (.ref o110), .val (.ref em), .val (.ref a112), .unset, .unset, .unset, .unset, .unset] [(.ref r113)]))
        refine g_astore w at_168 (q := 170) rfl rfl (Ls' := #[.val (.int fl), .val (.int j1), .val (.int j2), .val (.int j3), .val (.int av), .val (.int j5), .val (.ref sv), .val (.int (1 : Int32)), .val (.int (0 : Int32)), .val (.int (0 : Int32)), .val (.ref x103), .val (.ref x104), .val (.ref x105), .val (.ref x106), .val (.ref a107), .val (.ref o110), .val (.ref em), .val (.ref a112), .val (.ref r113), .unset, .unset, .unset, .unset]) rfl ?_
        refine g_aload w at_170 (q := 172) rfl rfl rfl ?_
        refine g_nonnullY w at_172 (by decide) (q := 177) (by decide) ?_
        refine g_aload w at_177 (q := 179) rfl rfl rfl ?_
        refine g_virtualP w (con_g_severity l Z a0 hw r113 sv _ w.old F_severity_r113) no0 X_r113 at_179 (q := 182) rfl rfl (Hw hw 151 rfl) (Hw hw 152 rfl) (Hw hw 154 rfl) (Hw hw 153 rfl) (Hw hw 64 rfl) (Hw hw 155 rfl) (by decide) (nf (Hw hw 154 rfl)) pd23 rfl rfl (W := 0) (Nat.le_of_eq rfl) (by decide) (by decide) (by decide) (by decide) (fun T v w C q => ?_)
        obtain rfl := q
        show Go p e below _ (State.setTop T (mkF m 182 #[.val (.int fl), .val (.int j1), .val (.int j2), .val (.int j3), .val (.int av), .val (.int j5), .val (.ref sv), .val (.int (1 : Int32)), .val (.int (0 : Int32)), .val (.int (0 : Int32)), .val (.ref x103), .val (.ref x104), .val (.ref x105), .val (.ref x106), .val (.ref a107), .val (.ref o110), .val (.ref em), .val (.ref a112), .val (.ref r113), .unset, .unset, .unset, .unset] [(.ref sv)]))
        refine g_aload w at_182 (q := 184) rfl rfl rfl ?_
        refine g_acY w at_184 (by decide) (q := 189) (by decide) rfl rfl (Jvm.Free.XT.aa_eq_t rfl) ?_
        refine g_aload w at_189 (q := 191) rfl rfl rfl ?_
        refine g_virtualP w (con_g_source l Z a0 hw r113 o114 _ w.old F_source_r113) no0 X_r113 at_191 (q := 194) rfl rfl (Hw hw 156 rfl) (Hw hw 157 rfl) (Hw hw 159 rfl) (Hw hw 158 rfl) (Hw hw 64 rfl) (Hw hw 160 rfl) (by decide) (nf (Hw hw 159 rfl)) pd21 rfl rfl (W := 0) (Nat.le_of_eq rfl) (by decide) (by decide) (by decide) (by decide) (fun T v w C q => ?_)
        obtain rfl := q
        show Go p e below _ (State.setTop T (mkF m 194 #[.val (.int fl), .val (.int j1), .val (.int j2), .val (.int j3), .val (.int av), .val (.int j5), .val (.ref sv), .val (.int (1 : Int32)), .val (.int (0 : Int32)), .val (.int (0 : Int32)), .val (.ref x103), .val (.ref x104), .val (.ref x105), .val (.ref x106), .val (.ref a107), .val (.ref o110), .val (.ref em), .val (.ref a112), .val (.ref r113), .unset, .unset, .unset, .unset] [(.ref o114)]))
        refine g_astore w at_194 (q := 196) rfl rfl (Ls' := #[.val (.int fl), .val (.int j1), .val (.int j2), .val (.int j3), .val (.int av), .val (.int j5), .val (.ref sv), .val (.int (1 : Int32)), .val (.int (0 : Int32)), .val (.int (0 : Int32)), .val (.ref x103), .val (.ref x104), .val (.ref x105), .val (.ref x106), .val (.ref a107), .val (.ref o110), .val (.ref em), .val (.ref a112), .val (.ref r113), .val (.ref o114), .unset, .unset, .unset]) rfl ?_
        refine g_aload w at_196 (q := 198) rfl rfl rfl ?_
        refine g_virtualP w (con_ip1 l Z a0 hw o114 x103 _ w.old F_value_o114) no0 X_o114 at_198 (q := 201) rfl rfl (Hw hw 161 rfl) (Hw hw 162 rfl) (Hw hw 164 rfl) (Hw hw 163 rfl) (Hw hw 59 rfl) (Hw hw 165 rfl) (by decide) (nf (Hw hw 164 rfl)) pd11 rfl rfl (W := 0) (Nat.le_of_eq rfl) (by decide) (by decide) (by decide) (by decide) (fun T v w C q => ?_)
        obtain rfl := q
        show Go p e below _ (State.setTop T (mkF m 201 #[.val (.int fl), .val (.int j1), .val (.int j2), .val (.int j3), .val (.int av), .val (.int j5), .val (.ref sv), .val (.int (1 : Int32)), .val (.int (0 : Int32)), .val (.int (0 : Int32)), .val (.ref x103), .val (.ref x104), .val (.ref x105), .val (.ref x106), .val (.ref a107), .val (.ref o110), .val (.ref em), .val (.ref a112), .val (.ref r113), .val (.ref o114), .unset, .unset, .unset] [(.int (1 : Int32))]))
        refine g_ifN w at_201 (q := 204) rfl (by decide) ?_
        refine g_aload w at_204 (q := 206) rfl rfl rfl ?_
        refine g_virtualP w (con_oget l Z a0 hw o114 x103 _ w.old F_value_o114) no0 X_o114 at_206 (q := 209) rfl rfl (Hw hw 166 rfl) (Hw hw 167 rfl) (Hw hw 169 rfl) (Hw hw 168 rfl) (Hw hw 59 rfl) (Hw hw 170 rfl) (by decide) (nf (Hw hw 169 rfl)) pd24 rfl rfl (W := 0) (Nat.le_of_eq rfl) (by decide) (by decide) (by decide) (by decide) (fun T v w C q => ?_)
        obtain rfl := q
        show Go p e below _ (State.setTop T (mkF m 209 #[.val (.int fl), .val (.int j1), .val (.int j2), .val (.int j3), .val (.int av), .val (.int j5), .val (.ref sv), .val (.int (1 : Int32)), .val (.int (0 : Int32)), .val (.int (0 : Int32)), .val (.ref x103), .val (.ref x104), .val (.ref x105), .val (.ref x106), .val (.ref a107), .val (.ref o110), .val (.ref em), .val (.ref a112), .val (.ref r113), .val (.ref o114), .unset, .unset, .unset] [(.ref x103)]))
        refine g_cast w at_209 (q := 212) rfl (Hw hw 11 rfl) (Ins.self X_x103) (fun T w => ?_)
        refine g_aload w at_212 (q := 214) rfl rfl rfl ?_
        refine g_virtualP w (con_eq1 l Z a0 hw x103 _ w.old) no0 X_x103 at_214 (q := 217) rfl rfl (Hw hw 171 rfl) (Hw hw 172 rfl) (Hw hw 174 rfl) (Hw hw 173 rfl) (Hw hw 13 rfl) (Hw hw 175 rfl) (by decide) (nf (Hw hw 174 rfl)) pd25 rfl rfl (W := 0) (Nat.le_of_eq rfl) (by decide) (by decide) (by decide) (by decide) (fun T v w C q => ?_)
        obtain rfl := q
        show Go p e below _ (State.setTop T (mkF m 217 #[.val (.int fl), .val (.int j1), .val (.int j2), .val (.int j3), .val (.int av), .val (.int j5), .val (.ref sv), .val (.int (1 : Int32)), .val (.int (0 : Int32)), .val (.int (0 : Int32)), .val (.ref x103), .val (.ref x104), .val (.ref x105), .val (.ref x106), .val (.ref a107), .val (.ref o110), .val (.ref em), .val (.ref a112), .val (.ref r113), .val (.ref o114), .unset, .unset, .unset] [(.int (1 : Int32))]))
        refine g_ifY w at_217 (by decide) (q := 222) (by decide) (by decide) ?_
        refine g_aload w at_222 (q := 224) rfl rfl rfl ?_
        refine g_virtualP w (con_g_code l Z a0 hw r113 em _ w.old F_code_r113) no0 X_r113 at_224 (q := 227) rfl rfl (Hw hw 176 rfl) (Hw hw 177 rfl) (Hw hw 179 rfl) (Hw hw 178 rfl) (Hw hw 64 rfl) (Hw hw 180 rfl) (by decide) (nf (Hw hw 179 rfl)) pd21 rfl rfl (W := 0) (Nat.le_of_eq rfl) (by decide) (by decide) (by decide) (by decide) (fun T v w C q => ?_)
        obtain rfl := q
        show Go p e below _ (State.setTop T (mkF m 227 #[.val (.int fl), .val (.int j1), .val (.int j2), .val (.int j3), .val (.int av), .val (.int j5), .val (.ref sv), .val (.int (1 : Int32)), .val (.int (0 : Int32)), .val (.int (0 : Int32)), .val (.ref x103), .val (.ref x104), .val (.ref x105), .val (.ref x106), .val (.ref a107), .val (.ref o110), .val (.ref em), .val (.ref a112), .val (.ref r113), .val (.ref o114), .unset, .unset, .unset] [(.ref em)]))
        refine g_astore w at_227 (q := 229) rfl rfl (Ls' := #[.val (.int fl), .val (.int j1), .val (.int j2), .val (.int j3), .val (.int av), .val (.int j5), .val (.ref sv), .val (.int (1 : Int32)), .val (.int (0 : Int32)), .val (.int (0 : Int32)), .val (.ref x103), .val (.ref x104), .val (.ref x105), .val (.ref x106), .val (.ref a107), .val (.ref o110), .val (.ref em), .val (.ref a112), .val (.ref r113), .val (.ref o114), .val (.ref em), .unset, .unset]) rfl ?_
        refine g_aload w at_229 (q := 231) rfl rfl rfl ?_
        refine g_virtualP w (con_ip0 l Z a0 hw em em _ w.old F_em) no0 X_em at_231 (q := 234) rfl rfl (Hw hw 161 rfl) (Hw hw 162 rfl) (Hw hw 164 rfl) (Hw hw 163 rfl) (Hw hw 59 rfl) (Hw hw 165 rfl) (by decide) (nf (Hw hw 164 rfl)) pd11 rfl rfl (W := 0) (Nat.le_of_eq rfl) (by decide) (by decide) (by decide) (by decide) (fun T v w C q => ?_)
        obtain rfl := q
        show Go p e below _ (State.setTop T (mkF m 234 #[.val (.int fl), .val (.int j1), .val (.int j2), .val (.int j3), .val (.int av), .val (.int j5), .val (.ref sv), .val (.int (1 : Int32)), .val (.int (0 : Int32)), .val (.int (0 : Int32)), .val (.ref x103), .val (.ref x104), .val (.ref x105), .val (.ref x106), .val (.ref a107), .val (.ref o110), .val (.ref em), .val (.ref a112), .val (.ref r113), .val (.ref o114), .val (.ref em), .unset, .unset] [(.int (0 : Int32))]))
        refine g_iload w at_234 (q := 236) rfl rfl ?_
        refine g_icY w at_236 (by decide) (q := 241) (by decide) (Jvm.Free.XT.ii_eq_t rfl) ?_
        refine g_iload w at_241 (q := 243) rfl rfl ?_
        refine g_ifY w at_243 (by decide) (q := 264) (by decide) (by decide) ?_
        refine g_aload w at_264 (q := 266) rfl rfl rfl ?_
        refine g_virtualP w (con_g_arguments l Z a0 hw r113 el _ w.old F_arguments_r113) no0 X_r113 at_266 (q := 269) rfl rfl (Hw hw 181 rfl) (Hw hw 182 rfl) (Hw hw 184 rfl) (Hw hw 183 rfl) (Hw hw 64 rfl) (Hw hw 185 rfl) (by decide) (nf (Hw hw 184 rfl)) pd12 rfl rfl (W := 0) (Nat.le_of_eq rfl) (by decide) (by decide) (by decide) (by decide) (fun T v w C q => ?_)
        obtain rfl := q
        show Go p e below _ (State.setTop T (mkF m 269 #[.val (.int fl), .val (.int j1), .val (.int j2), .val (.int j3), .val (.int av), .val (.int j5), .val (.ref sv), .val (.int (1 : Int32)), .val (.int (0 : Int32)), .val (.int (0 : Int32)), .val (.ref x103), .val (.ref x104), .val (.ref x105), .val (.ref x106), .val (.ref a107), .val (.ref o110), .val (.ref em), .val (.ref a112), .val (.ref r113), .val (.ref o114), .val (.ref em), .unset, .unset] [(.ref el)]))
        refine g_astore w at_269 (q := 271) rfl rfl (Ls' := #[.val (.int fl), .val (.int j1), .val (.int j2), .val (.int j3), .val (.int av), .val (.int j5), .val (.ref sv), .val (.int (1 : Int32)), .val (.int (0 : Int32)), .val (.int (0 : Int32)), .val (.ref x103), .val (.ref x104), .val (.ref x105), .val (.ref x106), .val (.ref a107), .val (.ref o110), .val (.ref em), .val (.ref a112), .val (.ref r113), .val (.ref o114), .val (.ref em), .val (.ref el), .unset]) rfl ?_
        refine g_aload w at_271 (q := 273) rfl rfl rfl ?_
        refine g_ifaceP w (con_lns l Z a0 hw el ee _ w.old F_ee_el A_ee) no0 X_el at_273 (q := 278) rfl rfl (Hw hw 186 rfl) (Hw hw 187 rfl) (Hw hw 188 rfl) (by decide) (Hw hw 191 rfl) (Hw hw 192 rfl) (Hw hw 150 rfl) (Hw hw 189 rfl) (Hw hw 190 rfl) (Hw hw 193 rfl) (Hw hw 194 rfl) (by decide) pd26 rfl rfl (W := 0) (Nat.le_of_eq rfl) (by decide) (by decide) (by decide) (by decide) (fun T v w C q => ?_)
        obtain rfl := q
        show Go p e below _ (State.setTop T (mkF m 278 #[.val (.int fl), .val (.int j1), .val (.int j2), .val (.int j3), .val (.int av), .val (.int j5), .val (.ref sv), .val (.int (1 : Int32)), .val (.int (0 : Int32)), .val (.int (0 : Int32)), .val (.ref x103), .val (.ref x104), .val (.ref x105), .val (.ref x106), .val (.ref a107), .val (.ref o110), .val (.ref em), .val (.ref a112), .val (.ref r113), .val (.ref o114), .val (.ref em), .val (.ref el), .unset] [(.int (0 : Int32))]))
        refine g_iload w at_278 (q := 280) rfl rfl ?_
        refine g_ifY w at_280 (by decide) (q := 287) (by decide) (by decide) ?_
        refine g_iconst w at_287 (q := 288) rfl (v := (0 : Int32)) (by decide) ?_
        refine g_icY w at_288 (by decide) (q := 293) (by decide) (Jvm.Free.XT.ii_eq_t rfl) ?_
        refine g_iload w at_293 (q := 295) rfl rfl ?_
        refine g_ifY w at_295 (by decide) (q := 319) (by decide) (by decide) ?_
        refine g_aload w at_319 (q := 321) rfl rfl rfl ?_
        refine g_virtualP w (con_g_text l Z a0 hw r113 x105 _ w.old F_text_r113) no0 X_r113 at_321 (q := 324) rfl rfl (Hw hw 197 rfl) (Hw hw 198 rfl) (Hw hw 200 rfl) (Hw hw 199 rfl) (Hw hw 64 rfl) (Hw hw 201 rfl) (by decide) (nf (Hw hw 200 rfl)) pd27 rfl rfl (W := 0) (Nat.le_of_eq rfl) (by decide) (by decide) (by decide) (by decide) (fun T v w C q => ?_)
        obtain rfl := q
        show Go p e below _ (State.setTop T (mkF m 324 #[.val (.int fl), .val (.int j1), .val (.int j2), .val (.int j3), .val (.int av), .val (.int j5), .val (.ref sv), .val (.int (1 : Int32)), .val (.int (0 : Int32)), .val (.int (0 : Int32)), .val (.ref x103), .val (.ref x104), .val (.ref x105), .val (.ref x106), .val (.ref a107), .val (.ref o110), .val (.ref em), .val (.ref a112), .val (.ref r113), .val (.ref o114), .val (.ref em), .val (.ref el), .unset] [(.ref x105)]))
        refine g_aload w at_324 (q := 326) rfl rfl rfl ?_
        refine g_virtualP w (con_eq1 l Z a0 hw x105 _ w.old) no0 X_x105 at_326 (q := 329) rfl rfl (Hw hw 171 rfl) (Hw hw 172 rfl) (Hw hw 174 rfl) (Hw hw 173 rfl) (Hw hw 13 rfl) (Hw hw 175 rfl) (by decide) (nf (Hw hw 174 rfl)) pd25 rfl rfl (W := 0) (Nat.le_of_eq rfl) (by decide) (by decide) (by decide) (by decide) (fun T v w C q => ?_)
        obtain rfl := q
        show Go p e below _ (State.setTop T (mkF m 329 #[.val (.int fl), .val (.int j1), .val (.int j2), .val (.int j3), .val (.int av), .val (.int j5), .val (.ref sv), .val (.int (1 : Int32)), .val (.int (0 : Int32)), .val (.int (0 : Int32)), .val (.ref x103), .val (.ref x104), .val (.ref x105), .val (.ref x106), .val (.ref a107), .val (.ref o110), .val (.ref em), .val (.ref a112), .val (.ref r113), .val (.ref o114), .val (.ref em), .val (.ref el), .unset] [(.int (1 : Int32))]))
        refine g_ifY w at_329 (by decide) (q := 334) (by decide) (by decide) ?_
        refine g_aload w at_334 (q := 336) rfl rfl rfl ?_
        refine g_virtualP w (con_g_source l Z a0 hw a112 o110 _ w.old F_source_a112) no0 X_a112 at_336 (q := 339) rfl rfl (Hw hw 156 rfl) (Hw hw 157 rfl) (Hw hw 159 rfl) (Hw hw 158 rfl) (Hw hw 64 rfl) (Hw hw 160 rfl) (by decide) (nf (Hw hw 159 rfl)) pd21 rfl rfl (W := 0) (Nat.le_of_eq rfl) (by decide) (by decide) (by decide) (by decide) (fun T v w C q => ?_)
        obtain rfl := q
        show Go p e below _ (State.setTop T (mkF m 339 #[.val (.int fl), .val (.int j1), .val (.int j2), .val (.int j3), .val (.int av), .val (.int j5), .val (.ref sv), .val (.int (1 : Int32)), .val (.int (0 : Int32)), .val (.int (0 : Int32)), .val (.ref x103), .val (.ref x104), .val (.ref x105), .val (.ref x106), .val (.ref a107), .val (.ref o110), .val (.ref em), .val (.ref a112), .val (.ref r113), .val (.ref o114), .val (.ref em), .val (.ref el), .unset] [(.ref o110)]))
        refine g_astore w at_339 (q := 341) rfl rfl (Ls' := #[.val (.int fl), .val (.int j1), .val (.int j2), .val (.int j3), .val (.int av), .val (.int j5), .val (.ref sv), .val (.int (1 : Int32)), .val (.int (0 : Int32)), .val (.int (0 : Int32)), .val (.ref x103), .val (.ref x104), .val (.ref x105), .val (.ref x106), .val (.ref a107), .val (.ref o110), .val (.ref em), .val (.ref a112), .val (.ref r113), .val (.ref o114), .val (.ref em), .val (.ref el), .val (.ref o110)]) rfl ?_
        refine g_aload w at_341 (q := 343) rfl rfl rfl ?_
        refine g_virtualP w (con_ip1 l Z a0 hw o110 x104 _ w.old F_value_o110) no0 X_o110 at_343 (q := 346) rfl rfl (Hw hw 161 rfl) (Hw hw 162 rfl) (Hw hw 164 rfl) (Hw hw 163 rfl) (Hw hw 59 rfl) (Hw hw 165 rfl) (by decide) (nf (Hw hw 164 rfl)) pd11 rfl rfl (W := 0) (Nat.le_of_eq rfl) (by decide) (by decide) (by decide) (by decide) (fun T v w C q => ?_)
        obtain rfl := q
        show Go p e below _ (State.setTop T (mkF m 346 #[.val (.int fl), .val (.int j1), .val (.int j2), .val (.int j3), .val (.int av), .val (.int j5), .val (.ref sv), .val (.int (1 : Int32)), .val (.int (0 : Int32)), .val (.int (0 : Int32)), .val (.ref x103), .val (.ref x104), .val (.ref x105), .val (.ref x106), .val (.ref a107), .val (.ref o110), .val (.ref em), .val (.ref a112), .val (.ref r113), .val (.ref o114), .val (.ref em), .val (.ref el), .val (.ref o110)] [(.int (1 : Int32))]))
        refine g_iload w at_346 (q := 348) rfl rfl ?_
        refine g_icY w at_348 (by decide) (q := 353) (by decide) (Jvm.Free.XT.ii_eq_t rfl) ?_
        refine g_iload w at_353 (q := 355) rfl rfl ?_
        refine g_ifN w at_355 (q := 358) rfl (by decide) ?_
        refine g_aload w at_358 (q := 360) rfl rfl rfl ?_
        refine g_virtualP w (con_oget l Z a0 hw o110 x104 _ w.old F_value_o110) no0 X_o110 at_360 (q := 363) rfl rfl (Hw hw 166 rfl) (Hw hw 167 rfl) (Hw hw 169 rfl) (Hw hw 168 rfl) (Hw hw 59 rfl) (Hw hw 170 rfl) (by decide) (nf (Hw hw 169 rfl)) pd24 rfl rfl (W := 0) (Nat.le_of_eq rfl) (by decide) (by decide) (by decide) (by decide) (fun T v w C q => ?_)
        obtain rfl := q
        show Go p e below _ (State.setTop T (mkF m 363 #[.val (.int fl), .val (.int j1), .val (.int j2), .val (.int j3), .val (.int av), .val (.int j5), .val (.ref sv), .val (.int (1 : Int32)), .val (.int (0 : Int32)), .val (.int (0 : Int32)), .val (.ref x103), .val (.ref x104), .val (.ref x105), .val (.ref x106), .val (.ref a107), .val (.ref o110), .val (.ref em), .val (.ref a112), .val (.ref r113), .val (.ref o114), .val (.ref em), .val (.ref el), .val (.ref o110)] [(.ref x104)]))
        refine g_cast w at_363 (q := 366) rfl (Hw hw 11 rfl) (Ins.self X_x104) (fun T w => ?_)
        refine g_aload w at_366 (q := 368) rfl rfl rfl ?_
        refine g_virtualP w (con_eq1 l Z a0 hw x104 _ w.old) no0 X_x104 at_368 (q := 371) rfl rfl (Hw hw 171 rfl) (Hw hw 172 rfl) (Hw hw 174 rfl) (Hw hw 173 rfl) (Hw hw 13 rfl) (Hw hw 175 rfl) (by decide) (nf (Hw hw 174 rfl)) pd25 rfl rfl (W := 0) (Nat.le_of_eq rfl) (by decide) (by decide) (by decide) (by decide) (fun T v w C q => ?_)
        obtain rfl := q
        show Go p e below _ (State.setTop T (mkF m 371 #[.val (.int fl), .val (.int j1), .val (.int j2), .val (.int j3), .val (.int av), .val (.int j5), .val (.ref sv), .val (.int (1 : Int32)), .val (.int (0 : Int32)), .val (.int (0 : Int32)), .val (.ref x103), .val (.ref x104), .val (.ref x105), .val (.ref x106), .val (.ref a107), .val (.ref o110), .val (.ref em), .val (.ref a112), .val (.ref r113), .val (.ref o114), .val (.ref em), .val (.ref el), .val (.ref o110)] [(.int (1 : Int32))]))
        refine g_ifY w at_371 (by decide) (q := 376) (by decide) (by decide) ?_
        refine g_iconst w at_376 (q := 377) rfl (v := (1 : Int32)) (by decide) ?_
        exact g_retn w at_377 rfl (by simp) rfl (by decide) (by decide) rfl
      · refine g_iconst w at_47 (q := 48) rfl (v := (1 : Int32)) (by decide) ?_
        refine g_goto w at_48 (by decide) (q := 52) (by decide) ?_
        refine g_istore w at_52 (q := 54) rfl (Ls' := #[.val (.int fl), .val (.int j1), .val (.int j2), .val (.int j3), .val (.int av), .val (.int j5), .val (.ref sv), .val (.int (1 : Int32)), .val (.int (0 : Int32)), .val (.int (1 : Int32)), .unset, .unset, .unset, .unset, .unset, .unset, .unset, .unset, .unset, .unset, .unset, .unset, .unset]) rfl ?_
        refine g_iloadN w at_54 (q := 55) rfl rfl ?_
        refine g_static w (con_str l Z a0 hw j1 _ w.old hcm) no0 at_55 (q := 58) rfl rfl (Hw hw 8 rfl) (Hw hw 9 rfl) (Hw hw 2 rfl) (Hw hw 10 rfl) (by decide) pd20 rfl rfl (W := 0) (Nat.le_of_eq rfl) (by decide) (by decide) (by decide) (by decide) (fun T h v w gs C q => ?_)
        obtain ⟨x127, rfl, E, g_x127, X_x127⟩ := q
        have z_x127 := Nat.le_trans E0.1 g_x127
        replace E0 := ext_trans E0 E
        show Go p e below _ (State.setTop T (mkF m 58 #[.val (.int fl), .val (.int j1), .val (.int j2), .val (.int j3), .val (.int av), .val (.int j5), .val (.ref sv), .val (.int (1 : Int32)), .val (.int (0 : Int32)), .val (.int (1 : Int32)), .unset, .unset, .unset, .unset, .unset, .unset, .unset, .unset, .unset, .unset, .unset, .unset, .unset] [(.ref x127)]))
        refine g_astore w at_58 (q := 60) rfl rfl (Ls' := #[.val (.int fl), .val (.int j1), .val (.int j2), .val (.int j3), .val (.int av), .val (.int j5), .val (.ref sv), .val (.int (1 : Int32)), .val (.int (0 : Int32)), .val (.int (1 : Int32)), .val (.ref x127), .unset, .unset, .unset, .unset, .unset, .unset, .unset, .unset, .unset, .unset, .unset, .unset]) rfl ?_
        refine g_iloadN w at_60 (q := 61) rfl rfl ?_
        refine g_static w (con_str l Z a0 hw j2 _ w.old hcm) no0 at_61 (q := 64) rfl rfl (Hw hw 8 rfl) (Hw hw 9 rfl) (Hw hw 2 rfl) (Hw hw 10 rfl) (by decide) pd20 rfl rfl (W := 0) (Nat.le_of_eq rfl) (by decide) (by decide) (by decide) (by decide) (fun T h v w gs C q => ?_)
        obtain ⟨x128, rfl, E, g_x128, X_x128⟩ := q
        have z_x128 := Nat.le_trans E0.1 g_x128
        have ne_x127_x128 : x127 ≠ x128 := Nat.ne_of_lt (Nat.lt_of_lt_of_le X_x127.lt g_x128)
        replace E0 := ext_trans E0 E
        replace X_x127 := X_x127.ext E
        show Go p e below _ (State.setTop T (mkF m 64 #[.val (.int fl), .val (.int j1), .val (.int j2), .val (.int j3), .val (.int av), .val (.int j5), .val (.ref sv), .val (.int (1 : Int32)), .val (.int (0 : Int32)), .val (.int (1 : Int32)), .val (.ref x127), .unset, .unset, .unset, .unset, .unset, .unset, .unset, .unset, .unset, .unset, .unset, .unset] [(.ref x128)]))
        refine g_astore w at_64 (q := 66) rfl rfl (Ls' := #[.val (.int fl), .val (.int j1), .val (.int j2), .val (.int j3), .val (.int av), .val (.int j5), .val (.ref sv), .val (.int (1 : Int32)), .val (.int (0 : Int32)), .val (.int (1 : Int32)), .val (.ref x127), .val (.ref x128), .unset, .unset, .unset, .unset, .unset, .unset, .unset, .unset, .unset, .unset, .unset]) rfl ?_
        refine g_iloadN w at_66 (q := 67) rfl rfl ?_
        refine g_static w (con_str l Z a0 hw j3 _ w.old hcm) no0 at_67 (q := 70) rfl rfl (Hw hw 8 rfl) (Hw hw 9 rfl) (Hw hw 2 rfl) (Hw hw 10 rfl) (by decide) pd20 rfl rfl (W := 0) (Nat.le_of_eq rfl) (by decide) (by decide) (by decide) (by decide) (fun T h v w gs C q => ?_)
        obtain ⟨x129, rfl, E, g_x129, X_x129⟩ := q
        have z_x129 := Nat.le_trans E0.1 g_x129
        have ne_x127_x129 : x127 ≠ x129 := Nat.ne_of_lt (Nat.lt_of_lt_of_le X_x127.lt g_x129)
        have ne_x128_x129 : x128 ≠ x129 := Nat.ne_of_lt (Nat.lt_of_lt_of_le X_x128.lt g_x129)
        replace E0 := ext_trans E0 E
        replace X_x127 := X_x127.ext E
        replace X_x128 := X_x128.ext E
        show Go p e below _ (State.setTop T (mkF m 70 #[.val (.int fl), .val (.int j1), .val (.int j2), .val (.int j3), .val (.int av), .val (.int j5), .val (.ref sv), .val (.int (1 : Int32)), .val (.int (0 : Int32)), .val (.int (1 : Int32)), .val (.ref x127), .val (.ref x128), .unset, .unset, .unset, .unset, .unset, .unset, .unset, .unset, .unset, .unset, .unset] [(.ref x129)]))
        refine g_astore w at_70 (q := 72) rfl rfl (Ls' := #[.val (.int fl), .val (.int j1), .val (.int j2), .val (.int j3), .val (.int av), .val (.int j5), .val (.ref sv), .val (.int (1 : Int32)), .val (.int (0 : Int32)), .val (.int (1 : Int32)), .val (.ref x127), .val (.ref x128), .val (.ref x129), .unset, .unset, .unset, .unset, .unset, .unset, .unset, .unset, .unset, .unset]) rfl ?_
        refine g_iload w at_72 (q := 74) rfl rfl ?_
        refine g_static w (con_str l Z a0 hw j5 _ w.old hcm) no0 at_74 (q := 77) rfl rfl (Hw hw 8 rfl) (Hw hw 9 rfl) (Hw hw 2 rfl) (Hw hw 10 rfl) (by decide) pd20 rfl rfl (W := 0) (Nat.le_of_eq rfl) (by decide) (by decide) (by decide) (by decide) (fun T h v w gs C q => ?_)
        obtain ⟨x130, rfl, E, g_x130, X_x130⟩ := q
        have z_x130 := Nat.le_trans E0.1 g_x130
        have ne_x127_x130 : x127 ≠ x130 := Nat.ne_of_lt (Nat.lt_of_lt_of_le X_x127.lt g_x130)
        have ne_x128_x130 : x128 ≠ x130 := Nat.ne_of_lt (Nat.lt_of_lt_of_le X_x128.lt g_x130)
        have ne_x129_x130 : x129 ≠ x130 := Nat.ne_of_lt (Nat.lt_of_lt_of_le X_x129.lt g_x130)
        replace E0 := ext_trans E0 E
        replace X_x127 := X_x127.ext E
        replace X_x128 := X_x128.ext E
        replace X_x129 := X_x129.ext E
        show Go p e below _ (State.setTop T (mkF m 77 #[.val (.int fl), .val (.int j1), .val (.int j2), .val (.int j3), .val (.int av), .val (.int j5), .val (.ref sv), .val (.int (1 : Int32)), .val (.int (0 : Int32)), .val (.int (1 : Int32)), .val (.ref x127), .val (.ref x128), .val (.ref x129), .unset, .unset, .unset, .unset, .unset, .unset, .unset, .unset, .unset, .unset] [(.ref x130)]))
        refine g_astore w at_77 (q := 79) rfl rfl (Ls' := #[.val (.int fl), .val (.int j1), .val (.int j2), .val (.int j3), .val (.int av), .val (.int j5), .val (.ref sv), .val (.int (1 : Int32)), .val (.int (0 : Int32)), .val (.int (1 : Int32)), .val (.ref x127), .val (.ref x128), .val (.ref x129), .val (.ref x130), .unset, .unset, .unset, .unset, .unset, .unset, .unset, .unset, .unset]) rfl ?_
        refine g_new w at_79 (q := 82) rfl (Hw hw 33 rfl) (Hw hw 34 rfl) (Hw hw 35 rfl) (by decide) (by decide) (fun T h a131 w E g_a131 n_a131 X_a131 D_a131 s_a131 => ?_)
        have z_a131 := Nat.le_trans E0.1 g_a131
        have ne_x127_a131 : x127 ≠ a131 := Nat.ne_of_lt (Nat.lt_of_lt_of_le X_x127.lt g_a131)
        have ne_x128_a131 : x128 ≠ a131 := Nat.ne_of_lt (Nat.lt_of_lt_of_le X_x128.lt g_a131)
        have ne_x129_a131 : x129 ≠ a131 := Nat.ne_of_lt (Nat.lt_of_lt_of_le X_x129.lt g_a131)
        have ne_x130_a131 : x130 ≠ a131 := Nat.ne_of_lt (Nat.lt_of_lt_of_le X_x130.lt g_a131)
        replace E0 := ext_trans E0 E
        replace X_x127 := X_x127.ext E
        replace X_x128 := X_x128.ext E
        replace X_x129 := X_x129.ext E
        replace X_x130 := X_x130.ext E
        have F_modCount_a131 := D_a131 (Or.inl (Hw hw 53 rfl)) (ty := .int) (by decide)
        replace F_modCount_a131 : Fld Z h a131 "java/util/AbstractList" "modCount" "I" (.int (0 : Int32)) := F_modCount_a131
        have F_elementData_a131 := D_a131 (Or.inl (Hw hw 56 rfl)) (ty := (.array (.object "java/lang/Object"))) (by decide)
        replace F_elementData_a131 : Fld Z h a131 "java/util/ArrayList" "elementData" "[Ljava/lang/Object;" .null := F_elementData_a131
        have F_size_a131 := D_a131 (Or.inl (Hw hw 105 rfl)) (ty := .int) (by decide)
        replace F_size_a131 : Fld Z h a131 "java/util/ArrayList" "size" "I" (.int (0 : Int32)) := F_size_a131
        refine g_dup w at_82 (q := 83) rfl rfl ?_
        refine g_special w (con_al l Z a0 hw a131 df _ w.old X_a131 F_elementData_a131 F_size_a131 F_modCount_a131 n_a131 SD_) no0 at_83 (q := 86) rfl rfl rfl (Hw hw 36 rfl) (Hw hw 37 rfl) (Hw hw 35 rfl) (Hw hw 38 rfl) (by decide) pd1 rfl rfl (W := 1) (Nat.le_of_eq rfl) (by decide) (by decide) (by decide) (by decide) (fun T h v w gs C q => ?_)
        obtain ⟨rfl, K, G_X, G_elementData, G_size, G_modCount⟩ := q
        replace E0 := ext_keep E0 K z_a131
        have X0 := X_a131
        replace X_x127 := X_x127.keep K
        replace X_x128 := X_x128.keep K
        replace X_x129 := X_x129.keep K
        replace X_x130 := X_x130.keep K
        replace X_a131 := X_a131.keep K
        replace X_a131 := G_X
        replace F_elementData_a131 := G_elementData
        replace F_size_a131 := G_size
        replace F_modCount_a131 := G_modCount
        show Go p e below _ (State.setTop T (mkF m 86 #[.val (.int fl), .val (.int j1), .val (.int j2), .val (.int j3), .val (.int av), .val (.int j5), .val (.ref sv), .val (.int (1 : Int32)), .val (.int (0 : Int32)), .val (.int (1 : Int32)), .val (.ref x127), .val (.ref x128), .val (.ref x129), .val (.ref x130), .unset, .unset, .unset, .unset, .unset, .unset, .unset, .unset, .unset] [(.ref a131)]))
        refine g_astore w at_86 (q := 88) rfl rfl (Ls' := #[.val (.int fl), .val (.int j1), .val (.int j2), .val (.int j3), .val (.int av), .val (.int j5), .val (.ref sv), .val (.int (1 : Int32)), .val (.int (0 : Int32)), .val (.int (1 : Int32)), .val (.ref x127), .val (.ref x128), .val (.ref x129), .val (.ref x130), .val (.ref a131), .unset, .unset, .unset, .unset, .unset, .unset, .unset, .unset]) rfl ?_
        refine g_iload w at_88 (q := 90) rfl rfl ?_
        refine g_ifN w at_90 (q := 93) rfl (by decide) ?_
        refine g_aload w at_93 (q := 95) rfl rfl rfl ?_
        refine g_iload w at_95 (q := 97) rfl rfl ?_
        refine g_static w (con_vo l Z a0 hw ca ck_ av _ w.old SH_ SK_ BX_) no0 at_97 (q := 100) rfl rfl (Hw hw 215 rfl) (Hw hw 216 rfl) (Hw hw 217 rfl) (Hw hw 218 rfl) (by decide) pd28 rfl rfl (W := 1) (Nat.le_of_eq rfl) (by decide) (by decide) (by decide) (by decide) (fun T h v w gs C q => ?_)
        obtain ⟨ev, rfl, E, g_ev, X_e, F_e⟩ := q
        have ne_ev_a131 : ev ≠ a131 := g_ev.elim (fun g_ => Nat.ne_of_gt (Nat.lt_of_lt_of_le X_a131.lt g_)) (fun g_ => Nat.ne_of_lt (Nat.lt_of_lt_of_le g_ n_a131))
        replace E0 := ext_trans E0 E
        replace X_x127 := X_x127.ext E
        replace X_x128 := X_x128.ext E
        replace X_x129 := X_x129.ext E
        replace X_x130 := X_x130.ext E
        replace X_a131 := X_a131.ext E
        replace F_elementData_a131 := F_elementData_a131.ext E
        replace F_size_a131 := F_size_a131.ext E
        replace F_modCount_a131 := F_modCount_a131.ext E
        show Go p e below _ (State.setTop T (mkF m 100 #[.val (.int fl), .val (.int j1), .val (.int j2), .val (.int j3), .val (.int av), .val (.int j5), .val (.ref sv), .val (.int (1 : Int32)), .val (.int (0 : Int32)), .val (.int (1 : Int32)), .val (.ref x127), .val (.ref x128), .val (.ref x129), .val (.ref x130), .val (.ref a131), .unset, .unset, .unset, .unset, .unset, .unset, .unset, .unset] [(.ref ev), (.ref a131)]))
        refine g_iface w (con_a1 l Z a0 hw a131 df ev av _ w.old X_a131 F_elementData_a131 F_size_a131 F_modCount_a131 n_a131 X_e F_e ne_ev_a131 SD_ AD_) no0 X_a131 at_100 (q := 105) rfl rfl (Hw hw 234 rfl) (Hw hw 235 rfl) (Hw hw 236 rfl) (by decide) (Hw hw 239 rfl) (Hw hw 240 rfl) (Hw hw 241 rfl) (Hw hw 237 rfl) (Hw hw 238 rfl) (Hw hw 35 rfl) (Hw hw 242 rfl) (by decide) pd25 rfl rfl (W := 0) (Nat.le_of_eq rfl) (by decide) (by decide) (by decide) (by decide) (fun T h v w gs C q => ?_)
        obtain ⟨rfl, K, t, g_t, A_t, X_t, O_t, H_X, H_F, G_X, G_elementData, G_size, G_modCount⟩ := q
        have z_t := Nat.le_trans E0.1 g_t
        replace E0 := ext_keep E0 K z_a131
        have X0 := X_a131
        replace X_x127 := X_x127.keep K
        replace X_x128 := X_x128.keep K
        replace X_x129 := X_x129.keep K
        replace X_x130 := X_x130.keep K
        replace X_a131 := X_a131.keep K
        replace X_e := X_e.keep K
        replace F_e := F_e.keep K (not1 ne_ev_a131)
        replace X_e := H_X
        replace F_e := H_F
        replace X_a131 := G_X
        replace F_elementData_a131 := G_elementData
        replace F_size_a131 := G_size
        replace F_modCount_a131 := G_modCount
        show Go p e below _ (State.setTop T (mkF m 105 #[.val (.int fl), .val (.int j1), .val (.int j2), .val (.int j3), .val (.int av), .val (.int j5), .val (.ref sv), .val (.int (1 : Int32)), .val (.int (0 : Int32)), .val (.int (1 : Int32)), .val (.ref x127), .val (.ref x128), .val (.ref x129), .val (.ref x130), .val (.ref a131), .unset, .unset, .unset, .unset, .unset, .unset, .unset, .unset] [(.int (1 : Int32))]))
        refine g_pop w at_105 (q := 106) rfl rfl ?_
        refine g_iload w at_106 (q := 108) rfl rfl ?_
        refine g_ifN w at_108 (q := 111) rfl (by decide) ?_
        refine g_aload w at_111 (q := 113) rfl rfl rfl ?_
        refine g_static w (con_of l Z a0 hw x128 _ w.old) no0 at_113 (q := 116) rfl rfl (Hw hw 349 rfl) (Hw hw 128 rfl) (Hw hw 59 rfl) (Hw hw 129 rfl) (by decide) pd16 rfl rfl (W := 0) (Nat.le_of_eq rfl) (by decide) (by decide) (by decide) (by decide) (fun T h v w gs C q => ?_)
        obtain ⟨o134, rfl, E, g_o134, X_o134, F_value_o134⟩ := q
        have z_o134 := Nat.le_trans E0.1 g_o134
        have ne_a131_o134 : a131 ≠ o134 := Nat.ne_of_lt (Nat.lt_of_lt_of_le X_a131.lt g_o134)
        have ne_ev_o134 : ev ≠ o134 := Nat.ne_of_lt (Nat.lt_of_lt_of_le X_e.lt g_o134)
        have ne_t_o134 : t ≠ o134 := Nat.ne_of_lt (Nat.lt_of_lt_of_le A_t.lt g_o134)
        have ne_x127_o134 : x127 ≠ o134 := Nat.ne_of_lt (Nat.lt_of_lt_of_le X_x127.lt g_o134)
        have ne_x128_o134 : x128 ≠ o134 := Nat.ne_of_lt (Nat.lt_of_lt_of_le X_x128.lt g_o134)
        have ne_x129_o134 : x129 ≠ o134 := Nat.ne_of_lt (Nat.lt_of_lt_of_le X_x129.lt g_o134)
        have ne_x130_o134 : x130 ≠ o134 := Nat.ne_of_lt (Nat.lt_of_lt_of_le X_x130.lt g_o134)
        replace E0 := ext_trans E0 E
        replace X_x127 := X_x127.ext E
        replace X_x128 := X_x128.ext E
        replace X_x129 := X_x129.ext E
        replace X_x130 := X_x130.ext E
        replace X_a131 := X_a131.ext E
        replace F_elementData_a131 := F_elementData_a131.ext E
        replace F_size_a131 := F_size_a131.ext E
        replace F_modCount_a131 := F_modCount_a131.ext E
        replace A_t := A_t.ext E
        replace X_t := X_t.ext E
        replace X_e := X_e.ext E
        replace F_e := F_e.ext E
        show Go p e below _ (State.setTop T (mkF m 116 #[.val (.int fl), .val (.int j1), .val (.int j2), .val (.int j3), .val (.int av), .val (.int j5), .val (.ref sv), .val (.int (1 : Int32)), .val (.int (0 : Int32)), .val (.int (1 : Int32)), .val (.ref x127), .val (.ref x128), .val (.ref x129), .val (.ref x130), .val (.ref a131), .unset, .unset, .unset, .unset, .unset, .unset, .unset, .unset] [(.ref o134)]))
        refine g_goto w at_116 (by decide) (q := 122) (by decide) ?_
        refine g_astore w at_122 (q := 124) rfl rfl (Ls' := #[.val (.int fl), .val (.int j1), .val (.int j2), .val (.int j3), .val (.int av), .val (.int j5), .val (.ref sv), .val (.int (1 : Int32)), .val (.int (0 : Int32)), .val (.int (1 : Int32)), .val (.ref x127), .val (.ref x128), .val (.ref x129), .val (.ref x130), .val (.ref a131), .val (.ref o134), .unset, .unset, .unset, .unset, .unset, .unset, .unset]) rfl ?_
        refine g_iload w at_124 (q := 126) rfl rfl ?_
        refine g_ifY w at_126 (by decide) (q := 137) (by decide) (by decide) ?_
        refine g_staticP w (con_emp l Z a0 hw em _ w.old SE_) no0 at_137 (q := 140) rfl rfl (Hw hw 57 rfl) (Hw hw 58 rfl) (Hw hw 59 rfl) (Hw hw 60 rfl) (by decide) pd21 rfl rfl (W := 0) (Nat.le_of_eq rfl) (by decide) (by decide) (by decide) (by decide) (fun T v w C q => ?_)
        obtain rfl := q
        show Go p e below _ (State.setTop T (mkF m 140 #[.val (.int fl), .val (.int j1), .val (.int j2), .val (.int j3), .val (.int av), .val (.int j5), .val (.ref sv), .val (.int (1 : Int32)), .val (.int (0 : Int32)), .val (.int (1 : Int32)), .val (.ref x127), .val (.ref x128), .val (.ref x129), .val (.ref x130), .val (.ref a131), .val (.ref o134), .unset, .unset, .unset, .unset, .unset, .unset, .unset] [(.ref em)]))
        have X_em := XE_.ext w.old
        have F_em := FE_.ext w.old
        refine g_astore w at_140 (q := 142) rfl rfl (Ls' := #[.val (.int fl), .val (.int j1), .val (.int j2), .val (.int j3), .val (.int av), .val (.int j5), .val (.ref sv), .val (.int (1 : Int32)), .val (.int (0 : Int32)), .val (.int (1 : Int32)), .val (.ref x127), .val (.ref x128), .val (.ref x129), .val (.ref x130), .val (.ref a131), .val (.ref o134), .val (.ref em), .unset, .unset, .unset, .unset, .unset, .unset]) rfl ?_
        refine g_new w at_142 (q := 145) rfl (Hw hw 62 rfl) (Hw hw 63 rfl) (Hw hw 64 rfl) (by decide) (by decide) (fun T h a136 w E g_a136 n_a136 X_a136 D_a136 s_a136 => ?_)
        have z_a136 := Nat.le_trans E0.1 g_a136
        have ne_a131_a136 : a131 ≠ a136 := Nat.ne_of_lt (Nat.lt_of_lt_of_le X_a131.lt g_a136)
        have ne_em_a136 : em ≠ a136 := Nat.ne_of_lt (Nat.lt_of_lt_of_le X_em.lt g_a136)
        have ne_ev_a136 : ev ≠ a136 := Nat.ne_of_lt (Nat.lt_of_lt_of_le X_e.lt g_a136)
        have ne_o134_a136 : o134 ≠ a136 := Nat.ne_of_lt (Nat.lt_of_lt_of_le X_o134.lt g_a136)
        have ne_t_a136 : t ≠ a136 := Nat.ne_of_lt (Nat.lt_of_lt_of_le A_t.lt g_a136)
        have ne_x127_a136 : x127 ≠ a136 := Nat.ne_of_lt (Nat.lt_of_lt_of_le X_x127.lt g_a136)
        have ne_x128_a136 : x128 ≠ a136 := Nat.ne_of_lt (Nat.lt_of_lt_of_le X_x128.lt g_a136)
        have ne_x129_a136 : x129 ≠ a136 := Nat.ne_of_lt (Nat.lt_of_lt_of_le X_x129.lt g_a136)
        have ne_x130_a136 : x130 ≠ a136 := Nat.ne_of_lt (Nat.lt_of_lt_of_le X_x130.lt g_a136)
        replace E0 := ext_trans E0 E
        replace X_x127 := X_x127.ext E
        replace X_x128 := X_x128.ext E
        replace X_x129 := X_x129.ext E
        replace X_x130 := X_x130.ext E
        replace X_a131 := X_a131.ext E
        replace F_elementData_a131 := F_elementData_a131.ext E
        replace F_size_a131 := F_size_a131.ext E
        replace F_modCount_a131 := F_modCount_a131.ext E
        replace A_t := A_t.ext E
        replace X_t := X_t.ext E
        replace X_e := X_e.ext E
        replace F_e := F_e.ext E
        replace X_o134 := X_o134.ext E
        replace F_value_o134 := F_value_o134.ext E
        replace X_em := X_em.ext E
        replace F_em := F_em.ext E
        have F_severity_a136 := D_a136 (Or.inr (Hw hw 112 rfl)) (ty := (.object "com/example/stepwize/stepwize/engine/Message$Severity")) (by decide)
        replace F_severity_a136 : Fld Z h a136 "com/example/stepwize/stepwize/engine/Message" "severity" "Lcom/example/stepwize/stepwize/engine/Message$Severity;" .null := F_severity_a136
        have F_source_a136 := D_a136 (Or.inr (Hw hw 114 rfl)) (ty := (.object "java/util/Optional")) (by decide)
        replace F_source_a136 : Fld Z h a136 "com/example/stepwize/stepwize/engine/Message" "source" "Ljava/util/Optional;" .null := F_source_a136
        have F_code_a136 := D_a136 (Or.inr (Hw hw 116 rfl)) (ty := (.object "java/util/Optional")) (by decide)
        replace F_code_a136 : Fld Z h a136 "com/example/stepwize/stepwize/engine/Message" "code" "Ljava/util/Optional;" .null := F_code_a136
        have F_arguments_a136 := D_a136 (Or.inr (Hw hw 118 rfl)) (ty := (.object "java/util/List")) (by decide)
        replace F_arguments_a136 : Fld Z h a136 "com/example/stepwize/stepwize/engine/Message" "arguments" "Ljava/util/List;" .null := F_arguments_a136
        have F_text_a136 := D_a136 (Or.inr (Hw hw 120 rfl)) (ty := (.object "java/lang/String")) (by decide)
        replace F_text_a136 : Fld Z h a136 "com/example/stepwize/stepwize/engine/Message" "text" "Ljava/lang/String;" .null := F_text_a136
        refine g_dup w at_145 (q := 146) rfl rfl ?_
        refine g_aload w at_146 (q := 148) rfl rfl rfl ?_
        refine g_aload w at_148 (q := 150) rfl rfl rfl ?_
        refine g_aload w at_150 (q := 152) rfl rfl rfl ?_
        refine g_aload w at_152 (q := 154) rfl rfl rfl ?_
        refine g_aload w at_154 (q := 156) rfl rfl rfl ?_
        refine g_special w (con_mi_b l Z a0 hw a136 sv o134 em a131 x129 t ev mr ic _ w.old X_a136 F_severity_a136 F_source_a136 F_code_a136 F_arguments_a136 F_text_a136 n_a136 X_a131 F_elementData_a131 F_size_a131 A_t X_t X_e MR_ SI_) no0 at_156 (q := 159) rfl rfl rfl (Hw hw 65 rfl) (Hw hw 66 rfl) (Hw hw 64 rfl) (Hw hw 67 rfl) (by decide) pd17 rfl rfl (W := 1) (Nat.le_of_eq rfl) (by decide) (by decide) (by decide) (by decide) (fun T h v w gs C q => ?_)
        obtain ⟨rfl, K, y137, g_y137, X_y137, F_e0_y137, F_e1_y137, G_severity, G_source, G_code, G_arguments, G_text⟩ := q
        have z_y137 := Nat.le_trans E0.1 g_y137
        have ne_a131_y137 : a131 ≠ y137 := Nat.ne_of_lt (Nat.lt_of_lt_of_le X_a131.lt g_y137)
        have ne_a136_y137 : a136 ≠ y137 := Nat.ne_of_lt (Nat.lt_of_lt_of_le X_a136.lt g_y137)
        have ne_em_y137 : em ≠ y137 := Nat.ne_of_lt (Nat.lt_of_lt_of_le X_em.lt g_y137)
        have ne_ev_y137 : ev ≠ y137 := Nat.ne_of_lt (Nat.lt_of_lt_of_le X_e.lt g_y137)
        have ne_o134_y137 : o134 ≠ y137 := Nat.ne_of_lt (Nat.lt_of_lt_of_le X_o134.lt g_y137)
        have ne_t_y137 : t ≠ y137 := Nat.ne_of_lt (Nat.lt_of_lt_of_le A_t.lt g_y137)
        have ne_x127_y137 : x127 ≠ y137 := Nat.ne_of_lt (Nat.lt_of_lt_of_le X_x127.lt g_y137)
        have ne_x128_y137 : x128 ≠ y137 := Nat.ne_of_lt (Nat.lt_of_lt_of_le X_x128.lt g_y137)
        have ne_x129_y137 : x129 ≠ y137 := Nat.ne_of_lt (Nat.lt_of_lt_of_le X_x129.lt g_y137)
        have ne_x130_y137 : x130 ≠ y137 := Nat.ne_of_lt (Nat.lt_of_lt_of_le X_x130.lt g_y137)
        replace E0 := ext_keep E0 K z_a136
        have X0 := X_a136
        replace X_x127 := X_x127.keep K
        replace X_x128 := X_x128.keep K
        replace X_x129 := X_x129.keep K
        replace X_x130 := X_x130.keep K
        replace X_a131 := X_a131.keep K
        replace F_elementData_a131 := F_elementData_a131.keep K (not1 ne_a131_a136)
        replace F_size_a131 := F_size_a131.keep K (not1 ne_a131_a136)
        replace F_modCount_a131 := F_modCount_a131.keep K (not1 ne_a131_a136)
        replace A_t := A_t.keep K (not1 ne_t_a136)
        replace X_t := X_t.keep K
        replace X_e := X_e.keep K
        replace F_e := F_e.keep K (not1 ne_ev_a136)
        replace X_o134 := X_o134.keep K
        replace F_value_o134 := F_value_o134.keep K (not1 ne_o134_a136)
        replace X_em := X_em.keep K
        replace F_em := F_em.keep K (not1 ne_em_a136)
        replace X_a136 := X_a136.keep K
        replace F_severity_a136 := G_severity
        replace F_source_a136 := G_source
        replace F_code_a136 := G_code
        replace F_arguments_a136 := G_arguments
        replace F_text_a136 := G_text
        show Go p e below _ (State.setTop T (mkF m 159 #[.val (.int fl), .val (.int j1), .val (.int j2), .val (.int j3), .val (.int av), .val (.int j5), .val (.ref sv), .val (.int (1 : Int32)), .val (.int (0 : Int32)), .val (.int (1 : Int32)), .val (.ref x127), .val (.ref x128), .val (.ref x129), .val (.ref x130), .val (.ref a131), .val (.ref o134), .val (.ref em), .unset, .unset, .unset, .unset, .unset, .unset] [(.ref a136)]))
        refine g_astore w at_159 (q := 161) rfl rfl (Ls' := #[.val (.int fl), .val (.int j1), .val (.int j2), .val (.int j3), .val (.int av), .val (.int j5), .val (.ref sv), .val (.int (1 : Int32)), .val (.int (0 : Int32)), .val (.int (1 : Int32)), .val (.ref x127), .val (.ref x128), .val (.ref x129), .val (.ref x130), .val (.ref a131), .val (.ref o134), .val (.ref em), .val (.ref a136), .unset, .unset, .unset, .unset, .unset]) rfl ?_
        refine g_aload w at_161 (q := 163) rfl rfl rfl ?_
        refine g_aload w at_163 (q := 165) rfl rfl rfl ?_
        refine g_virtual w (con_ab_d l Z a0 hw a136 x127 sv em y137 x129 _ w.old F_severity_a136 F_code_a136 F_arguments_a136 F_text_a136 X_y137) no0 X_a136 at_165 (q := 168) rfl rfl (Hw hw 121 rfl) (Hw hw 122 rfl) (Hw hw 124 rfl) (Hw hw 123 rfl) (Hw hw 64 rfl) (Hw hw 125 rfl) (by decide) (nf (Hw hw 124 rfl)) pd22 rfl rfl (W := 0) (Nat.le_of_eq rfl) (by decide) (by decide) (by decide) (by decide) (fun T h v w gs C q => ?_)
        obtain ⟨r138, o139, rfl, E, g_r138, X_r138, F_severity_r138, F_source_r138, F_code_r138, F_arguments_r138, F_text_r138, X_o139, F_value_o139⟩ := q
        have z_r138 := Nat.le_trans E0.1 g_r138
        have ne_a131_r138 : a131 ≠ r138 := Nat.ne_of_lt (Nat.lt_of_lt_of_le X_a131.lt g_r138)
        have ne_a136_r138 : a136 ≠ r138 := Nat.ne_of_lt (Nat.lt_of_lt_of_le X_a136.lt g_r138)
        have ne_em_r138 : em ≠ r138 := Nat.ne_of_lt (Nat.lt_of_lt_of_le X_em.lt g_r138)
        have ne_ev_r138 : ev ≠ r138 := Nat.ne_of_lt (Nat.lt_of_lt_of_le X_e.lt g_r138)
        have ne_o134_r138 : o134 ≠ r138 := Nat.ne_of_lt (Nat.lt_of_lt_of_le X_o134.lt g_r138)
        have ne_t_r138 : t ≠ r138 := Nat.ne_of_lt (Nat.lt_of_lt_of_le A_t.lt g_r138)
        have ne_x127_r138 : x127 ≠ r138 := Nat.ne_of_lt (Nat.lt_of_lt_of_le X_x127.lt g_r138)
        have ne_x128_r138 : x128 ≠ r138 := Nat.ne_of_lt (Nat.lt_of_lt_of_le X_x128.lt g_r138)
        have ne_x129_r138 : x129 ≠ r138 := Nat.ne_of_lt (Nat.lt_of_lt_of_le X_x129.lt g_r138)
        have ne_x130_r138 : x130 ≠ r138 := Nat.ne_of_lt (Nat.lt_of_lt_of_le X_x130.lt g_r138)
        have ne_y137_r138 : y137 ≠ r138 := Nat.ne_of_lt (Nat.lt_of_lt_of_le X_y137.lt g_r138)
        replace E0 := ext_trans E0 E
        replace X_x127 := X_x127.ext E
        replace X_x128 := X_x128.ext E
        replace X_x129 := X_x129.ext E
        replace X_x130 := X_x130.ext E
        replace X_a131 := X_a131.ext E
        replace F_elementData_a131 := F_elementData_a131.ext E
        replace F_size_a131 := F_size_a131.ext E
        replace F_modCount_a131 := F_modCount_a131.ext E
        replace A_t := A_t.ext E
        replace X_t := X_t.ext E
        replace X_e := X_e.ext E
        replace F_e := F_e.ext E
        replace X_o134 := X_o134.ext E
        replace F_value_o134 := F_value_o134.ext E
        replace X_em := X_em.ext E
        replace F_em := F_em.ext E
        replace X_a136 := X_a136.ext E
        replace F_severity_a136 := F_severity_a136.ext E
        replace F_source_a136 := F_source_a136.ext E
        replace F_code_a136 := F_code_a136.ext E
        replace F_arguments_a136 := F_arguments_a136.ext E
        replace F_text_a136 := F_text_a136.ext E
        replace X_y137 := X_y137.ext E
        replace F_e0_y137 := F_e0_y137.ext E
        replace F_e1_y137 := F_e1_y137.ext E
        show Go p e below _ (State.setTop T (mkF m 168 #[.val (.int fl), .val (.int j1), .val (.int j2), .val (.int j3), .val (.int av), .val (.int j5), .val (.ref sv), .val (.int (1 : Int32)), .val (.int (0 : Int32)), .val (.int (1 : Int32)), .val (.ref x127), .val (.ref x128), .val (.ref x129), .val (.ref x130), .val (.ref a131), .val (.ref o134), .val (.ref em), .val (.ref a136), .unset, .unset, .unset, .unset, .unset] [(.ref r138)]))
        refine g_astore w at_168 (q := 170) rfl rfl (Ls' := #[.val (.int fl), .val (.int j1), .val (.int j2), .val (.int j3), .val (.int av), .val (.int j5), .val (.ref sv), .val (.int (1 : Int32)), .val (.int (0 : Int32)), .val (.int (1 : Int32)), .val (.ref x127), .val (.ref x128), .val (.ref x129), .val (.ref x130), .val (.ref a131), .val (.ref o134), .val (.ref em), .val (.ref a136), .val (.ref r138), .unset, .unset, .unset, .unset]) rfl ?_
        refine g_aload w at_170 (q := 172) rfl rfl rfl ?_
        refine g_nonnullY w at_172 (by decide) (q := 177) (by decide) ?_
        refine g_aload w at_177 (q := 179) rfl rfl rfl ?_
        refine g_virtualP w (con_g_severity l Z a0 hw r138 sv _ w.old F_severity_r138) no0 X_r138 at_179 (q := 182) rfl rfl (Hw hw 151 rfl) (Hw hw 152 rfl) (Hw hw 154 rfl) (Hw hw 153 rfl) (Hw hw 64 rfl) (Hw hw 155 rfl) (by decide) (nf (Hw hw 154 rfl)) pd23 rfl rfl (W := 0) (Nat.le_of_eq rfl) (by decide) (by decide) (by decide) (by decide) (fun T v w C q => ?_)
        obtain rfl := q
        show Go p e below _ (State.setTop T (mkF m 182 #[.val (.int fl), .val (.int j1), .val (.int j2), .val (.int j3), .val (.int av), .val (.int j5), .val (.ref sv), .val (.int (1 : Int32)), .val (.int (0 : Int32)), .val (.int (1 : Int32)), .val (.ref x127), .val (.ref x128), .val (.ref x129), .val (.ref x130), .val (.ref a131), .val (.ref o134), .val (.ref em), .val (.ref a136), .val (.ref r138), .unset, .unset, .unset, .unset] [(.ref sv)]))
        refine g_aload w at_182 (q := 184) rfl rfl rfl ?_
        refine g_acY w at_184 (by decide) (q := 189) (by decide) rfl rfl (Jvm.Free.XT.aa_eq_t rfl) ?_
        refine g_aload w at_189 (q := 191) rfl rfl rfl ?_
        refine g_virtualP w (con_g_source l Z a0 hw r138 o139 _ w.old F_source_r138) no0 X_r138 at_191 (q := 194) rfl rfl (Hw hw 156 rfl) (Hw hw 157 rfl) (Hw hw 159 rfl) (Hw hw 158 rfl) (Hw hw 64 rfl) (Hw hw 160 rfl) (by decide) (nf (Hw hw 159 rfl)) pd21 rfl rfl (W := 0) (Nat.le_of_eq rfl) (by decide) (by decide) (by decide) (by decide) (fun T v w C q => ?_)
        obtain rfl := q
        show Go p e below _ (State.setTop T (mkF m 194 #[.val (.int fl), .val (.int j1), .val (.int j2), .val (.int j3), .val (.int av), .val (.int j5), .val (.ref sv), .val (.int (1 : Int32)), .val (.int (0 : Int32)), .val (.int (1 : Int32)), .val (.ref x127), .val (.ref x128), .val (.ref x129), .val (.ref x130), .val (.ref a131), .val (.ref o134), .val (.ref em), .val (.ref a136), .val (.ref r138), .unset, .unset, .unset, .unset] [(.ref o139)]))
        refine g_astore w at_194 (q := 196) rfl rfl (Ls' := #[.val (.int fl), .val (.int j1), .val (.int j2), .val (.int j3), .val (.int av), .val (.int j5), .val (.ref sv), .val (.int (1 : Int32)), .val (.int (0 : Int32)), .val (.int (1 : Int32)), .val (.ref x127), .val (.ref x128), .val (.ref x129), .val (.ref x130), .val (.ref a131), .val (.ref o134), .val (.ref em), .val (.ref a136), .val (.ref r138), .val (.ref o139), .unset, .unset, .unset]) rfl ?_
        refine g_aload w at_196 (q := 198) rfl rfl rfl ?_
        refine g_virtualP w (con_ip1 l Z a0 hw o139 x127 _ w.old F_value_o139) no0 X_o139 at_198 (q := 201) rfl rfl (Hw hw 161 rfl) (Hw hw 162 rfl) (Hw hw 164 rfl) (Hw hw 163 rfl) (Hw hw 59 rfl) (Hw hw 165 rfl) (by decide) (nf (Hw hw 164 rfl)) pd11 rfl rfl (W := 0) (Nat.le_of_eq rfl) (by decide) (by decide) (by decide) (by decide) (fun T v w C q => ?_)
        obtain rfl := q
        show Go p e below _ (State.setTop T (mkF m 201 #[.val (.int fl), .val (.int j1), .val (.int j2), .val (.int j3), .val (.int av), .val (.int j5), .val (.ref sv), .val (.int (1 : Int32)), .val (.int (0 : Int32)), .val (.int (1 : Int32)), .val (.ref x127), .val (.ref x128), .val (.ref x129), .val (.ref x130), .val (.ref a131), .val (.ref o134), .val (.ref em), .val (.ref a136), .val (.ref r138), .val (.ref o139), .unset, .unset, .unset] [(.int (1 : Int32))]))
        refine g_ifN w at_201 (q := 204) rfl (by decide) ?_
        refine g_aload w at_204 (q := 206) rfl rfl rfl ?_
        refine g_virtualP w (con_oget l Z a0 hw o139 x127 _ w.old F_value_o139) no0 X_o139 at_206 (q := 209) rfl rfl (Hw hw 166 rfl) (Hw hw 167 rfl) (Hw hw 169 rfl) (Hw hw 168 rfl) (Hw hw 59 rfl) (Hw hw 170 rfl) (by decide) (nf (Hw hw 169 rfl)) pd24 rfl rfl (W := 0) (Nat.le_of_eq rfl) (by decide) (by decide) (by decide) (by decide) (fun T v w C q => ?_)
        obtain rfl := q
        show Go p e below _ (State.setTop T (mkF m 209 #[.val (.int fl), .val (.int j1), .val (.int j2), .val (.int j3), .val (.int av), .val (.int j5), .val (.ref sv), .val (.int (1 : Int32)), .val (.int (0 : Int32)), .val (.int (1 : Int32)), .val (.ref x127), .val (.ref x128), .val (.ref x129), .val (.ref x130), .val (.ref a131), .val (.ref o134), .val (.ref em), .val (.ref a136), .val (.ref r138), .val (.ref o139), .unset, .unset, .unset] [(.ref x127)]))
        refine g_cast w at_209 (q := 212) rfl (Hw hw 11 rfl) (Ins.self X_x127) (fun T w => ?_)
        refine g_aload w at_212 (q := 214) rfl rfl rfl ?_
        refine g_virtualP w (con_eq1 l Z a0 hw x127 _ w.old) no0 X_x127 at_214 (q := 217) rfl rfl (Hw hw 171 rfl) (Hw hw 172 rfl) (Hw hw 174 rfl) (Hw hw 173 rfl) (Hw hw 13 rfl) (Hw hw 175 rfl) (by decide) (nf (Hw hw 174 rfl)) pd25 rfl rfl (W := 0) (Nat.le_of_eq rfl) (by decide) (by decide) (by decide) (by decide) (fun T v w C q => ?_)
        obtain rfl := q
        show Go p e below _ (State.setTop T (mkF m 217 #[.val (.int fl), .val (.int j1), .val (.int j2), .val (.int j3), .val (.int av), .val (.int j5), .val (.ref sv), .val (.int (1 : Int32)), .val (.int (0 : Int32)), .val (.int (1 : Int32)), .val (.ref x127), .val (.ref x128), .val (.ref x129), .val (.ref x130), .val (.ref a131), .val (.ref o134), .val (.ref em), .val (.ref a136), .val (.ref r138), .val (.ref o139), .unset, .unset, .unset] [(.int (1 : Int32))]))
        refine g_ifY w at_217 (by decide) (q := 222) (by decide) (by decide) ?_
        refine g_aload w at_222 (q := 224) rfl rfl rfl ?_
        refine g_virtualP w (con_g_code l Z a0 hw r138 em _ w.old F_code_r138) no0 X_r138 at_224 (q := 227) rfl rfl (Hw hw 176 rfl) (Hw hw 177 rfl) (Hw hw 179 rfl) (Hw hw 178 rfl) (Hw hw 64 rfl) (Hw hw 180 rfl) (by decide) (nf (Hw hw 179 rfl)) pd21 rfl rfl (W := 0) (Nat.le_of_eq rfl) (by decide) (by decide) (by decide) (by decide) (fun T v w C q => ?_)
        obtain rfl := q
        show Go p e below _ (State.setTop T (mkF m 227 #[.val (.int fl), .val (.int j1), .val (.int j2), .val (.int j3), .val (.int av), .val (.int j5), .val (.ref sv), .val (.int (1 : Int32)), .val (.int (0 : Int32)), .val (.int (1 : Int32)), .val (.ref x127), .val (.ref x128), .val (.ref x129), .val (.ref x130), .val (.ref a131), .val (.ref o134), .val (.ref em), .val (.ref a136), .val (.ref r138), .val (.ref o139), .unset, .unset, .unset] [(.ref em)]))
        refine g_astore w at_227 (q := 229) rfl rfl (Ls' := #[.val (.int fl), .val (.int j1), .val (.int j2), .val (.int j3), .val (.int av), .val (.int j5), .val (.ref sv), .val (.int (1 : Int32)), .val (.int (0 : Int32)), .val (.int (1 : Int32)), .val (.ref x127), .val (.ref x128), .val (.ref x129), .val (.ref x130), .val (.ref a131), .val (.ref o134), .val (.ref em), .val (.ref a136), .val (.ref r138), .val (.ref o139), .val (.ref em), .unset, .unset]) rfl ?_
        refine g_aload w at_229 (q := 231) rfl rfl rfl ?_
        refine g_virtualP w (con_ip0 l Z a0 hw em em _ w.old F_em) no0 X_em at_231 (q := 234) rfl rfl (Hw hw 161 rfl) (Hw hw 162 rfl) (Hw hw 164 rfl) (Hw hw 163 rfl) (Hw hw 59 rfl) (Hw hw 165 rfl) (by decide) (nf (Hw hw 164 rfl)) pd11 rfl rfl (W := 0) (Nat.le_of_eq rfl) (by decide) (by decide) (by decide) (by decide) (fun T v w C q => ?_)
        obtain rfl := q
        show Go p e below _ (State.setTop T (mkF m 234 #[.val (.int fl), .val (.int j1), .val (.int j2), .val (.int j3), .val (.int av), .val (.int j5), .val (.ref sv), .val (.int (1 : Int32)), .val (.int (0 : Int32)), .val (.int (1 : Int32)), .val (.ref x127), .val (.ref x128), .val (.ref x129), .val (.ref x130), .val (.ref a131), .val (.ref o134), .val (.ref em), .val (.ref a136), .val (.ref r138), .val (.ref o139), .val (.ref em), .unset, .unset] [(.int (0 : Int32))]))
        refine g_iload w at_234 (q := 236) rfl rfl ?_
        refine g_icY w at_236 (by decide) (q := 241) (by decide) (Jvm.Free.XT.ii_eq_t rfl) ?_
        refine g_iload w at_241 (q := 243) rfl rfl ?_
        refine g_ifY w at_243 (by decide) (q := 264) (by decide) (by decide) ?_
        refine g_aload w at_264 (q := 266) rfl rfl rfl ?_
        refine g_virtualP w (con_g_arguments l Z a0 hw r138 y137 _ w.old F_arguments_r138) no0 X_r138 at_266 (q := 269) rfl rfl (Hw hw 181 rfl) (Hw hw 182 rfl) (Hw hw 184 rfl) (Hw hw 183 rfl) (Hw hw 64 rfl) (Hw hw 185 rfl) (by decide) (nf (Hw hw 184 rfl)) pd12 rfl rfl (W := 0) (Nat.le_of_eq rfl) (by decide) (by decide) (by decide) (by decide) (fun T v w C q => ?_)
        obtain rfl := q
        show Go p e below _ (State.setTop T (mkF m 269 #[.val (.int fl), .val (.int j1), .val (.int j2), .val (.int j3), .val (.int av), .val (.int j5), .val (.ref sv), .val (.int (1 : Int32)), .val (.int (0 : Int32)), .val (.int (1 : Int32)), .val (.ref x127), .val (.ref x128), .val (.ref x129), .val (.ref x130), .val (.ref a131), .val (.ref o134), .val (.ref em), .val (.ref a136), .val (.ref r138), .val (.ref o139), .val (.ref em), .unset, .unset] [(.ref y137)]))
        refine g_astore w at_269 (q := 271) rfl rfl (Ls' := #[.val (.int fl), .val (.int j1), .val (.int j2), .val (.int j3), .val (.int av), .val (.int j5), .val (.ref sv), .val (.int (1 : Int32)), .val (.int (0 : Int32)), .val (.int (1 : Int32)), .val (.ref x127), .val (.ref x128), .val (.ref x129), .val (.ref x130), .val (.ref a131), .val (.ref o134), .val (.ref em), .val (.ref a136), .val (.ref r138), .val (.ref o139), .val (.ref em), .val (.ref y137), .unset]) rfl ?_
        refine g_aload w at_271 (q := 273) rfl rfl rfl ?_
        refine g_ifaceP w (con_l12s l Z a0 hw y137 ic _ w.old F_e1_y137 SI_) no0 X_y137 at_273 (q := 278) rfl rfl (Hw hw 186 rfl) (Hw hw 187 rfl) (Hw hw 188 rfl) (by decide) (Hw hw 330 rfl) (Hw hw 331 rfl) (Hw hw 327 rfl) (Hw hw 328 rfl) (Hw hw 329 rfl) (Hw hw 302 rfl) (Hw hw 332 rfl) (by decide) pd26 rfl rfl (W := 0) (Nat.le_of_eq rfl) (by decide) (by decide) (by decide) (by decide) (fun T v w C q => ?_)
        obtain rfl := q
        show Go p e below _ (State.setTop T (mkF m 278 #[.val (.int fl), .val (.int j1), .val (.int j2), .val (.int j3), .val (.int av), .val (.int j5), .val (.ref sv), .val (.int (1 : Int32)), .val (.int (0 : Int32)), .val (.int (1 : Int32)), .val (.ref x127), .val (.ref x128), .val (.ref x129), .val (.ref x130), .val (.ref a131), .val (.ref o134), .val (.ref em), .val (.ref a136), .val (.ref r138), .val (.ref o139), .val (.ref em), .val (.ref y137), .unset] [(.int (1 : Int32))]))
        refine g_iload w at_278 (q := 280) rfl rfl ?_
        refine g_ifN w at_280 (q := 283) rfl (by decide) ?_
        refine g_iconst w at_283 (q := 284) rfl (v := (1 : Int32)) (by decide) ?_
        refine g_goto w at_284 (by decide) (q := 288) (by decide) ?_
        refine g_icY w at_288 (by decide) (q := 293) (by decide) (Jvm.Free.XT.ii_eq_t rfl) ?_
        refine g_iload w at_293 (q := 295) rfl rfl ?_
        refine g_ifN w at_295 (q := 298) rfl (by decide) ?_
        refine g_aload w at_298 (q := 300) rfl rfl rfl ?_
        refine g_iconst w at_300 (q := 301) rfl (v := (0 : Int32)) (by decide) ?_
        refine g_ifaceP w (con_l12g l Z a0 hw y137 ev _ w.old F_e0_y137) no0 X_y137 at_301 (q := 306) rfl rfl (Hw hw 333 rfl) (Hw hw 334 rfl) (Hw hw 335 rfl) (by decide) (Hw hw 338 rfl) (Hw hw 339 rfl) (Hw hw 327 rfl) (Hw hw 336 rfl) (Hw hw 337 rfl) (Hw hw 302 rfl) (Hw hw 340 rfl) (by decide) pd29 rfl rfl (W := 0) (Nat.le_of_eq rfl) (by decide) (by decide) (by decide) (by decide) (fun T v w C q => ?_)
        obtain rfl := q
        show Go p e below _ (State.setTop T (mkF m 306 #[.val (.int fl), .val (.int j1), .val (.int j2), .val (.int j3), .val (.int av), .val (.int j5), .val (.ref sv), .val (.int (1 : Int32)), .val (.int (0 : Int32)), .val (.int (1 : Int32)), .val (.ref x127), .val (.ref x128), .val (.ref x129), .val (.ref x130), .val (.ref a131), .val (.ref o134), .val (.ref em), .val (.ref a136), .val (.ref r138), .val (.ref o139), .val (.ref em), .val (.ref y137), .unset] [(.ref ev)]))
        refine g_cast w at_306 (q := 309) rfl (Hw hw 341 rfl) (Ins.self X_e) (fun T w => ?_)
        refine g_virtualP w (con_iv l Z a0 hw ev av _ w.old F_e) no0 X_e at_309 (q := 312) rfl rfl (Hw hw 342 rfl) (Hw hw 343 rfl) (Hw hw 345 rfl) (Hw hw 344 rfl) (Hw hw 217 rfl) (Hw hw 346 rfl) (by decide) (nf (Hw hw 345 rfl)) pd26 rfl rfl (W := 0) (Nat.le_of_eq rfl) (by decide) (by decide) (by decide) (by decide) (fun T v w C q => ?_)
        obtain rfl := q
        show Go p e below _ (State.setTop T (mkF m 312 #[.val (.int fl), .val (.int j1), .val (.int j2), .val (.int j3), .val (.int av), .val (.int j5), .val (.ref sv), .val (.int (1 : Int32)), .val (.int (0 : Int32)), .val (.int (1 : Int32)), .val (.ref x127), .val (.ref x128), .val (.ref x129), .val (.ref x130), .val (.ref a131), .val (.ref o134), .val (.ref em), .val (.ref a136), .val (.ref r138), .val (.ref o139), .val (.ref em), .val (.ref y137), .unset] [(.int av)]))
        refine g_iload w at_312 (q := 314) rfl rfl ?_
        refine g_icY w at_314 (by decide) (q := 319) (by decide) (Jvm.Free.XT.ii_eq_t rfl) ?_
        refine g_aload w at_319 (q := 321) rfl rfl rfl ?_
        refine g_virtualP w (con_g_text l Z a0 hw r138 x129 _ w.old F_text_r138) no0 X_r138 at_321 (q := 324) rfl rfl (Hw hw 197 rfl) (Hw hw 198 rfl) (Hw hw 200 rfl) (Hw hw 199 rfl) (Hw hw 64 rfl) (Hw hw 201 rfl) (by decide) (nf (Hw hw 200 rfl)) pd27 rfl rfl (W := 0) (Nat.le_of_eq rfl) (by decide) (by decide) (by decide) (by decide) (fun T v w C q => ?_)
        obtain rfl := q
        show Go p e below _ (State.setTop T (mkF m 324 #[.val (.int fl), .val (.int j1), .val (.int j2), .val (.int j3), .val (.int av), .val (.int j5), .val (.ref sv), .val (.int (1 : Int32)), .val (.int (0 : Int32)), .val (.int (1 : Int32)), .val (.ref x127), .val (.ref x128), .val (.ref x129), .val (.ref x130), .val (.ref a131), .val (.ref o134), .val (.ref em), .val (.ref a136), .val (.ref r138), .val (.ref o139), .val (.ref em), .val (.ref y137), .unset] [(.ref x129)]))
        refine g_aload w at_324 (q := 326) rfl rfl rfl ?_
        refine g_virtualP w (con_eq1 l Z a0 hw x129 _ w.old) no0 X_x129 at_326 (q := 329) rfl rfl (Hw hw 171 rfl) (Hw hw 172 rfl) (Hw hw 174 rfl) (Hw hw 173 rfl) (Hw hw 13 rfl) (Hw hw 175 rfl) (by decide) (nf (Hw hw 174 rfl)) pd25 rfl rfl (W := 0) (Nat.le_of_eq rfl) (by decide) (by decide) (by decide) (by decide) (fun T v w C q => ?_)
        obtain rfl := q
        show Go p e below _ (State.setTop T (mkF m 329 #[.val (.int fl), .val (.int j1), .val (.int j2), .val (.int j3), .val (.int av), .val (.int j5), .val (.ref sv), .val (.int (1 : Int32)), .val (.int (0 : Int32)), .val (.int (1 : Int32)), .val (.ref x127), .val (.ref x128), .val (.ref x129), .val (.ref x130), .val (.ref a131), .val (.ref o134), .val (.ref em), .val (.ref a136), .val (.ref r138), .val (.ref o139), .val (.ref em), .val (.ref y137), .unset] [(.int (1 : Int32))]))
        refine g_ifY w at_329 (by decide) (q := 334) (by decide) (by decide) ?_
        refine g_aload w at_334 (q := 336) rfl rfl rfl ?_
        refine g_virtualP w (con_g_source l Z a0 hw a136 o134 _ w.old F_source_a136) no0 X_a136 at_336 (q := 339) rfl rfl (Hw hw 156 rfl) (Hw hw 157 rfl) (Hw hw 159 rfl) (Hw hw 158 rfl) (Hw hw 64 rfl) (Hw hw 160 rfl) (by decide) (nf (Hw hw 159 rfl)) pd21 rfl rfl (W := 0) (Nat.le_of_eq rfl) (by decide) (by decide) (by decide) (by decide) (fun T v w C q => ?_)
        obtain rfl := q
        show Go p e below _ (State.setTop T (mkF m 339 #[.val (.int fl), .val (.int j1), .val (.int j2), .val (.int j3), .val (.int av), .val (.int j5), .val (.ref sv), .val (.int (1 : Int32)), .val (.int (0 : Int32)), .val (.int (1 : Int32)), .val (.ref x127), .val (.ref x128), .val (.ref x129), .val (.ref x130), .val (.ref a131), .val (.ref o134), .val (.ref em), .val (.ref a136), .val (.ref r138), .val (.ref o139), .val (.ref em), .val (.ref y137), .unset] [(.ref o134)]))
        refine g_astore w at_339 (q := 341) rfl rfl (Ls' := #[.val (.int fl), .val (.int j1), .val (.int j2), .val (.int j3), .val (.int av), .val (.int j5), .val (.ref sv), .val (.int (1 : Int32)), .val (.int (0 : Int32)), .val (.int (1 : Int32)), .val (.ref x127), .val (.ref x128), .val (.ref x129), .val (.ref x130), .val (.ref a131), .val (.ref o134), .val (.ref em), .val (.ref a136), .val (.ref r138), .val (.ref o139), .val (.ref em), .val (.ref y137), .val (.ref o134)]) rfl ?_
        refine g_aload w at_341 (q := 343) rfl rfl rfl ?_
        refine g_virtualP w (con_ip1 l Z a0 hw o134 x128 _ w.old F_value_o134) no0 X_o134 at_343 (q := 346) rfl rfl (Hw hw 161 rfl) (Hw hw 162 rfl) (Hw hw 164 rfl) (Hw hw 163 rfl) (Hw hw 59 rfl) (Hw hw 165 rfl) (by decide) (nf (Hw hw 164 rfl)) pd11 rfl rfl (W := 0) (Nat.le_of_eq rfl) (by decide) (by decide) (by decide) (by decide) (fun T v w C q => ?_)
        obtain rfl := q
        show Go p e below _ (State.setTop T (mkF m 346 #[.val (.int fl), .val (.int j1), .val (.int j2), .val (.int j3), .val (.int av), .val (.int j5), .val (.ref sv), .val (.int (1 : Int32)), .val (.int (0 : Int32)), .val (.int (1 : Int32)), .val (.ref x127), .val (.ref x128), .val (.ref x129), .val (.ref x130), .val (.ref a131), .val (.ref o134), .val (.ref em), .val (.ref a136), .val (.ref r138), .val (.ref o139), .val (.ref em), .val (.ref y137), .val (.ref o134)] [(.int (1 : Int32))]))
        refine g_iload w at_346 (q := 348) rfl rfl ?_
        refine g_icY w at_348 (by decide) (q := 353) (by decide) (Jvm.Free.XT.ii_eq_t rfl) ?_
        refine g_iload w at_353 (q := 355) rfl rfl ?_
        refine g_ifN w at_355 (q := 358) rfl (by decide) ?_
        refine g_aload w at_358 (q := 360) rfl rfl rfl ?_
        refine g_virtualP w (con_oget l Z a0 hw o134 x128 _ w.old F_value_o134) no0 X_o134 at_360 (q := 363) rfl rfl (Hw hw 166 rfl) (Hw hw 167 rfl) (Hw hw 169 rfl) (Hw hw 168 rfl) (Hw hw 59 rfl) (Hw hw 170 rfl) (by decide) (nf (Hw hw 169 rfl)) pd24 rfl rfl (W := 0) (Nat.le_of_eq rfl) (by decide) (by decide) (by decide) (by decide) (fun T v w C q => ?_)
        obtain rfl := q
        show Go p e below _ (State.setTop T (mkF m 363 #[.val (.int fl), .val (.int j1), .val (.int j2), .val (.int j3), .val (.int av), .val (.int j5), .val (.ref sv), .val (.int (1 : Int32)), .val (.int (0 : Int32)), .val (.int (1 : Int32)), .val (.ref x127), .val (.ref x128), .val (.ref x129), .val (.ref x130), .val (.ref a131), .val (.ref o134), .val (.ref em), .val (.ref a136), .val (.ref r138), .val (.ref o139), .val (.ref em), .val (.ref y137), .val (.ref o134)] [(.ref x128)]))
        refine g_cast w at_363 (q := 366) rfl (Hw hw 11 rfl) (Ins.self X_x128) (fun T w => ?_)
        refine g_aload w at_366 (q := 368) rfl rfl rfl ?_
        refine g_virtualP w (con_eq1 l Z a0 hw x128 _ w.old) no0 X_x128 at_368 (q := 371) rfl rfl (Hw hw 171 rfl) (Hw hw 172 rfl) (Hw hw 174 rfl) (Hw hw 173 rfl) (Hw hw 13 rfl) (Hw hw 175 rfl) (by decide) (nf (Hw hw 174 rfl)) pd25 rfl rfl (W := 0) (Nat.le_of_eq rfl) (by decide) (by decide) (by decide) (by decide) (fun T v w C q => ?_)
        obtain rfl := q
        show Go p e below _ (State.setTop T (mkF m 371 #[.val (.int fl), .val (.int j1), .val (.int j2), .val (.int j3), .val (.int av), .val (.int j5), .val (.ref sv), .val (.int (1 : Int32)), .val (.int (0 : Int32)), .val (.int (1 : Int32)), .val (.ref x127), .val (.ref x128), .val (.ref x129), .val (.ref x130), .val (.ref a131), .val (.ref o134), .val (.ref em), .val (.ref a136), .val (.ref r138), .val (.ref o139), .val (.ref em), .val (.ref y137), .val (.ref o134)] [(.int (1 : Int32))]))
        refine g_ifY w at_371 (by decide) (q := 376) (by decide) (by decide) ?_
        refine g_iconst w at_376 (q := 377) rfl (v := (1 : Int32)) (by decide) ?_
        exact g_retn w at_377 rfl (by simp) rfl (by decide) (by decide) rfl
    · refine g_iconst w at_31 (q := 32) rfl (v := (1 : Int32)) (by decide) ?_
      refine g_goto w at_32 (by decide) (q := 36) (by decide) ?_
      refine g_istore w at_36 (q := 38) rfl (Ls' := #[.val (.int fl), .val (.int j1), .val (.int j2), .val (.int j3), .val (.int av), .val (.int j5), .val (.ref sv), .val (.int (1 : Int32)), .val (.int (1 : Int32)), .unset, .unset, .unset, .unset, .unset, .unset, .unset, .unset, .unset, .unset, .unset, .unset, .unset, .unset]) rfl ?_
      refine g_iloadN w at_38 (q := 39) rfl rfl ?_
      refine g_bipush w at_39 (q := 41) rfl (v := (10 : Int32)) (by decide) ?_
      refine g_iushr w at_41 (q := 42) rfl ?_
      refine g_iconst w at_42 (q := 43) rfl (v := (1 : Int32)) (by decide) ?_
      refine g_iand w at_43 (q := 44) rfl ?_
      refine g_if_eq w at_44 (by decide) (q := 51) (by decide) (q' := 47) rfl (fun cd153 => ?_) (fun cd153 => ?_)
      · refine g_iconst w at_51 (q := 52) rfl (v := (0 : Int32)) (by decide) ?_
        refine g_istore w at_52 (q := 54) rfl (Ls' := #[.val (.int fl), .val (.int j1), .val (.int j2), .val (.int j3), .val (.int av), .val (.int j5), .val (.ref sv), .val (.int (1 : Int32)), .val (.int (1 : Int32)), .val (.int (0 : Int32)), .unset, .unset, .unset, .unset, .unset, .unset, .unset, .unset, .unset, .unset, .unset, .unset, .unset]) rfl ?_
        refine g_iloadN w at_54 (q := 55) rfl rfl ?_
        refine g_static w (con_str l Z a0 hw j1 _ w.old hcm) no0 at_55 (q := 58) rfl rfl (Hw hw 8 rfl) (Hw hw 9 rfl) (Hw hw 2 rfl) (Hw hw 10 rfl) (by decide) pd20 rfl rfl (W := 0) (Nat.le_of_eq rfl) (by decide) (by decide) (by decide) (by decide) (fun T h v w gs C q => ?_)
        obtain ⟨x154, rfl, E, g_x154, X_x154⟩ := q
        have z_x154 := Nat.le_trans E0.1 g_x154
        replace E0 := ext_trans E0 E
        show Go p e below _ (State.setTop T (mkF m 58 #[.val (.int fl), .val (.int j1), .val (.int j2), .val (.int j3), .val (.int av), .val (.int j5), .val (.ref sv), .val (.int (1 : Int32)), .val (.int (1 : Int32)), .val (.int (0 : Int32)), .unset, .unset, .unset, .unset, .unset, .unset, .unset, .unset, .unset, .unset, .unset, .unset, .unset] [(.ref x154)]))
        refine g_astore w at_58 (q := 60) rfl rfl (Ls' := #[.val (.int fl), .val (.int j1), .val (.int j2), .val (.int j3), .val (.int av), .val (.int j5), .val (.ref sv), .val (.int (1 : Int32)), .val (.int (1 : Int32)), .val (.int (0 : Int32)), .val (.ref x154), .unset, .unset, .unset, .unset, .unset, .unset, .unset, .unset, .unset, .unset, .unset, .unset]) rfl ?_
        refine g_iloadN w at_60 (q := 61) rfl rfl ?_
        refine g_static w (con_str l Z a0 hw j2 _ w.old hcm) no0 at_61 (q := 64) rfl rfl (Hw hw 8 rfl) (Hw hw 9 rfl) (Hw hw 2 rfl) (Hw hw 10 rfl) (by decide) pd20 rfl rfl (W := 0) (Nat.le_of_eq rfl) (by decide) (by decide) (by decide) (by decide) (fun T h v w gs C q => ?_)
        obtain ⟨x155, rfl, E, g_x155, X_x155⟩ := q
        have z_x155 := Nat.le_trans E0.1 g_x155
        have ne_x154_x155 : x154 ≠ x155 := Nat.ne_of_lt (Nat.lt_of_lt_of_le X_x154.lt g_x155)
        replace E0 := ext_trans E0 E
        replace X_x154 := X_x154.ext E
        show Go p e below _ (State.setTop T (mkF m 64 #[.val (.int fl), .val (.int j1), .val (.int j2), .val (.int j3), .val (.int av), .val (.int j5), .val (.ref sv), .val (.int (1 : Int32)), .val (.int (1 : Int32)), .val (.int (0 : Int32)), .val (.ref x154), .unset, .unset, .unset, .unset, .unset, .unset, .unset, .unset, .unset, .unset, .unset, .unset] [(.ref x155)]))
        refine g_astore w at_64 (q := 66) rfl rfl (Ls' := #[.val (.int fl), .val (.int j1), .val (.int j2), .val (.int j3), .val (.int av), .val (.int j5), .val (.ref sv), .val (.int (1 : Int32)), .val (.int (1 : Int32)), .val (.int (0 : Int32)), .val (.ref x154), .val (.ref x155), .unset, .unset, .unset, .unset, .unset, .unset, .unset, .unset, .unset, .unset, .unset]) rfl ?_
        refine g_iloadN w at_66 (q := 67) rfl rfl ?_
        refine g_static w (con_str l Z a0 hw j3 _ w.old hcm) no0 at_67 (q := 70) rfl rfl (Hw hw 8 rfl) (Hw hw 9 rfl) (Hw hw 2 rfl) (Hw hw 10 rfl) (by decide) pd20 rfl rfl (W := 0) (Nat.le_of_eq rfl) (by decide) (by decide) (by decide) (by decide) (fun T h v w gs C q => ?_)
        obtain ⟨x156, rfl, E, g_x156, X_x156⟩ := q
        have z_x156 := Nat.le_trans E0.1 g_x156
        have ne_x154_x156 : x154 ≠ x156 := Nat.ne_of_lt (Nat.lt_of_lt_of_le X_x154.lt g_x156)
        have ne_x155_x156 : x155 ≠ x156 := Nat.ne_of_lt (Nat.lt_of_lt_of_le X_x155.lt g_x156)
        replace E0 := ext_trans E0 E
        replace X_x154 := X_x154.ext E
        replace X_x155 := X_x155.ext E
        show Go p e below _ (State.setTop T (mkF m 70 #[.val (.int fl), .val (.int j1), .val (.int j2), .val (.int j3), .val (.int av), .val (.int j5), .val (.ref sv), .val (.int (1 : Int32)), .val (.int (1 : Int32)), .val (.int (0 : Int32)), .val (.ref x154), .val (.ref x155), .unset, .unset, .unset, .unset, .unset, .unset, .unset, .unset, .unset, .unset, .unset] [(.ref x156)]))
        refine g_astore w at_70 (q := 72) rfl rfl (Ls' := #[.val (.int fl), .val (.int j1), .val (.int j2), .val (.int j3), .val (.int av), .val (.int j5), .val (.ref sv), .val (.int (1 : Int32)), .val (.int (1 : Int32)), .val (.int (0 : Int32)), .val (.ref x154), .val (.ref x155), .val (.ref x156), .unset, .unset, .unset, .unset, .unset, .unset, .unset, .unset, .unset, .unset]) rfl ?_
        refine g_iload w at_72 (q := 74) rfl rfl ?_
        refine g_static w (con_str l Z a0 hw j5 _ w.old hcm) no0 at_74 (q := 77) rfl rfl (Hw hw 8 rfl) (Hw hw 9 rfl) (Hw hw 2 rfl) (Hw hw 10 rfl) (by decide) pd20 rfl rfl (W := 0) (Nat.le_of_eq rfl) (by decide) (by decide) (by decide) (by decide) (fun T h v w gs C q => ?_)
        obtain ⟨x157, rfl, E, g_x157, X_x157⟩ := q
        have z_x157 := Nat.le_trans E0.1 g_x157
        have ne_x154_x157 : x154 ≠ x157 := Nat.ne_of_lt (Nat.lt_of_lt_of_le X_x154.lt g_x157)
        have ne_x155_x157 : x155 ≠ x157 := Nat.ne_of_lt (Nat.lt_of_lt_of_le X_x155.lt g_x157)
        have ne_x156_x157 : x156 ≠ x157 := Nat.ne_of_lt (Nat.lt_of_lt_of_le X_x156.lt g_x157)
        replace E0 := ext_trans E0 E
        replace X_x154 := X_x154.ext E
        replace X_x155 := X_x155.ext E
        replace X_x156 := X_x156.ext E
        show Go p e below _ (State.setTop T (mkF m 77 #[.val (.int fl), .val (.int j1), .val (.int j2), .val (.int j3), .val (.int av), .val (.int j5), .val (.ref sv), .val (.int (1 : Int32)), .val (.int (1 : Int32)), .val (.int (0 : Int32)), .val (.ref x154), .val (.ref x155), .val (.ref x156), .unset, .unset, .unset, .unset, .unset, .unset, .unset, .unset, .unset, .unset] [(.ref x157)]))
        refine g_astore w at_77 (q := 79) rfl rfl (Ls' := #[.val (.int fl), .val (.int j1), .val (.int j2), .val (.int j3), .val (.int av), .val (.int j5), .val (.ref sv), .val (.int (1 : Int32)), .val (.int (1 : Int32)), .val (.int (0 : Int32)), .val (.ref x154), .val (.ref x155), .val (.ref x156), .val (.ref x157), .unset, .unset, .unset, .unset, .unset, .unset, .unset, .unset, .unset]) rfl ?_
        refine g_new w at_79 (q := 82) rfl (Hw hw 33 rfl) (Hw hw 34 rfl) (Hw hw 35 rfl) (by decide) (by decide) (fun T h a158 w E g_a158 n_a158 X_a158 D_a158 s_a158 => ?_)
        have z_a158 := Nat.le_trans E0.1 g_a158
        have ne_x154_a158 : x154 ≠ a158 := Nat.ne_of_lt (Nat.lt_of_lt_of_le X_x154.lt g_a158)
        have ne_x155_a158 : x155 ≠ a158 := Nat.ne_of_lt (Nat.lt_of_lt_of_le X_x155.lt g_a158)
        have ne_x156_a158 : x156 ≠ a158 := Nat.ne_of_lt (Nat.lt_of_lt_of_le X_x156.lt g_a158)
        have ne_x157_a158 : x157 ≠ a158 := Nat.ne_of_lt (Nat.lt_of_lt_of_le X_x157.lt g_a158)
        replace E0 := ext_trans E0 E
        replace X_x154 := X_x154.ext E
        replace X_x155 := X_x155.ext E
        replace X_x156 := X_x156.ext E
        replace X_x157 := X_x157.ext E
        have F_modCount_a158 := D_a158 (Or.inl (Hw hw 53 rfl)) (ty := .int) (by decide)
        replace F_modCount_a158 : Fld Z h a158 "java/util/AbstractList" "modCount" "I" (.int (0 : Int32)) := F_modCount_a158
        have F_elementData_a158 := D_a158 (Or.inl (Hw hw 56 rfl)) (ty := (.array (.object "java/lang/Object"))) (by decide)
        replace F_elementData_a158 : Fld Z h a158 "java/util/ArrayList" "elementData" "[Ljava/lang/Object;" .null := F_elementData_a158
        have F_size_a158 := D_a158 (Or.inl (Hw hw 105 rfl)) (ty := .int) (by decide)
        replace F_size_a158 : Fld Z h a158 "java/util/ArrayList" "size" "I" (.int (0 : Int32)) := F_size_a158
        refine g_dup w at_82 (q := 83) rfl rfl ?_
        refine g_special w (con_al l Z a0 hw a158 df _ w.old X_a158 F_elementData_a158 F_size_a158 F_modCount_a158 n_a158 SD_) no0 at_83 (q := 86) rfl rfl rfl (Hw hw 36 rfl) (Hw hw 37 rfl) (Hw hw 35 rfl) (Hw hw 38 rfl) (by decide) pd1 rfl rfl (W := 1) (Nat.le_of_eq rfl) (by decide) (by decide) (by decide) (by decide) (fun T h v w gs C q => ?_)
        obtain ⟨rfl, K, G_X, G_elementData, G_size, G_modCount⟩ := q
        replace E0 := ext_keep E0 K z_a158
        have X0 := X_a158
        replace X_x154 := X_x154.keep K
        replace X_x155 := X_x155.keep K
        replace X_x156 := X_x156.keep K
        replace X_x157 := X_x157.keep K
        replace X_a158 := X_a158.keep K
        replace X_a158 := G_X
        replace F_elementData_a158 := G_elementData
        replace F_size_a158 := G_size
        replace F_modCount_a158 := G_modCount
        show Go p e below _ (State.setTop T (mkF m 86 #[.val (.int fl), .val (.int j1), .val (.int j2), .val (.int j3), .val (.int av), .val (.int j5), .val (.ref sv), .val (.int (1 : Int32)), .val (.int (1 : Int32)), .val (.int (0 : Int32)), .val (.ref x154), .val (.ref x155), .val (.ref x156), .val (.ref x157), .unset, .unset, .unset, .unset, .unset, .unset, .unset, .unset, .unset] [(.ref a158)]))
        refine g_astore w at_86 (q := 88) rfl rfl (Ls' := #[.val (.int fl), .val (.int j1), .val (.int j2), .val (.int j3), .val (.int av), .val (.int j5), .val (.ref sv), .val (.int (1 : Int32)), .val (.int (1 : Int32)), .val (.int (0 : Int32)), .val (.ref x154), .val (.ref x155), .val (.ref x156), .val (.ref x157), .val (.ref a158), .unset, .unset, .unset, .unset, .unset, .unset, .unset, .unset]) rfl ?_
        refine g_iload w at_88 (q := 90) rfl rfl ?_
        refine g_ifY w at_90 (by decide) (q := 106) (by decide) (by decide) ?_
        refine g_iload w at_106 (q := 108) rfl rfl ?_
        refine g_ifN w at_108 (q := 111) rfl (by decide) ?_
        refine g_aload w at_111 (q := 113) rfl rfl rfl ?_
        refine g_static w (con_of l Z a0 hw x155 _ w.old) no0 at_113 (q := 116) rfl rfl (Hw hw 349 rfl) (Hw hw 128 rfl) (Hw hw 59 rfl) (Hw hw 129 rfl) (by decide) pd16 rfl rfl (W := 0) (Nat.le_of_eq rfl) (by decide) (by decide) (by decide) (by decide) (fun T h v w gs C q => ?_)
        obtain ⟨o161, rfl, E, g_o161, X_o161, F_value_o161⟩ := q
        have z_o161 := Nat.le_trans E0.1 g_o161
        have ne_a158_o161 : a158 ≠ o161 := Nat.ne_of_lt (Nat.lt_of_lt_of_le X_a158.lt g_o161)
        have ne_x154_o161 : x154 ≠ o161 := Nat.ne_of_lt (Nat.lt_of_lt_of_le X_x154.lt g_o161)
        have ne_x155_o161 : x155 ≠ o161 := Nat.ne_of_lt (Nat.lt_of_lt_of_le X_x155.lt g_o161)
        have ne_x156_o161 : x156 ≠ o161 := Nat.ne_of_lt (Nat.lt_of_lt_of_le X_x156.lt g_o161)
        have ne_x157_o161 : x157 ≠ o161 := Nat.ne_of_lt (Nat.lt_of_lt_of_le X_x157.lt g_o161)
        replace E0 := ext_trans E0 E
        replace X_x154 := X_x154.ext E
        replace X_x155 := X_x155.ext E
        replace X_x156 := X_x156.ext E
        replace X_x157 := X_x157.ext E
        replace X_a158 := X_a158.ext E
        replace F_elementData_a158 := F_elementData_a158.ext E
        replace F_size_a158 := F_size_a158.ext E
        replace F_modCount_a158 := F_modCount_a158.ext E
        show Go p e below _ (State.setTop T (mkF m 116 #[.val (.int fl), .val (.int j1), .val (.int j2), .val (.int j3), .val (.int av), .val (.int j5), .val (.ref sv), .val (.int (1 : Int32)), .val (.int (1 : Int32)), .val (.int (0 : Int32)), .val (.ref x154), .val (.ref x155), .val (.ref x156), .val (.ref x157), .val (.ref a158), .unset, .unset, .unset, .unset, .unset, .unset, .unset, .unset] [(.ref o161)]))
        refine g_goto w at_116 (by decide) (q := 122) (by decide) ?_
        refine g_astore w at_122 (q := 124) rfl rfl (Ls' := #[.val (.int fl), .val (.int j1), .val (.int j2), .val (.int j3), .val (.int av), .val (.int j5), .val (.ref sv), .val (.int (1 : Int32)), .val (.int (1 : Int32)), .val (.int (0 : Int32)), .val (.ref x154), .val (.ref x155), .val (.ref x156), .val (.ref x157), .val (.ref a158), .val (.ref o161), .unset, .unset, .unset, .unset, .unset, .unset, .unset]) rfl ?_
        refine g_iload w at_124 (q := 126) rfl rfl ?_
        refine g_ifN w at_126 (q := 129) rfl (by decide) ?_
        refine g_aload w at_129 (q := 131) rfl rfl rfl ?_
        refine g_static w (con_of l Z a0 hw x157 _ w.old) no0 at_131 (q := 134) rfl rfl (Hw hw 349 rfl) (Hw hw 128 rfl) (Hw hw 59 rfl) (Hw hw 129 rfl) (by decide) pd16 rfl rfl (W := 0) (Nat.le_of_eq rfl) (by decide) (by decide) (by decide) (by decide) (fun T h v w gs C q => ?_)
        obtain ⟨o163, rfl, E, g_o163, X_o163, F_value_o163⟩ := q
        have z_o163 := Nat.le_trans E0.1 g_o163
        have ne_a158_o163 : a158 ≠ o163 := Nat.ne_of_lt (Nat.lt_of_lt_of_le X_a158.lt g_o163)
        have ne_o161_o163 : o161 ≠ o163 := Nat.ne_of_lt (Nat.lt_of_lt_of_le X_o161.lt g_o163)
        have ne_x154_o163 : x154 ≠ o163 := Nat.ne_of_lt (Nat.lt_of_lt_of_le X_x154.lt g_o163)
        have ne_x155_o163 : x155 ≠ o163 := Nat.ne_of_lt (Nat.lt_of_lt_of_le X_x155.lt g_o163)
        have ne_x156_o163 : x156 ≠ o163 := Nat.ne_of_lt (Nat.lt_of_lt_of_le X_x156.lt g_o163)
        have ne_x157_o163 : x157 ≠ o163 := Nat.ne_of_lt (Nat.lt_of_lt_of_le X_x157.lt g_o163)
        replace E0 := ext_trans E0 E
        replace X_x154 := X_x154.ext E
        replace X_x155 := X_x155.ext E
        replace X_x156 := X_x156.ext E
        replace X_x157 := X_x157.ext E
        replace X_a158 := X_a158.ext E
        replace F_elementData_a158 := F_elementData_a158.ext E
        replace F_size_a158 := F_size_a158.ext E
        replace F_modCount_a158 := F_modCount_a158.ext E
        replace X_o161 := X_o161.ext E
        replace F_value_o161 := F_value_o161.ext E
        show Go p e below _ (State.setTop T (mkF m 134 #[.val (.int fl), .val (.int j1), .val (.int j2), .val (.int j3), .val (.int av), .val (.int j5), .val (.ref sv), .val (.int (1 : Int32)), .val (.int (1 : Int32)), .val (.int (0 : Int32)), .val (.ref x154), .val (.ref x155), .val (.ref x156), .val (.ref x157), .val (.ref a158), .val (.ref o161), .unset, .unset, .unset, .unset, .unset, .unset, .unset] [(.ref o163)]))
        refine g_goto w at_134 (by decide) (q := 140) (by decide) ?_
        refine g_astore w at_140 (q := 142) rfl rfl (Ls' := #[.val (.int fl), .val (.int j1), .val (.int j2), .val (.int j3), .val (.int av), .val (.int j5), .val (.ref sv), .val (.int (1 : Int32)), .val (.int (1 : Int32)), .val (.int (0 : Int32)), .val (.ref x154), .val (.ref x155), .val (.ref x156), .val (.ref x157), .val (.ref a158), .val (.ref o161), .val (.ref o163), .unset, .unset, .unset, .unset, .unset, .unset]) rfl ?_
        refine g_new w at_142 (q := 145) rfl (Hw hw 62 rfl) (Hw hw 63 rfl) (Hw hw 64 rfl) (by decide) (by decide) (fun T h a164 w E g_a164 n_a164 X_a164 D_a164 s_a164 => ?_)
        have z_a164 := Nat.le_trans E0.1 g_a164
        have ne_a158_a164 : a158 ≠ a164 := Nat.ne_of_lt (Nat.lt_of_lt_of_le X_a158.lt g_a164)
        have ne_o161_a164 : o161 ≠ a164 := Nat.ne_of_lt (Nat.lt_of_lt_of_le X_o161.lt g_a164)
        have ne_o163_a164 : o163 ≠ a164 := Nat.ne_of_lt (Nat.lt_of_lt_of_le X_o163.lt g_a164)
        have ne_x154_a164 : x154 ≠ a164 := Nat.ne_of_lt (Nat.lt_of_lt_of_le X_x154.lt g_a164)
        have ne_x155_a164 : x155 ≠ a164 := Nat.ne_of_lt (Nat.lt_of_lt_of_le X_x155.lt g_a164)
        have ne_x156_a164 : x156 ≠ a164 := Nat.ne_of_lt (Nat.lt_of_lt_of_le X_x156.lt g_a164)
        have ne_x157_a164 : x157 ≠ a164 := Nat.ne_of_lt (Nat.lt_of_lt_of_le X_x157.lt g_a164)
        replace E0 := ext_trans E0 E
        replace X_x154 := X_x154.ext E
        replace X_x155 := X_x155.ext E
        replace X_x156 := X_x156.ext E
        replace X_x157 := X_x157.ext E
        replace X_a158 := X_a158.ext E
        replace F_elementData_a158 := F_elementData_a158.ext E
        replace F_size_a158 := F_size_a158.ext E
        replace F_modCount_a158 := F_modCount_a158.ext E
        replace X_o161 := X_o161.ext E
        replace F_value_o161 := F_value_o161.ext E
        replace X_o163 := X_o163.ext E
        replace F_value_o163 := F_value_o163.ext E
        have F_severity_a164 := D_a164 (Or.inr (Hw hw 112 rfl)) (ty := (.object "com/example/stepwize/stepwize/engine/Message$Severity")) (by decide)
        replace F_severity_a164 : Fld Z h a164 "com/example/stepwize/stepwize/engine/Message" "severity" "Lcom/example/stepwize/stepwize/engine/Message$Severity;" .null := F_severity_a164
        have F_source_a164 := D_a164 (Or.inr (Hw hw 114 rfl)) (ty := (.object "java/util/Optional")) (by decide)
        replace F_source_a164 : Fld Z h a164 "com/example/stepwize/stepwize/engine/Message" "source" "Ljava/util/Optional;" .null := F_source_a164
        have F_code_a164 := D_a164 (Or.inr (Hw hw 116 rfl)) (ty := (.object "java/util/Optional")) (by decide)
        replace F_code_a164 : Fld Z h a164 "com/example/stepwize/stepwize/engine/Message" "code" "Ljava/util/Optional;" .null := F_code_a164
        have F_arguments_a164 := D_a164 (Or.inr (Hw hw 118 rfl)) (ty := (.object "java/util/List")) (by decide)
        replace F_arguments_a164 : Fld Z h a164 "com/example/stepwize/stepwize/engine/Message" "arguments" "Ljava/util/List;" .null := F_arguments_a164
        have F_text_a164 := D_a164 (Or.inr (Hw hw 120 rfl)) (ty := (.object "java/lang/String")) (by decide)
        replace F_text_a164 : Fld Z h a164 "com/example/stepwize/stepwize/engine/Message" "text" "Ljava/lang/String;" .null := F_text_a164
        refine g_dup w at_145 (q := 146) rfl rfl ?_
        refine g_aload w at_146 (q := 148) rfl rfl rfl ?_
        refine g_aload w at_148 (q := 150) rfl rfl rfl ?_
        refine g_aload w at_150 (q := 152) rfl rfl rfl ?_
        refine g_aload w at_152 (q := 154) rfl rfl rfl ?_
        refine g_aload w at_154 (q := 156) rfl rfl rfl ?_
        refine g_special w (con_mi_a l Z a0 hw a164 sv o161 o163 a158 x156 el _ w.old X_a164 F_severity_a164 F_source_a164 F_code_a164 F_arguments_a164 F_text_a164 n_a164 X_a158 F_size_a158 SL_) no0 at_156 (q := 159) rfl rfl rfl (Hw hw 65 rfl) (Hw hw 66 rfl) (Hw hw 64 rfl) (Hw hw 67 rfl) (by decide) pd17 rfl rfl (W := 1) (Nat.le_of_eq rfl) (by decide) (by decide) (by decide) (by decide) (fun T h v w gs C q => ?_)
        obtain ⟨rfl, K, G_severity, G_source, G_code, G_arguments, G_text⟩ := q
        replace E0 := ext_keep E0 K z_a164
        have X0 := X_a164
        replace X_x154 := X_x154.keep K
        replace X_x155 := X_x155.keep K
        replace X_x156 := X_x156.keep K
        replace X_x157 := X_x157.keep K
        replace X_a158 := X_a158.keep K
        replace F_elementData_a158 := F_elementData_a158.keep K (not1 ne_a158_a164)
        replace F_size_a158 := F_size_a158.keep K (not1 ne_a158_a164)
        replace F_modCount_a158 := F_modCount_a158.keep K (not1 ne_a158_a164)
        replace X_o161 := X_o161.keep K
        replace F_value_o161 := F_value_o161.keep K (not1 ne_o161_a164)
        replace X_o163 := X_o163.keep K
        replace F_value_o163 := F_value_o163.keep K (not1 ne_o163_a164)
        replace X_a164 := X_a164.keep K
        replace F_severity_a164 := G_severity
        replace F_source_a164 := G_source
        replace F_code_a164 := G_code
        replace F_arguments_a164 := G_arguments
        replace F_text_a164 := G_text
        have X_el := XL_.ext w.old
        have F_an_el := FLa_.ext w.old
        have F_ee_el := FLe_.ext w.old
        have A_ee := AL0_.ext w.old
        show Go p e below _ (State.setTop T (mkF m 159 #[.val (.int fl), .val (.int j1), .val (.int j2), .val (.int j3), .val (.int av), .val (.int j5), .val (.ref sv), .val (.int (1 : Int32)), .val (.int (1 : Int32)), .val (.int (0 : Int32)), .val (.ref x154), .val (.ref x155), .val (.ref x156), .val (.ref x157), .val (.ref a158), .val (.ref o161), .val (.ref o163), .unset, .unset, .unset, .unset, .unset, .unset] [(.ref a164)]))
        refine g_astore w at_159 (q := 161) rfl rfl (Ls' := #[.val (.int fl), .val (.int j1), .val (.int j2), .val (.int j3), .val (.int av), .val (.int j5), .val (.ref sv), .val (.int (1 : Int32)), .val (.int (1 : Int32)), .val (.int (0 : Int32)), .val (.ref x154), .val (.ref x155), .val (.ref x156), .val (.ref x157), .val (.ref a158), .val (.ref o161), .val (.ref o163), .val (.ref a164), .unset, .unset, .unset, .unset, .unset]) rfl ?_
        refine g_aload w at_161 (q := 163) rfl rfl rfl ?_
        refine g_aload w at_163 (q := 165) rfl rfl rfl ?_
        refine g_virtual w (con_ab_c l Z a0 hw a164 x154 sv o163 el x156 _ w.old F_severity_a164 F_code_a164 F_arguments_a164 F_text_a164 X_el F_an_el) no0 X_a164 at_165 (q := 168) rfl rfl (Hw hw 121 rfl) (Hw hw 122 rfl) (Hw hw 124 rfl) (Hw hw 123 rfl) (Hw hw 64 rfl) (Hw hw 125 rfl) (by decide) (nf (Hw hw 124 rfl)) pd22 rfl rfl (W := 0) (Nat.le_of_eq rfl) (by decide) (by decide) (by decide) (by decide) (fun T h v w gs C q => ?_)
        obtain ⟨r165, o166, rfl, E, g_r165, X_r165, F_severity_r165, F_source_r165, F_code_r165, F_arguments_r165, F_text_r165, X_o166, F_value_o166⟩ := q
        have z_r165 := Nat.le_trans E0.1 g_r165
        have ne_a158_r165 : a158 ≠ r165 := Nat.ne_of_lt (Nat.lt_of_lt_of_le X_a158.lt g_r165)
        have ne_a164_r165 : a164 ≠ r165 := Nat.ne_of_lt (Nat.lt_of_lt_of_le X_a164.lt g_r165)
        have ne_ee_r165 : ee ≠ r165 := Nat.ne_of_lt (Nat.lt_of_lt_of_le A_ee.lt g_r165)
        have ne_el_r165 : el ≠ r165 := Nat.ne_of_lt (Nat.lt_of_lt_of_le X_el.lt g_r165)
        have ne_o161_r165 : o161 ≠ r165 := Nat.ne_of_lt (Nat.lt_of_lt_of_le X_o161.lt g_r165)
        have ne_o163_r165 : o163 ≠ r165 := Nat.ne_of_lt (Nat.lt_of_lt_of_le X_o163.lt g_r165)
        have ne_x154_r165 : x154 ≠ r165 := Nat.ne_of_lt (Nat.lt_of_lt_of_le X_x154.lt g_r165)
        have ne_x155_r165 : x155 ≠ r165 := Nat.ne_of_lt (Nat.lt_of_lt_of_le X_x155.lt g_r165)
        have ne_x156_r165 : x156 ≠ r165 := Nat.ne_of_lt (Nat.lt_of_lt_of_le X_x156.lt g_r165)
        have ne_x157_r165 : x157 ≠ r165 := Nat.ne_of_lt (Nat.lt_of_lt_of_le X_x157.lt g_r165)
        replace E0 := ext_trans E0 E
        replace X_x154 := X_x154.ext E
        replace X_x155 := X_x155.ext E
        replace X_x156 := X_x156.ext E
        replace X_x157 := X_x157.ext E
        replace X_a158 := X_a158.ext E
        replace F_elementData_a158 := F_elementData_a158.ext E
        replace F_size_a158 := F_size_a158.ext E
        replace F_modCount_a158 := F_modCount_a158.ext E
        replace X_o161 := X_o161.ext E
        replace F_value_o161 := F_value_o161.ext E
        replace X_o163 := X_o163.ext E
        replace F_value_o163 := F_value_o163.ext E
        replace X_a164 := X_a164.ext E
        replace F_severity_a164 := F_severity_a164.ext E
        replace F_source_a164 := F_source_a164.ext E
        replace F_code_a164 := F_code_a164.ext E
        replace F_arguments_a164 := F_arguments_a164.ext E
        replace F_text_a164 := F_text_a164.ext E
        replace X_el := X_el.ext E
        replace F_an_el := F_an_el.ext E
        replace F_ee_el := F_ee_el.ext E
        replace A_ee := A_ee.ext E
        show Go p e below _ (State.setTop T (mkF m 168 #[.val (.int fl), .val (.int j1), .val (.int j2), .val (.int j3), .val (.int av), .val (.int j5), .val (.ref sv), .val (.int (1 : Int32)), .val (.int (1 : Int32)), .val (.int (0 : Int32)), .val (.ref x154), .val (.ref x155), .val (.ref x156), .val (.ref x157), .val (.ref a158), .val (.ref o161), .val (.ref o163), .val (.ref a164), .unset, .unset, .unset, .unset, .unset] [(.ref r165)]))
        refine g_astore w at_168 (q := 170) rfl rfl (Ls' := #[.val (.int fl), .val (.int j1), .val (.int j2), .val (.int j3), .val (.int av), .val (.int j5), .val (.ref sv), .val (.int (1 : Int32)), .val (.int (1 : Int32)), .val (.int (0 : Int32)), .val (.ref x154), .val (.ref x155), .val (.ref x156), .val (.ref x157), .val (.ref a158), .val (.ref o161), .val (.ref o163), .val (.ref a164), .val (.ref r165), .unset, .unset, .unset, .unset]) rfl ?_
        refine g_aload w at_170 (q := 172) rfl rfl rfl ?_
        refine g_nonnullY w at_172 (by decide) (q := 177) (by decide) ?_
        refine g_aload w at_177 (q := 179) rfl rfl rfl ?_
        refine g_virtualP w (con_g_severity l Z a0 hw r165 sv _ w.old F_severity_r165) no0 X_r165 at_179 (q := 182) rfl rfl (Hw hw 151 rfl) (Hw hw 152 rfl) (Hw hw 154 rfl) (Hw hw 153 rfl) (Hw hw 64 rfl) (Hw hw 155 rfl) (by decide) (nf (Hw hw 154 rfl)) pd23 rfl rfl (W := 0) (Nat.le_of_eq rfl) (by decide) (by decide) (by decide) (by decide) (fun T v w C q => ?_)
        obtain rfl := q
        show Go p e below _ (State.setTop T (mkF m 182 #[.val (.int fl), .val (.int j1), .val (.int j2), .val (.int j3), .val (.int av), .val (.int j5), .val (.ref sv), .val (.int (1 : Int32)), .val (.int (1 : Int32)), .val (.int (0 : Int32)), .val (.ref x154), .val (.ref x155), .val (.ref x156), .val (.ref x157), .val (.ref a158), .val (.ref o161), .val (.ref o163), .val (.ref a164), .val (.ref r165), .unset, .unset, .unset, .unset] [(.ref sv)]))
        refine g_aload w at_182 (q := 184) rfl rfl rfl ?_
        refine g_acY w at_184 (by decide) (q := 189) (by decide) rfl rfl (Jvm.Free.XT.aa_eq_t rfl) ?_
        refine g_aload w at_189 (q := 191) rfl rfl rfl ?_
        refine g_virtualP w (con_g_source l Z a0 hw r165 o166 _ w.old F_source_r165) no0 X_r165 at_191 (q := 194) rfl rfl (Hw hw 156 rfl) (Hw hw 157 rfl) (Hw hw 159 rfl) (Hw hw 158 rfl) (Hw hw 64 rfl) (Hw hw 160 rfl) (by decide) (nf (Hw hw 159 rfl)) pd21 rfl rfl (W := 0) (Nat.le_of_eq rfl) (by decide) (by decide) (by decide) (by decide) (fun T v w C q => ?_)
        obtain rfl := q
        show Go p e below _ (State.setTop T (mkF m 194 #[.val (.int fl), .val (.int j1), .val (.int j2), .val (.int j3), .val (.int av), .val (.int j5), .val (.ref sv), .val (.int (1 : Int32)), .val (.int (1 : Int32)), .val (.int (0 : Int32)), .val (.ref x154), .val (.ref x155), .val (.ref x156), .val (.ref x157), .val (.ref a158), .val (.ref o161), .val (.ref o163), .val (.ref a164), .val (.ref r165), .unset, .unset, .unset, .unset] [(.ref o166)]))
        refine g_astore w at_194 (q := 196) rfl rfl (Ls' := #[.val (.int fl), .val (.int j1), .val (.int j2), .val (.int j3), .val (.int av), .val (.int j5), .val (.ref sv), .val (.int (1 : Int32)), .val (.int (1 : Int32)), .val (.int (0 : Int32)), .val (.ref x154), .val (.ref x155), .val (.ref x156), .val (.ref x157), .val (.ref a158), .val (.ref o161), .val (.ref o163), .val (.ref a164), .val (.ref r165), .val (.ref o166), .unset, .unset, .unset]) rfl ?_
        refine g_aload w at_196 (q := 198) rfl rfl rfl ?_
        refine g_virtualP w (con_ip1 l Z a0 hw o166 x154 _ w.old F_value_o166) no0 X_o166 at_198 (q := 201) rfl rfl (Hw hw 161 rfl) (Hw hw 162 rfl) (Hw hw 164 rfl) (Hw hw 163 rfl) (Hw hw 59 rfl) (Hw hw 165 rfl) (by decide) (nf (Hw hw 164 rfl)) pd11 rfl rfl (W := 0) (Nat.le_of_eq rfl) (by decide) (by decide) (by decide) (by decide) (fun T v w C q => ?_)
        obtain rfl := q
        show Go p e below _ (State.setTop T (mkF m 201 #[.val (.int fl), .val (.int j1), .val (.int j2), .val (.int j3), .val (.int av), .val (.int j5), .val (.ref sv), .val (.int (1 : Int32)), .val (.int (1 : Int32)), .val (.int (0 : Int32)), .val (.ref x154), .val (.ref x155), .val (.ref x156), .val (.ref x157), .val (.ref a158), .val (.ref o161), .val (.ref o163), .val (.ref a164), .val (.ref r165), .val (.ref o166), .unset, .unset, .unset] [(.int (1 : Int32))]))
        refine g_ifN w at_201 (q := 204) rfl (by decide) ?_
        refine g_aload w at_204 (q := 206) rfl rfl rfl ?_
        refine g_virtualP w (con_oget l Z a0 hw o166 x154 _ w.old F_value_o166) no0 X_o166 at_206 (q := 209) rfl rfl (Hw hw 166 rfl) (Hw hw 167 rfl) (Hw hw 169 rfl) (Hw hw 168 rfl) (Hw hw 59 rfl) (Hw hw 170 rfl) (by decide) (nf (Hw hw 169 rfl)) pd24 rfl rfl (W := 0) (Nat.le_of_eq rfl) (by decide) (by decide) (by decide) (by decide) (fun T v w C q => ?_)
        obtain rfl := q
        show Go p e below _ (State.setTop T (mkF m 209 #[.val (.int fl), .val (.int j1), .val (.int j2), .val (.int j3), .val (.int av), .val (.int j5), .val (.ref sv), .val (.int (1 : Int32)), .val (.int (1 : Int32)), .val (.int (0 : Int32)), .val (.ref x154), .val (.ref x155), .val (.ref x156), .val (.ref x157), .val (.ref a158), .val (.ref o161), .val (.ref o163), .val (.ref a164), .val (.ref r165), .val (.ref o166), .unset, .unset, .unset] [(.ref x154)]))
        refine g_cast w at_209 (q := 212) rfl (Hw hw 11 rfl) (Ins.self X_x154) (fun T w => ?_)
        refine g_aload w at_212 (q := 214) rfl rfl rfl ?_
        refine g_virtualP w (con_eq1 l Z a0 hw x154 _ w.old) no0 X_x154 at_214 (q := 217) rfl rfl (Hw hw 171 rfl) (Hw hw 172 rfl) (Hw hw 174 rfl) (Hw hw 173 rfl) (Hw hw 13 rfl) (Hw hw 175 rfl) (by decide) (nf (Hw hw 174 rfl)) pd25 rfl rfl (W := 0) (Nat.le_of_eq rfl) (by decide) (by decide) (by decide) (by decide) (fun T v w C q => ?_)
        obtain rfl := q
        show Go p e below _ (State.setTop T (mkF m 217 #[.val (.int fl), .val (.int j1), .val (.int j2), .val (.int j3), .val (.int av), .val (.int j5), .val (.ref sv), .val (.int (1 : Int32)), .val (.int (1 : Int32)), .val (.int (0 : Int32)), .val (.ref x154), .val (.ref x155), .val (.ref x156), .val (.ref x157), .val (.ref a158), .val (.ref o161), .val (.ref o163), .val (.ref a164), .val (.ref r165), .val (.ref o166), .unset, .unset, .unset] [(.int (1 : Int32))]))
        refine g_ifY w at_217 (by decide) (q := 222) (by decide) (by decide) ?_
        refine g_aload w at_222 (q := 224) rfl rfl rfl ?_
        refine g_virtualP w (con_g_code l Z a0 hw r165 o163 _ w.old F_code_r165) no0 X_r165 at_224 (q := 227) rfl rfl (Hw hw 176 rfl) (Hw hw 177 rfl) (Hw hw 179 rfl) (Hw hw 178 rfl) (Hw hw 64 rfl) (Hw hw 180 rfl) (by decide) (nf (Hw hw 179 rfl)) pd21 rfl rfl (W := 0) (Nat.le_of_eq rfl) (by decide) (by decide) (by decide) (by decide) (fun T v w C q => ?_)
        obtain rfl := q
        show Go p e below _ (State.setTop T (mkF m 227 #[.val (.int fl), .val (.int j1), .val (.int j2), .val (.int j3), .val (.int av), .val (.int j5), .val (.ref sv), .val (.int (1 : Int32)), .val (.int (1 : Int32)), .val (.int (0 : Int32)), .val (.ref x154), .val (.ref x155), .val (.ref x156), .val (.ref x157), .val (.ref a158), .val (.ref o161), .val (.ref o163), .val (.ref a164), .val (.ref r165), .val (.ref o166), .unset, .unset, .unset] [(.ref o163)]))
        refine g_astore w at_227 (q := 229) rfl rfl (Ls' := #[.val (.int fl), .val (.int j1), .val (.int j2), .val (.int j3), .val (.int av), .val (.int j5), .val (.ref sv), .val (.int (1 : Int32)), .val (.int (1 : Int32)), .val (.int (0 : Int32)), .val (.ref x154), .val (.ref x155), .val (.ref x156), .val (.ref x157), .val (.ref a158), .val (.ref o161), .val (.ref o163), .val (.ref a164), .val (.ref r165), .val (.ref o166), .val (.ref o163), .unset, .unset]) rfl ?_
        refine g_aload w at_229 (q := 231) rfl rfl rfl ?_
        refine g_virtualP w (con_ip1 l Z a0 hw o163 x157 _ w.old F_value_o163) no0 X_o163 at_231 (q := 234) rfl rfl (Hw hw 161 rfl) (Hw hw 162 rfl) (Hw hw 164 rfl) (Hw hw 163 rfl) (Hw hw 59 rfl) (Hw hw 165 rfl) (by decide) (nf (Hw hw 164 rfl)) pd11 rfl rfl (W := 0) (Nat.le_of_eq rfl) (by decide) (by decide) (by decide) (by decide) (fun T v w C q => ?_)
        obtain rfl := q
        show Go p e below _ (State.setTop T (mkF m 234 #[.val (.int fl), .val (.int j1), .val (.int j2), .val (.int j3), .val (.int av), .val (.int j5), .val (.ref sv), .val (.int (1 : Int32)), .val (.int (1 : Int32)), .val (.int (0 : Int32)), .val (.ref x154), .val (.ref x155), .val (.ref x156), .val (.ref x157), .val (.ref a158), .val (.ref o161), .val (.ref o163), .val (.ref a164), .val (.ref r165), .val (.ref o166), .val (.ref o163), .unset, .unset] [(.int (1 : Int32))]))
        refine g_iload w at_234 (q := 236) rfl rfl ?_
        refine g_icY w at_236 (by decide) (q := 241) (by decide) (Jvm.Free.XT.ii_eq_t rfl) ?_
        refine g_iload w at_241 (q := 243) rfl rfl ?_
        refine g_ifN w at_243 (q := 246) rfl (by decide) ?_
        refine g_aload w at_246 (q := 248) rfl rfl rfl ?_
        refine g_virtualP w (con_oget l Z a0 hw o163 x157 _ w.old F_value_o163) no0 X_o163 at_248 (q := 251) rfl rfl (Hw hw 166 rfl) (Hw hw 167 rfl) (Hw hw 169 rfl) (Hw hw 168 rfl) (Hw hw 59 rfl) (Hw hw 170 rfl) (by decide) (nf (Hw hw 169 rfl)) pd24 rfl rfl (W := 0) (Nat.le_of_eq rfl) (by decide) (by decide) (by decide) (by decide) (fun T v w C q => ?_)
        obtain rfl := q
        show Go p e below _ (State.setTop T (mkF m 251 #[.val (.int fl), .val (.int j1), .val (.int j2), .val (.int j3), .val (.int av), .val (.int j5), .val (.ref sv), .val (.int (1 : Int32)), .val (.int (1 : Int32)), .val (.int (0 : Int32)), .val (.ref x154), .val (.ref x155), .val (.ref x156), .val (.ref x157), .val (.ref a158), .val (.ref o161), .val (.ref o163), .val (.ref a164), .val (.ref r165), .val (.ref o166), .val (.ref o163), .unset, .unset] [(.ref x157)]))
        refine g_cast w at_251 (q := 254) rfl (Hw hw 11 rfl) (Ins.self X_x157) (fun T w => ?_)
        refine g_aload w at_254 (q := 256) rfl rfl rfl ?_
        refine g_virtualP w (con_eq1 l Z a0 hw x157 _ w.old) no0 X_x157 at_256 (q := 259) rfl rfl (Hw hw 171 rfl) (Hw hw 172 rfl) (Hw hw 174 rfl) (Hw hw 173 rfl) (Hw hw 13 rfl) (Hw hw 175 rfl) (by decide) (nf (Hw hw 174 rfl)) pd25 rfl rfl (W := 0) (Nat.le_of_eq rfl) (by decide) (by decide) (by decide) (by decide) (fun T v w C q => ?_)
        obtain rfl := q
        show Go p e below _ (State.setTop T (mkF m 259 #[.val (.int fl), .val (.int j1), .val (.int j2), .val (.int j3), .val (.int av), .val (.int j5), .val (.ref sv), .val (.int (1 : Int32)), .val (.int (1 : Int32)), .val (.int (0 : Int32)), .val (.ref x154), .val (.ref x155), .val (.ref x156), .val (.ref x157), .val (.ref a158), .val (.ref o161), .val (.ref o163), .val (.ref a164), .val (.ref r165), .val (.ref o166), .val (.ref o163), .unset, .unset] [(.int (1 : Int32))]))
        refine g_ifY w at_259 (by decide) (q := 264) (by decide) (by decide) ?_
        refine g_aload w at_264 (q := 266) rfl rfl rfl ?_
        refine g_virtualP w (con_g_arguments l Z a0 hw r165 el _ w.old F_arguments_r165) no0 X_r165 at_266 (q := 269) rfl rfl (Hw hw 181 rfl) (Hw hw 182 rfl) (Hw hw 184 rfl) (Hw hw 183 rfl) (Hw hw 64 rfl) (Hw hw 185 rfl) (by decide) (nf (Hw hw 184 rfl)) pd12 rfl rfl (W := 0) (Nat.le_of_eq rfl) (by decide) (by decide) (by decide) (by decide) (fun T v w C q => ?_)
        obtain rfl := q
        show Go p e below _ (State.setTop T (mkF m 269 #[.val (.int fl), .val (.int j1), .val (.int j2), .val (.int j3), .val (.int av), .val (.int j5), .val (.ref sv), .val (.int (1 : Int32)), .val (.int (1 : Int32)), .val (.int (0 : Int32)), .val (.ref x154), .val (.ref x155), .val (.ref x156), .val (.ref x157), .val (.ref a158), .val (.ref o161), .val (.ref o163), .val (.ref a164), .val (.ref r165), .val (.ref o166), .val (.ref o163), .unset, .unset] [(.ref el)]))
        refine g_astore w at_269 (q := 271) rfl rfl (Ls' := #[.val (.int fl), .val (.int j1), .val (.int j2), .val (.int j3), .val (.int av), .val (.int j5), .val (.ref sv), .val (.int (1 : Int32)), .val (.int (1 : Int32)), .val (.int (0 : Int32)), .val (.ref x154), .val (.ref x155), .val (.ref x156), .val (.ref x157), .val (.ref a158), .val (.ref o161), .val (.ref o163), .val (.ref a164), .val (.ref r165), .val (.ref o166), .val (.ref o163), .val (.ref el), .unset]) rfl ?_
        refine g_aload w at_271 (q := 273) rfl rfl rfl ?_
        refine g_ifaceP w (con_lns l Z a0 hw el ee _ w.old F_ee_el A_ee) no0 X_el at_273 (q := 278) rfl rfl (Hw hw 186 rfl) (Hw hw 187 rfl) (Hw hw 188 rfl) (by decide) (Hw hw 191 rfl) (Hw hw 192 rfl) (Hw hw 150 rfl) (Hw hw 189 rfl) (Hw hw 190 rfl) (Hw hw 193 rfl) (Hw hw 194 rfl) (by decide) pd26 rfl rfl (W := 0) (Nat.le_of_eq rfl) (by decide) (by decide) (by decide) (by decide) (fun T v w C q => ?_)
        obtain rfl := q
        show Go p e below _ (State.setTop T (mkF m 278 #[.val (.int fl), .val (.int j1), .val (.int j2), .val (.int j3), .val (.int av), .val (.int j5), .val (.ref sv), .val (.int (1 : Int32)), .val (.int (1 : Int32)), .val (.int (0 : Int32)), .val (.ref x154), .val (.ref x155), .val (.ref x156), .val (.ref x157), .val (.ref a158), .val (.ref o161), .val (.ref o163), .val (.ref a164), .val (.ref r165), .val (.ref o166), .val (.ref o163), .val (.ref el), .unset] [(.int (0 : Int32))]))
        refine g_iload w at_278 (q := 280) rfl rfl ?_
        refine g_ifY w at_280 (by decide) (q := 287) (by decide) (by decide) ?_
        refine g_iconst w at_287 (q := 288) rfl (v := (0 : Int32)) (by decide) ?_
        refine g_icY w at_288 (by decide) (q := 293) (by decide) (Jvm.Free.XT.ii_eq_t rfl) ?_
        refine g_iload w at_293 (q := 295) rfl rfl ?_
        refine g_ifY w at_295 (by decide) (q := 319) (by decide) (by decide) ?_
        refine g_aload w at_319 (q := 321) rfl rfl rfl ?_
        refine g_virtualP w (con_g_text l Z a0 hw r165 x156 _ w.old F_text_r165) no0 X_r165 at_321 (q := 324) rfl rfl (Hw hw 197 rfl) (Hw hw 198 rfl) (Hw hw 200 rfl) (Hw hw 199 rfl) (Hw hw 64 rfl) (Hw hw 201 rfl) (by decide) (nf (Hw hw 200 rfl)) pd27 rfl rfl (W := 0) (Nat.le_of_eq rfl) (by decide) (by decide) (by decide) (by decide) (fun T v w C q => ?_)
        obtain rfl := q
        show Go p e below _ (State.setTop T (mkF m 324 #[.val (.int fl), .val (.int j1), .val (.int j2), .val (.int j3), .val (.int av), .val (.int j5), .val (.ref sv), .val (.int (1 : Int32)), .val (.int (1 : Int32)), .val (.int (0 : Int32)), .val (.ref x154), .val (.ref x155), .val (.ref x156), .val (.ref x157), .val (.ref a158), .val (.ref o161), .val (.ref o163), .val (.ref a164), .val (.ref r165), .val (.ref o166), .val (.ref o163), .val (.ref el), .unset] [(.ref x156)]))
        refine g_aload w at_324 (q := 326) rfl rfl rfl ?_
        refine g_virtualP w (con_eq1 l Z a0 hw x156 _ w.old) no0 X_x156 at_326 (q := 329) rfl rfl (Hw hw 171 rfl) (Hw hw 172 rfl) (Hw hw 174 rfl) (Hw hw 173 rfl) (Hw hw 13 rfl) (Hw hw 175 rfl) (by decide) (nf (Hw hw 174 rfl)) pd25 rfl rfl (W := 0) (Nat.le_of_eq rfl) (by decide) (by decide) (by decide) (by decide) (fun T v w C q => ?_)
        obtain rfl := q
        show Go p e below _ (State.setTop T (mkF m 329 #[.val (.int fl), .val (.int j1), .val (.int j2), .val (.int j3), .val (.int av), .val (.int j5), .val (.ref sv), .val (.int (1 : Int32)), .val (.int (1 : Int32)), .val (.int (0 : Int32)), .val (.ref x154), .val (.ref x155), .val (.ref x156), .val (.ref x157), .val (.ref a158), .val (.ref o161), .val (.ref o163), .val (.ref a164), .val (.ref r165), .val (.ref o166), .val (.ref o163), .val (.ref el), .unset] [(.int (1 : Int32))]))
        refine g_ifY w at_329 (by decide) (q := 334) (by decide) (by decide) ?_
        refine g_aload w at_334 (q := 336) rfl rfl rfl ?_
        refine g_virtualP w (con_g_source l Z a0 hw a164 o161 _ w.old F_source_a164) no0 X_a164 at_336 (q := 339) rfl rfl (Hw hw 156 rfl) (Hw hw 157 rfl) (Hw hw 159 rfl) (Hw hw 158 rfl) (Hw hw 64 rfl) (Hw hw 160 rfl) (by decide) (nf (Hw hw 159 rfl)) pd21 rfl rfl (W := 0) (Nat.le_of_eq rfl) (by decide) (by decide) (by decide) (by decide) (fun T v w C q => ?_)
        obtain rfl := q
        show Go p e below _ (State.setTop T (mkF m 339 #[.val (.int fl), .val (.int j1), .val (.int j2), .val (.int j3), .val (.int av), .val (.int j5), .val (.ref sv), .val (.int (1 : Int32)), .val (.int (1 : Int32)), .val (.int (0 : Int32)), .val (.ref x154), .val (.ref x155), .val (.ref x156), .val (.ref x157), .val (.ref a158), .val (.ref o161), .val (.ref o163), .val (.ref a164), .val (.ref r165), .val (.ref o166), .val (.ref o163), .val (.ref el), .unset] [(.ref o161)]))
        refine g_astore w at_339 (q := 341) rfl rfl (Ls' := #[.val (.int fl), .val (.int j1), .val (.int j2), .val (.int j3), .val (.int av), .val (.int j5), .val (.ref sv), .val (.int (1 : Int32)), .val (.int (1 : Int32)), .val (.int (0 : Int32)), .val (.ref x154), .val (.ref x155), .val (.ref x156), .val (.ref x157), .val (.ref a158), .val (.ref o161), .val (.ref o163), .val (.ref a164), .val (.ref r165), .val (.ref o166), .val (.ref o163), .val (.ref el), .val (.ref o161)]) rfl ?_
        refine g_aload w at_341 (q := 343) rfl rfl rfl ?_
        refine g_virtualP w (con_ip1 l Z a0 hw o161 x155 _ w.old F_value_o161) no0 X_o161 at_343 (q := 346) rfl rfl (Hw hw 161 rfl) (Hw hw 162 rfl) (Hw hw 164 rfl) (Hw hw 163 rfl) (Hw hw 59 rfl) (Hw hw 165 rfl) (by decide) (nf (Hw hw 164 rfl)) pd11 rfl rfl (W := 0) (Nat.le_of_eq rfl) (by decide) (by decide) (by decide) (by decide) (fun T v w C q => ?_)
        obtain rfl := q
        show Go p e below _ (State.setTop T (mkF m 346 #[.val (.int fl), .val (.int j1), .val (.int j2), .val (.int j3), .val (.int av), .val (.int j5), .val (.ref sv), .val (.int (1 : Int32)), .val (.int (1 : Int32)), .val (.int (0 : Int32)), .val (.ref x154), .val (.ref x155), .val (.ref x156), .val (.ref x157), .val (.ref a158), .val (.ref o161), .val (.ref o163), .val (.ref a164), .val (.ref r165), .val (.ref o166), .val (.ref o163), .val (.ref el), .val (.ref o161)] [(.int (1 : Int32))]))
        refine g_iload w at_346 (q := 348) rfl rfl ?_
        refine g_icY w at_348 (by decide) (q := 353) (by decide) (Jvm.Free.XT.ii_eq_t rfl) ?_
        refine g_iload w at_353 (q := 355) rfl rfl ?_
        refine g_ifN w at_355 (q := 358) rfl (by decide) ?_
        refine g_aload w at_358 (q := 360) rfl rfl rfl ?_
        refine g_virtualP w (con_oget l Z a0 hw o161 x155 _ w.old F_value_o161) no0 X_o161 at_360 (q := 363) rfl rfl (Hw hw 166 rfl) (Hw hw 167 rfl) (Hw hw 169 rfl) (Hw hw 168 rfl) (Hw hw 59 rfl) (Hw hw 170 rfl) (by decide) (nf (Hw hw 169 rfl)) pd24 rfl rfl (W := 0) (Nat.le_of_eq rfl) (by decide) (by decide) (by decide) (by decide) (fun T v w C q => ?_)
        obtain rfl := q
        show Go p e below _ (State.setTop T (mkF m 363 #[.val (.int fl), .val (.int j1), .val (.int j2), .val (.int j3), .val (.int av), .val (.int j5), .val (.ref sv), .val (.int (1 : Int32)), .val (.int (1 : Int32)), .val (.int (0 : Int32)), .val (.ref x154), .val (.ref x155), .val (.ref x156), .val (.ref x157), .val (.ref a158), .val (.ref o161), .val (.ref o163), .val (.ref a164), .val (.ref r165), .val (.ref o166), .val (.ref o163), .val (.ref el), .val (.ref o161)] [(.ref x155)]))
        refine g_cast w at_363 (q := 366) rfl (Hw hw 11 rfl) (Ins.self X_x155) (fun T w => ?_)
        refine g_aload w at_366 (q := 368) rfl rfl rfl ?_
        refine g_virtualP w (con_eq1 l Z a0 hw x155 _ w.old) no0 X_x155 at_368 (q := 371) rfl rfl (Hw hw 171 rfl) (Hw hw 172 rfl) (Hw hw 174 rfl) (Hw hw 173 rfl) (Hw hw 13 rfl) (Hw hw 175 rfl) (by decide) (nf (Hw hw 174 rfl)) pd25 rfl rfl (W := 0) (Nat.le_of_eq rfl) (by decide) (by decide) (by decide) (by decide) (fun T v w C q => ?_)
        obtain rfl := q
        show Go p e below _ (State.setTop T (mkF m 371 #[.val (.int fl), .val (.int j1), .val (.int j2), .val (.int j3), .val (.int av), .val (.int j5), .val (.ref sv), .val (.int (1 : Int32)), .val (.int (1 : Int32)), .val (.int (0 : Int32)), .val (.ref x154), .val (.ref x155), .val (.ref x156), .val (.ref x157), .val (.ref a158), .val (.ref o161), .val (.ref o163), .val (.ref a164), .val (.ref r165), .val (.ref o166), .val (.ref o163), .val (.ref el), .val (.ref o161)] [(.int (1 : Int32))]))
        refine g_ifY w at_371 (by decide) (q := 376) (by decide) (by decide) ?_
        refine g_iconst w at_376 (q := 377) rfl (v := (1 : Int32)) (by decide) ?_
        exact g_retn w at_377 rfl (by simp) rfl (by decide) (by decide) rfl
      · refine g_iconst w at_47 (q := 48) rfl (v := (1 : Int32)) (by decide) ?_
        refine g_goto w at_48 (by decide) (q := 52) (by decide) ?_
        refine g_istore w at_52 (q := 54) rfl (Ls' := #[.val (.int fl), .val (.int j1), .val (.int j2), .val (.int j3), .val (.int av), .val (.int j5), .val (.ref sv), .val (.int (1 : Int32)), .val (.int (1 : Int32)), .val (.int (1 : Int32)), .unset, .unset, .unset, .unset, .unset, .unset, .unset, .unset, .unset, .unset, .unset, .unset, .unset]) rfl ?_
        refine g_iloadN w at_54 (q := 55) rfl rfl ?_
        refine g_static w (con_str l Z a0 hw j1 _ w.old hcm) no0 at_55 (q := 58) rfl rfl (Hw hw 8 rfl) (Hw hw 9 rfl) (Hw hw 2 rfl) (Hw hw 10 rfl) (by decide) pd20 rfl rfl (W := 0) (Nat.le_of_eq rfl) (by decide) (by decide) (by decide) (by decide) (fun T h v w gs C q => ?_)
        obtain ⟨x180, rfl, E, g_x180, X_x180⟩ := q
        have z_x180 := Nat.le_trans E0.1 g_x180
        replace E0 := ext_trans E0 E
        show Go p e below _ (State.setTop T (mkF m 58 #[.val (.int fl), .val (.int j1), .val (.int j2), .val (.int j3), .val (.int av), .val (.int j5), .val (.ref sv), .val (.int (1 : Int32)), .val (.int (1 : Int32)), .val (.int (1 : Int32)), .unset, .unset, .unset, .unset, .unset, .unset, .unset, .unset, .unset, .unset, .unset, .unset, .unset] [(.ref x180)]))
        refine g_astore w at_58 (q := 60) rfl rfl (Ls' := #[.val (.int fl), .val (.int j1), .val (.int j2), .val (.int j3), .val (.int av), .val (.int j5), .val (.ref sv), .val (.int (1 : Int32)), .val (.int (1 : Int32)), .val (.int (1 : Int32)), .val (.ref x180), .unset, .unset, .unset, .unset, .unset, .unset, .unset, .unset, .unset, .unset, .unset, .unset]) rfl ?_
        refine g_iloadN w at_60 (q := 61) rfl rfl ?_
        refine g_static w (con_str l Z a0 hw j2 _ w.old hcm) no0 at_61 (q := 64) rfl rfl (Hw hw 8 rfl) (Hw hw 9 rfl) (Hw hw 2 rfl) (Hw hw 10 rfl) (by decide) pd20 rfl rfl (W := 0) (Nat.le_of_eq rfl) (by decide) (by decide) (by decide) (by decide) (fun T h v w gs C q => ?_)
        obtain ⟨x181, rfl, E, g_x181, X_x181⟩ := q
        have z_x181 := Nat.le_trans E0.1 g_x181
        have ne_x180_x181 : x180 ≠ x181 := Nat.ne_of_lt (Nat.lt_of_lt_of_le X_x180.lt g_x181)
        replace E0 := ext_trans E0 E
        replace X_x180 := X_x180.ext E
        show Go p e below _ (State.setTop T (mkF m 64 #[.val (.int fl), .val (.int j1), .val (.int j2), .val (.int j3), .val (.int av), .val (.int j5), .val (.ref sv), .val (.int (1 : Int32)), .val (.int (1 : Int32)), .val (.int (1 : Int32)), .val (.ref x180), .unset, .unset, .unset, .unset, .unset, .unset, .unset, .unset, .unset, .unset, .unset, .unset] [(.ref x181)]))
        refine g_astore w at_64 (q := 66) rfl rfl (Ls' := #[.val (.int fl), .val (.int j1), .val (.int j2), .val (.int j3), .val (.int av), .val (.int j5), .val (.ref sv), .val (.int (1 : Int32)), .val (.int (1 : Int32)), .val (.int (1 : Int32)), .val (.ref x180), .val (.ref x181), .unset, .unset, .unset, .unset, .unset, .unset, .unset, .unset, .unset, .unset, .unset]) rfl ?_
        refine g_iloadN w at_66 (q := 67) rfl rfl ?_
        refine g_static w (con_str l Z a0 hw j3 _ w.old hcm) no0 at_67 (q := 70) rfl rfl (Hw hw 8 rfl) (Hw hw 9 rfl) (Hw hw 2 rfl) (Hw hw 10 rfl) (by decide) pd20 rfl rfl (W := 0) (Nat.le_of_eq rfl) (by decide) (by decide) (by decide) (by decide) (fun T h v w gs C q => ?_)
        obtain ⟨x182, rfl, E, g_x182, X_x182⟩ := q
        have z_x182 := Nat.le_trans E0.1 g_x182
        have ne_x180_x182 : x180 ≠ x182 := Nat.ne_of_lt (Nat.lt_of_lt_of_le X_x180.lt g_x182)
        have ne_x181_x182 : x181 ≠ x182 := Nat.ne_of_lt (Nat.lt_of_lt_of_le X_x181.lt g_x182)
        replace E0 := ext_trans E0 E
        replace X_x180 := X_x180.ext E
        replace X_x181 := X_x181.ext E
        show Go p e below _ (State.setTop T (mkF m 70 #[.val (.int fl), .val (.int j1), .val (.int j2), .val (.int j3), .val (.int av), .val (.int j5), .val (.ref sv), .val (.int (1 : Int32)), .val (.int (1 : Int32)), .val (.int (1 : Int32)), .val (.ref x180), .val (.ref x181), .unset, .unset, .unset, .unset, .unset, .unset, .unset, .unset, .unset, .unset, .unset] [(.ref x182)]))
        refine g_astore w at_70 (q := 72) rfl rfl (Ls' := #[.val (.int fl), .val (.int j1), .val (.int j2), .val (.int j3), .val (.int av), .val (.int j5), .val (.ref sv), .val (.int (1 : Int32)), .val (.int (1 : Int32)), .val (.int (1 : Int32)), .val (.ref x180), .val (.ref x181), .val (.ref x182), .unset, .unset, .unset, .unset, .unset, .unset, .unset, .unset, .unset, .unset]) rfl ?_
        refine g_iload w at_72 (q := 74) rfl rfl ?_
        refine g_static w (con_str l Z a0 hw j5 _ w.old hcm) no0 at_74 (q := 77) rfl rfl (Hw hw 8 rfl) (Hw hw 9 rfl) (Hw hw 2 rfl) (Hw hw 10 rfl) (by decide) pd20 rfl rfl (W := 0) (Nat.le_of_eq rfl) (by decide) (by decide) (by decide) (by decide) (fun T h v w gs C q => ?_)
        obtain ⟨x183, rfl, E, g_x183, X_x183⟩ := q
        have z_x183 := Nat.le_trans E0.1 g_x183
        have ne_x180_x183 : x180 ≠ x183 := Nat.ne_of_lt (Nat.lt_of_lt_of_le X_x180.lt g_x183)
        have ne_x181_x183 : x181 ≠ x183 := Nat.ne_of_lt (Nat.lt_of_lt_of_le X_x181.lt g_x183)
        have ne_x182_x183 : x182 ≠ x183 := Nat.ne_of_lt (Nat.lt_of_lt_of_le X_x182.lt g_x183)
        replace E0 := ext_trans E0 E
        replace X_x180 := X_x180.ext E
        replace X_x181 := X_x181.ext E
        replace X_x182 := X_x182.ext E
        show Go p e below _ (State.setTop T (mkF m 77 #[.val (.int fl), .val (.int j1), .val (.int j2), .val (.int j3), .val (.int av), .val (.int j5), .val (.ref sv), .val (.int (1 : Int32)), .val (.int (1 : Int32)), .val (.int (1 : Int32)), .val (.ref x180), .val (.ref x181), .val (.ref x182), .unset, .unset, .unset, .unset, .unset, .unset, .unset, .unset, .unset, .unset] [(.ref x183)]))
        refine g_astore w at_77 (q := 79) rfl rfl (Ls' := #[.val (.int fl), .val (.int j1), .val (.int j2), .val (.int j3), .val (.int av), .val (.int j5), .val (.ref sv), .val (.int (1 : Int32)), .val (.int (1 : Int32)), .val (.int (1 : Int32)), .val (.ref x180), .val (.ref x181), .val (.ref x182), .val (.ref x183), .unset, .unset, .unset, .unset, .unset, .unset, .unset, .unset, .unset]) rfl ?_
        refine g_new w at_79 (q := 82) rfl (Hw hw 33 rfl) (Hw hw 34 rfl) (Hw hw 35 rfl) (by decide) (by decide) (fun T h a184 w E g_a184 n_a184 X_a184 D_a184 s_a184 => ?_)
        have z_a184 := Nat.le_trans E0.1 g_a184
        have ne_x180_a184 : x180 ≠ a184 := Nat.ne_of_lt (Nat.lt_of_lt_of_le X_x180.lt g_a184)
        have ne_x181_a184 : x181 ≠ a184 := Nat.ne_of_lt (Nat.lt_of_lt_of_le X_x181.lt g_a184)
        have ne_x182_a184 : x182 ≠ a184 := Nat.ne_of_lt (Nat.lt_of_lt_of_le X_x182.lt g_a184)
        have ne_x183_a184 : x183 ≠ a184 := Nat.ne_of_lt (Nat.lt_of_lt_of_le X_x183.lt g_a184)
        replace E0 := ext_trans E0 E
        replace X_x180 := X_x180.ext E
        replace X_x181 := X_x181.ext E
        replace X_x182 := X_x182.ext E
        replace X_x183 := X_x183.ext E
        have F_modCount_a184 := D_a184 (Or.inl (Hw hw 53 rfl)) (ty := .int) (by decide)
        replace F_modCount_a184 : Fld Z h a184 "java/util/AbstractList" "modCount" "I" (.int (0 : Int32)) := F_modCount_a184
        have F_elementData_a184 := D_a184 (Or.inl (Hw hw 56 rfl)) (ty := (.array (.object "java/lang/Object"))) (by decide)
        replace F_elementData_a184 : Fld Z h a184 "java/util/ArrayList" "elementData" "[Ljava/lang/Object;" .null := F_elementData_a184
        have F_size_a184 := D_a184 (Or.inl (Hw hw 105 rfl)) (ty := .int) (by decide)
        replace F_size_a184 : Fld Z h a184 "java/util/ArrayList" "size" "I" (.int (0 : Int32)) := F_size_a184
        refine g_dup w at_82 (q := 83) rfl rfl ?_
        refine g_special w (con_al l Z a0 hw a184 df _ w.old X_a184 F_elementData_a184 F_size_a184 F_modCount_a184 n_a184 SD_) no0 at_83 (q := 86) rfl rfl rfl (Hw hw 36 rfl) (Hw hw 37 rfl) (Hw hw 35 rfl) (Hw hw 38 rfl) (by decide) pd1 rfl rfl (W := 1) (Nat.le_of_eq rfl) (by decide) (by decide) (by decide) (by decide) (fun T h v w gs C q => ?_)
        obtain ⟨rfl, K, G_X, G_elementData, G_size, G_modCount⟩ := q
        replace E0 := ext_keep E0 K z_a184
        have X0 := X_a184
        replace X_x180 := X_x180.keep K
        replace X_x181 := X_x181.keep K
        replace X_x182 := X_x182.keep K
        replace X_x183 := X_x183.keep K
        replace X_a184 := X_a184.keep K
        replace X_a184 := G_X
        replace F_elementData_a184 := G_elementData
        replace F_size_a184 := G_size
        replace F_modCount_a184 := G_modCount
        show Go p e below _ (State.setTop T (mkF m 86 #[.val (.int fl), .val (.int j1), .val (.int j2), .val (.int j3), .val (.int av), .val (.int j5), .val (.ref sv), .val (.int (1 : Int32)), .val (.int (1 : Int32)), .val (.int (1 : Int32)), .val (.ref x180), .val (.ref x181), .val (.ref x182), .val (.ref x183), .unset, .unset, .unset, .unset, .unset, .unset, .unset, .unset, .unset] [(.ref a184)]))
        refine g_astore w at_86 (q := 88) rfl rfl (Ls' := #[.val (.int fl), .val (.int j1), .val (.int j2), .val (.int j3), .val (.int av), .val (.int j5), .val (.ref sv), .val (.int (1 : Int32)), .val (.int (1 : Int32)), .val (.int (1 : Int32)), .val (.ref x180), .val (.ref x181), .val (.ref x182), .val (.ref x183), .val (.ref a184), .unset, .unset, .unset, .unset, .unset, .unset, .unset, .unset]) rfl ?_
        refine g_iload w at_88 (q := 90) rfl rfl ?_
        refine g_ifN w at_90 (q := 93) rfl (by decide) ?_
        refine g_aload w at_93 (q := 95) rfl rfl rfl ?_
        refine g_iload w at_95 (q := 97) rfl rfl ?_
        refine g_static w (con_vo l Z a0 hw ca ck_ av _ w.old SH_ SK_ BX_) no0 at_97 (q := 100) rfl rfl (Hw hw 215 rfl) (Hw hw 216 rfl) (Hw hw 217 rfl) (Hw hw 218 rfl) (by decide) pd28 rfl rfl (W := 1) (Nat.le_of_eq rfl) (by decide) (by decide) (by decide) (by decide) (fun T h v w gs C q => ?_)
        obtain ⟨ev, rfl, E, g_ev, X_e, F_e⟩ := q
        have ne_ev_a184 : ev ≠ a184 := g_ev.elim (fun g_ => Nat.ne_of_gt (Nat.lt_of_lt_of_le X_a184.lt g_)) (fun g_ => Nat.ne_of_lt (Nat.lt_of_lt_of_le g_ n_a184))
        replace E0 := ext_trans E0 E
        replace X_x180 := X_x180.ext E
        replace X_x181 := X_x181.ext E
        replace X_x182 := X_x182.ext E
        replace X_x183 := X_x183.ext E
        replace X_a184 := X_a184.ext E
        replace F_elementData_a184 := F_elementData_a184.ext E
        replace F_size_a184 := F_size_a184.ext E
        replace F_modCount_a184 := F_modCount_a184.ext E
        show Go p e below _ (State.setTop T (mkF m 100 #[.val (.int fl), .val (.int j1), .val (.int j2), .val (.int j3), .val (.int av), .val (.int j5), .val (.ref sv), .val (.int (1 : Int32)), .val (.int (1 : Int32)), .val (.int (1 : Int32)), .val (.ref x180), .val (.ref x181), .val (.ref x182), .val (.ref x183), .val (.ref a184), .unset, .unset, .unset, .unset, .unset, .unset, .unset, .unset] [(.ref ev), (.ref a184)]))
        refine g_iface w (con_a1 l Z a0 hw a184 df ev av _ w.old X_a184 F_elementData_a184 F_size_a184 F_modCount_a184 n_a184 X_e F_e ne_ev_a184 SD_ AD_) no0 X_a184 at_100 (q := 105) rfl rfl (Hw hw 234 rfl) (Hw hw 235 rfl) (Hw hw 236 rfl) (by decide) (Hw hw 239 rfl) (Hw hw 240 rfl) (Hw hw 241 rfl) (Hw hw 237 rfl) (Hw hw 238 rfl) (Hw hw 35 rfl) (Hw hw 242 rfl) (by decide) pd25 rfl rfl (W := 0) (Nat.le_of_eq rfl) (by decide) (by decide) (by decide) (by decide) (fun T h v w gs C q => ?_)
        obtain ⟨rfl, K, t, g_t, A_t, X_t, O_t, H_X, H_F, G_X, G_elementData, G_size, G_modCount⟩ := q
        have z_t := Nat.le_trans E0.1 g_t
        replace E0 := ext_keep E0 K z_a184
        have X0 := X_a184
        replace X_x180 := X_x180.keep K
        replace X_x181 := X_x181.keep K
        replace X_x182 := X_x182.keep K
        replace X_x183 := X_x183.keep K
        replace X_a184 := X_a184.keep K
        replace X_e := X_e.keep K
        replace F_e := F_e.keep K (not1 ne_ev_a184)
        replace X_e := H_X
        replace F_e := H_F
        replace X_a184 := G_X
        replace F_elementData_a184 := G_elementData
        replace F_size_a184 := G_size
        replace F_modCount_a184 := G_modCount
        show Go p e below _ (State.setTop T (mkF m 105 #[.val (.int fl), .val (.int j1), .val (.int j2), .val (.int j3), .val (.int av), .val (.int j5), .val (.ref sv), .val (.int (1 : Int32)), .val (.int (1 : Int32)), .val (.int (1 : Int32)), .val (.ref x180), .val (.ref x181), .val (.ref x182), .val (.ref x183), .val (.ref a184), .unset, .unset, .unset, .unset, .unset, .unset, .unset, .unset] [(.int (1 : Int32))]))
        refine g_pop w at_105 (q := 106) rfl rfl ?_
        refine g_iload w at_106 (q := 108) rfl rfl ?_
        refine g_ifN w at_108 (q := 111) rfl (by decide) ?_
        refine g_aload w at_111 (q := 113) rfl rfl rfl ?_
        refine g_static w (con_of l Z a0 hw x181 _ w.old) no0 at_113 (q := 116) rfl rfl (Hw hw 349 rfl) (Hw hw 128 rfl) (Hw hw 59 rfl) (Hw hw 129 rfl) (by decide) pd16 rfl rfl (W := 0) (Nat.le_of_eq rfl) (by decide) (by decide) (by decide) (by decide) (fun T h v w gs C q => ?_)
        obtain ⟨o187, rfl, E, g_o187, X_o187, F_value_o187⟩ := q
        have z_o187 := Nat.le_trans E0.1 g_o187
        have ne_a184_o187 : a184 ≠ o187 := Nat.ne_of_lt (Nat.lt_of_lt_of_le X_a184.lt g_o187)
        have ne_ev_o187 : ev ≠ o187 := Nat.ne_of_lt (Nat.lt_of_lt_of_le X_e.lt g_o187)
        have ne_t_o187 : t ≠ o187 := Nat.ne_of_lt (Nat.lt_of_lt_of_le A_t.lt g_o187)
        have ne_x180_o187 : x180 ≠ o187 := Nat.ne_of_lt (Nat.lt_of_lt_of_le X_x180.lt g_o187)
        have ne_x181_o187 : x181 ≠ o187 := Nat.ne_of_lt (Nat.lt_of_lt_of_le X_x181.lt g_o187)
        have ne_x182_o187 : x182 ≠ o187 := Nat.ne_of_lt (Nat.lt_of_lt_of_le X_x182.lt g_o187)
        have ne_x183_o187 : x183 ≠ o187 := Nat.ne_of_lt (Nat.lt_of_lt_of_le X_x183.lt g_o187)
        replace E0 := ext_trans E0 E
        replace X_x180 := X_x180.ext E
        replace X_x181 := X_x181.ext E
        replace X_x182 := X_x182.ext E
        replace X_x183 := X_x183.ext E
        replace X_a184 := X_a184.ext E
        replace F_elementData_a184 := F_elementData_a184.ext E
        replace F_size_a184 := F_size_a184.ext E
        replace F_modCount_a184 := F_modCount_a184.ext E
        replace A_t := A_t.ext E
        replace X_t := X_t.ext E
        replace X_e := X_e.ext E
        replace F_e := F_e.ext E
        show Go p e below _ (State.setTop T (mkF m 116 #[.val (.int fl), .val (.int j1), .val (.int j2), .val (.int j3), .val (.int av), .val (.int j5), .val (.ref sv), .val (.int (1 : Int32)), .val (.int (1 : Int32)), .val (.int (1 : Int32)), .val (.ref x180), .val (.ref x181), .val (.ref x182), .val (.ref x183), .val (.ref a184), .unset, .unset, .unset, .unset, .unset, .unset, .unset, .unset] [(.ref o187)]))
        refine g_goto w at_116 (by decide) (q := 122) (by decide) ?_
        refine g_astore w at_122 (q := 124) rfl rfl (Ls' := #[.val (.int fl), .val (.int j1), .val (.int j2), .val (.int j3), .val (.int av), .val (.int j5), .val (.ref sv), .val (.int (1 : Int32)), .val (.int (1 : Int32)), .val (.int (1 : Int32)), .val (.ref x180), .val (.ref x181), .val (.ref x182), .val (.ref x183), .val (.ref a184), .val (.ref o187), .unset, .unset, .unset, .unset, .unset, .unset, .unset]) rfl ?_
        refine g_iload w at_124 (q := 126) rfl rfl ?_
        refine g_ifN w at_126 (q := 129) rfl (by decide) ?_
        refine g_aload w at_129 (q := 131) rfl rfl rfl ?_
        refine g_static w (con_of l Z a0 hw x183 _ w.old) no0 at_131 (q := 134) rfl rfl (Hw hw 349 rfl) (Hw hw 128 rfl) (Hw hw 59 rfl) (Hw hw 129 rfl) (by decide) pd16 rfl rfl (W := 0) (Nat.le_of_eq rfl) (by decide) (by decide) (by decide) (by decide) (fun T h v w gs C q => ?_)
        obtain ⟨o189, rfl, E, g_o189, X_o189, F_value_o189⟩ := q
        have z_o189 := Nat.le_trans E0.1 g_o189
        have ne_a184_o189 : a184 ≠ o189 := Nat.ne_of_lt (Nat.lt_of_lt_of_le X_a184.lt g_o189)
        have ne_ev_o189 : ev ≠ o189 := Nat.ne_of_lt (Nat.lt_of_lt_of_le X_e.lt g_o189)
        have ne_o187_o189 : o187 ≠ o189 := Nat.ne_of_lt (Nat.lt_of_lt_of_le X_o187.lt g_o189)
        have ne_t_o189 : t ≠ o189 := Nat.ne_of_lt (Nat.lt_of_lt_of_le A_t.lt g_o189)
        have ne_x180_o189 : x180 ≠ o189 := Nat.ne_of_lt (Nat.lt_of_lt_of_le X_x180.lt g_o189)
        have ne_x181_o189 : x181 ≠ o189 := Nat.ne_of_lt (Nat.lt_of_lt_of_le X_x181.lt g_o189)
        have ne_x182_o189 : x182 ≠ o189 := Nat.ne_of_lt (Nat.lt_of_lt_of_le X_x182.lt g_o189)
        have ne_x183_o189 : x183 ≠ o189 := Nat.ne_of_lt (Nat.lt_of_lt_of_le X_x183.lt g_o189)
        replace E0 := ext_trans E0 E
        replace X_x180 := X_x180.ext E
        replace X_x181 := X_x181.ext E
        replace X_x182 := X_x182.ext E
        replace X_x183 := X_x183.ext E
        replace X_a184 := X_a184.ext E
        replace F_elementData_a184 := F_elementData_a184.ext E
        replace F_size_a184 := F_size_a184.ext E
        replace F_modCount_a184 := F_modCount_a184.ext E
        replace A_t := A_t.ext E
        replace X_t := X_t.ext E
        replace X_e := X_e.ext E
        replace F_e := F_e.ext E
        replace X_o187 := X_o187.ext E
        replace F_value_o187 := F_value_o187.ext E
        show Go p e below _ (State.setTop T (mkF m 134 #[.val (.int fl), .val (.int j1), .val (.int j2), .val (.int j3), .val (.int av), .val (.int j5), .val (.ref sv), .val (.int (1 : Int32)), .val (.int (1 : Int32)), .val (.int (1 : Int32)), .val (.ref x180), .val (.ref x181), .val (.ref x182), .val (.ref x183), .val (.ref a184), .val (.ref o187), .unset, .unset, .unset, .unset, .unset, .unset, .unset] [(.ref o189)]))
        refine g_goto w at_134 (by decide) (q := 140) (by decide) ?_
        refine g_astore w at_140 (q := 142) rfl rfl (Ls' := #[.val (.int fl), .val (.int j1), .val (.int j2), .val (.int j3), .val (.int av), .val (.int j5), .val (.ref sv), .val (.int (1 : Int32)), .val (.int (1 : Int32)), .val (.int (1 : Int32)), .val (.ref x180), .val (.ref x181), .val (.ref x182), .val (.ref x183), .val (.ref a184), .val (.ref o187), .val (.ref o189), .unset, .unset, .unset, .unset, .unset, .unset]) rfl ?_
        refine g_new w at_142 (q := 145) rfl (Hw hw 62 rfl) (Hw hw 63 rfl) (Hw hw 64 rfl) (by decide) (by decide) (fun T h a190 w E g_a190 n_a190 X_a190 D_a190 s_a190 => ?_)
        have z_a190 := Nat.le_trans E0.1 g_a190
        have ne_a184_a190 : a184 ≠ a190 := Nat.ne_of_lt (Nat.lt_of_lt_of_le X_a184.lt g_a190)
        have ne_ev_a190 : ev ≠ a190 := Nat.ne_of_lt (Nat.lt_of_lt_of_le X_e.lt g_a190)
        have ne_o187_a190 : o187 ≠ a190 := Nat.ne_of_lt (Nat.lt_of_lt_of_le X_o187.lt g_a190)
        have ne_o189_a190 : o189 ≠ a190 := Nat.ne_of_lt (Nat.lt_of_lt_of_le X_o189.lt g_a190)
        have ne_t_a190 : t ≠ a190 := Nat.ne_of_lt (Nat.lt_of_lt_of_le A_t.lt g_a190)
        have ne_x180_a190 : x180 ≠ a190 := Nat.ne_of_lt (Nat.lt_of_lt_of_le X_x180.lt g_a190)
        have ne_x181_a190 : x181 ≠ a190 := Nat.ne_of_lt (Nat.lt_of_lt_of_le X_x181.lt g_a190)
        have ne_x182_a190 : x182 ≠ a190 := Nat.ne_of_lt (Nat.lt_of_lt_of_le X_x182.lt g_a190)
        have ne_x183_a190 : x183 ≠ a190 := Nat.ne_of_lt (Nat.lt_of_lt_of_le X_x183.lt g_a190)
        replace E0 := ext_trans E0 E
        replace X_x180 := X_x180.ext E
        replace X_x181 := X_x181.ext E
        replace X_x182 := X_x182.ext E
        replace X_x183 := X_x183.ext E
        replace X_a184 := X_a184.ext E
        replace F_elementData_a184 := F_elementData_a184.ext E
        replace F_size_a184 := F_size_a184.ext E
        replace F_modCount_a184 := F_modCount_a184.ext E
        replace A_t := A_t.ext E
        replace X_t := X_t.ext E
        replace X_e := X_e.ext E
        replace F_e := F_e.ext E
        replace X_o187 := X_o187.ext E
        replace F_value_o187 := F_value_o187.ext E
        replace X_o189 := X_o189.ext E
        replace F_value_o189 := F_value_o189.ext E
        have F_severity_a190 := D_a190 (Or.inr (Hw hw 112 rfl)) (ty := (.object "com/example/stepwize/stepwize/engine/Message$Severity")) (by decide)
        replace F_severity_a190 : Fld Z h a190 "com/example/stepwize/stepwize/engine/Message" "severity" "Lcom/example/stepwize/stepwize/engine/Message$Severity;" .null := F_severity_a190
        have F_source_a190 := D_a190 (Or.inr (Hw hw 114 rfl)) (ty := (.object "java/util/Optional")) (by decide)
        replace F_source_a190 : Fld Z h a190 "com/example/stepwize/stepwize/engine/Message" "source" "Ljava/util/Optional;" .null := F_source_a190
        have F_code_a190 := D_a190 (Or.inr (Hw hw 116 rfl)) (ty := (.object "java/util/Optional")) (by decide)
        replace F_code_a190 : Fld Z h a190 "com/example/stepwize/stepwize/engine/Message" "code" "Ljava/util/Optional;" .null := F_code_a190
        have F_arguments_a190 := D_a190 (Or.inr (Hw hw 118 rfl)) (ty := (.object "java/util/List")) (by decide)
        replace F_arguments_a190 : Fld Z h a190 "com/example/stepwize/stepwize/engine/Message" "arguments" "Ljava/util/List;" .null := F_arguments_a190
        have F_text_a190 := D_a190 (Or.inr (Hw hw 120 rfl)) (ty := (.object "java/lang/String")) (by decide)
        replace F_text_a190 : Fld Z h a190 "com/example/stepwize/stepwize/engine/Message" "text" "Ljava/lang/String;" .null := F_text_a190
        refine g_dup w at_145 (q := 146) rfl rfl ?_
        refine g_aload w at_146 (q := 148) rfl rfl rfl ?_
        refine g_aload w at_148 (q := 150) rfl rfl rfl ?_
        refine g_aload w at_150 (q := 152) rfl rfl rfl ?_
        refine g_aload w at_152 (q := 154) rfl rfl rfl ?_
        refine g_aload w at_154 (q := 156) rfl rfl rfl ?_
        refine g_special w (con_mi_b l Z a0 hw a190 sv o187 o189 a184 x182 t ev mr ic _ w.old X_a190 F_severity_a190 F_source_a190 F_code_a190 F_arguments_a190 F_text_a190 n_a190 X_a184 F_elementData_a184 F_size_a184 A_t X_t X_e MR_ SI_) no0 at_156 (q := 159) rfl rfl rfl (Hw hw 65 rfl) (Hw hw 66 rfl) (Hw hw 64 rfl) (Hw hw 67 rfl) (by decide) pd17 rfl rfl (W := 1) (Nat.le_of_eq rfl) (by decide) (by decide) (by decide) (by decide) (fun T h v w gs C q => ?_)
        obtain ⟨rfl, K, y191, g_y191, X_y191, F_e0_y191, F_e1_y191, G_severity, G_source, G_code, G_arguments, G_text⟩ := q
        have z_y191 := Nat.le_trans E0.1 g_y191
        have ne_a184_y191 : a184 ≠ y191 := Nat.ne_of_lt (Nat.lt_of_lt_of_le X_a184.lt g_y191)
        have ne_a190_y191 : a190 ≠ y191 := Nat.ne_of_lt (Nat.lt_of_lt_of_le X_a190.lt g_y191)
        have ne_ev_y191 : ev ≠ y191 := Nat.ne_of_lt (Nat.lt_of_lt_of_le X_e.lt g_y191)
        have ne_o187_y191 : o187 ≠ y191 := Nat.ne_of_lt (Nat.lt_of_lt_of_le X_o187.lt g_y191)
        have ne_o189_y191 : o189 ≠ y191 := Nat.ne_of_lt (Nat.lt_of_lt_of_le X_o189.lt g_y191)
        have ne_t_y191 : t ≠ y191 := Nat.ne_of_lt (Nat.lt_of_lt_of_le A_t.lt g_y191)
        have ne_x180_y191 : x180 ≠ y191 := Nat.ne_of_lt (Nat.lt_of_lt_of_le X_x180.lt g_y191)
        have ne_x181_y191 : x181 ≠ y191 := Nat.ne_of_lt (Nat.lt_of_lt_of_le X_x181.lt g_y191)
        have ne_x182_y191 : x182 ≠ y191 := Nat.ne_of_lt (Nat.lt_of_lt_of_le X_x182.lt g_y191)
        have ne_x183_y191 : x183 ≠ y191 := Nat.ne_of_lt (Nat.lt_of_lt_of_le X_x183.lt g_y191)
        replace E0 := ext_keep E0 K z_a190
        have X0 := X_a190
        replace X_x180 := X_x180.keep K
        replace X_x181 := X_x181.keep K
        replace X_x182 := X_x182.keep K
        replace X_x183 := X_x183.keep K
        replace X_a184 := X_a184.keep K
        replace F_elementData_a184 := F_elementData_a184.keep K (not1 ne_a184_a190)
        replace F_size_a184 := F_size_a184.keep K (not1 ne_a184_a190)
        replace F_modCount_a184 := F_modCount_a184.keep K (not1 ne_a184_a190)
        replace A_t := A_t.keep K (not1 ne_t_a190)
        replace X_t := X_t.keep K
        replace X_e := X_e.keep K
        replace F_e := F_e.keep K (not1 ne_ev_a190)
        replace X_o187 := X_o187.keep K
        replace F_value_o187 := F_value_o187.keep K (not1 ne_o187_a190)
        replace X_o189 := X_o189.keep K
        replace F_value_o189 := F_value_o189.keep K (not1 ne_o189_a190)
        replace X_a190 := X_a190.keep K
        replace F_severity_a190 := G_severity
        replace F_source_a190 := G_source
        replace F_code_a190 := G_code
        replace F_arguments_a190 := G_arguments
        replace F_text_a190 := G_text
        show Go p e below _ (State.setTop T (mkF m 159 #[.val (.int fl), .val (.int j1), .val (.int j2), .val (.int j3), .val (.int av), .val (.int j5), .val (.ref sv), .val (.int (1 : Int32)), .val (.int (1 : Int32)), .val (.int (1 : Int32)), .val (.ref x180), .val (.ref x181), .val (.ref x182), .val (.ref x183), .val (.ref a184), .val (.ref o187), .val (.ref o189), .unset, .unset, .unset, .unset, .unset, .unset] [(.ref a190)]))
        refine g_astore w at_159 (q := 161) rfl rfl (Ls' := #[.val (.int fl), .val (.int j1), .val (.int j2), .val (.int j3), .val (.int av), .val (.int j5), .val (.ref sv), .val (.int (1 : Int32)), .val (.int (1 : Int32)), .val (.int (1 : Int32)), .val (.ref x180), .val (.ref x181), .val (.ref x182), .val (.ref x183), .val (.ref a184), .val (.ref o187), .val (.ref o189), .val (.ref a190), .unset, .unset, .unset, .unset, .unset]) rfl ?_
        refine g_aload w at_161 (q := 163) rfl rfl rfl ?_
        refine g_aload w at_163 (q := 165) rfl rfl rfl ?_
        refine g_virtual w (con_ab_d l Z a0 hw a190 x180 sv o189 y191 x182 _ w.old F_severity_a190 F_code_a190 F_arguments_a190 F_text_a190 X_y191) no0 X_a190 at_165 (q := 168) rfl rfl (Hw hw 121 rfl) (Hw hw 122 rfl) (Hw hw 124 rfl) (Hw hw 123 rfl) (Hw hw 64 rfl) (Hw hw 125 rfl) (by decide) (nf (Hw hw 124 rfl)) pd22 rfl rfl (W := 0) (Nat.le_of_eq rfl) (by decide) (by decide) (by decide) (by decide) (fun T h v w gs C q => ?_)
        obtain ⟨r192, o193, rfl, E, g_r192, X_r192, F_severity_r192, F_source_r192, F_code_r192, F_arguments_r192, F_text_r192, X_o193, F_value_o193⟩ := q
        have z_r192 := Nat.le_trans E0.1 g_r192
        have ne_a184_r192 : a184 ≠ r192 := Nat.ne_of_lt (Nat.lt_of_lt_of_le X_a184.lt g_r192)
        have ne_a190_r192 : a190 ≠ r192 := Nat.ne_of_lt (Nat.lt_of_lt_of_le X_a190.lt g_r192)
        have ne_ev_r192 : ev ≠ r192 := Nat.ne_of_lt (Nat.lt_of_lt_of_le X_e.lt g_r192)
        have ne_o187_r192 : o187 ≠ r192 := Nat.ne_of_lt (Nat.lt_of_lt_of_le X_o187.lt g_r192)
        have ne_o189_r192 : o189 ≠ r192 := Nat.ne_of_lt (Nat.lt_of_lt_of_le X_o189.lt g_r192)
        have ne_t_r192 : t ≠ r192 := Nat.ne_of_lt (Nat.lt_of_lt_of_le A_t.lt g_r192)
        have ne_x180_r192 : x180 ≠ r192 := Nat.ne_of_lt (Nat.lt_of_lt_of_le X_x180.lt g_r192)
        have ne_x181_r192 : x181 ≠ r192 := Nat.ne_of_lt (Nat.lt_of_lt_of_le X_x181.lt g_r192)
        have ne_x182_r192 : x182 ≠ r192 := Nat.ne_of_lt (Nat.lt_of_lt_of_le X_x182.lt g_r192)
        have ne_x183_r192 : x183 ≠ r192 := Nat.ne_of_lt (Nat.lt_of_lt_of_le X_x183.lt g_r192)
        have ne_y191_r192 : y191 ≠ r192 := Nat.ne_of_lt (Nat.lt_of_lt_of_le X_y191.lt g_r192)
        replace E0 := ext_trans E0 E
        replace X_x180 := X_x180.ext E
        replace X_x181 := X_x181.ext E
        replace X_x182 := X_x182.ext E
        replace X_x183 := X_x183.ext E
        replace X_a184 := X_a184.ext E
        replace F_elementData_a184 := F_elementData_a184.ext E
        replace F_size_a184 := F_size_a184.ext E
        replace F_modCount_a184 := F_modCount_a184.ext E
        replace A_t := A_t.ext E
        replace X_t := X_t.ext E
        replace X_e := X_e.ext E
        replace F_e := F_e.ext E
        replace X_o187 := X_o187.ext E
        replace F_value_o187 := F_value_o187.ext E
        replace X_o189 := X_o189.ext E
        replace F_value_o189 := F_value_o189.ext E
        replace X_a190 := X_a190.ext E
        replace F_severity_a190 := F_severity_a190.ext E
        replace F_source_a190 := F_source_a190.ext E
        replace F_code_a190 := F_code_a190.ext E
        replace F_arguments_a190 := F_arguments_a190.ext E
        replace F_text_a190 := F_text_a190.ext E
        replace X_y191 := X_y191.ext E
        replace F_e0_y191 := F_e0_y191.ext E
        replace F_e1_y191 := F_e1_y191.ext E
        show Go p e below _ (State.setTop T (mkF m 168 #[.val (.int fl), .val (.int j1), .val (.int j2), .val (.int j3), .val (.int av), .val (.int j5), .val (.ref sv), .val (.int (1 : Int32)), .val (.int (1 : Int32)), .val (.int (1 : Int32)), .val (.ref x180), .val (.ref x181), .val (.ref x182), .val (.ref x183), .val (.ref a184), .val (.ref o187), .val (.ref o189), .val (.ref a190), .unset, .unset, .unset, .unset, .unset] [(.ref r192)]))
        refine g_astore w at_168 (q := 170) rfl rfl (Ls' := #[.val (.int fl), .val (.int j1), .val (.int j2), .val (.int j3), .val (.int av), .val (.int j5), .val (.ref sv), .val (.int (1 : Int32)), .val (.int (1 : Int32)), .val (.int (1 : Int32)), .val (.ref x180), .val (.ref x181), .val (.ref x182), .val (.ref x183), .val (.ref a184), .val (.ref o187), .val (.ref o189), .val (.ref a190), .val (.ref r192), .unset, .unset, .unset, .unset]) rfl ?_
        refine g_aload w at_170 (q := 172) rfl rfl rfl ?_
        refine g_nonnullY w at_172 (by decide) (q := 177) (by decide) ?_
        refine g_aload w at_177 (q := 179) rfl rfl rfl ?_
        refine g_virtualP w (con_g_severity l Z a0 hw r192 sv _ w.old F_severity_r192) no0 X_r192 at_179 (q := 182) rfl rfl (Hw hw 151 rfl) (Hw hw 152 rfl) (Hw hw 154 rfl) (Hw hw 153 rfl) (Hw hw 64 rfl) (Hw hw 155 rfl) (by decide) (nf (Hw hw 154 rfl)) pd23 rfl rfl (W := 0) (Nat.le_of_eq rfl) (by decide) (by decide) (by decide) (by decide) (fun T v w C q => ?_)
        obtain rfl := q
        show Go p e below _ (State.setTop T (mkF m 182 #[.val (.int fl), .val (.int j1), .val (.int j2), .val (.int j3), .val (.int av), .val (.int j5), .val (.ref sv), .val (.int (1 : Int32)), .val (.int (1 : Int32)), .val (.int (1 : Int32)), .val (.ref x180), .val (.ref x181), .val (.ref x182), .val (.ref x183), .val (.ref a184), .val (.ref o187), .val (.ref o189), .val (.ref a190), .val (.ref r192), .unset, .unset, .unset, .unset] [(.ref sv)]))
        refine g_aload w at_182 (q := 184) rfl rfl rfl ?_
        refine g_acY w at_184 (by decide) (q := 189) (by decide) rfl rfl (Jvm.Free.XT.aa_eq_t rfl) ?_
        refine g_aload w at_189 (q := 191) rfl rfl rfl ?_
        refine g_virtualP w (con_g_source l Z a0 hw r192 o193 _ w.old F_source_r192) no0 X_r192 at_191 (q := 194) rfl rfl (Hw hw 156 rfl) (Hw hw 157 rfl) (Hw hw 159 rfl) (Hw hw 158 rfl) (Hw hw 64 rfl) (Hw hw 160 rfl) (by decide) (nf (Hw hw 159 rfl)) pd21 rfl rfl (W := 0) (Nat.le_of_eq rfl) (by decide) (by decide) (by decide) (by decide) (fun T v w C q => ?_)
        obtain rfl := q
        show Go p e below _ (State.setTop T (mkF m 194 #[.val (.int fl), .val (.int j1), .val (.int j2), .val (.int j3), .val (.int av), .val (.int j5), .val (.ref sv), .val (.int (1 : Int32)), .val (.int (1 : Int32)), .val (.int (1 : Int32)), .val (.ref x180), .val (.ref x181), .val (.ref x182), .val (.ref x183), .val (.ref a184), .val (.ref o187), .val (.ref o189), .val (.ref a190), .val (.ref r192), .unset, .unset, .unset, .unset] [(.ref o193)]))
        refine g_astore w at_194 (q := 196) rfl rfl (Ls' := #[.val (.int fl), .val (.int j1), .val (.int j2), .val (.int j3), .val (.int av), .val (.int j5), .val (.ref sv), .val (.int (1 : Int32)), .val (.int (1 : Int32)), .val (.int (1 : Int32)), .val (.ref x180), .val (.ref x181), .val (.ref x182), .val (.ref x183), .val (.ref a184), .val (.ref o187), .val (.ref o189), .val (.ref a190), .val (.ref r192), .val (.ref o193), .unset, .unset, .unset]) rfl ?_
        refine g_aload w at_196 (q := 198) rfl rfl rfl ?_
        refine g_virtualP w (con_ip1 l Z a0 hw o193 x180 _ w.old F_value_o193) no0 X_o193 at_198 (q := 201) rfl rfl (Hw hw 161 rfl) (Hw hw 162 rfl) (Hw hw 164 rfl) (Hw hw 163 rfl) (Hw hw 59 rfl) (Hw hw 165 rfl) (by decide) (nf (Hw hw 164 rfl)) pd11 rfl rfl (W := 0) (Nat.le_of_eq rfl) (by decide) (by decide) (by decide) (by decide) (fun T v w C q => ?_)
        obtain rfl := q
        show Go p e below _ (State.setTop T (mkF m 201 #[.val (.int fl), .val (.int j1), .val (.int j2), .val (.int j3), .val (.int av), .val (.int j5), .val (.ref sv), .val (.int (1 : Int32)), .val (.int (1 : Int32)), .val (.int (1 : Int32)), .val (.ref x180), .val (.ref x181), .val (.ref x182), .val (.ref x183), .val (.ref a184), .val (.ref o187), .val (.ref o189), .val (.ref a190), .val (.ref r192), .val (.ref o193), .unset, .unset, .unset] [(.int (1 : Int32))]))
        refine g_ifN w at_201 (q := 204) rfl (by decide) ?_
        refine g_aload w at_204 (q := 206) rfl rfl rfl ?_
        refine g_virtualP w (con_oget l Z a0 hw o193 x180 _ w.old F_value_o193) no0 X_o193 at_206 (q := 209) rfl rfl (Hw hw 166 rfl) (Hw hw 167 rfl) (Hw hw 169 rfl) (Hw hw 168 rfl) (Hw hw 59 rfl) (Hw hw 170 rfl) (by decide) (nf (Hw hw 169 rfl)) pd24 rfl rfl (W := 0) (Nat.le_of_eq rfl) (by decide) (by decide) (by decide) (by decide) (fun T v w C q => ?_)
        obtain rfl := q
        show Go p e below _ (State.setTop T (mkF m 209 #[.val (.int fl), .val (.int j1), .val (.int j2), .val (.int j3), .val (.int av), .val (.int j5), .val (.ref sv), .val (.int (1 : Int32)), .val (.int (1 : Int32)), .val (.int (1 : Int32)), .val (.ref x180), .val (.ref x181), .val (.ref x182), .val (.ref x183), .val (.ref a184), .val (.ref o187), .val (.ref o189), .val (.ref a190), .val (.ref r192), .val (.ref o193), .unset, .unset, .unset] [(.ref x180)]))
        refine g_cast w at_209 (q := 212) rfl (Hw hw 11 rfl) (Ins.self X_x180) (fun T w => ?_)
        refine g_aload w at_212 (q := 214) rfl rfl rfl ?_
        refine g_virtualP w (con_eq1 l Z a0 hw x180 _ w.old) no0 X_x180 at_214 (q := 217) rfl rfl (Hw hw 171 rfl) (Hw hw 172 rfl) (Hw hw 174 rfl) (Hw hw 173 rfl) (Hw hw 13 rfl) (Hw hw 175 rfl) (by decide) (nf (Hw hw 174 rfl)) pd25 rfl rfl (W := 0) (Nat.le_of_eq rfl) (by decide) (by decide) (by decide) (by decide) (fun T v w C q => ?_)
        obtain rfl := q
        show Go p e below _ (State.setTop T (mkF m 217 #[.val (.int fl), .val (.int j1), .val (.int j2), .val (.int j3), .val (.int av), .val (.int j5), .val (.ref sv), .val (.int (1 : Int32)), .val (.int (1 : Int32)), .val (.int (1 : Int32)), .val (.ref x180), .val (.ref x181), .val (.ref x182), .val (.ref x183), .val (.ref a184), .val (.ref o187), .val (.ref o189), .val (.ref a190), .val (.ref r192), .val (.ref o193), .unset, .unset, .unset] [(.int (1 : Int32))]))
        refine g_ifY w at_217 (by decide) (q := 222) (by decide) (by decide) ?_
        refine g_aload w at_222 (q := 224) rfl rfl rfl ?_
        refine g_virtualP w (con_g_code l Z a0 hw r192 o189 _ w.old F_code_r192) no0 X_r192 at_224 (q := 227) rfl rfl (Hw hw 176 rfl) (Hw hw 177 rfl) (Hw hw 179 rfl) (Hw hw 178 rfl) (Hw hw 64 rfl) (Hw hw 180 rfl) (by decide) (nf (Hw hw 179 rfl)) pd21 rfl rfl (W := 0) (Nat.le_of_eq rfl) (by decide) (by decide) (by decide) (by decide) (fun T v w C q => ?_)
        obtain rfl := q
        show Go p e below _ (State.setTop T (mkF m 227 #[.val (.int fl), .val (.int j1), .val (.int j2), .val (.int j3), .val (.int av), .val (.int j5), .val (.ref sv), .val (.int (1 : Int32)), .val (.int (1 : Int32)), .val (.int (1 : Int32)), .val (.ref x180), .val (.ref x181), .val (.ref x182), .val (.ref x183), .val (.ref a184), .val (.ref o187), .val (.ref o189), .val (.ref a190), .val (.ref r192), .val (.ref o193), .unset, .unset, .unset] [(.ref o189)]))
        refine g_astore w at_227 (q := 229) rfl rfl (Ls' := #[.val (.int fl), .val (.int j1), .val (.int j2), .val (.int j3), .val (.int av), .val (.int j5), .val (.ref sv), .val (.int (1 : Int32)), .val (.int (1 : Int32)), .val (.int (1 : Int32)), .val (.ref x180), .val (.ref x181), .val (.ref x182), .val (.ref x183), .val (.ref a184), .val (.ref o187), .val (.ref o189), .val (.ref a190), .val (.ref r192), .val (.ref o193), .val (.ref o189), .unset, .unset]) rfl ?_
        refine g_aload w at_229 (q := 231) rfl rfl rfl ?_
        refine g_virtualP w (con_ip1 l Z a0 hw o189 x183 _ w.old F_value_o189) no0 X_o189 at_231 (q := 234) rfl rfl (Hw hw 161 rfl) (Hw hw 162 rfl) (Hw hw 164 rfl) (Hw hw 163 rfl) (Hw hw 59 rfl) (Hw hw 165 rfl) (by decide) (nf (Hw hw 164 rfl)) pd11 rfl rfl (W := 0) (Nat.le_of_eq rfl) (by decide) (by decide) (by decide) (by decide) (fun T v w C q => ?_)
        obtain rfl := q
        show Go p e below _ (State.setTop T (mkF m 234 #[.val (.int fl), .val (.int j1), .val (.int j2), .val (.int j3), .val (.int av), .val (.int j5), .val (.ref sv), .val (.int (1 : Int32)), .val (.int (1 : Int32)), .val (.int (1 : Int32)), .val (.ref x180), .val (.ref x181), .val (.ref x182), .val (.ref x183), .val (.ref a184), .val (.ref o187), .val (.ref o189), .val (.ref a190), .val (.ref r192), .val (.ref o193), .val (.ref o189), .unset, .unset] [(.int (1 : Int32))]))
        refine g_iload w at_234 (q := 236) rfl rfl ?_
        refine g_icY w at_236 (by decide) (q := 241) (by decide) (Jvm.Free.XT.ii_eq_t rfl) ?_
        refine g_iload w at_241 (q := 243) rfl rfl ?_
        refine g_ifN w at_243 (q := 246) rfl (by decide) ?_
        refine g_aload w at_246 (q := 248) rfl rfl rfl ?_
        refine g_virtualP w (con_oget l Z a0 hw o189 x183 _ w.old F_value_o189) no0 X_o189 at_248 (q := 251) rfl rfl (Hw hw 166 rfl) (Hw hw 167 rfl) (Hw hw 169 rfl) (Hw hw 168 rfl) (Hw hw 59 rfl) (Hw hw 170 rfl) (by decide) (nf (Hw hw 169 rfl)) pd24 rfl rfl (W := 0) (Nat.le_of_eq rfl) (by decide) (by decide) (by decide) (by decide) (fun T v w C q => ?_)
        obtain rfl := q
        show Go p e below _ (State.setTop T (mkF m 251 #[.val (.int fl), .val (.int j1), .val (.int j2), .val (.int j3), .val (.int av), .val (.int j5), .val (.ref sv), .val (.int (1 : Int32)), .val (.int (1 : Int32)), .val (.int (1 : Int32)), .val (.ref x180), .val (.ref x181), .val (.ref x182), .val (.ref x183), .val (.ref a184), .val (.ref o187), .val (.ref o189), .val (.ref a190), .val (.ref r192), .val (.ref o193), .val (.ref o189), .unset, .unset] [(.ref x183)]))
        refine g_cast w at_251 (q := 254) rfl (Hw hw 11 rfl) (Ins.self X_x183) (fun T w => ?_)
        refine g_aload w at_254 (q := 256) rfl rfl rfl ?_
        refine g_virtualP w (con_eq1 l Z a0 hw x183 _ w.old) no0 X_x183 at_256 (q := 259) rfl rfl (Hw hw 171 rfl) (Hw hw 172 rfl) (Hw hw 174 rfl) (Hw hw 173 rfl) (Hw hw 13 rfl) (Hw hw 175 rfl) (by decide) (nf (Hw hw 174 rfl)) pd25 rfl rfl (W := 0) (Nat.le_of_eq rfl) (by decide) (by decide) (by decide) (by decide) (fun T v w C q => ?_)
        obtain rfl := q
        show Go p e below _ (State.setTop T (mkF m 259 #[.val (.int fl), .val (.int j1), .val (.int j2), .val (.int j3), .val (.int av), .val (.int j5), .val (.ref sv), .val (.int (1 : Int32)), .val (.int (1 : Int32)), .val (.int (1 : Int32)), .val (.ref x180), .val (.ref x181), .val (.ref x182), .val (.ref x183), .val (.ref a184), .val (.ref o187), .val (.ref o189), .val (.ref a190), .val (.ref r192), .val (.ref o193), .val (.ref o189), .unset, .unset] [(.int (1 : Int32))]))
        refine g_ifY w at_259 (by decide) (q := 264) (by decide) (by decide) ?_
        refine g_aload w at_264 (q := 266) rfl rfl rfl ?_
        refine g_virtualP w (con_g_arguments l Z a0 hw r192 y191 _ w.old F_arguments_r192) no0 X_r192 at_266 (q := 269) rfl rfl (Hw hw 181 rfl) (Hw hw 182 rfl) (Hw hw 184 rfl) (Hw hw 183 rfl) (Hw hw 64 rfl) (Hw hw 185 rfl) (by decide) (nf (Hw hw 184 rfl)) pd12 rfl rfl (W := 0) (Nat.le_of_eq rfl) (by decide) (by decide) (by decide) (by decide) (fun T v w C q => ?_)
        obtain rfl := q
        show Go p e below _ (State.setTop T (mkF m 269 #[.val (.int fl), .val (.int j1), .val (.int j2), .val (.int j3), .val (.int av), .val (.int j5), .val (.ref sv), .val (.int (1 : Int32)), .val (.int (1 : Int32)), .val (.int (1 : Int32)), .val (.ref x180), .val (.ref x181), .val (.ref x182), .val (.ref x183), .val (.ref a184), .val (.ref o187), .val (.ref o189), .val (.ref a190), .val (.ref r192), .val (.ref o193), .val (.ref o189), .unset, .unset] [(.ref y191)]))
        refine g_astore w at_269 (q := 271) rfl rfl (Ls' := #[.val (.int fl), .val (.int j1), .val (.int j2), .val (.int j3), .val (.int av), .val (.int j5), .val (.ref sv), .val (.int (1 : Int32)), .val (.int (1 : Int32)), .val (.int (1 : Int32)), .val (.ref x180), .val (.ref x181), .val (.ref x182), .val (.ref x183), .val (.ref a184), .val (.ref o187), .val (.ref o189), .val (.ref a190), .val (.ref r192), .val (.ref o193), .val (.ref o189), .val (.ref y191), .unset]) rfl ?_
        refine g_aload w at_271 (q := 273) rfl rfl rfl ?_
        refine g_ifaceP w (con_l12s l Z a0 hw y191 ic _ w.old F_e1_y191 SI_) no0 X_y191 at_273 (q := 278) rfl rfl (Hw hw 186 rfl) (Hw hw 187 rfl) (Hw hw 188 rfl) (by decide) (Hw hw 330 rfl) (Hw hw 331 rfl) (Hw hw 327 rfl) (Hw hw 328 rfl) (Hw hw 329 rfl) (Hw hw 302 rfl) (Hw hw 332 rfl) (by decide) pd26 rfl rfl (W := 0) (Nat.le_of_eq rfl) (by decide) (by decide) (by decide) (by decide) (fun T v w C q => ?_)
        obtain rfl := q
        show Go p e below _ (State.setTop T (mkF m 278 #[.val (.int fl), .val (.int j1), .val (.int j2), .val (.int j3), .val (.int av), .val (.int j5), .val (.ref sv), .val (.int (1 : Int32)), .val (.int (1 : Int32)), .val (.int (1 : Int32)), .val (.ref x180), .val (.ref x181), .val (.ref x182), .val (.ref x183), .val (.ref a184), .val (.ref o187), .val (.ref o189), .val (.ref a190), .val (.ref r192), .val (.ref o193), .val (.ref o189), .val (.ref y191), .unset] [(.int (1 : Int32))]))
        refine g_iload w at_278 (q := 280) rfl rfl ?_
        refine g_ifN w at_280 (q := 283) rfl (by decide) ?_
        refine g_iconst w at_283 (q := 284) rfl (v := (1 : Int32)) (by decide) ?_
        refine g_goto w at_284 (by decide) (q := 288) (by decide) ?_
        refine g_icY w at_288 (by decide) (q := 293) (by decide) (Jvm.Free.XT.ii_eq_t rfl) ?_
        refine g_iload w at_293 (q := 295) rfl rfl ?_
        refine g_ifN w at_295 (q := 298) rfl (by decide) ?_
        refine g_aload w at_298 (q := 300) rfl rfl rfl ?_
        refine g_iconst w at_300 (q := 301) rfl (v := (0 : Int32)) (by decide) ?_
        refine g_ifaceP w (con_l12g l Z a0 hw y191 ev _ w.old F_e0_y191) no0 X_y191 at_301 (q := 306) rfl rfl (Hw hw 333 rfl) (Hw hw 334 rfl) (Hw hw 335 rfl) (by decide) (Hw hw 338 rfl) (Hw hw 339 rfl) (Hw hw 327 rfl) (Hw hw 336 rfl) (Hw hw 337 rfl) (Hw hw 302 rfl) (Hw hw 340 rfl) (by decide) pd29 rfl rfl (W := 0) (Nat.le_of_eq rfl) (by decide) (by decide) (by decide) (by decide) (fun T v w C q => ?_)
        obtain rfl := q
        show Go p e below _ (State.setTop T (mkF m 306 #[.val (.int fl), .val (.int j1), .val (.int j2), .val (.int j3), .val (.int av), .val (.int j5), .val (.ref sv), .val (.int (1 : Int32)), .val (.int (1 : Int32)), .val (.int (1 : Int32)), .val (.ref x180), .val (.ref x181), .val (.ref x182), .val (.ref x183), .val (.ref a184), .val (.ref o187), .val (.ref o189), .val (.ref a190), .val (.ref r192), .val (.ref o193), .val (.ref o189), .val (.ref y191), .unset] [(.ref ev)]))
        refine g_cast w at_306 (q := 309) rfl (Hw hw 341 rfl) (Ins.self X_e) (fun T w => ?_)
        refine g_virtualP w (con_iv l Z a0 hw ev av _ w.old F_e) no0 X_e at_309 (q := 312) rfl rfl (Hw hw 342 rfl) (Hw hw 343 rfl) (Hw hw 345 rfl) (Hw hw 344 rfl) (Hw hw 217 rfl) (Hw hw 346 rfl) (by decide) (nf (Hw hw 345 rfl)) pd26 rfl rfl (W := 0) (Nat.le_of_eq rfl) (by decide) (by decide) (by decide) (by decide) (fun T v w C q => ?_)
        obtain rfl := q
        show Go p e below _ (State.setTop T (mkF m 312 #[.val (.int fl), .val (.int j1), .val (.int j2), .val (.int j3), .val (.int av), .val (.int j5), .val (.ref sv), .val (.int (1 : Int32)), .val (.int (1 : Int32)), .val (.int (1 : Int32)), .val (.ref x180), .val (.ref x181), .val (.ref x182), .val (.ref x183), .val (.ref a184), .val (.ref o187), .val (.ref o189), .val (.ref a190), .val (.ref r192), .val (.ref o193), .val (.ref o189), .val (.ref y191), .unset] [(.int av)]))
        refine g_iload w at_312 (q := 314) rfl rfl ?_
        refine g_icY w at_314 (by decide) (q := 319) (by decide) (Jvm.Free.XT.ii_eq_t rfl) ?_
        refine g_aload w at_319 (q := 321) rfl rfl rfl ?_
        refine g_virtualP w (con_g_text l Z a0 hw r192 x182 _ w.old F_text_r192) no0 X_r192 at_321 (q := 324) rfl rfl (Hw hw 197 rfl) (Hw hw 198 rfl) (Hw hw 200 rfl) (Hw hw 199 rfl) (Hw hw 64 rfl) (Hw hw 201 rfl) (by decide) (nf (Hw hw 200 rfl)) pd27 rfl rfl (W := 0) (Nat.le_of_eq rfl) (by decide) (by decide) (by decide) (by decide) (fun T v w C q => ?_)
        obtain rfl := q
        show Go p e below _ (State.setTop T (mkF m 324 #[.val (.int fl), .val (.int j1), .val (.int j2), .val (.int j3), .val (.int av), .val (.int j5), .val (.ref sv), .val (.int (1 : Int32)), .val (.int (1 : Int32)), .val (.int (1 : Int32)), .val (.ref x180), .val (.ref x181), .val (.ref x182), .val (.ref x183), .val (.ref a184), .val (.ref o187), .val (.ref o189), .val (.ref a190), .val (.ref r192), .val (.ref o193), .val (.ref o189), .val (.ref y191), .unset] [(.ref x182)]))
        refine g_aload w at_324 (q := 326) rfl rfl rfl ?_
        refine g_virtualP w (con_eq1 l Z a0 hw x182 _ w.old) no0 X_x182 at_326 (q := 329) rfl rfl (Hw hw 171 rfl) (Hw hw 172 rfl) (Hw hw 174 rfl) (Hw hw 173 rfl) (Hw hw 13 rfl) (Hw hw 175 rfl) (by decide) (nf (Hw hw 174 rfl)) pd25 rfl rfl (W := 0) (Nat.le_of_eq rfl) (by decide) (by decide) (by decide) (by decide) (fun T v w C q => ?_)
        obtain rfl := q
        show Go p e below _ (State.setTop T (mkF m 329 #[.val (.int fl), .val (.int j1), .val (.int j2), .val (.int j3), .val (.int av), .val (.int j5), .val (.ref sv), .val (.int (1 : Int32)), .val (.int (1 : Int32)), .val (.int (1 : Int32)), .val (.ref x180), .val (.ref x181), .val (.ref x182), .val (.ref x183), .val (.ref a184), .val (.ref o187), .val (.ref o189), .val (.ref a190), .val (.ref r192), .val (.ref o193), .val (.ref o189), .val (.ref y191), .unset] [(.int (1 : Int32))]))
        refine g_ifY w at_329 (by decide) (q := 334) (by decide) (by decide) ?_
        refine g_aload w at_334 (q := 336) rfl rfl rfl ?_
        refine g_virtualP w (con_g_source l Z a0 hw a190 o187 _ w.old F_source_a190) no0 X_a190 at_336 (q := 339) rfl rfl (Hw hw 156 rfl) (Hw hw 157 rfl) (Hw hw 159 rfl) (Hw hw 158 rfl) (Hw hw 64 rfl) (Hw hw 160 rfl) (by decide) (nf (Hw hw 159 rfl)) pd21 rfl rfl (W := 0) (Nat.le_of_eq rfl) (by decide) (by decide) (by decide) (by decide) (fun T v w C q => ?_)
        obtain rfl := q
        show Go p e below _ (State.setTop T (mkF m 339 #[.val (.int fl), .val (.int j1), .val (.int j2), .val (.int j3), .val (.int av), .val (.int j5), .val (.ref sv), .val (.int (1 : Int32)), .val (.int (1 : Int32)), .val (.int (1 : Int32)), .val (.ref x180), .val (.ref x181), .val (.ref x182), .val (.ref x183), .val (.ref a184), .val (.ref o187), .val (.ref o189), .val (.ref a190), .val (.ref r192), .val (.ref o193), .val (.ref o189), .val (.ref y191), .unset] [(.ref o187)]))
        refine g_astore w at_339 (q := 341) rfl rfl (Ls' := #[.val (.int fl), .val (.int j1), .val (.int j2), .val (.int j3), .val (.int av), .val (.int j5), .val (.ref sv), .val (.int (1 : Int32)), .val (.int (1 : Int32)), .val (.int (1 : Int32)), .val (.ref x180), .val (.ref x181), .val (.ref x182), .val (.ref x183), .val (.ref a184), .val (.ref o187), .val (.ref o189), .val (.ref a190), .val (.ref r192), .val (.ref o193), .val (.ref o189), .val (.ref y191), .val (.ref o187)]) rfl ?_
        refine g_aload w at_341 (q := 343) rfl rfl rfl ?_
        refine g_virtualP w (con_ip1 l Z a0 hw o187 x181 _ w.old F_value_o187) no0 X_o187 at_343 (q := 346) rfl rfl (Hw hw 161 rfl) (Hw hw 162 rfl) (Hw hw 164 rfl) (Hw hw 163 rfl) (Hw hw 59 rfl) (Hw hw 165 rfl) (by decide) (nf (Hw hw 164 rfl)) pd11 rfl rfl (W := 0) (Nat.le_of_eq rfl) (by decide) (by decide) (by decide) (by decide) (fun T v w C q => ?_)
        obtain rfl := q
        show Go p e below _ (State.setTop T (mkF m 346 #[.val (.int fl), .val (.int j1), .val (.int j2), .val (.int j3), .val (.int av), .val (.int j5), .val (.ref sv), .val (.int (1 : Int32)), .val (.int (1 : Int32)), .val (.int (1 : Int32)), .val (.ref x180), .val (.ref x181), .val (.ref x182), .val (.ref x183), .val (.ref a184), .val (.ref o187), .val (.ref o189), .val (.ref a190), .val (.ref r192), .val (.ref o193), .val (.ref o189), .val (.ref y191), .val (.ref o187)] [(.int (1 : Int32))]))
        refine g_iload w at_346 (q := 348) rfl rfl ?_
        refine g_icY w at_348 (by decide) (q := 353) (by decide) (Jvm.Free.XT.ii_eq_t rfl) ?_
        refine g_iload w at_353 (q := 355) rfl rfl ?_
        refine g_ifN w at_355 (q := 358) rfl (by decide) ?_
        refine g_aload w at_358 (q := 360) rfl rfl rfl ?_
        refine g_virtualP w (con_oget l Z a0 hw o187 x181 _ w.old F_value_o187) no0 X_o187 at_360 (q := 363) rfl rfl (Hw hw 166 rfl) (Hw hw 167 rfl) (Hw hw 169 rfl) (Hw hw 168 rfl) (Hw hw 59 rfl) (Hw hw 170 rfl) (by decide) (nf (Hw hw 169 rfl)) pd24 rfl rfl (W := 0) (Nat.le_of_eq rfl) (by decide) (by decide) (by decide) (by decide) (fun T v w C q => ?_)
        obtain rfl := q
        show Go p e below _ (State.setTop T (mkF m 363 #[.val (.int fl), .val (.int j1), .val (.int j2), .val (.int j3), .val (.int av), .val (.int j5), .val (.ref sv), .val (.int (1 : Int32)), .val (.int (1 : Int32)), .val (.int (1 : Int32)), .val (.ref x180), .val (.ref x181), .val (.ref x182), .val (.ref x183), .val (.ref a184), .val (.ref o187), .val (.ref o189), .val (.ref a190), .val (.ref r192), .val (.ref o193), .val (.ref o189), .val (.ref y191), .val (.ref o187)] [(.ref x181)]))
        refine g_cast w at_363 (q := 366) rfl (Hw hw 11 rfl) (Ins.self X_x181) (fun T w => ?_)
        refine g_aload w at_366 (q := 368) rfl rfl rfl ?_
        refine g_virtualP w (con_eq1 l Z a0 hw x181 _ w.old) no0 X_x181 at_368 (q := 371) rfl rfl (Hw hw 171 rfl) (Hw hw 172 rfl) (Hw hw 174 rfl) (Hw hw 173 rfl) (Hw hw 13 rfl) (Hw hw 175 rfl) (by decide) (nf (Hw hw 174 rfl)) pd25 rfl rfl (W := 0) (Nat.le_of_eq rfl) (by decide) (by decide) (by decide) (by decide) (fun T v w C q => ?_)
        obtain rfl := q
        show Go p e below _ (State.setTop T (mkF m 371 #[.val (.int fl), .val (.int j1), .val (.int j2), .val (.int j3), .val (.int av), .val (.int j5), .val (.ref sv), .val (.int (1 : Int32)), .val (.int (1 : Int32)), .val (.int (1 : Int32)), .val (.ref x180), .val (.ref x181), .val (.ref x182), .val (.ref x183), .val (.ref a184), .val (.ref o187), .val (.ref o189), .val (.ref a190), .val (.ref r192), .val (.ref o193), .val (.ref o189), .val (.ref y191), .val (.ref o187)] [(.int (1 : Int32))]))
        refine g_ifY w at_371 (by decide) (q := 376) (by decide) (by decide) ?_
        refine g_iconst w at_376 (q := 377) rfl (v := (1 : Int32)) (by decide) ?_
        exact g_retn w at_377 rfl (by simp) rfl (by decide) (by decide) rfl
set_option maxRecDepth 65536 in
set_option maxHeartbeats 40000000 in
theorem comes_1 {Post : Tables → Env → Array Value → State → Outcome → State → Prop} (hpost : ∀ tb e args s v u, (limb_1_1.after args s (.returned v) u = true ∧ limb_1_2.after args s (.returned v) u = true ∧ True) → ReturnedEndW s (.returned v) u (Jvm.fieldLocs frame_1_writes args s ++ Jvm.arrayLocs frame_1_arrays args s ++ Jvm.staticLocs frame_1_statics s) 64 5376 → Post tb e args s (.returned v) u) :
    ArmFor flags0 classFile x code maxLocals ret World_1 tables_1 room_1 Calls_1 rest_1 Pre_1 Post := by
  intro l hfl _ _ p e ha hc hk s m args below hf hA hF happ hP
  obtain ⟨hcalls, hrest, hpre⟩ := hP
  obtain ⟨-, -, -, hnamed, -, -, -, hat⟩ := (Spec.applies_iff hf).mp happ
  obtain ⟨hg, hn⟩ := and_e (Cond.before_iff.mp (show (Jvm.Cond.and given_1 narrow_1).before args s = true from hpre))
  obtain ⟨h1, hr0⟩ := and_e hg
  obtain ⟨w0, w1, w2, w3, w4, w5, rfl⟩ : ∃ w0 w1 w2 w3 w4 w5 : Value, args = #[w0, w1, w2, w3, w4, w5] := by
    have hs : args.size = 6 := by simpa [Cond.value, given_1] using h1
    obtain ⟨L⟩ := args
    match L, hs with
    | [w0, w1, w2, w3, w4, w5], _ => exact ⟨w0, w1, w2, w3, w4, w5, rfl⟩
  obtain ⟨q0, hr1⟩ := and_e hr0
  obtain ⟨i0, ei0⟩ := is_v q0
  obtain rfl : w0 = (.int i0) := Option.some.inj ei0
  obtain ⟨q1, hr2⟩ := and_e hr1
  obtain ⟨i1, ei1⟩ := is_v q1
  obtain rfl : w1 = (.int i1) := Option.some.inj ei1
  obtain ⟨q2, hr3⟩ := and_e hr2
  obtain ⟨i2, ei2⟩ := is_v q2
  obtain rfl : w2 = (.int i2) := Option.some.inj ei2
  obtain ⟨q3, hr4⟩ := and_e hr3
  obtain ⟨i3, ei3⟩ := is_v q3
  obtain rfl : w3 = (.int i3) := Option.some.inj ei3
  obtain ⟨q4, hr5⟩ := and_e hr4
  obtain ⟨i4, ei4⟩ := is_v q4
  obtain rfl : w4 = (.int i4) := Option.some.inj ei4
  obtain ⟨i5, ei5⟩ := is_v hr5
  obtain rfl : w5 = (.int i5) := Option.some.inj ei5
  have hw := fun d (hd : d ∈ tables_1) => atoms_spec (ws := Jvm.Cond.code x code maxLocals ret :: tables_1) hat d (List.mem_cons_of_mem _ hd)
  have hfit : Fit s := fun {y c} hc i hi => by
    obtain ⟨ha, rfl⟩ := Array.getElem?_eq_some_iff.mp hc
    have q := List.all_eq_true.mp ((Array.all_eq_true_iff_forall_mem.mp hF) _ (Array.getElem_mem ha)) i (List.mem_range.mpr hi)
    simpa [Array.getElem?_eq_getElem hi] using q
  obtain ⟨hsets, hown0⟩ := atoms_of _ (rest_1_c_eq ▸ (show rest_1_c.before _ s = true from hrest))
  have hcm : Cpt s := by
    obtain ⟨z, ez⟩ := is_v (Cond.before_iff.mp (hsets _ (List.mem_of_getElem? (i := 21) rfl)))
    refine ⟨z, ?_, Sta.start ez (Or.inl (hsets _ (List.mem_of_getElem? (i := 20) rfl)))⟩
    intro hz; subst hz
    have q := not_v (Cond.before_iff.mp (hsets _ (List.mem_of_getElem? (i := 22) rfl)))
    rw [eq_i ez (Term.int_eval (0)) rfl] at q; cases q
  obtain ⟨nA, nB⟩ := and_e hn
  obtain ⟨nC, nD⟩ := and_e nB
  obtain ⟨s0, es0⟩ := exa_v nA
  have S0_ := Sta.start es0 (Or.inr ⟨(Hw hw 6 rfl), (Hw hw 7 rfl)⟩)
  obtain ⟨s1, es1⟩ := exa_v nC
  have S1_ := Sta.start es1 (Or.inr ⟨(Hw hw 6 rfl), (Hw hw 203 rfl)⟩)
  obtain ⟨s2, es2⟩ := exa_v nD
  have S2_ := Sta.start es2 (Or.inr ⟨(Hw hw 6 rfl), (Hw hw 348 rfl)⟩)
  obtain ⟨em, eem⟩ := exa_v (Cond.before_iff.mp (hsets _ (List.mem_of_getElem? (i := 11) rfl)))
  have SE_ := Sta.start eem (Or.inl (hsets _ (List.mem_of_getElem? (i := 10) rfl)))
  have XE_ := Exa.start eem (Cond.before_iff.mp (hsets _ (List.mem_of_getElem? (i := 11) rfl)))
  have FE_ := Fld.start ((fld_at eem).symm.trans (null_v (Cond.before_iff.mp (hsets _ (List.mem_of_getElem? (i := 12) rfl)))))
  obtain ⟨df, edf⟩ := exa_v (Cond.before_iff.mp (hsets _ (List.mem_of_getElem? (i := 7) rfl)))
  have SD_ := Sta.start edf (Or.inr ⟨(Hw hw 35 rfl), (hsets _ (List.mem_of_getElem? (i := 2) rfl))⟩)
  have AD_ := ar_empty hfit edf (Cond.before_iff.mp (hsets _ (List.mem_of_getElem? (i := 6) rfl))) (Cond.before_iff.mp (hsets _ (List.mem_of_getElem? (i := 8) rfl)))
  obtain ⟨el, eel⟩ := exa_v (Cond.before_iff.mp (hsets _ (List.mem_of_getElem? (i := 15) rfl)))
  have SL_ := Sta.start eel (Or.inl (hsets _ (List.mem_of_getElem? (i := 14) rfl)))
  have XL_ := Exa.start eel (Cond.before_iff.mp (hsets _ (List.mem_of_getElem? (i := 15) rfl)))
  obtain ⟨ee, eee⟩ := arr_v (Cond.before_iff.mp (hsets _ (List.mem_of_getElem? (i := 16) rfl)))
  have FLe_ := Fld.start ((fld_at eel).symm.trans eee)
  have AL0_ := ar_empty hfit eee (Cond.before_iff.mp (hsets _ (List.mem_of_getElem? (i := 16) rfl))) (Cond.before_iff.mp (hsets _ (List.mem_of_getElem? (i := 18) rfl)))
  have FLa_ := Fld.start ((fld_at eel).symm.trans (eqv_i (Term.int_eval 0) (Cond.before_iff.mp (hsets _ (List.mem_of_getElem? (i := 19) rfl)))))
  obtain ⟨ic, eic⟩ := exa_v (Cond.before_iff.mp (hsets _ (List.mem_of_getElem? (i := 31) rfl)))
  have SI_ := Sta.start eic (Or.inl (hsets _ (List.mem_of_getElem? (i := 30) rfl)))
  have SH_ := Sta.start (eqv_i (Term.int_eval 127) (Cond.before_iff.mp (hsets _ (List.mem_of_getElem? (i := 41) rfl)))) (Or.inl (hsets _ (List.mem_of_getElem? (i := 39) rfl)))
  obtain ⟨ca, eca⟩ := arr_v (Cond.before_iff.mp (hsets _ (List.mem_of_getElem? (i := 42) rfl)))
  have SK_ := Sta.start eca (Or.inr ⟨(Hw hw 351 rfl), (hsets _ (List.mem_of_getElem? (i := 40) rfl))⟩)
  obtain ⟨ck_, Acc⟩ := Arr.start eca (Cond.before_iff.mp (hsets _ (List.mem_of_getElem? (i := 42) rfl)))
  obtain ⟨lc1, lc2⟩ := len_cell eca Acc (eqv_i (Term.int_eval 256) (Cond.before_iff.mp (hsets _ (List.mem_of_getElem? (i := 44) rfl))))
  have BX_ : Bxs s ca ck_ "java/lang/Integer" "I" 256 (fun j => .int (j - 128)) := Bxs.start (fun idx => by simp only [Term.eval] at eca ⊢; exact eca) Acc lc1 lc2 (by decide) (Cond.before_iff.mp (hsets _ (List.mem_of_getElem? (i := 45) rfl))) (fun X j nn hq => eqv_i (by simp [Term.eval, (back32 nn).1]) hq)
  obtain ⟨mc_, mk_, mr, m1_, m2_, m3_, m4_⟩ := hcalls.1
  have MR_ : Mir s "[Ljava/lang/Object;" mr := ⟨mc_, mk_, m1_, m2_, m3_, m4_⟩
  have hch : CHv s consts_1 s.vm s.heap := CHv.start (own_EL hw) (fun p hp => hcalls.2.1 p hp) (hsets _ (List.mem_of_getElem? (i := 22) rfl)) (Hw hw 26 rfl) (Hw hw 12 rfl)
  obtain ⟨n, o, h1, h2, h3, _, L, rfl, rfl, O, N, C, W, hq⟩ := con_law l s _ hw em df el ee ic ca mr s0 s1 s2 ck_ i0 i1 i2 i3 i4 i5 s.heap (ext_refl _) hcm SE_ XE_ FE_ SD_ AD_ SL_ XL_ FLe_ AL0_ FLa_ SI_ SH_ SK_ BX_ MR_ S0_ S1_ S2_ p e ha hc hk s m _ below hf ((Spec.applies_iff_loose hf).mp happ).1 ⟨rfl, State.Warmed39.refl s, rfl, hch, no0⟩ trivial
  refine ⟨n, _, h1, h2, h3, hpost _ _ _ _ _ _ ⟨Cond.after_iff.mpr rfl, Cond.after_iff.mpr (eq_i res_at (Term.int_eval (1)) rfl), trivial⟩ ⟨hq.1, hq.2.1, hq.2.2.1, (hq.2.2.2.sift fun y hy => Or.inr (N y hy)).mono (by decide) (by decide)⟩⟩
theorem main_1_1 : Claimed_1_1 := comes_1 fun _ _ _ _ _ _ h hF => ⟨h.1, hF⟩
theorem main_1_2 : Claimed_1_2 := comes_1 fun _ _ _ _ _ _ h hF => ⟨h.2.1, hF⟩
end Jvm.Pilot.@@N@@
namespace Jvm.Pilot.@@N@@
open Jvm Jvm.ClassFile Sem Op Lib Jvm.Free Jvm.Stand Jvm.Pilot.@@N@@.Jvm.D
/-! MADE BY PROGRAM (witnessworld.py) out of the Statement's table words and the real class files: 47 classes; the members and pool entries that the words name. The judged class is class 1, her method 3. -/
namespace start1
open Jvm.ClassFile
def u (s : String) : CpInfo := .utf8 (stringToUtf16 s)
/-- a pool by its gaps: so many unusable entries, then the entry; so many at the end -/
def gap : Nat → List CpInfo → List CpInfo
  | 0, r => r
  | n + 1, r => .unusable :: gap n r
def poolList (es : List (Nat × CpInfo)) (last : Nat) : List CpInfo := es.foldr (fun e r => gap e.1 (e.2 :: r)) (gap last [])
def pool (es : List (Nat × CpInfo)) (last : Nat) : Array CpInfo := ⟨poolList es last⟩
def fileOf (pool : Array CpInfo) (this : Nat) (attrs : Array Attribute := #[]) (ms : Array MethodInfo := #[]) (fl : Nat := 33) (sup : Nat := 0) (ifs : Array Nat := #[]) (fds : Array FieldInfo := #[]) : ClassFile where
  minorVersion := 0
  majorVersion := 65
  constantPool := pool
  accessFlags := fl
  thisClass := this
  superClass := sup
  interfaces := ifs
  fields := fds
  methods := ms
  attributes := attrs
def plain (name : String) (sup : Option ClassId) : Class where
  name := name
  kind := .ordinary
  loader := none
  accessFlags := 33
  super := sup
  interfaces := #[]
  cf := none
  fields := #[]
  methods := #[]
  instanceTypes := #[]
  staticTypes := #[]
  resolved := #[]
  callSites := []
  init := .initialized
  statics := none
  mirror := none

def pool0 : Array CpInfo := pool [(5, u "<init>"), (0, u "()V"), (1, .class_ 10), (1, u "java/lang/Object"), (0, u "getClass"), (0, u "()Ljava/lang/Class;")] 111

def k0c0 : Code := { maxStack := 0, maxLocals := 1, code := object_method_1_code, exceptionTable := #[], attributes := #[] }
def k0m0 : Method := { name := "<init>", desc := "()V", sig := { parameters := [], returnType := none }, accessFlags := 1, code := some k0c0 }
def k0m1 : Method := { name := "getClass", desc := "()Ljava/lang/Class;", sig := { parameters := [], returnType := some (.object "java/lang/Class") }, accessFlags := 273, code := none }
/-- java/lang/Object -/
def k0 : Class := { plain "java/lang/Object" none with
  accessFlags := 33
  interfaces := #[]
  cf := some (fileOf pool0 8 #[] #[{ accessFlags := 1, nameIndex := 5, descriptorIndex := 6, attributes := #[] }, { accessFlags := 273, nameIndex := 11, descriptorIndex := 12, attributes := #[] }] 33 0 #[] #[])
  fields := #[]
  methods := #[k0m0, k0m1]
  instanceTypes := #[]
  staticTypes := #[]
  resolved := Array.replicate 124 none
  statics := none }

def pool1 : Array CpInfo := pool [(2, .class_ 4), (0, .nameAndType 5 6), (0, u "java/lang/Object"), (0, u "<init>"), (0, u "()V"), (0, .class_ 8), (0, u "java/lang/String"), (0, .methodref 7 10), (0, .nameAndType 5 11), (0, u "([C)V"), (0, .integer 2147483647), (0, .fieldref 14 15), (0, .class_ 16), (0, .nameAndType 17 18), (0, u "com/example/stepwize/stepwize/engine/Message$Severity"), (0, u "INFO"), (0, u "Lcom/example/stepwize/stepwize/engine/Message$Severity;"), (0, .fieldref 14 20), (0, .nameAndType 21 18), (0, u "WARNING"), (0, .fieldref 14 23), (0, .nameAndType 24 18), (0, u "ERROR"), (0, .methodref 26 27), (0, .class_ 28), (0, .nameAndType 29 30), (0, u "com/example/stepwize/stepwize/engine/MessageAboutPinLaw"), (0, u "sev"), (0, u "(I)Lcom/example/stepwize/stepwize/engine/Message$Severity;"), (0, .methodref 26 32), (0, .nameAndType 33 34), (0, u "str"), (0, u "(I)Ljava/lang/String;"), (0, .class_ 36), (0, u "java/util/ArrayList"), (0, .methodref 35 3), (0, .methodref 39 40), (0, .class_ 41), (0, .nameAndType 42 43), (0, u "java/lang/Integer"), (0, u "valueOf"), (0, u "(I)Ljava/lang/Integer;"), (0, .interfaceMethodref 45 46), (0, .class_ 47), (0, .nameAndType 48 49), (0, u "java/util/List"), (0, u "add"), (0, u "(Ljava/lang/Object;)Z"), (0, .methodref 51 52), (0, .class_ 53), (0, .nameAndType 54 55), (0, u "java/util/Optional"), (0, u "of"), (0, u "(Ljava/lang/Object;)Ljava/util/Optional;"), (0, .methodref 51 57), (0, .nameAndType 58 59), (0, u "empty"), (0, u "()Ljava/util/Optional;"), (0, .class_ 61), (0, u "com/example/stepwize/stepwize/engine/Message"), (0, .methodref 60 63), (0, .nameAndType 5 64), (0, u "(Lcom/example/stepwize/stepwize/engine/Message$Severity;Ljava/util/Optional;Ljava/util/Optional;Ljava/util/List;Ljava/lang/String;)V"), (0, .methodref 60 66), (0, .nameAndType 67 68), (0, u "about"), (0, u "(Ljava/lang/String;)Lcom/example/stepwize/stepwize/engine/Message;"), (0, .methodref 60 70), (0, .nameAndType 71 72), (0, u "severity"), (0, u "()Lcom/example/stepwize/stepwize/engine/Message$Severity;"), (0, .methodref 60 74), (0, .nameAndType 75 59), (0, u "source"), (0, .methodref 51 77), (0, .nameAndType 78 79), (0, u "isPresent"), (0, u "()Z"), (0, .methodref 51 81), (0, .nameAndType 82 83), (0, u "get"), (0, u "()Ljava/lang/Object;"), (0, .methodref 7 85), (0, .nameAndType 86 49), (0, u "equals"), (0, .methodref 60 88), (0, .nameAndType 89 59), (0, u "code"), (0, .methodref 60 91), (0, .nameAndType 92 93), (0, u "arguments"), (0, u "()Ljava/util/List;"), (0, .interfaceMethodref 45 95), (0, .nameAndType 96 97), (0, u "size"), (0, u "()I"), (0, .interfaceMethodref 45 99), (0, .nameAndType 82 100), (0, u "(I)Ljava/lang/Object;"), (0, .methodref 39 102), (0, .nameAndType 103 97), (0, u "intValue"), (0, .methodref 60 105), (0, .nameAndType 106 107), (0, u "text"), (0, u "()Ljava/lang/String;"), (3, u "law"), (0, u "(IIIIII)Z")] 4

def k1m0 : Method := { name := "<init>", desc := "()V", sig := { parameters := [], returnType := none }, accessFlags := 1, code := none }
def k1c1 : Code := { maxStack := 4, maxLocals := 3, code := method_2_code, exceptionTable := #[], attributes := #[] }
def k1m1 : Method := { name := "str", desc := "(I)Ljava/lang/String;", sig := { parameters := [.int], returnType := some (.object "java/lang/String") }, accessFlags := 10, code := some k1c1 }
def k1c2 : Code := { maxStack := 2, maxLocals := 2, code := method_3_code, exceptionTable := #[], attributes := #[] }
def k1m2 : Method := { name := "sev", desc := "(I)Lcom/example/stepwize/stepwize/engine/Message$Severity;", sig := { parameters := [.int], returnType := some (.object "com/example/stepwize/stepwize/engine/Message$Severity") }, accessFlags := 10, code := some k1c2 }
def k1c3 : Code := { maxStack := 7, maxLocals := 23, code := code, exceptionTable := #[], attributes := #[] }
def k1m3 : Method := { name := "law", desc := "(IIIIII)Z", sig := { parameters := [.int, .int, .int, .int, .int, .int], returnType := some .boolean }, accessFlags := 9, code := some k1c3 }
/-- com/example/stepwize/stepwize/engine/MessageAboutPinLaw -/
def k1 : Class := { plain "com/example/stepwize/stepwize/engine/MessageAboutPinLaw" (some 0) with
  accessFlags := 49
  interfaces := #[]
  cf := some (fileOf pool1 26 #[] #[{ accessFlags := 1, nameIndex := 5, descriptorIndex := 6, attributes := #[] }, { accessFlags := 10, nameIndex := 33, descriptorIndex := 34, attributes := #[] }, { accessFlags := 10, nameIndex := 29, descriptorIndex := 30, attributes := #[] }, { accessFlags := 9, nameIndex := 111, descriptorIndex := 112, attributes := #[] }] 49 2 #[] #[])
  fields := #[]
  methods := #[k1m0, k1m1, k1m2, k1m3]
  instanceTypes := #[]
  staticTypes := #[]
  resolved := Array.replicate 117 none
  statics := none }

def pool2 : Array CpInfo := pool [(1, .class_ 2), (0, u "java/lang/constant/Constable"), (0, .class_ 4), (0, u "java/lang/Object")] 6

/-- java/lang/constant/Constable -/
def k2 : Class := { plain "java/lang/constant/Constable" (some 0) with
  accessFlags := 1537
  interfaces := #[]
  cf := some (fileOf pool2 1 #[] #[] 1537 3 #[] #[])
  fields := #[]
  methods := #[]
  instanceTypes := #[]
  staticTypes := #[]
  resolved := Array.replicate 11 none
  statics := none }

def pool3 : Array CpInfo := pool [(1, .class_ 2), (0, u "java/lang/Comparable"), (0, .class_ 4), (0, u "java/lang/Object")] 7

/-- java/lang/Comparable -/
def k3 : Class := { plain "java/lang/Comparable" (some 0) with
  accessFlags := 1537
  interfaces := #[]
  cf := some (fileOf pool3 1 #[] #[] 1537 3 #[] #[])
  fields := #[]
  methods := #[]
  instanceTypes := #[]
  staticTypes := #[]
  resolved := Array.replicate 12 none
  statics := none }

def pool4 : Array CpInfo := pool [(1, .class_ 2), (0, u "java/io/Serializable"), (0, .class_ 4), (0, u "java/lang/Object")] 2

/-- java/io/Serializable -/
def k4 : Class := { plain "java/io/Serializable" (some 0) with
  accessFlags := 1537
  interfaces := #[]
  cf := some (fileOf pool4 1 #[] #[] 1537 3 #[] #[])
  fields := #[]
  methods := #[]
  instanceTypes := #[]
  staticTypes := #[]
  resolved := Array.replicate 7 none
  statics := none }

def pool5 : Array CpInfo := pool [(2, .class_ 4), (1, u "java/lang/Enum"), (0, u "name"), (0, u "Ljava/lang/String;"), (2, u "ordinal"), (0, u "I"), (1, .class_ 14), (1, u "java/lang/Object"), (4, u "hash"), (86, .class_ 108), (1, u "java/lang/Enum$EnumDesc"), (2, .class_ 112), (0, u "java/lang/constant/Constable"), (0, .class_ 114), (0, u "java/lang/Comparable"), (0, .class_ 116), (0, u "java/io/Serializable")] 87

/-- java/lang/Enum -/
def k5 : Class := { plain "java/lang/Enum" (some 0) with
  accessFlags := 1057
  interfaces := #[2, 3, 4]
  cf := some (fileOf pool5 2 #[.nestMembers #[106]] #[] 1057 12 #[111, 113, 115] #[{ accessFlags := 18, nameIndex := 5, descriptorIndex := 6, attributes := #[] }, { accessFlags := 18, nameIndex := 9, descriptorIndex := 10, attributes := #[] }, { accessFlags := 2, nameIndex := 19, descriptorIndex := 10, attributes := #[] }])
  fields := #[{ name := "name", type := (.object "java/lang/String"), accessFlags := 18, slot := 0, constantValue := 0 }, { name := "ordinal", type := .int, accessFlags := 18, slot := 1, constantValue := 0 }, { name := "hash", type := .int, accessFlags := 2, slot := 2, constantValue := 0 }]
  methods := #[]
  instanceTypes := #[(.object "java/lang/String"), .int, .int]
  staticTypes := #[]
  resolved := Array.replicate 204 none
  statics := none }

def pool6 : Array CpInfo := pool [(1, .class_ 2), (0, u "com/example/stepwize/stepwize/engine/Message$Severity"), (2, u "INFO"), (0, u "Lcom/example/stepwize/stepwize/engine/Message$Severity;"), (2, u "WARNING"), (2, u "ERROR"), (2, u "$VALUES"), (0, u "[Lcom/example/stepwize/stepwize/engine/Message$Severity;"), (6, .class_ 25), (1, u "java/lang/Enum"), (26, .class_ 53), (0, u "com/example/stepwize/stepwize/engine/Message")] 2

/-- com/example/stepwize/stepwize/engine/Message$Severity -/
def k6 : Class := { plain "com/example/stepwize/stepwize/engine/Message$Severity" (some 5) with
  accessFlags := 16433
  interfaces := #[]
  cf := some (fileOf pool6 1 #[.nestHost 52] #[] 16433 23 #[] #[{ accessFlags := 16409, nameIndex := 5, descriptorIndex := 6, attributes := #[] }, { accessFlags := 16409, nameIndex := 9, descriptorIndex := 6, attributes := #[] }, { accessFlags := 16409, nameIndex := 12, descriptorIndex := 6, attributes := #[] }, { accessFlags := 4122, nameIndex := 15, descriptorIndex := 16, attributes := #[] }])
  fields := #[{ name := "INFO", type := (.object "com/example/stepwize/stepwize/engine/Message$Severity"), accessFlags := 16409, slot := 0, constantValue := 0 }, { name := "WARNING", type := (.object "com/example/stepwize/stepwize/engine/Message$Severity"), accessFlags := 16409, slot := 1, constantValue := 0 }, { name := "ERROR", type := (.object "com/example/stepwize/stepwize/engine/Message$Severity"), accessFlags := 16409, slot := 2, constantValue := 0 }, { name := "$VALUES", type := (.array (.object "com/example/stepwize/stepwize/engine/Message$Severity")), accessFlags := 4122, slot := 3, constantValue := 0 }]
  methods := #[]
  instanceTypes := #[(.object "java/lang/String"), .int, .int]
  staticTypes := #[(.object "com/example/stepwize/stepwize/engine/Message$Severity"), (.object "com/example/stepwize/stepwize/engine/Message$Severity"), (.object "com/example/stepwize/stepwize/engine/Message$Severity"), (.array (.object "com/example/stepwize/stepwize/engine/Message$Severity"))]
  resolved := Array.replicate 56 none
  statics := some 0 }

def pool7 : Array CpInfo := pool [(2, .class_ 4), (1, u "java/lang/CharSequence"), (42, .class_ 48), (0, u "java/lang/CharSequence$1CodePointIterator"), (10, .class_ 60), (0, u "java/lang/CharSequence$1CharIterator"), (5, .class_ 67), (0, u "java/lang/Object")] 63

/-- java/lang/CharSequence -/
def k7 : Class := { plain "java/lang/CharSequence" (some 0) with
  accessFlags := 1537
  interfaces := #[]
  cf := some (fileOf pool7 2 #[.nestMembers #[47, 59]] #[] 1537 66 #[] #[])
  fields := #[]
  methods := #[]
  instanceTypes := #[]
  staticTypes := #[]
  resolved := Array.replicate 131 none
  statics := none }

def pool8 : Array CpInfo := pool [(1, .class_ 2), (0, u "java/lang/constant/ConstantDesc"), (0, .class_ 4), (0, u "java/lang/Object")] 32

/-- java/lang/constant/ConstantDesc -/
def k8 : Class := { plain "java/lang/constant/ConstantDesc" (some 0) with
  accessFlags := 1537
  interfaces := #[]
  cf := some (fileOf pool8 1 #[] #[] 1537 3 #[] #[])
  fields := #[]
  methods := #[]
  instanceTypes := #[]
  staticTypes := #[]
  resolved := Array.replicate 37 none
  statics := none }

def pool9 : Array CpInfo := pool [(1, .methodref 2 3), (0, .class_ 4), (0, .nameAndType 5 6), (0, u "java/lang/Object"), (0, u "<init>"), (0, u "()V"), (0, .string 8), (0, u ""), (0, .fieldref 10 11), (0, .class_ 12), (0, .nameAndType 13 14), (0, u "java/lang/String"), (0, u "value"), (0, u "[B"), (0, .fieldref 10 16), (0, .nameAndType 17 18), (0, u "coder"), (0, u "B"), (2, u "hash"), (0, u "I"), (2, u "hashIsZero"), (0, u "Z"), (0, .methodref 10 28), (0, .nameAndType 5 29), (0, u "([CIILjava/lang/Void;)V"), (8, .fieldref 10 39), (0, .nameAndType 40 26), (0, u "COMPACT_STRINGS"), (1, .class_ 44), (1, u "java/lang/StringUTF16"), (0, u "compress"), (1, .methodref 42 48), (0, .nameAndType 49 50), (0, u "coderFromArrayLen"), (0, u "([BI)B"), (126, .methodref 42 178), (0, .nameAndType 45 179), (0, u "([CII)[B"), (363, u "equals"), (29, u "(Ljava/lang/Object;)Z"), (1, .class_ 576), (0, u "java/lang/CharSequence"), (22, u "CASE_INSENSITIVE_ORDER"), (0, u "Ljava/util/Comparator;"), (409, u "([C)V"), (90, u "serialPersistentFields"), (0, u "[Ljava/io/ObjectStreamField;"), (0, .class_ 1104), (0, u "java/lang/String$CaseInsensitiveComparator"), (1, .class_ 1107), (0, u "java/io/Serializable"), (0, .class_ 1109), (0, u "java/lang/Comparable"), (0, .class_ 1111), (0, u "java/lang/constant/Constable"), (0, .class_ 1113), (0, u "java/lang/constant/ConstantDesc"), (2, u "serialVersionUID"), (0, u "J"), (3, u "REPL"), (0, u "C"), (2, u "LATIN1"), (1, u "UTF16")] 323

def k9m0 : Method := { name := "<init>", desc := "()V", sig := { parameters := [], returnType := none }, accessFlags := 1, code := none }
def k9c1 : Code := { maxStack := 5, maxLocals := 2, code := jdk_42_method_3_code, exceptionTable := #[], attributes := #[] }
def k9m1 : Method := { name := "<init>", desc := "([C)V", sig := { parameters := [(.array .char)], returnType := none }, accessFlags := 1, code := some k9c1 }
def k9c2 : Code := { maxStack := 2, maxLocals := 3, code := jdk_42_method_66_code, exceptionTable := #[], attributes := #[] }
def k9m2 : Method := { name := "equals", desc := "(Ljava/lang/Object;)Z", sig := { parameters := [(.object "java/lang/Object")], returnType := some .boolean }, accessFlags := 1, code := some k9c2 }
def k9c3 : Code := { maxStack := 4, maxLocals := 6, code := jdk_42_method_149_code, exceptionTable := #[], attributes := #[] }
def k9m3 : Method := { name := "<init>", desc := "([CIILjava/lang/Void;)V", sig := { parameters := [(.array .char), .int, .int, (.object "java/lang/Void")], returnType := none }, accessFlags := 2, code := some k9c3 }
/-- java/lang/String -/
def k9 : Class := { plain "java/lang/String" (some 0) with
  accessFlags := 49
  interfaces := #[4, 3, 7, 2, 8]
  cf := some (fileOf pool9 10 #[.nestMembers #[1103]] #[{ accessFlags := 1, nameIndex := 5, descriptorIndex := 6, attributes := #[] }, { accessFlags := 1, nameIndex := 5, descriptorIndex := 1010, attributes := #[] }, { accessFlags := 1, nameIndex := 543, descriptorIndex := 573, attributes := #[] }, { accessFlags := 2, nameIndex := 5, descriptorIndex := 29, attributes := #[] }] 49 2 #[1106, 1108, 575, 1110, 1112] #[{ accessFlags := 18, nameIndex := 13, descriptorIndex := 14, attributes := #[] }, { accessFlags := 18, nameIndex := 17, descriptorIndex := 18, attributes := #[] }, { accessFlags := 2, nameIndex := 21, descriptorIndex := 22, attributes := #[] }, { accessFlags := 2, nameIndex := 25, descriptorIndex := 26, attributes := #[] }, { accessFlags := 26, nameIndex := 1116, descriptorIndex := 1117, attributes := #[] }, { accessFlags := 24, nameIndex := 40, descriptorIndex := 26, attributes := #[] }, { accessFlags := 26, nameIndex := 1101, descriptorIndex := 1102, attributes := #[] }, { accessFlags := 26, nameIndex := 1121, descriptorIndex := 1122, attributes := #[] }, { accessFlags := 25, nameIndex := 599, descriptorIndex := 600, attributes := #[] }, { accessFlags := 24, nameIndex := 1125, descriptorIndex := 18, attributes := #[] }, { accessFlags := 24, nameIndex := 1127, descriptorIndex := 18, attributes := #[] }])
  fields := #[{ name := "value", type := (.array .byte), accessFlags := 18, slot := 0, constantValue := 0 }, { name := "coder", type := .byte, accessFlags := 18, slot := 1, constantValue := 0 }, { name := "hash", type := .int, accessFlags := 2, slot := 2, constantValue := 0 }, { name := "hashIsZero", type := .boolean, accessFlags := 2, slot := 3, constantValue := 0 }, { name := "serialVersionUID", type := .long, accessFlags := 26, slot := 0, constantValue := 0 }, { name := "COMPACT_STRINGS", type := .boolean, accessFlags := 24, slot := 1, constantValue := 0 }, { name := "serialPersistentFields", type := (.array (.object "java/io/ObjectStreamField")), accessFlags := 26, slot := 2, constantValue := 0 }, { name := "REPL", type := .char, accessFlags := 26, slot := 3, constantValue := 0 }, { name := "CASE_INSENSITIVE_ORDER", type := (.object "java/util/Comparator"), accessFlags := 25, slot := 4, constantValue := 0 }, { name := "LATIN1", type := .byte, accessFlags := 24, slot := 5, constantValue := 0 }, { name := "UTF16", type := .byte, accessFlags := 24, slot := 6, constantValue := 0 }]
  methods := #[k9m0, k9m1, k9m2, k9m3]
  instanceTypes := #[(.array .byte), .byte, .int, .boolean]
  staticTypes := #[.long, .boolean, (.array (.object "java/io/ObjectStreamField")), .char, (.object "java/util/Comparator"), .byte, .byte]
  resolved := Array.replicate 1451 none
  statics := some 1 }

def pool10 : Array CpInfo := pool [(8, .class_ 10), (1, u "java/lang/Iterable"), (24, .class_ 36), (0, u "java/lang/Object")] 25

/-- java/lang/Iterable -/
def k10 : Class := { plain "java/lang/Iterable" (some 0) with
  accessFlags := 1537
  interfaces := #[]
  cf := some (fileOf pool10 8 #[] #[] 1537 35 #[] #[])
  fields := #[]
  methods := #[]
  instanceTypes := #[]
  staticTypes := #[]
  resolved := Array.replicate 62 none
  statics := none }

def pool11 : Array CpInfo := pool [(10, .class_ 12), (1, u "java/util/Collection"), (0, u "toArray"), (16, u "()Z"), (29, .class_ 61), (0, u "java/lang/Object"), (0, .class_ 63), (0, u "java/lang/Iterable"), (2, u "isEmpty"), (3, u "()[Ljava/lang/Object;")] 44

def k11m0 : Method := { name := "isEmpty", desc := "()Z", sig := { parameters := [], returnType := some .boolean }, accessFlags := 1025, code := none }
def k11m1 : Method := { name := "toArray", desc := "()[Ljava/lang/Object;", sig := { parameters := [], returnType := some (.array (.object "java/lang/Object")) }, accessFlags := 1025, code := none }
/-- java/util/Collection -/
def k11 : Class := { plain "java/util/Collection" (some 0) with
  accessFlags := 1537
  interfaces := #[10]
  cf := some (fileOf pool11 10 #[] #[{ accessFlags := 1025, nameIndex := 66, descriptorIndex := 30, attributes := #[] }, { accessFlags := 1025, nameIndex := 13, descriptorIndex := 70, attributes := #[] }] 1537 60 #[62] #[])
  fields := #[]
  methods := #[k11m0, k11m1]
  instanceTypes := #[]
  staticTypes := #[]
  resolved := Array.replicate 115 none
  statics := none }

def pool12 : Array CpInfo := pool [(1, .methodref 2 3), (0, .class_ 4), (0, .nameAndType 5 6), (0, u "java/lang/Object"), (0, u "<init>"), (0, u "()V"), (1, .class_ 10), (1, u "java/util/AbstractCollection"), (66, .class_ 78), (0, u "java/util/Collection")] 81

def k12c0 : Code := { maxStack := 1, maxLocals := 1, code := jdk_22_method_1_code, exceptionTable := #[], attributes := #[] }
def k12m0 : Method := { name := "<init>", desc := "()V", sig := { parameters := [], returnType := none }, accessFlags := 4, code := some k12c0 }
/-- java/util/AbstractCollection -/
def k12 : Class := { plain "java/util/AbstractCollection" (some 0) with
  accessFlags := 1057
  interfaces := #[11]
  cf := some (fileOf pool12 8 #[] #[{ accessFlags := 4, nameIndex := 5, descriptorIndex := 6, attributes := #[] }] 1057 2 #[77] #[])
  fields := #[]
  methods := #[k12m0]
  instanceTypes := #[]
  staticTypes := #[]
  resolved := Array.replicate 160 none
  statics := none }

def pool13 : Array CpInfo := pool [(8, .class_ 10), (1, u "java/util/SequencedCollection"), (15, .class_ 27), (0, u "java/lang/Object"), (0, .class_ 29), (0, u "java/util/Collection")] 27

/-- java/util/SequencedCollection -/
def k13 : Class := { plain "java/util/SequencedCollection" (some 0) with
  accessFlags := 1537
  interfaces := #[11]
  cf := some (fileOf pool13 8 #[] #[] 1537 26 #[28] #[])
  fields := #[]
  methods := #[]
  instanceTypes := #[]
  staticTypes := #[]
  resolved := Array.replicate 57 none
  statics := none }

def pool14 : Array CpInfo := pool [(8, .class_ 10), (1, u "java/util/List"), (20, u "(Ljava/lang/Object;)V"), (16, u "<init>"), (11, u "add"), (3, u "(Ljava/lang/Object;)Z"), (10, u "get"), (0, u "(I)Ljava/lang/Object;"), (2, u "size"), (0, u "()I"), (7, u "of"), (1, .fieldref 91 92), (0, .class_ 93), (0, .nameAndType 94 95), (0, u "java/util/ImmutableCollections"), (0, u "EMPTY_LIST"), (0, u "Ljava/util/ImmutableCollections$ListN;"), (0, .class_ 97), (0, u "java/util/ImmutableCollections$List12"), (0, .methodref 96 99), (0, .nameAndType 48 31), (3, .class_ 104), (0, u "java/lang/Object"), (3, u "([Ljava/lang/Object;)Ljava/util/List;"), (3, .methodref 91 113), (0, .nameAndType 114 115), (0, u "listCopy"), (0, u "(Ljava/util/Collection;)Ljava/util/List;"), (3, u "()Ljava/util/List;"), (0, .class_ 121), (0, u "java/util/SequencedCollection"), (112, u "copyOf")] 16

def k14m0 : Method := { name := "size", desc := "()I", sig := { parameters := [], returnType := some .int }, accessFlags := 1025, code := none }
def k14m1 : Method := { name := "add", desc := "(Ljava/lang/Object;)Z", sig := { parameters := [(.object "java/lang/Object")], returnType := some .boolean }, accessFlags := 1025, code := none }
def k14m2 : Method := { name := "get", desc := "(I)Ljava/lang/Object;", sig := { parameters := [.int], returnType := some (.object "java/lang/Object") }, accessFlags := 1025, code := none }
def k14c3 : Code := { maxStack := 1, maxLocals := 0, code := jdk_40_method_36_code, exceptionTable := #[], attributes := #[] }
def k14m3 : Method := { name := "of", desc := "()Ljava/util/List;", sig := { parameters := [], returnType := some (.object "java/util/List") }, accessFlags := 9, code := some k14c3 }
def k14c4 : Code := { maxStack := 5, maxLocals := 2, code := jdk_40_method_47_code, exceptionTable := #[], attributes := #[] }
def k14m4 : Method := { name := "of", desc := "([Ljava/lang/Object;)Ljava/util/List;", sig := { parameters := [(.array (.object "java/lang/Object"))], returnType := some (.object "java/util/List") }, accessFlags := 137, code := some k14c4 }
def k14c5 : Code := { maxStack := 1, maxLocals := 1, code := jdk_40_method_48_code, exceptionTable := #[], attributes := #[] }
def k14m5 : Method := { name := "copyOf", desc := "(Ljava/util/Collection;)Ljava/util/List;", sig := { parameters := [(.object "java/util/Collection")], returnType := some (.object "java/util/List") }, accessFlags := 9, code := some k14c5 }
/-- java/util/List -/
def k14 : Class := { plain "java/util/List" (some 0) with
  accessFlags := 1537
  interfaces := #[13]
  cf := some (fileOf pool14 8 #[] #[{ accessFlags := 1025, nameIndex := 79, descriptorIndex := 80, attributes := #[] }, { accessFlags := 1025, nameIndex := 60, descriptorIndex := 64, attributes := #[] }, { accessFlags := 1025, nameIndex := 75, descriptorIndex := 76, attributes := #[] }, { accessFlags := 9, nameIndex := 88, descriptorIndex := 119, attributes := #[] }, { accessFlags := 137, nameIndex := 88, descriptorIndex := 108, attributes := #[] }, { accessFlags := 9, nameIndex := 234, descriptorIndex := 115, attributes := #[] }] 1537 103 #[120] #[])
  fields := #[]
  methods := #[k14m0, k14m1, k14m2, k14m3, k14m4, k14m5]
  instanceTypes := #[]
  staticTypes := #[]
  resolved := Array.replicate 251 none
  statics := none }

def pool15 : Array CpInfo := pool [(1, .methodref 2 3), (0, .class_ 4), (0, .nameAndType 5 6), (0, u "java/util/AbstractCollection"), (0, u "<init>"), (0, u "()V"), (0, .fieldref 8 9), (0, .class_ 10), (0, .nameAndType 11 12), (0, u "java/util/AbstractList"), (0, u "modCount"), (0, u "I"), (64, .class_ 78), (0, u "java/util/AbstractList$Itr"), (3, .class_ 83), (0, u "java/util/AbstractList$ListItr"), (9, .class_ 94), (0, u "java/util/AbstractList$RandomAccessSubList"), (3, .class_ 99), (0, u "java/util/AbstractList$SubList"), (33, .class_ 134), (0, u "java/util/List"), (73, .class_ 209), (0, u "java/util/AbstractList$SubList$1"), (0, .class_ 211), (0, u "java/util/AbstractList$RandomAccessSpliterator")] 6

def k15c0 : Code := { maxStack := 2, maxLocals := 1, code := jdk_39_method_1_code, exceptionTable := #[], attributes := #[] }
def k15m0 : Method := { name := "<init>", desc := "()V", sig := { parameters := [], returnType := none }, accessFlags := 4, code := some k15c0 }
/-- java/util/AbstractList -/
def k15 : Class := { plain "java/util/AbstractList" (some 12) with
  accessFlags := 1057
  interfaces := #[14]
  cf := some (fileOf pool15 8 #[.nestMembers #[93, 98, 208, 210, 82, 77]] #[{ accessFlags := 4, nameIndex := 5, descriptorIndex := 6, attributes := #[] }] 1057 2 #[133] #[{ accessFlags := 132, nameIndex := 11, descriptorIndex := 12, attributes := #[] }])
  fields := #[{ name := "modCount", type := .int, accessFlags := 132, slot := 0, constantValue := 0 }]
  methods := #[k15m0]
  instanceTypes := #[.int]
  staticTypes := #[]
  resolved := Array.replicate 218 none
  statics := none }

def pool16 : Array CpInfo := pool [(1, .class_ 2), (0, u "java/util/RandomAccess"), (0, .class_ 4), (0, u "java/lang/Object")] 2

/-- java/util/RandomAccess -/
def k16 : Class := { plain "java/util/RandomAccess" (some 0) with
  accessFlags := 1537
  interfaces := #[]
  cf := some (fileOf pool16 1 #[] #[] 1537 3 #[] #[])
  fields := #[]
  methods := #[]
  instanceTypes := #[]
  staticTypes := #[]
  resolved := Array.replicate 7 none
  statics := none }

def pool17 : Array CpInfo := pool [(1, .class_ 2), (0, u "java/lang/Cloneable"), (0, .class_ 4), (0, u "java/lang/Object")] 2

/-- java/lang/Cloneable -/
def k17 : Class := { plain "java/lang/Cloneable" (some 0) with
  accessFlags := 1537
  interfaces := #[]
  cf := some (fileOf pool17 1 #[] #[] 1537 3 #[] #[])
  fields := #[]
  methods := #[]
  instanceTypes := #[]
  staticTypes := #[]
  resolved := Array.replicate 7 none
  statics := none }

def pool18 : Array CpInfo := pool [(1, .methodref 2 3), (0, .class_ 4), (0, .nameAndType 5 6), (0, u "java/util/AbstractList"), (0, u "<init>"), (0, u "()V"), (0, .class_ 8), (0, u "java/lang/Object"), (0, .fieldref 10 11), (0, .class_ 12), (0, .nameAndType 13 14), (0, u "java/util/ArrayList"), (0, u "elementData"), (0, u "[Ljava/lang/Object;"), (2, u "EMPTY_ELEMENTDATA"), (21, .fieldref 10 40), (0, .nameAndType 41 14), (0, u "DEFAULTCAPACITY_EMPTY_ELEMENTDATA"), (4, u "toArray"), (0, u "()[Ljava/lang/Object;"), (0, .fieldref 10 49), (0, .nameAndType 50 51), (0, u "size"), (0, u "I"), (6, .class_ 60), (1, u "java/util/Arrays"), (0, u "copyOf"), (1, .fieldref 10 64), (0, .nameAndType 65 51), (0, u "modCount"), (0, .methodref 58 67), (0, .nameAndType 61 68), (0, u "([Ljava/lang/Object;I)[Ljava/lang/Object;"), (0, .methodref 10 70), (0, .nameAndType 71 72), (0, u "grow"), (0, u "(I)[Ljava/lang/Object;"), (6, .methodref 80 81), (0, .class_ 82), (0, .nameAndType 83 84), (0, u "java/lang/Math"), (0, u "max"), (0, u "(II)I"), (11, u "(Ljava/lang/Object;)Z"), (32, .methodref 10 130), (0, .nameAndType 71 47), (0, .methodref 10 132), (0, .nameAndType 133 134), (0, u "add"), (0, u "(Ljava/lang/Object;[Ljava/lang/Object;I)V"), (13, .class_ 149), (0, u "java/util/List"), (23, u "()Z"), (88, .class_ 263), (0, u "java/util/ArrayList$ListItr"), (3, .class_ 268), (0, u "java/util/ArrayList$Itr"), (7, .class_ 277), (0, u "java/util/ArrayList$SubList"), (12, .class_ 291), (0, u "java/util/ArrayList$ArrayListSpliterator"), (37, .class_ 330), (0, u "java/util/RandomAccess"), (0, .class_ 332), (0, u "java/lang/Cloneable"), (0, .class_ 334), (0, u "java/io/Serializable"), (0, u "serialVersionUID"), (0, u "J"), (3, u "DEFAULT_CAPACITY"), (22, u "isEmpty"), (136, .class_ 501), (0, u "java/util/ArrayList$SubList$2"), (0, .class_ 503), (0, u "java/util/ArrayList$SubList$1")] 5

def k18c0 : Code := { maxStack := 2, maxLocals := 1, code := jdk_38_method_2_code, exceptionTable := #[], attributes := #[] }
def k18m0 : Method := { name := "<init>", desc := "()V", sig := { parameters := [], returnType := none }, accessFlags := 1, code := some k18c0 }
def k18c1 : Code := { maxStack := 4, maxLocals := 4, code := jdk_38_method_6_code, exceptionTable := #[], attributes := #[] }
def k18m1 : Method := { name := "grow", desc := "(I)[Ljava/lang/Object;", sig := { parameters := [.int], returnType := some (.array (.object "java/lang/Object")) }, accessFlags := 2, code := some k18c1 }
def k18c2 : Code := { maxStack := 3, maxLocals := 1, code := jdk_38_method_7_code, exceptionTable := #[], attributes := #[] }
def k18m2 : Method := { name := "grow", desc := "()[Ljava/lang/Object;", sig := { parameters := [], returnType := some (.array (.object "java/lang/Object")) }, accessFlags := 2, code := some k18c2 }
def k18c3 : Code := { maxStack := 1, maxLocals := 1, code := jdk_38_method_9_code, exceptionTable := #[], attributes := #[] }
def k18m3 : Method := { name := "isEmpty", desc := "()Z", sig := { parameters := [], returnType := some .boolean }, accessFlags := 1, code := some k18c3 }
def k18c4 : Code := { maxStack := 2, maxLocals := 1, code := jdk_38_method_16_code, exceptionTable := #[], attributes := #[] }
def k18m4 : Method := { name := "toArray", desc := "()[Ljava/lang/Object;", sig := { parameters := [], returnType := some (.array (.object "java/lang/Object")) }, accessFlags := 1, code := some k18c4 }
def k18c5 : Code := { maxStack := 3, maxLocals := 4, code := jdk_38_method_24_code, exceptionTable := #[], attributes := #[] }
def k18m5 : Method := { name := "add", desc := "(Ljava/lang/Object;[Ljava/lang/Object;I)V", sig := { parameters := [(.object "java/lang/Object"), (.array (.object "java/lang/Object")), .int], returnType := none }, accessFlags := 2, code := some k18c5 }
def k18c6 : Code := { maxStack := 4, maxLocals := 2, code := jdk_38_method_25_code, exceptionTable := #[], attributes := #[] }
def k18m6 : Method := { name := "add", desc := "(Ljava/lang/Object;)Z", sig := { parameters := [(.object "java/lang/Object")], returnType := some .boolean }, accessFlags := 1, code := some k18c6 }
/-- java/util/ArrayList -/
def k18 : Class := { plain "java/util/ArrayList" (some 15) with
  accessFlags := 33
  interfaces := #[14, 16, 17, 4]
  cf := some (fileOf pool18 10 #[.nestMembers #[290, 276, 500, 502, 262, 267]] #[{ accessFlags := 1, nameIndex := 5, descriptorIndex := 6, attributes := #[] }, { accessFlags := 2, nameIndex := 71, descriptorIndex := 72, attributes := #[] }, { accessFlags := 2, nameIndex := 71, descriptorIndex := 47, attributes := #[] }, { accessFlags := 1, nameIndex := 363, descriptorIndex := 173, attributes := #[] }, { accessFlags := 1, nameIndex := 46, descriptorIndex := 47, attributes := #[] }, { accessFlags := 2, nameIndex := 133, descriptorIndex := 134, attributes := #[] }, { accessFlags := 1, nameIndex := 133, descriptorIndex := 96, attributes := #[] }] 33 2 #[148, 329, 331, 333] #[{ accessFlags := 26, nameIndex := 335, descriptorIndex := 336, attributes := #[] }, { accessFlags := 26, nameIndex := 340, descriptorIndex := 51, attributes := #[] }, { accessFlags := 26, nameIndex := 17, descriptorIndex := 14, attributes := #[] }, { accessFlags := 26, nameIndex := 41, descriptorIndex := 14, attributes := #[] }, { accessFlags := 128, nameIndex := 13, descriptorIndex := 14, attributes := #[] }, { accessFlags := 2, nameIndex := 50, descriptorIndex := 51, attributes := #[] }])
  fields := #[{ name := "serialVersionUID", type := .long, accessFlags := 26, slot := 0, constantValue := 0 }, { name := "DEFAULT_CAPACITY", type := .int, accessFlags := 26, slot := 1, constantValue := 0 }, { name := "EMPTY_ELEMENTDATA", type := (.array (.object "java/lang/Object")), accessFlags := 26, slot := 2, constantValue := 0 }, { name := "DEFAULTCAPACITY_EMPTY_ELEMENTDATA", type := (.array (.object "java/lang/Object")), accessFlags := 26, slot := 3, constantValue := 0 }, { name := "elementData", type := (.array (.object "java/lang/Object")), accessFlags := 128, slot := 1, constantValue := 0 }, { name := "size", type := .int, accessFlags := 2, slot := 2, constantValue := 0 }]
  methods := #[k18m0, k18m1, k18m2, k18m3, k18m4, k18m5, k18m6]
  instanceTypes := #[.int, (.array (.object "java/lang/Object")), .int]
  staticTypes := #[.long, .int, (.array (.object "java/lang/Object")), (.array (.object "java/lang/Object"))]
  resolved := Array.replicate 509 none
  statics := some 2 }

def pool19 : Array CpInfo := pool [(1, .fieldref 2 3), (0, .class_ 4), (0, .nameAndType 5 6), (0, u "java/util/Optional"), (0, u "EMPTY"), (0, u "Ljava/util/Optional;"), (0, .methodref 8 9), (0, .class_ 10), (0, .nameAndType 11 12), (0, u "java/lang/Object"), (0, u "<init>"), (0, u "()V"), (0, .fieldref 2 14), (0, .nameAndType 15 16), (0, u "value"), (0, u "Ljava/lang/Object;"), (0, .methodref 18 19), (0, .class_ 20), (0, .nameAndType 21 22), (0, u "java/util/Objects"), (0, u "requireNonNull"), (0, u "(Ljava/lang/Object;)Ljava/lang/Object;"), (0, .methodref 2 24), (0, .nameAndType 11 25), (0, u "(Ljava/lang/Object;)V"), (20, u "()Z"), (8, u "empty"), (0, u "()Ljava/util/Optional;"), (8, u "(Ljava/lang/Object;)Ljava/util/Optional;"), (2, u "isPresent"), (4, u "get"), (0, u "()Ljava/lang/Object;"), (7, u "of")] 104

def k19c0 : Code := { maxStack := 1, maxLocals := 1, code := jdk_32_method_1_code, exceptionTable := #[], attributes := #[] }
def k19m0 : Method := { name := "empty", desc := "()Ljava/util/Optional;", sig := { parameters := [], returnType := some (.object "java/util/Optional") }, accessFlags := 9, code := some k19c0 }
def k19c1 : Code := { maxStack := 2, maxLocals := 2, code := jdk_32_method_2_code, exceptionTable := #[], attributes := #[] }
def k19m1 : Method := { name := "<init>", desc := "(Ljava/lang/Object;)V", sig := { parameters := [(.object "java/lang/Object")], returnType := none }, accessFlags := 2, code := some k19c1 }
def k19c2 : Code := { maxStack := 3, maxLocals := 1, code := jdk_32_method_3_code, exceptionTable := #[], attributes := #[] }
def k19m2 : Method := { name := "of", desc := "(Ljava/lang/Object;)Ljava/util/Optional;", sig := { parameters := [(.object "java/lang/Object")], returnType := some (.object "java/util/Optional") }, accessFlags := 9, code := some k19c2 }
def k19c3 : Code := { maxStack := 3, maxLocals := 1, code := jdk_32_method_5_code, exceptionTable := #[], attributes := #[] }
def k19m3 : Method := { name := "get", desc := "()Ljava/lang/Object;", sig := { parameters := [], returnType := some (.object "java/lang/Object") }, accessFlags := 1, code := some k19c3 }
def k19c4 : Code := { maxStack := 1, maxLocals := 1, code := jdk_32_method_6_code, exceptionTable := #[], attributes := #[] }
def k19m4 : Method := { name := "isPresent", desc := "()Z", sig := { parameters := [], returnType := some .boolean }, accessFlags := 1, code := some k19c4 }
/-- java/util/Optional -/
def k19 : Class := { plain "java/util/Optional" (some 0) with
  accessFlags := 49
  interfaces := #[]
  cf := some (fileOf pool19 2 #[] #[{ accessFlags := 9, nameIndex := 55, descriptorIndex := 56, attributes := #[] }, { accessFlags := 2, nameIndex := 11, descriptorIndex := 25, attributes := #[] }, { accessFlags := 9, nameIndex := 82, descriptorIndex := 65, attributes := #[] }, { accessFlags := 1, nameIndex := 73, descriptorIndex := 74, attributes := #[] }, { accessFlags := 1, nameIndex := 68, descriptorIndex := 46, attributes := #[] }] 49 8 #[] #[{ accessFlags := 26, nameIndex := 5, descriptorIndex := 6, attributes := #[] }, { accessFlags := 18, nameIndex := 15, descriptorIndex := 16, attributes := #[] }])
  fields := #[{ name := "EMPTY", type := (.object "java/util/Optional"), accessFlags := 26, slot := 0, constantValue := 0 }, { name := "value", type := (.object "java/lang/Object"), accessFlags := 18, slot := 0, constantValue := 0 }]
  methods := #[k19m0, k19m1, k19m2, k19m3, k19m4]
  instanceTypes := #[(.object "java/lang/Object")]
  staticTypes := #[(.object "java/util/Optional")]
  resolved := Array.replicate 187 none
  statics := some 3 }

def pool20 : Array CpInfo := pool [(1, .methodref 2 3), (0, .class_ 4), (0, .nameAndType 5 6), (0, u "java/lang/Object"), (0, u "<init>"), (0, u "()V"), (0, .class_ 8), (0, u "java/lang/Record")] 13

def k20c0 : Code := { maxStack := 1, maxLocals := 1, code := jdk_30_method_1_code, exceptionTable := #[], attributes := #[] }
def k20m0 : Method := { name := "<init>", desc := "()V", sig := { parameters := [], returnType := none }, accessFlags := 4, code := some k20c0 }
/-- java/lang/Record -/
def k20 : Class := { plain "java/lang/Record" (some 0) with
  accessFlags := 1057
  interfaces := #[]
  cf := some (fileOf pool20 7 #[] #[{ accessFlags := 4, nameIndex := 5, descriptorIndex := 6, attributes := #[] }] 1057 2 #[] #[])
  fields := #[]
  methods := #[k20m0]
  instanceTypes := #[]
  staticTypes := #[]
  resolved := Array.replicate 22 none
  statics := none }

def pool21 : Array CpInfo := pool [(1, .methodref 2 3), (0, .class_ 4), (0, .nameAndType 5 6), (0, u "java/lang/Record"), (0, u "<init>"), (0, u "()V"), (0, .string 8), (0, u "severity"), (0, .methodref 10 11), (0, .class_ 12), (0, .nameAndType 13 14), (0, u "java/util/Objects"), (0, u "requireNonNull"), (0, u "(Ljava/lang/Object;Ljava/lang/String;)Ljava/lang/Object;"), (0, .string 16), (0, u "source"), (0, .string 18), (0, u "code"), (0, .interfaceMethodref 20 21), (0, .class_ 22), (0, .nameAndType 23 24), (0, u "java/util/List"), (0, u "copyOf"), (0, u "(Ljava/util/Collection;)Ljava/util/List;"), (0, .string 26), (0, u "text"), (0, .fieldref 28 29), (0, .class_ 30), (0, .nameAndType 8 31), (0, u "com/example/stepwize/stepwize/engine/Message"), (0, u "Lcom/example/stepwize/stepwize/engine/Message$Severity;"), (0, .fieldref 28 33), (0, .nameAndType 16 34), (0, u "Ljava/util/Optional;"), (0, .fieldref 28 36), (0, .nameAndType 18 34), (0, .fieldref 28 38), (0, .nameAndType 39 40), (0, u "arguments"), (0, u "Ljava/util/List;"), (0, .fieldref 28 42), (0, .nameAndType 26 43), (0, u "Ljava/lang/String;"), (1, .class_ 47), (1, u "java/util/Optional"), (1, u "()Ljava/util/Optional;"), (2, u "of"), (0, u "()Ljava/util/List;"), (0, .methodref 28 55), (0, .nameAndType 5 56), (0, u "(Lcom/example/stepwize/stepwize/engine/Message$Severity;Ljava/util/Optional;Ljava/util/Optional;Ljava/util/List;Ljava/lang/String;)V"), (0, .methodref 45 58), (0, .nameAndType 52 59), (0, u "(Ljava/lang/Object;)Ljava/util/Optional;"), (26, u "about"), (0, u "(Ljava/lang/String;)Lcom/example/stepwize/stepwize/engine/Message;"), (0, u "()Ljava/lang/String;"), (2, u "()Lcom/example/stepwize/stepwize/engine/Message$Severity;"), (5, .class_ 98), (0, u "com/example/stepwize/stepwize/engine/Message$Severity")] 23

def k21c0 : Code := { maxStack := 2, maxLocals := 6, code := prog_33_method_1_code, exceptionTable := #[], attributes := #[] }
def k21m0 : Method := { name := "<init>", desc := "(Lcom/example/stepwize/stepwize/engine/Message$Severity;Ljava/util/Optional;Ljava/util/Optional;Ljava/util/List;Ljava/lang/String;)V", sig := { parameters := [(.object "com/example/stepwize/stepwize/engine/Message$Severity"), (.object "java/util/Optional"), (.object "java/util/Optional"), (.object "java/util/List"), (.object "java/lang/String")], returnType := none }, accessFlags := 1, code := some k21c0 }
def k21c1 : Code := { maxStack := 7, maxLocals := 2, code := prog_33_method_4_code, exceptionTable := #[], attributes := #[] }
def k21m1 : Method := { name := "about", desc := "(Ljava/lang/String;)Lcom/example/stepwize/stepwize/engine/Message;", sig := { parameters := [(.object "java/lang/String")], returnType := some (.object "com/example/stepwize/stepwize/engine/Message") }, accessFlags := 1, code := some k21c1 }
def k21c2 : Code := { maxStack := 1, maxLocals := 1, code := prog_33_method_8_code, exceptionTable := #[], attributes := #[] }
def k21m2 : Method := { name := "severity", desc := "()Lcom/example/stepwize/stepwize/engine/Message$Severity;", sig := { parameters := [], returnType := some (.object "com/example/stepwize/stepwize/engine/Message$Severity") }, accessFlags := 1, code := some k21c2 }
def k21c3 : Code := { maxStack := 1, maxLocals := 1, code := prog_33_method_9_code, exceptionTable := #[], attributes := #[] }
def k21m3 : Method := { name := "source", desc := "()Ljava/util/Optional;", sig := { parameters := [], returnType := some (.object "java/util/Optional") }, accessFlags := 1, code := some k21c3 }
def k21c4 : Code := { maxStack := 1, maxLocals := 1, code := prog_33_method_10_code, exceptionTable := #[], attributes := #[] }
def k21m4 : Method := { name := "code", desc := "()Ljava/util/Optional;", sig := { parameters := [], returnType := some (.object "java/util/Optional") }, accessFlags := 1, code := some k21c4 }
def k21c5 : Code := { maxStack := 1, maxLocals := 1, code := prog_33_method_11_code, exceptionTable := #[], attributes := #[] }
def k21m5 : Method := { name := "arguments", desc := "()Ljava/util/List;", sig := { parameters := [], returnType := some (.object "java/util/List") }, accessFlags := 1, code := some k21c5 }
def k21c6 : Code := { maxStack := 1, maxLocals := 1, code := prog_33_method_12_code, exceptionTable := #[], attributes := #[] }
def k21m6 : Method := { name := "text", desc := "()Ljava/lang/String;", sig := { parameters := [], returnType := some (.object "java/lang/String") }, accessFlags := 1, code := some k21c6 }
/-- com/example/stepwize/stepwize/engine/Message -/
def k21 : Class := { plain "com/example/stepwize/stepwize/engine/Message" (some 20) with
  accessFlags := 49
  interfaces := #[]
  cf := some (fileOf pool21 28 #[.nestMembers #[97]] #[{ accessFlags := 1, nameIndex := 5, descriptorIndex := 56, attributes := #[] }, { accessFlags := 1, nameIndex := 86, descriptorIndex := 87, attributes := #[] }, { accessFlags := 1, nameIndex := 8, descriptorIndex := 91, attributes := #[] }, { accessFlags := 1, nameIndex := 16, descriptorIndex := 49, attributes := #[] }, { accessFlags := 1, nameIndex := 18, descriptorIndex := 49, attributes := #[] }, { accessFlags := 1, nameIndex := 39, descriptorIndex := 53, attributes := #[] }, { accessFlags := 1, nameIndex := 26, descriptorIndex := 88, attributes := #[] }] 49 2 #[] #[{ accessFlags := 18, nameIndex := 8, descriptorIndex := 31, attributes := #[] }, { accessFlags := 18, nameIndex := 16, descriptorIndex := 34, attributes := #[] }, { accessFlags := 18, nameIndex := 18, descriptorIndex := 34, attributes := #[] }, { accessFlags := 18, nameIndex := 39, descriptorIndex := 40, attributes := #[] }, { accessFlags := 18, nameIndex := 26, descriptorIndex := 43, attributes := #[] }])
  fields := #[{ name := "severity", type := (.object "com/example/stepwize/stepwize/engine/Message$Severity"), accessFlags := 18, slot := 0, constantValue := 0 }, { name := "source", type := (.object "java/util/Optional"), accessFlags := 18, slot := 1, constantValue := 0 }, { name := "code", type := (.object "java/util/Optional"), accessFlags := 18, slot := 2, constantValue := 0 }, { name := "arguments", type := (.object "java/util/List"), accessFlags := 18, slot := 3, constantValue := 0 }, { name := "text", type := (.object "java/lang/String"), accessFlags := 18, slot := 4, constantValue := 0 }]
  methods := #[k21m0, k21m1, k21m2, k21m3, k21m4, k21m5, k21m6]
  instanceTypes := #[(.object "com/example/stepwize/stepwize/engine/Message$Severity"), (.object "java/util/Optional"), (.object "java/util/Optional"), (.object "java/util/List"), (.object "java/lang/String")]
  staticTypes := #[]
  resolved := Array.replicate 122 none
  statics := none }

def pool22 : Array CpInfo := pool [(2, .class_ 4), (1, u "java/lang/Object"), (0, u "<init>"), (0, u "()V"), (35, .class_ 44), (1, u "java/util/Objects"), (0, u "requireNonNull"), (0, u "(Ljava/lang/Object;)Ljava/lang/Object;"), (47, u "(Ljava/lang/Object;Ljava/lang/String;)Ljava/lang/Object;")] 89

def k22m0 : Method := { name := "<init>", desc := "()V", sig := { parameters := [], returnType := none }, accessFlags := 2, code := none }
def k22c1 : Code := { maxStack := 2, maxLocals := 1, code := jdk_31_method_10_code, exceptionTable := #[], attributes := #[] }
def k22m1 : Method := { name := "requireNonNull", desc := "(Ljava/lang/Object;)Ljava/lang/Object;", sig := { parameters := [(.object "java/lang/Object")], returnType := some (.object "java/lang/Object") }, accessFlags := 9, code := some k22c1 }
def k22c2 : Code := { maxStack := 3, maxLocals := 2, code := jdk_31_method_11_code, exceptionTable := #[], attributes := #[] }
def k22m2 : Method := { name := "requireNonNull", desc := "(Ljava/lang/Object;Ljava/lang/String;)Ljava/lang/Object;", sig := { parameters := [(.object "java/lang/Object"), (.object "java/lang/String")], returnType := some (.object "java/lang/Object") }, accessFlags := 9, code := some k22c2 }
/-- java/util/Objects -/
def k22 : Class := { plain "java/util/Objects" (some 0) with
  accessFlags := 49
  interfaces := #[]
  cf := some (fileOf pool22 42 #[] #[{ accessFlags := 2, nameIndex := 5, descriptorIndex := 6, attributes := #[] }, { accessFlags := 9, nameIndex := 45, descriptorIndex := 46, attributes := #[] }, { accessFlags := 9, nameIndex := 45, descriptorIndex := 94, attributes := #[] }] 49 2 #[] #[])
  fields := #[]
  methods := #[k22m0, k22m1, k22m2]
  instanceTypes := #[]
  staticTypes := #[]
  resolved := Array.replicate 184 none
  statics := none }

def pool23 : Array CpInfo := pool [(2, .class_ 4), (1, u "java/lang/Object"), (0, u "<init>"), (0, u "()V"), (3, .class_ 11), (0, u "java/util/ImmutableCollections$List12"), (0, .class_ 13), (0, u "java/util/ImmutableCollections$ListN"), (0, .fieldref 12 15), (0, .nameAndType 16 17), (0, u "allowNulls"), (0, u "Z"), (0, .class_ 19), (0, u "java/util/List"), (0, .interfaceMethodref 21 22), (0, .class_ 23), (0, .nameAndType 24 25), (0, u "java/util/Collection"), (0, u "isEmpty"), (0, u "()Z"), (0, .interfaceMethodref 18 27), (0, .nameAndType 28 29), (0, u "of"), (0, u "()Ljava/util/List;"), (0, .interfaceMethodref 21 31), (0, .nameAndType 32 33), (0, u "toArray"), (0, u "()[Ljava/lang/Object;"), (0, .interfaceMethodref 18 35), (0, .nameAndType 28 36), (0, u "([Ljava/lang/Object;)Ljava/util/List;"), (10, .class_ 49), (1, u "java/util/ImmutableCollections"), (0, u "$assertionsDisabled"), (5, u "[Ljava/lang/Object;"), (5, u "EMPTY_LIST"), (0, u "Ljava/util/ImmutableCollections$ListN;"), (8, u "EMPTY_LIST_NULLS"), (22, u "SALT32L"), (0, u "J"), (2, u "REVERSE"), (6, u "archivedObjects"), (2, u "EMPTY"), (0, u "Ljava/lang/Object;"), (0, .class_ 112), (0, u "java/util/ImmutableCollections$SetN"), (5, u "EMPTY_SET"), (0, u "Ljava/util/ImmutableCollections$SetN;"), (0, .class_ 121), (0, u "java/util/ImmutableCollections$MapN"), (3, u "EMPTY_MAP"), (0, u "Ljava/util/ImmutableCollections$MapN;"), (4, u "EXPAND_FACTOR"), (0, u "I"), (9, u "listCopy"), (0, u "(Ljava/util/Collection;)Ljava/util/List;"), (25, .class_ 170), (0, u "java/util/ImmutableCollections$MapN$MapNIterator"), (0, .class_ 172), (0, u "java/util/ImmutableCollections$MapN$1"), (0, .class_ 174), (0, u "java/util/ImmutableCollections$Map1"), (0, .class_ 176), (0, u "java/util/ImmutableCollections$AbstractImmutableMap"), (0, .class_ 178), (0, u "java/util/ImmutableCollections$SetN$SetNIterator"), (0, .class_ 180), (0, u "java/util/ImmutableCollections$Set12"), (0, .class_ 182), (0, u "java/util/ImmutableCollections$Set12$1"), (0, .class_ 184), (0, u "java/util/ImmutableCollections$AbstractImmutableSet"), (0, .class_ 186), (0, u "java/util/ImmutableCollections$SubList"), (0, .class_ 188), (0, u "java/util/ImmutableCollections$ListItr"), (0, .class_ 190), (0, u "java/util/ImmutableCollections$AbstractImmutableList"), (0, .class_ 192), (0, u "java/util/ImmutableCollections$AbstractImmutableCollection"), (0, .class_ 194), (0, u "java/util/ImmutableCollections$Access"), (0, .class_ 196), (0, u "java/util/ImmutableCollections$Access$1")] 16

def k23m0 : Method := { name := "<init>", desc := "()V", sig := { parameters := [], returnType := none }, accessFlags := 2, code := none }
def k23c1 : Code := { maxStack := 1, maxLocals := 2, code := jdk_56_method_3_code, exceptionTable := #[], attributes := #[] }
def k23m1 : Method := { name := "listCopy", desc := "(Ljava/util/Collection;)Ljava/util/List;", sig := { parameters := [(.object "java/util/Collection")], returnType := some (.object "java/util/List") }, accessFlags := 8, code := some k23c1 }
/-- java/util/ImmutableCollections -/
def k23 : Class := { plain "java/util/ImmutableCollections" (some 0) with
  accessFlags := 32
  interfaces := #[]
  cf := some (fileOf pool23 47 #[.nestMembers #[120, 169, 171, 173, 175, 111, 177, 179, 181, 183, 12, 10, 185, 187, 189, 191, 193, 195]] #[{ accessFlags := 2, nameIndex := 5, descriptorIndex := 6, attributes := #[] }, { accessFlags := 8, nameIndex := 142, descriptorIndex := 143, attributes := #[] }] 32 2 #[] #[{ accessFlags := 26, nameIndex := 95, descriptorIndex := 96, attributes := #[] }, { accessFlags := 26, nameIndex := 99, descriptorIndex := 17, attributes := #[] }, { accessFlags := 10, nameIndex := 106, descriptorIndex := 56, attributes := #[] }, { accessFlags := 26, nameIndex := 109, descriptorIndex := 110, attributes := #[] }, { accessFlags := 24, nameIndex := 62, descriptorIndex := 63, attributes := #[] }, { accessFlags := 24, nameIndex := 72, descriptorIndex := 63, attributes := #[] }, { accessFlags := 24, nameIndex := 118, descriptorIndex := 119, attributes := #[] }, { accessFlags := 24, nameIndex := 125, descriptorIndex := 126, attributes := #[] }, { accessFlags := 24, nameIndex := 131, descriptorIndex := 132, attributes := #[] }, { accessFlags := 4120, nameIndex := 50, descriptorIndex := 17, attributes := #[] }])
  fields := #[{ name := "SALT32L", type := .long, accessFlags := 26, slot := 0, constantValue := 0 }, { name := "REVERSE", type := .boolean, accessFlags := 26, slot := 1, constantValue := 0 }, { name := "archivedObjects", type := (.array (.object "java/lang/Object")), accessFlags := 10, slot := 2, constantValue := 0 }, { name := "EMPTY", type := (.object "java/lang/Object"), accessFlags := 26, slot := 3, constantValue := 0 }, { name := "EMPTY_LIST", type := (.object "java/util/ImmutableCollections$ListN"), accessFlags := 24, slot := 4, constantValue := 0 }, { name := "EMPTY_LIST_NULLS", type := (.object "java/util/ImmutableCollections$ListN"), accessFlags := 24, slot := 5, constantValue := 0 }, { name := "EMPTY_SET", type := (.object "java/util/ImmutableCollections$SetN"), accessFlags := 24, slot := 6, constantValue := 0 }, { name := "EMPTY_MAP", type := (.object "java/util/ImmutableCollections$MapN"), accessFlags := 24, slot := 7, constantValue := 0 }, { name := "EXPAND_FACTOR", type := .int, accessFlags := 24, slot := 8, constantValue := 0 }, { name := "$assertionsDisabled", type := .boolean, accessFlags := 4120, slot := 9, constantValue := 0 }]
  methods := #[k23m0, k23m1]
  instanceTypes := #[]
  staticTypes := #[.long, .boolean, (.array (.object "java/lang/Object")), (.object "java/lang/Object"), (.object "java/util/ImmutableCollections$ListN"), (.object "java/util/ImmutableCollections$ListN"), (.object "java/util/ImmutableCollections$SetN"), (.object "java/util/ImmutableCollections$MapN"), .int, .boolean]
  resolved := Array.replicate 213 none
  statics := some 4 }

def pool24 : Array CpInfo := pool [(1, .methodref 2 3), (0, .class_ 4), (0, .nameAndType 5 6), (0, u "java/util/AbstractCollection"), (0, u "<init>"), (0, u "()V"), (1, .class_ 10), (1, u "java/util/ImmutableCollections"), (2, .class_ 14), (0, u "java/util/ImmutableCollections$AbstractImmutableCollection")] 41

def k24c0 : Code := { maxStack := 1, maxLocals := 1, code := jdk_47_method_1_code, exceptionTable := #[], attributes := #[] }
def k24m0 : Method := { name := "<init>", desc := "()V", sig := { parameters := [], returnType := none }, accessFlags := 0, code := some k24c0 }
/-- java/util/ImmutableCollections$AbstractImmutableCollection -/
def k24 : Class := { plain "java/util/ImmutableCollections$AbstractImmutableCollection" (some 12) with
  accessFlags := 1056
  interfaces := #[]
  cf := some (fileOf pool24 13 #[.nestHost 8] #[{ accessFlags := 0, nameIndex := 5, descriptorIndex := 6, attributes := #[] }] 1056 2 #[] #[])
  fields := #[]
  methods := #[k24m0]
  instanceTypes := #[]
  staticTypes := #[]
  resolved := Array.replicate 56 none
  statics := none }

def pool25 : Array CpInfo := pool [(1, .methodref 2 3), (0, .class_ 4), (0, .nameAndType 5 6), (0, u "java/util/ImmutableCollections$AbstractImmutableCollection"), (0, u "<init>"), (0, u "()V"), (1, .class_ 10), (1, u "java/util/ImmutableCollections"), (3, .class_ 16), (1, u "java/util/ImmutableCollections$AbstractImmutableList"), (60, .class_ 78), (0, u "java/util/List"), (45, .class_ 125), (0, u "java/util/RandomAccess")] 70

def k25c0 : Code := { maxStack := 1, maxLocals := 1, code := jdk_46_method_1_code, exceptionTable := #[], attributes := #[] }
def k25m0 : Method := { name := "<init>", desc := "()V", sig := { parameters := [], returnType := none }, accessFlags := 0, code := some k25c0 }
/-- java/util/ImmutableCollections$AbstractImmutableList -/
def k25 : Class := { plain "java/util/ImmutableCollections$AbstractImmutableList" (some 24) with
  accessFlags := 1056
  interfaces := #[14, 16]
  cf := some (fileOf pool25 14 #[.nestHost 8] #[{ accessFlags := 0, nameIndex := 5, descriptorIndex := 6, attributes := #[] }] 1056 2 #[77, 124] #[])
  fields := #[]
  methods := #[k25m0]
  instanceTypes := #[]
  staticTypes := #[]
  resolved := Array.replicate 196 none
  statics := none }

def pool26 : Array CpInfo := pool [(1, .methodref 2 3), (0, .class_ 4), (0, .nameAndType 5 6), (0, u "java/util/ImmutableCollections$AbstractImmutableList"), (0, u "<init>"), (0, u "()V"), (0, .methodref 8 9), (0, .class_ 10), (0, .nameAndType 11 12), (0, u "java/util/Objects"), (0, u "requireNonNull"), (0, u "(Ljava/lang/Object;)Ljava/lang/Object;"), (0, .fieldref 14 15), (0, .class_ 16), (0, .nameAndType 17 18), (0, u "java/util/ImmutableCollections$List12"), (0, u "e0"), (0, u "Ljava/lang/Object;"), (0, .fieldref 20 21), (0, .class_ 22), (0, .nameAndType 23 18), (0, u "java/util/ImmutableCollections"), (0, u "EMPTY"), (0, .fieldref 14 25), (0, .nameAndType 26 18), (0, u "e1"), (24, u "size"), (0, u "()I"), (17, .class_ 71), (0, u "java/io/Serializable"), (4, u "(Ljava/lang/Object;)V"), (13, u "get"), (0, u "(I)Ljava/lang/Object;")] 33

def k26c0 : Code := { maxStack := 2, maxLocals := 2, code := jdk_44_method_1_code, exceptionTable := #[], attributes := #[] }
def k26m0 : Method := { name := "<init>", desc := "(Ljava/lang/Object;)V", sig := { parameters := [(.object "java/lang/Object")], returnType := none }, accessFlags := 0, code := some k26c0 }
def k26c1 : Code := { maxStack := 2, maxLocals := 1, code := jdk_44_method_3_code, exceptionTable := #[], attributes := #[] }
def k26m1 : Method := { name := "size", desc := "()I", sig := { parameters := [], returnType := some .int }, accessFlags := 1, code := some k26c1 }
def k26c2 : Code := { maxStack := 2, maxLocals := 2, code := jdk_44_method_5_code, exceptionTable := #[], attributes := #[] }
def k26m2 : Method := { name := "get", desc := "(I)Ljava/lang/Object;", sig := { parameters := [.int], returnType := some (.object "java/lang/Object") }, accessFlags := 1, code := some k26c2 }
/-- java/util/ImmutableCollections$List12 -/
def k26 : Class := { plain "java/util/ImmutableCollections$List12" (some 25) with
  accessFlags := 48
  interfaces := #[4]
  cf := some (fileOf pool26 14 #[.nestHost 20] #[{ accessFlags := 0, nameIndex := 5, descriptorIndex := 76, attributes := #[] }, { accessFlags := 1, nameIndex := 51, descriptorIndex := 52, attributes := #[] }, { accessFlags := 1, nameIndex := 90, descriptorIndex := 91, attributes := #[] }] 48 2 #[70] #[{ accessFlags := 18, nameIndex := 17, descriptorIndex := 18, attributes := #[] }, { accessFlags := 18, nameIndex := 26, descriptorIndex := 18, attributes := #[] }])
  fields := #[{ name := "e0", type := (.object "java/lang/Object"), accessFlags := 18, slot := 0, constantValue := 0 }, { name := "e1", type := (.object "java/lang/Object"), accessFlags := 18, slot := 1, constantValue := 0 }]
  methods := #[k26m0, k26m1, k26m2]
  instanceTypes := #[(.object "java/lang/Object"), (.object "java/lang/Object")]
  staticTypes := #[]
  resolved := Array.replicate 125 none
  statics := none }

def pool27 : Array CpInfo := pool [(2, .class_ 4), (1, u "java/util/ImmutableCollections$AbstractImmutableList"), (2, .fieldref 8 9), (0, .class_ 10), (0, .nameAndType 11 12), (0, u "java/util/ImmutableCollections$ListN"), (0, u "elements"), (0, u "[Ljava/lang/Object;"), (2, u "allowNulls"), (0, u "Z"), (42, .class_ 60), (0, u "java/io/Serializable"), (16, u "size"), (0, u "()I"), (35, .class_ 115), (0, u "java/util/ImmutableCollections")] 3

def k27c0 : Code := { maxStack := 1, maxLocals := 1, code := jdk_45_method_3_code, exceptionTable := #[], attributes := #[] }
def k27m0 : Method := { name := "size", desc := "()I", sig := { parameters := [], returnType := some .int }, accessFlags := 1, code := some k27c0 }
/-- java/util/ImmutableCollections$ListN -/
def k27 : Class := { plain "java/util/ImmutableCollections$ListN" (some 25) with
  accessFlags := 48
  interfaces := #[4]
  cf := some (fileOf pool27 8 #[.nestHost 114] #[{ accessFlags := 1, nameIndex := 77, descriptorIndex := 78, attributes := #[] }] 48 2 #[59] #[{ accessFlags := 18, nameIndex := 11, descriptorIndex := 12, attributes := #[] }, { accessFlags := 18, nameIndex := 15, descriptorIndex := 16, attributes := #[] }])
  fields := #[{ name := "elements", type := (.array (.object "java/lang/Object")), accessFlags := 18, slot := 0, constantValue := 0 }, { name := "allowNulls", type := .boolean, accessFlags := 18, slot := 1, constantValue := 0 }]
  methods := #[k27m0]
  instanceTypes := #[(.array (.object "java/lang/Object")), .boolean]
  staticTypes := #[]
  resolved := Array.replicate 119 none
  statics := none }

def pool28 : Array CpInfo := pool [(6, .class_ 8), (1, u "java/lang/Object"), (0, u "<init>"), (0, u "()V"), (1, .class_ 14), (1, u "java/lang/StringUTF16"), (31, u "$assertionsDisabled"), (0, u "Z"), (13, u "HI_BYTE_SHIFT"), (0, u "I"), (2, u "LO_BYTE_SHIFT"), (49, .methodref 12 116), (0, .nameAndType 117 118), (0, u "compress"), (0, u "([CI[BII)I"), (3, u "([CII)[B"), (138, u "coderFromArrayLen"), (0, u "([BI)B"), (106, .class_ 371), (1, u "java/lang/StringUTF16$LinesSpliterator"), (58, u "MAX_LENGTH"), (196, .class_ 628), (0, u "java/lang/StringUTF16$CodePointsSpliterator"), (0, .class_ 630), (0, u "java/lang/StringUTF16$CharsSpliterator")] 4

def k28m0 : Method := { name := "<init>", desc := "()V", sig := { parameters := [], returnType := none }, accessFlags := 0, code := none }
def k28c1 : Code := { maxStack := 2, maxLocals := 2, code := jdk_52_method_15_code, exceptionTable := #[], attributes := #[] }
def k28m1 : Method := { name := "coderFromArrayLen", desc := "([BI)B", sig := { parameters := [(.array .byte), .int], returnType := some .byte }, accessFlags := 8, code := some k28c1 }
def k28c2 : Code := { maxStack := 5, maxLocals := 6, code := jdk_52_method_16_code, exceptionTable := #[], attributes := #[] }
def k28m2 : Method := { name := "compress", desc := "([CII)[B", sig := { parameters := [(.array .char), .int, .int], returnType := some (.array .byte) }, accessFlags := 9, code := some k28c2 }
def k28c3 : Code := { maxStack := 3, maxLocals := 7, code := jdk_52_method_21_code, exceptionTable := #[], attributes := #[] }
def k28m3 : Method := { name := "compress", desc := "([CI[BII)I", sig := { parameters := [(.array .char), .int, (.array .byte), .int, .int], returnType := some .int }, accessFlags := 9, code := some k28c3 }
/-- java/lang/StringUTF16 -/
def k28 : Class := { plain "java/lang/StringUTF16" (some 0) with
  accessFlags := 48
  interfaces := #[]
  cf := some (fileOf pool28 12 #[.nestMembers #[627, 629, 369]] #[{ accessFlags := 0, nameIndex := 9, descriptorIndex := 10, attributes := #[] }, { accessFlags := 8, nameIndex := 261, descriptorIndex := 262, attributes := #[] }, { accessFlags := 9, nameIndex := 117, descriptorIndex := 122, attributes := #[] }, { accessFlags := 9, nameIndex := 117, descriptorIndex := 118, attributes := #[] }] 48 6 #[] #[{ accessFlags := 26, nameIndex := 61, descriptorIndex := 62, attributes := #[] }, { accessFlags := 26, nameIndex := 65, descriptorIndex := 62, attributes := #[] }, { accessFlags := 24, nameIndex := 430, descriptorIndex := 62, attributes := #[] }, { accessFlags := 4120, nameIndex := 46, descriptorIndex := 47, attributes := #[] }])
  fields := #[{ name := "HI_BYTE_SHIFT", type := .int, accessFlags := 26, slot := 0, constantValue := 0 }, { name := "LO_BYTE_SHIFT", type := .int, accessFlags := 26, slot := 1, constantValue := 0 }, { name := "MAX_LENGTH", type := .int, accessFlags := 24, slot := 2, constantValue := 0 }, { name := "$assertionsDisabled", type := .boolean, accessFlags := 4120, slot := 3, constantValue := 0 }]
  methods := #[k28m0, k28m1, k28m2, k28m3]
  instanceTypes := #[]
  staticTypes := #[.int, .int, .int, .boolean]
  resolved := Array.replicate 635 none
  statics := none }

def pool29 : Array CpInfo := pool [(1, .methodref 2 3), (0, .class_ 4), (0, .nameAndType 5 6), (0, u "java/lang/Object"), (0, u "<init>"), (0, u "()V"), (1, .class_ 10), (1, u "java/lang/Number"), (2, .class_ 14), (0, u "java/io/Serializable"), (0, u "serialVersionUID"), (0, u "J")] 20

def k29c0 : Code := { maxStack := 1, maxLocals := 1, code := jdk_18_method_1_code, exceptionTable := #[], attributes := #[] }
def k29m0 : Method := { name := "<init>", desc := "()V", sig := { parameters := [], returnType := none }, accessFlags := 1, code := some k29c0 }
/-- java/lang/Number -/
def k29 : Class := { plain "java/lang/Number" (some 0) with
  accessFlags := 1057
  interfaces := #[4]
  cf := some (fileOf pool29 8 #[] #[{ accessFlags := 1, nameIndex := 5, descriptorIndex := 6, attributes := #[] }] 1057 2 #[13] #[{ accessFlags := 26, nameIndex := 15, descriptorIndex := 16, attributes := #[] }])
  fields := #[{ name := "serialVersionUID", type := .long, accessFlags := 26, slot := 0, constantValue := 0 }]
  methods := #[k29m0]
  instanceTypes := #[]
  staticTypes := #[.long]
  resolved := Array.replicate 37 none
  statics := none }

def pool30 : Array CpInfo := pool [(1, .class_ 2), (0, u "java/lang/Integer"), (16, u "digits"), (0, u "[C"), (46, u "<init>"), (17, u "DigitOnes"), (0, u "[B"), (2, u "DigitTens"), (10, .nameAndType 67 101), (0, u "()V"), (19, u "()I"), (65, u "valueOf"), (0, u "(I)Ljava/lang/Integer;"), (0, .class_ 190), (0, u "java/lang/Integer$IntegerCache"), (0, .fieldref 189 192), (0, .nameAndType 193 194), (0, u "high"), (0, u "I"), (0, .fieldref 189 196), (0, .nameAndType 197 198), (0, u "cache"), (0, u "[Ljava/lang/Integer;"), (0, .methodref 1 200), (0, .nameAndType 67 201), (0, u "(I)V"), (0, .methodref 203 100), (0, .class_ 204), (0, u "java/lang/Number"), (0, .fieldref 1 206), (0, .nameAndType 207 194), (0, u "value"), (5, u "intValue"), (88, u "TYPE"), (0, u "Ljava/lang/Class;"), (0, .class_ 305), (0, u "java/lang/Comparable"), (0, .class_ 307), (0, u "java/lang/constant/Constable"), (0, .class_ 309), (0, u "java/lang/constant/ConstantDesc"), (0, u "MIN_VALUE"), (1, u "MAX_VALUE"), (3, u "SIZE"), (1, u "BYTES"), (1, u "serialVersionUID"), (0, u "J")] 131

def k30c0 : Code := { maxStack := 3, maxLocals := 1, code := jdk_33_method_22_code, exceptionTable := #[], attributes := #[] }
def k30m0 : Method := { name := "valueOf", desc := "(I)Ljava/lang/Integer;", sig := { parameters := [.int], returnType := some (.object "java/lang/Integer") }, accessFlags := 9, code := some k30c0 }
def k30c1 : Code := { maxStack := 2, maxLocals := 2, code := jdk_33_method_23_code, exceptionTable := #[], attributes := #[] }
def k30m1 : Method := { name := "<init>", desc := "(I)V", sig := { parameters := [.int], returnType := none }, accessFlags := 1, code := some k30c1 }
def k30c2 : Code := { maxStack := 1, maxLocals := 1, code := jdk_33_method_27_code, exceptionTable := #[], attributes := #[] }
def k30m2 : Method := { name := "intValue", desc := "()I", sig := { parameters := [], returnType := some .int }, accessFlags := 1, code := some k30c2 }
/-- java/lang/Integer -/
def k30 : Class := { plain "java/lang/Integer" (some 29) with
  accessFlags := 49
  interfaces := #[3, 2, 8]
  cf := some (fileOf pool30 1 #[.nestMembers #[189]] #[{ accessFlags := 9, nameIndex := 187, descriptorIndex := 188, attributes := #[] }, { accessFlags := 1, nameIndex := 67, descriptorIndex := 201, attributes := #[] }, { accessFlags := 1, nameIndex := 213, descriptorIndex := 121, attributes := #[] }] 49 203 #[304, 306, 308] #[{ accessFlags := 25, nameIndex := 310, descriptorIndex := 194, attributes := #[] }, { accessFlags := 25, nameIndex := 312, descriptorIndex := 194, attributes := #[] }, { accessFlags := 25, nameIndex := 302, descriptorIndex := 303, attributes := #[] }, { accessFlags := 24, nameIndex := 19, descriptorIndex := 20, attributes := #[] }, { accessFlags := 24, nameIndex := 89, descriptorIndex := 86, attributes := #[] }, { accessFlags := 24, nameIndex := 85, descriptorIndex := 86, attributes := #[] }, { accessFlags := 18, nameIndex := 207, descriptorIndex := 194, attributes := #[] }, { accessFlags := 25, nameIndex := 316, descriptorIndex := 194, attributes := #[] }, { accessFlags := 25, nameIndex := 318, descriptorIndex := 194, attributes := #[] }, { accessFlags := 26, nameIndex := 320, descriptorIndex := 321, attributes := #[] }])
  fields := #[{ name := "MIN_VALUE", type := .int, accessFlags := 25, slot := 0, constantValue := 0 }, { name := "MAX_VALUE", type := .int, accessFlags := 25, slot := 1, constantValue := 0 }, { name := "TYPE", type := (.object "java/lang/Class"), accessFlags := 25, slot := 2, constantValue := 0 }, { name := "digits", type := (.array .char), accessFlags := 24, slot := 3, constantValue := 0 }, { name := "DigitTens", type := (.array .byte), accessFlags := 24, slot := 4, constantValue := 0 }, { name := "DigitOnes", type := (.array .byte), accessFlags := 24, slot := 5, constantValue := 0 }, { name := "value", type := .int, accessFlags := 18, slot := 0, constantValue := 0 }, { name := "SIZE", type := .int, accessFlags := 25, slot := 6, constantValue := 0 }, { name := "BYTES", type := .int, accessFlags := 25, slot := 7, constantValue := 0 }, { name := "serialVersionUID", type := .long, accessFlags := 26, slot := 8, constantValue := 0 }]
  methods := #[k30m0, k30m1, k30m2]
  instanceTypes := #[.int]
  staticTypes := #[.int, .int, (.object "java/lang/Class"), (.array .char), (.array .byte), (.array .byte), .int, .int, .long]
  resolved := Array.replicate 453 none
  statics := none }

def pool31 : Array CpInfo := pool [(1, .class_ 2), (0, u "java/lang/Math"), (1, .class_ 6), (1, u "java/lang/Object"), (0, u "<init>"), (0, u "()V"), (89, .class_ 100), (1, u "java/lang/Math$RandomNumberGeneratorHolder"), (71, u "negativeZeroFloatBits"), (0, u "J"), (2, u "negativeZeroDoubleBits"), (21, u "max"), (2, u "min"), (43, u "$assertionsDisabled"), (0, u "Z"), (88, u "(II)I"), (2, u "twoToTheDoubleScaleDown"), (0, u "D"), (4, u "twoToTheDoubleScaleUp"), (9, u "E"), (3, u "PI"), (2, u "TAU"), (2, u "DEGREES_TO_RADIANS"), (0, u "RADIANS_TO_DEGREES")] 94

def k31m0 : Method := { name := "<init>", desc := "()V", sig := { parameters := [], returnType := none }, accessFlags := 2, code := none }
def k31c1 : Code := { maxStack := 2, maxLocals := 2, code := jdk_29_method_65_code, exceptionTable := #[], attributes := #[] }
def k31m1 : Method := { name := "max", desc := "(II)I", sig := { parameters := [.int, .int], returnType := some .int }, accessFlags := 9, code := some k31c1 }
def k31c2 : Code := { maxStack := 2, maxLocals := 2, code := jdk_29_method_69_code, exceptionTable := #[], attributes := #[] }
def k31m2 : Method := { name := "min", desc := "(II)I", sig := { parameters := [.int, .int], returnType := some .int }, accessFlags := 9, code := some k31c2 }
/-- java/lang/Math -/
def k31 : Class := { plain "java/lang/Math" (some 0) with
  accessFlags := 49
  interfaces := #[]
  cf := some (fileOf pool31 1 #[.nestMembers #[98]] #[{ accessFlags := 2, nameIndex := 7, descriptorIndex := 8, attributes := #[] }, { accessFlags := 9, nameIndex := 198, descriptorIndex := 335, attributes := #[] }, { accessFlags := 9, nameIndex := 201, descriptorIndex := 335, attributes := #[] }] 49 4 #[] #[{ accessFlags := 25, nameIndex := 354, descriptorIndex := 339, attributes := #[] }, { accessFlags := 25, nameIndex := 358, descriptorIndex := 339, attributes := #[] }, { accessFlags := 25, nameIndex := 361, descriptorIndex := 339, attributes := #[] }, { accessFlags := 26, nameIndex := 364, descriptorIndex := 339, attributes := #[] }, { accessFlags := 26, nameIndex := 365, descriptorIndex := 339, attributes := #[] }, { accessFlags := 26, nameIndex := 172, descriptorIndex := 173, attributes := #[] }, { accessFlags := 26, nameIndex := 176, descriptorIndex := 173, attributes := #[] }, { accessFlags := 8, nameIndex := 344, descriptorIndex := 339, attributes := #[] }, { accessFlags := 8, nameIndex := 338, descriptorIndex := 339, attributes := #[] }, { accessFlags := 4120, nameIndex := 245, descriptorIndex := 246, attributes := #[] }])
  fields := #[{ name := "E", type := .double, accessFlags := 25, slot := 0, constantValue := 0 }, { name := "PI", type := .double, accessFlags := 25, slot := 1, constantValue := 0 }, { name := "TAU", type := .double, accessFlags := 25, slot := 2, constantValue := 0 }, { name := "DEGREES_TO_RADIANS", type := .double, accessFlags := 26, slot := 3, constantValue := 0 }, { name := "RADIANS_TO_DEGREES", type := .double, accessFlags := 26, slot := 4, constantValue := 0 }, { name := "negativeZeroFloatBits", type := .long, accessFlags := 26, slot := 5, constantValue := 0 }, { name := "negativeZeroDoubleBits", type := .long, accessFlags := 26, slot := 6, constantValue := 0 }, { name := "twoToTheDoubleScaleUp", type := .double, accessFlags := 8, slot := 7, constantValue := 0 }, { name := "twoToTheDoubleScaleDown", type := .double, accessFlags := 8, slot := 8, constantValue := 0 }, { name := "$assertionsDisabled", type := .boolean, accessFlags := 4120, slot := 9, constantValue := 0 }]
  methods := #[k31m0, k31m1, k31m2]
  instanceTypes := #[]
  staticTypes := #[.double, .double, .double, .double, .double, .long, .long, .double, .double, .boolean]
  resolved := Array.replicate 460 none
  statics := none }

def pool32 : Array CpInfo := pool [(2, .class_ 4), (1, u "java/lang/Object"), (0, u "<init>"), (0, u "()V"), (7, .class_ 16), (1, u "java/util/Arrays"), (57, .class_ 76), (1, u "java/util/Arrays$NaturalOrder"), (9, .methodref 2 87), (0, .nameAndType 88 89), (0, u "getClass"), (0, u "()Ljava/lang/Class;"), (20, .class_ 111), (0, u "[Ljava/lang/Object;"), (1, .class_ 115), (1, u "java/util/Arrays$LegacyMergeSort"), (1, u "Z"), (32, .methodref 151 152), (0, .class_ 153), (0, .nameAndType 154 155), (0, u "java/lang/System"), (0, u "arraycopy"), (0, u "(Ljava/lang/Object;ILjava/lang/Object;II)V"), (144, .methodref 14 301), (0, .nameAndType 302 303), (0, u "copyOf"), (0, u "([Ljava/lang/Object;ILjava/lang/Class;)[Ljava/lang/Object;"), (0, .methodref 305 306), (0, .class_ 307), (0, .nameAndType 308 309), (0, u "java/lang/Math"), (0, u "min"), (0, u "(II)I"), (65, .class_ 376), (0, u "java/util/Arrays$ArrayList"), (68, u "$assertionsDisabled"), (269, u "MIN_ARRAY_SORT_GRAN"), (0, u "I"), (2, u "INSERTIONSORT_THRESHOLD"), (140, u "([Ljava/lang/Object;I)[Ljava/lang/Object;"), (114, .class_ 976), (0, u "java/util/Arrays$ArrayItr")] 52

def k32m0 : Method := { name := "<init>", desc := "()V", sig := { parameters := [], returnType := none }, accessFlags := 2, code := none }
def k32c1 : Code := { maxStack := 3, maxLocals := 2, code := jdk_65_method_119_code, exceptionTable := #[], attributes := #[] }
def k32m1 : Method := { name := "copyOf", desc := "([Ljava/lang/Object;I)[Ljava/lang/Object;", sig := { parameters := [(.array (.object "java/lang/Object")), .int], returnType := some (.array (.object "java/lang/Object")) }, accessFlags := 9, code := some k32c1 }
def k32c2 : Code := { maxStack := 6, maxLocals := 4, code := jdk_65_method_120_code, exceptionTable := #[], attributes := #[] }
def k32m2 : Method := { name := "copyOf", desc := "([Ljava/lang/Object;ILjava/lang/Class;)[Ljava/lang/Object;", sig := { parameters := [(.array (.object "java/lang/Object")), .int, (.object "java/lang/Class")], returnType := some (.array (.object "java/lang/Object")) }, accessFlags := 9, code := some k32c2 }
/-- java/util/Arrays -/
def k32 : Class := { plain "java/util/Arrays" (some 0) with
  accessFlags := 49
  interfaces := #[]
  cf := some (fileOf pool32 14 #[.nestMembers #[975, 375, 113, 74]] #[{ accessFlags := 2, nameIndex := 5, descriptorIndex := 6, attributes := #[] }, { accessFlags := 9, nameIndex := 302, descriptorIndex := 860, attributes := #[] }, { accessFlags := 9, nameIndex := 302, descriptorIndex := 303, attributes := #[] }] 49 2 #[] #[{ accessFlags := 26, nameIndex := 715, descriptorIndex := 716, attributes := #[] }, { accessFlags := 26, nameIndex := 719, descriptorIndex := 716, attributes := #[] }, { accessFlags := 4120, nameIndex := 445, descriptorIndex := 117, attributes := #[] }])
  fields := #[{ name := "MIN_ARRAY_SORT_GRAN", type := .int, accessFlags := 26, slot := 0, constantValue := 0 }, { name := "INSERTIONSORT_THRESHOLD", type := .int, accessFlags := 26, slot := 1, constantValue := 0 }, { name := "$assertionsDisabled", type := .boolean, accessFlags := 4120, slot := 2, constantValue := 0 }]
  methods := #[k32m0, k32m1, k32m2]
  instanceTypes := #[]
  staticTypes := #[.int, .int, .boolean]
  resolved := Array.replicate 1029 none
  statics := none }

def pool33 : Array CpInfo := pool [(2, .class_ 4), (1, u "java/lang/Object"), (0, u "<init>"), (0, u "()V"), (1, .class_ 10), (1, u "java/lang/System"), (0, u "allowSecurityManager"), (0, u "I"), (16, u "cons"), (0, u "Ljava/io/Console;"), (77, .class_ 110), (1, u "java/lang/System$CallersHolder"), (43, u "initialErrStream"), (0, u "Ljava/io/PrintStream;"), (19, u "security"), (0, u "Ljava/lang/SecurityManager;"), (31, .class_ 209), (0, u "java/lang/System$1"), (7, u "props"), (0, u "Ljava/util/Properties;"), (2, u "lineSeparator"), (0, u "Ljava/lang/String;"), (96, .class_ 321), (1, u "java/lang/System$LoggerFinder"), (5, .class_ 328), (0, u "java/lang/System$Logger"), (67, u "err"), (2, u "out"), (91, u "notSupportedJnuEncoding"), (15, u "in"), (17, u "initialIn"), (0, u "Ljava/io/InputStream;"), (35, u "bootLayer"), (0, u "Ljava/lang/ModuleLayer;"), (99, .class_ 664), (0, u "java/lang/System$2"), (9, u "NEVER"), (2, u "MAYBE"), (49, u "arraycopy"), (0, u "(Ljava/lang/Object;ILjava/lang/Object;II)V"), (72, .class_ 802), (0, u "java/lang/System$Logger$Level")] 31

def k33m0 : Method := { name := "<init>", desc := "()V", sig := { parameters := [], returnType := none }, accessFlags := 2, code := none }
def k33m1 : Method := { name := "arraycopy", desc := "(Ljava/lang/Object;ILjava/lang/Object;II)V", sig := { parameters := [(.object "java/lang/Object"), .int, (.object "java/lang/Object"), .int, .int], returnType := none }, accessFlags := 265, code := none }
/-- java/lang/System -/
def k33 : Class := { plain "java/lang/System" (some 0) with
  accessFlags := 49
  interfaces := #[]
  cf := some (fileOf pool33 8 #[.nestMembers #[319, 327, 801, 108, 663, 208]] #[{ accessFlags := 2, nameIndex := 5, descriptorIndex := 6, attributes := #[] }, { accessFlags := 265, nameIndex := 727, descriptorIndex := 728, attributes := #[] }] 49 2 #[] #[{ accessFlags := 25, nameIndex := 507, descriptorIndex := 526, attributes := #[] }, { accessFlags := 25, nameIndex := 399, descriptorIndex := 155, attributes := #[] }, { accessFlags := 25, nameIndex := 396, descriptorIndex := 155, attributes := #[] }, { accessFlags := 10, nameIndex := 525, descriptorIndex := 526, attributes := #[] }, { accessFlags := 26, nameIndex := 674, descriptorIndex := 12, attributes := #[] }, { accessFlags := 26, nameIndex := 677, descriptorIndex := 12, attributes := #[] }, { accessFlags := 10, nameIndex := 11, descriptorIndex := 12, attributes := #[] }, { accessFlags := 74, nameIndex := 175, descriptorIndex := 176, attributes := #[] }, { accessFlags := 10, nameIndex := 491, descriptorIndex := 222, attributes := #[] }, { accessFlags := 74, nameIndex := 29, descriptorIndex := 30, attributes := #[] }, { accessFlags := 74, nameIndex := 154, descriptorIndex := 155, attributes := #[] }, { accessFlags := 10, nameIndex := 217, descriptorIndex := 218, attributes := #[] }, { accessFlags := 10, nameIndex := 221, descriptorIndex := 222, attributes := #[] }, { accessFlags := 8, nameIndex := 562, descriptorIndex := 563, attributes := #[] }])
  fields := #[{ name := "in", type := (.object "java/io/InputStream"), accessFlags := 25, slot := 0, constantValue := 0 }, { name := "out", type := (.object "java/io/PrintStream"), accessFlags := 25, slot := 1, constantValue := 0 }, { name := "err", type := (.object "java/io/PrintStream"), accessFlags := 25, slot := 2, constantValue := 0 }, { name := "initialIn", type := (.object "java/io/InputStream"), accessFlags := 10, slot := 3, constantValue := 0 }, { name := "NEVER", type := .int, accessFlags := 26, slot := 4, constantValue := 0 }, { name := "MAYBE", type := .int, accessFlags := 26, slot := 5, constantValue := 0 }, { name := "allowSecurityManager", type := .int, accessFlags := 10, slot := 6, constantValue := 0 }, { name := "security", type := (.object "java/lang/SecurityManager"), accessFlags := 74, slot := 7, constantValue := 0 }, { name := "notSupportedJnuEncoding", type := (.object "java/lang/String"), accessFlags := 10, slot := 8, constantValue := 0 }, { name := "cons", type := (.object "java/io/Console"), accessFlags := 74, slot := 9, constantValue := 0 }, { name := "initialErrStream", type := (.object "java/io/PrintStream"), accessFlags := 74, slot := 10, constantValue := 0 }, { name := "props", type := (.object "java/util/Properties"), accessFlags := 10, slot := 11, constantValue := 0 }, { name := "lineSeparator", type := (.object "java/lang/String"), accessFlags := 10, slot := 12, constantValue := 0 }, { name := "bootLayer", type := (.object "java/lang/ModuleLayer"), accessFlags := 8, slot := 13, constantValue := 0 }]
  methods := #[k33m0, k33m1]
  instanceTypes := #[]
  staticTypes := #[(.object "java/io/InputStream"), (.object "java/io/PrintStream"), (.object "java/io/PrintStream"), (.object "java/io/InputStream"), .int, .int, .int, (.object "java/lang/SecurityManager"), (.object "java/lang/String"), (.object "java/io/Console"), (.object "java/io/PrintStream"), (.object "java/util/Properties"), (.object "java/lang/String"), (.object "java/lang/ModuleLayer")]
  resolved := Array.replicate 834 none
  statics := none }

def pool34 : Array CpInfo := pool [(2, .class_ 4), (1, u "java/lang/Object"), (0, u "<init>"), (0, u "()V"), (0, .class_ 8), (0, u "java/lang/Integer"), (7, .class_ 18), (1, u "java/lang/Integer$IntegerCache"), (0, u "$assertionsDisabled"), (0, u "Z"), (26, u "high"), (0, u "I"), (8, u "archivedCache"), (0, u "[Ljava/lang/Integer;"), (12, u "cache"), (0, u "low")] 27

def k34m0 : Method := { name := "<init>", desc := "()V", sig := { parameters := [], returnType := none }, accessFlags := 2, code := none }
/-- java/lang/Integer$IntegerCache -/
def k34 : Class := { plain "java/lang/Integer$IntegerCache" (some 0) with
  accessFlags := 48
  interfaces := #[]
  cf := some (fileOf pool34 16 #[.nestHost 7] #[{ accessFlags := 2, nameIndex := 5, descriptorIndex := 6, attributes := #[] }] 48 2 #[] #[{ accessFlags := 24, nameIndex := 72, descriptorIndex := 48, attributes := #[] }, { accessFlags := 24, nameIndex := 47, descriptorIndex := 48, attributes := #[] }, { accessFlags := 24, nameIndex := 71, descriptorIndex := 58, attributes := #[] }, { accessFlags := 8, nameIndex := 57, descriptorIndex := 58, attributes := #[] }, { accessFlags := 4120, nameIndex := 19, descriptorIndex := 20, attributes := #[] }])
  fields := #[{ name := "low", type := .int, accessFlags := 24, slot := 0, constantValue := 0 }, { name := "high", type := .int, accessFlags := 24, slot := 1, constantValue := 0 }, { name := "cache", type := (.array (.object "java/lang/Integer")), accessFlags := 24, slot := 2, constantValue := 0 }, { name := "archivedCache", type := (.array (.object "java/lang/Integer")), accessFlags := 8, slot := 3, constantValue := 0 }, { name := "$assertionsDisabled", type := .boolean, accessFlags := 4120, slot := 4, constantValue := 0 }]
  methods := #[k34m0]
  instanceTypes := #[]
  staticTypes := #[.int, .int, (.array (.object "java/lang/Integer")), (.array (.object "java/lang/Integer")), .boolean]
  resolved := Array.replicate 100 none
  statics := some 5 }

def pool35 : Array CpInfo := pool [(4, .class_ 6), (1, u "java/lang/Object"), (0, u "<init>"), (0, u "()V"), (5, .class_ 16), (1, u "java/lang/StringLatin1"), (104, u "$assertionsDisabled"), (0, u "Z"), (98, .class_ 223), (1, u "java/lang/StringLatin1$LinesSpliterator"), (166, .class_ 391), (0, u "java/lang/StringLatin1$CharsSpliterator")] 3

def k35m0 : Method := { name := "<init>", desc := "()V", sig := { parameters := [], returnType := none }, accessFlags := 0, code := none }
/-- java/lang/StringLatin1 -/
def k35 : Class := { plain "java/lang/StringLatin1" (some 0) with
  accessFlags := 48
  interfaces := #[]
  cf := some (fileOf pool35 14 #[.nestMembers #[390, 221]] #[{ accessFlags := 0, nameIndex := 7, descriptorIndex := 8, attributes := #[] }] 48 4 #[] #[{ accessFlags := 4120, nameIndex := 121, descriptorIndex := 122, attributes := #[] }])
  fields := #[{ name := "$assertionsDisabled", type := .boolean, accessFlags := 4120, slot := 0, constantValue := 0 }]
  methods := #[k35m0]
  instanceTypes := #[]
  staticTypes := #[.boolean]
  resolved := Array.replicate 395 none
  statics := none }

def pool36 : Array CpInfo := pool [(2, .class_ 4), (1, u "java/lang/Object"), (0, u "<init>"), (0, u "()V"), (17, .class_ 26), (1, u "jdk/internal/util/Preconditions"), (28, .class_ 56), (0, u "jdk/internal/util/Preconditions$4"), (57, .class_ 115), (0, u "jdk/internal/util/Preconditions$1"), (7, u "SIOOBE_FORMATTER"), (0, u "Ljava/util/function/BiFunction;"), (0, .class_ 126), (0, u "jdk/internal/util/Preconditions$2"), (3, u "AIOOBE_FORMATTER"), (0, .class_ 132), (0, u "jdk/internal/util/Preconditions$3"), (3, u "IOOBE_FORMATTER")] 57

def k36m0 : Method := { name := "<init>", desc := "()V", sig := { parameters := [], returnType := none }, accessFlags := 1, code := none }
/-- jdk/internal/util/Preconditions -/
def k36 : Class := { plain "jdk/internal/util/Preconditions" (some 0) with
  accessFlags := 33
  interfaces := #[]
  cf := some (fileOf pool36 24 #[.nestMembers #[55, 131, 125, 114]] #[{ accessFlags := 1, nameIndex := 5, descriptorIndex := 6, attributes := #[] }] 33 2 #[] #[{ accessFlags := 25, nameIndex := 123, descriptorIndex := 124, attributes := #[] }, { accessFlags := 25, nameIndex := 130, descriptorIndex := 124, attributes := #[] }, { accessFlags := 25, nameIndex := 136, descriptorIndex := 124, attributes := #[] }])
  fields := #[{ name := "SIOOBE_FORMATTER", type := (.object "java/util/function/BiFunction"), accessFlags := 25, slot := 0, constantValue := 0 }, { name := "AIOOBE_FORMATTER", type := (.object "java/util/function/BiFunction"), accessFlags := 25, slot := 1, constantValue := 0 }, { name := "IOOBE_FORMATTER", type := (.object "java/util/function/BiFunction"), accessFlags := 25, slot := 2, constantValue := 0 }]
  methods := #[k36m0]
  instanceTypes := #[]
  staticTypes := #[(.object "java/util/function/BiFunction"), (.object "java/util/function/BiFunction"), (.object "java/util/function/BiFunction")]
  resolved := Array.replicate 194 none
  statics := some 6 }

def pool37 : Array CpInfo := pool [(9, u "<init>"), (6, .class_ 18), (1, u "java/lang/Object"), (0, u "()V"), (1, .class_ 23), (1, u "jdk/internal/util/ArraysSupport"), (0, u "LOG2_ARRAY_LONG_INDEX_SCALE"), (0, u "I"), (2, u "U"), (0, u "Ljdk/internal/misc/Unsafe;"), (8, u "BIG_ENDIAN"), (0, u "Z"), (8, u "LOG2_BYTE_BIT_SIZE"), (4, u "LOG2_ARRAY_INT_INDEX_SCALE"), (54, u "JLA"), (0, u "Ljdk/internal/access/JavaLangAccess;"), (11, u "LOG2_ARRAY_BOOLEAN_INDEX_SCALE"), (9, u "LOG2_ARRAY_BYTE_INDEX_SCALE"), (5, u "LOG2_ARRAY_CHAR_INDEX_SCALE"), (5, u "LOG2_ARRAY_SHORT_INDEX_SCALE"), (18, u "LOG2_ARRAY_FLOAT_INDEX_SCALE"), (24, u "LOG2_ARRAY_DOUBLE_INDEX_SCALE"), (89, u "T_BOOLEAN"), (2, u "T_CHAR"), (1, u "T_FLOAT"), (1, u "T_DOUBLE"), (1, u "T_BYTE"), (1, u "T_SHORT"), (1, u "T_INT"), (1, u "T_LONG"), (1, u "SOFT_MAX_ARRAY_LENGTH")] 83

def k37m0 : Method := { name := "<init>", desc := "()V", sig := { parameters := [], returnType := none }, accessFlags := 2, code := none }
/-- jdk/internal/util/ArraysSupport -/
def k37 : Class := { plain "jdk/internal/util/ArraysSupport" (some 0) with
  accessFlags := 33
  interfaces := #[]
  cf := some (fileOf pool37 21 #[] #[{ accessFlags := 2, nameIndex := 9, descriptorIndex := 19, attributes := #[] }] 33 16 #[] #[{ accessFlags := 24, nameIndex := 28, descriptorIndex := 29, attributes := #[] }, { accessFlags := 26, nameIndex := 38, descriptorIndex := 39, attributes := #[] }, { accessFlags := 25, nameIndex := 121, descriptorIndex := 25, attributes := #[] }, { accessFlags := 25, nameIndex := 131, descriptorIndex := 25, attributes := #[] }, { accessFlags := 25, nameIndex := 137, descriptorIndex := 25, attributes := #[] }, { accessFlags := 25, nameIndex := 143, descriptorIndex := 25, attributes := #[] }, { accessFlags := 25, nameIndex := 53, descriptorIndex := 25, attributes := #[] }, { accessFlags := 25, nameIndex := 24, descriptorIndex := 25, attributes := #[] }, { accessFlags := 25, nameIndex := 162, descriptorIndex := 25, attributes := #[] }, { accessFlags := 25, nameIndex := 187, descriptorIndex := 25, attributes := #[] }, { accessFlags := 26, nameIndex := 48, descriptorIndex := 25, attributes := #[] }, { accessFlags := 25, nameIndex := 277, descriptorIndex := 25, attributes := #[] }, { accessFlags := 25, nameIndex := 280, descriptorIndex := 25, attributes := #[] }, { accessFlags := 25, nameIndex := 282, descriptorIndex := 25, attributes := #[] }, { accessFlags := 25, nameIndex := 284, descriptorIndex := 25, attributes := #[] }, { accessFlags := 25, nameIndex := 286, descriptorIndex := 25, attributes := #[] }, { accessFlags := 25, nameIndex := 288, descriptorIndex := 25, attributes := #[] }, { accessFlags := 25, nameIndex := 290, descriptorIndex := 25, attributes := #[] }, { accessFlags := 25, nameIndex := 292, descriptorIndex := 25, attributes := #[] }, { accessFlags := 26, nameIndex := 108, descriptorIndex := 109, attributes := #[] }, { accessFlags := 25, nameIndex := 294, descriptorIndex := 25, attributes := #[] }])
  fields := #[{ name := "U", type := (.object "jdk/internal/misc/Unsafe"), accessFlags := 24, slot := 0, constantValue := 0 }, { name := "BIG_ENDIAN", type := .boolean, accessFlags := 26, slot := 1, constantValue := 0 }, { name := "LOG2_ARRAY_BOOLEAN_INDEX_SCALE", type := .int, accessFlags := 25, slot := 2, constantValue := 0 }, { name := "LOG2_ARRAY_BYTE_INDEX_SCALE", type := .int, accessFlags := 25, slot := 3, constantValue := 0 }, { name := "LOG2_ARRAY_CHAR_INDEX_SCALE", type := .int, accessFlags := 25, slot := 4, constantValue := 0 }, { name := "LOG2_ARRAY_SHORT_INDEX_SCALE", type := .int, accessFlags := 25, slot := 5, constantValue := 0 }, { name := "LOG2_ARRAY_INT_INDEX_SCALE", type := .int, accessFlags := 25, slot := 6, constantValue := 0 }, { name := "LOG2_ARRAY_LONG_INDEX_SCALE", type := .int, accessFlags := 25, slot := 7, constantValue := 0 }, { name := "LOG2_ARRAY_FLOAT_INDEX_SCALE", type := .int, accessFlags := 25, slot := 8, constantValue := 0 }, { name := "LOG2_ARRAY_DOUBLE_INDEX_SCALE", type := .int, accessFlags := 25, slot := 9, constantValue := 0 }, { name := "LOG2_BYTE_BIT_SIZE", type := .int, accessFlags := 26, slot := 10, constantValue := 0 }, { name := "T_BOOLEAN", type := .int, accessFlags := 25, slot := 11, constantValue := 0 }, { name := "T_CHAR", type := .int, accessFlags := 25, slot := 12, constantValue := 0 }, { name := "T_FLOAT", type := .int, accessFlags := 25, slot := 13, constantValue := 0 }, { name := "T_DOUBLE", type := .int, accessFlags := 25, slot := 14, constantValue := 0 }, { name := "T_BYTE", type := .int, accessFlags := 25, slot := 15, constantValue := 0 }, { name := "T_SHORT", type := .int, accessFlags := 25, slot := 16, constantValue := 0 }, { name := "T_INT", type := .int, accessFlags := 25, slot := 17, constantValue := 0 }, { name := "T_LONG", type := .int, accessFlags := 25, slot := 18, constantValue := 0 }, { name := "JLA", type := (.object "jdk/internal/access/JavaLangAccess"), accessFlags := 26, slot := 19, constantValue := 0 }, { name := "SOFT_MAX_ARRAY_LENGTH", type := .int, accessFlags := 25, slot := 20, constantValue := 0 }]
  methods := #[k37m0]
  instanceTypes := #[]
  staticTypes := #[(.object "jdk/internal/misc/Unsafe"), .boolean, .int, .int, .int, .int, .int, .int, .int, .int, .int, .int, .int, .int, .int, .int, .int, .int, .int, (.object "jdk/internal/access/JavaLangAccess"), .int]
  resolved := Array.replicate 378 none
  statics := none }

def pool38 : Array CpInfo := pool [(1, u "java/lang/Class"), (0, .class_ 1), (0, u "java/lang/Object"), (0, .class_ 3)] 0

/-- java/lang/Class -/
def k38 : Class := { plain "java/lang/Class" (some 0) with
  accessFlags := 49
  interfaces := #[]
  cf := some (fileOf pool38 2 #[] #[] 49 4 #[] #[])
  fields := #[]
  methods := #[]
  instanceTypes := #[]
  staticTypes := #[]
  resolved := Array.replicate 5 none
  statics := none }

/-- the primitive byte -/
def k39 : Class := { plain "byte" none with kind := .primitive 'B', accessFlags := 0x411 }
/-- [B -/
def k40 : Class := { plain "[B" (some 0) with kind := .array 39 .byte, interfaces := #[17, 4], accessFlags := 1041 }

/-- the primitive char -/
def k41 : Class := { plain "char" none with kind := .primitive 'C', accessFlags := 0x411 }
/-- [C -/
def k42 : Class := { plain "[C" (some 0) with kind := .array 41 .char, interfaces := #[17, 4], accessFlags := 1041 }

/-- the primitive int -/
def k43 : Class := { plain "int" none with kind := .primitive 'I', accessFlags := 0x411 }
/-- [I -/
def k44 : Class := { plain "[I" (some 0) with kind := .array 43 .int, interfaces := #[17, 4], accessFlags := 1041 }

/-- [Ljava/lang/Integer; -/
def k45 : Class := { plain "[Ljava/lang/Integer;" (some 0) with kind := .array 30 (.object "java/lang/Integer"), interfaces := #[17, 4], accessFlags := 1041 }

/-- [Ljava/lang/Object; -/
def k46 : Class := { plain "[Ljava/lang/Object;" (some 0) with kind := .array 0 (.object "java/lang/Object"), interfaces := #[17, 4], accessFlags := 1041, mirror := some 7 }

def heap : Heap := #[{ cls := 6, slots := #[.ref 266, .ref 267, .ref 268, .null], vm := .statics 6 },
  { cls := 9, slots := #[.long 0, .int 1, .null, .int 0, .null, .int 0, .int 0], vm := .statics 9 },
  { cls := 18, slots := #[.long 0, .int 0, .ref 270, .ref 271], vm := .statics 18 },
  { cls := 19, slots := #[.ref 272], vm := .statics 19 },
  { cls := 23, slots := #[.long 0, .int 0, .null, .ref 273, .ref 269, .null, .null, .null, .int 0, .int 1], vm := .statics 23 },
  { cls := 34, slots := #[.int 0, .int 127, .ref 8, .null, .int 0], vm := .statics 34 },
  { cls := 36, slots := #[.null, .null, .null], vm := .statics 36 },
  { cls := 38, slots := #[], vm := .mirror 46 },
  { cls := 45, slots := #[.ref 10, .ref 11, .ref 12, .ref 13, .ref 14, .ref 15, .ref 16, .ref 17, .ref 18, .ref 19, .ref 20, .ref 21, .ref 22, .ref 23, .ref 24, .ref 25, .ref 26, .ref 27, .ref 28, .ref 29, .ref 30, .ref 31, .ref 32, .ref 33, .ref 34, .ref 35, .ref 36, .ref 37, .ref 38, .ref 39, .ref 40, .ref 41, .ref 42, .ref 43, .ref 44, .ref 45, .ref 46, .ref 47, .ref 48, .ref 49, .ref 50, .ref 51, .ref 52, .ref 53, .ref 54, .ref 55, .ref 56, .ref 57, .ref 58, .ref 59, .ref 60, .ref 61, .ref 62, .ref 63, .ref 64, .ref 65, .ref 66, .ref 67, .ref 68, .ref 69, .ref 70, .ref 71, .ref 72, .ref 73, .ref 74, .ref 75, .ref 76, .ref 77, .ref 78, .ref 79, .ref 80, .ref 81, .ref 82, .ref 83, .ref 84, .ref 85, .ref 86, .ref 87, .ref 88, .ref 89, .ref 90, .ref 91, .ref 92, .ref 93, .ref 94, .ref 95, .ref 96, .ref 97, .ref 98, .ref 99, .ref 100, .ref 101, .ref 102, .ref 103, .ref 104, .ref 105, .ref 106, .ref 107, .ref 108, .ref 109, .ref 110, .ref 111, .ref 112, .ref 113, .ref 114, .ref 115, .ref 116, .ref 117, .ref 118, .ref 119, .ref 120, .ref 121, .ref 122, .ref 123, .ref 124, .ref 125, .ref 126, .ref 127, .ref 128, .ref 129, .ref 130, .ref 131, .ref 132, .ref 133, .ref 134, .ref 135, .ref 136, .ref 137, .ref 138, .ref 139, .ref 140, .ref 141, .ref 142, .ref 143, .ref 144, .ref 145, .ref 146, .ref 147, .ref 148, .ref 149, .ref 150, .ref 151, .ref 152, .ref 153, .ref 154, .ref 155, .ref 156, .ref 157, .ref 158, .ref 159, .ref 160, .ref 161, .ref 162, .ref 163, .ref 164, .ref 165, .ref 166, .ref 167, .ref 168, .ref 169, .ref 170, .ref 171, .ref 172, .ref 173, .ref 174, .ref 175, .ref 176, .ref 177, .ref 178, .ref 179, .ref 180, .ref 181, .ref 182, .ref 183, .ref 184, .ref 185, .ref 186, .ref 187, .ref 188, .ref 189, .ref 190, .ref 191, .ref 192, .ref 193, .ref 194, .ref 195, .ref 196, .ref 197, .ref 198, .ref 199, .ref 200, .ref 201, .ref 202, .ref 203, .ref 204, .ref 205, .ref 206, .ref 207, .ref 208, .ref 209, .ref 210, .ref 211, .ref 212, .ref 213, .ref 214, .ref 215, .ref 216, .ref 217, .ref 218, .ref 219, .ref 220, .ref 221, .ref 222, .ref 223, .ref 224, .ref 225, .ref 226, .ref 227, .ref 228, .ref 229, .ref 230, .ref 231, .ref 232, .ref 233, .ref 234, .ref 235, .ref 236, .ref 237, .ref 238, .ref 239, .ref 240, .ref 241, .ref 242, .ref 243, .ref 244, .ref 245, .ref 246, .ref 247, .ref 248, .ref 249, .ref 250, .ref 251, .ref 252, .ref 253, .ref 254, .ref 255, .ref 256, .ref 257, .ref 258, .ref 259, .ref 260, .ref 261, .ref 262, .ref 263, .ref 264, .ref 265], vm := .none },
  { cls := 46, slots := #[], vm := .none },
  { cls := 30, slots := #[.int (-128)], vm := .none },
  { cls := 30, slots := #[.int (-127)], vm := .none },
  { cls := 30, slots := #[.int (-126)], vm := .none },
  { cls := 30, slots := #[.int (-125)], vm := .none },
  { cls := 30, slots := #[.int (-124)], vm := .none },
  { cls := 30, slots := #[.int (-123)], vm := .none },
  { cls := 30, slots := #[.int (-122)], vm := .none },
  { cls := 30, slots := #[.int (-121)], vm := .none },
  { cls := 30, slots := #[.int (-120)], vm := .none },
  { cls := 30, slots := #[.int (-119)], vm := .none },
  { cls := 30, slots := #[.int (-118)], vm := .none },
  { cls := 30, slots := #[.int (-117)], vm := .none },
  { cls := 30, slots := #[.int (-116)], vm := .none },
  { cls := 30, slots := #[.int (-115)], vm := .none },
  { cls := 30, slots := #[.int (-114)], vm := .none },
  { cls := 30, slots := #[.int (-113)], vm := .none },
  { cls := 30, slots := #[.int (-112)], vm := .none },
  { cls := 30, slots := #[.int (-111)], vm := .none },
  { cls := 30, slots := #[.int (-110)], vm := .none },
  { cls := 30, slots := #[.int (-109)], vm := .none },
  { cls := 30, slots := #[.int (-108)], vm := .none },
  { cls := 30, slots := #[.int (-107)], vm := .none },
  { cls := 30, slots := #[.int (-106)], vm := .none },
  { cls := 30, slots := #[.int (-105)], vm := .none },
  { cls := 30, slots := #[.int (-104)], vm := .none },
  { cls := 30, slots := #[.int (-103)], vm := .none },
  { cls := 30, slots := #[.int (-102)], vm := .none },
  { cls := 30, slots := #[.int (-101)], vm := .none },
  { cls := 30, slots := #[.int (-100)], vm := .none },
  { cls := 30, slots := #[.int (-99)], vm := .none },
  { cls := 30, slots := #[.int (-98)], vm := .none },
  { cls := 30, slots := #[.int (-97)], vm := .none },
  { cls := 30, slots := #[.int (-96)], vm := .none },
  { cls := 30, slots := #[.int (-95)], vm := .none },
  { cls := 30, slots := #[.int (-94)], vm := .none },
  { cls := 30, slots := #[.int (-93)], vm := .none },
  { cls := 30, slots := #[.int (-92)], vm := .none },
  { cls := 30, slots := #[.int (-91)], vm := .none },
  { cls := 30, slots := #[.int (-90)], vm := .none },
  { cls := 30, slots := #[.int (-89)], vm := .none },
  { cls := 30, slots := #[.int (-88)], vm := .none },
  { cls := 30, slots := #[.int (-87)], vm := .none },
  { cls := 30, slots := #[.int (-86)], vm := .none },
  { cls := 30, slots := #[.int (-85)], vm := .none },
  { cls := 30, slots := #[.int (-84)], vm := .none },
  { cls := 30, slots := #[.int (-83)], vm := .none },
  { cls := 30, slots := #[.int (-82)], vm := .none },
  { cls := 30, slots := #[.int (-81)], vm := .none },
  { cls := 30, slots := #[.int (-80)], vm := .none },
  { cls := 30, slots := #[.int (-79)], vm := .none },
  { cls := 30, slots := #[.int (-78)], vm := .none },
  { cls := 30, slots := #[.int (-77)], vm := .none },
  { cls := 30, slots := #[.int (-76)], vm := .none },
  { cls := 30, slots := #[.int (-75)], vm := .none },
  { cls := 30, slots := #[.int (-74)], vm := .none },
  { cls := 30, slots := #[.int (-73)], vm := .none },
  { cls := 30, slots := #[.int (-72)], vm := .none },
  { cls := 30, slots := #[.int (-71)], vm := .none },
  { cls := 30, slots := #[.int (-70)], vm := .none },
  { cls := 30, slots := #[.int (-69)], vm := .none },
  { cls := 30, slots := #[.int (-68)], vm := .none },
  { cls := 30, slots := #[.int (-67)], vm := .none },
  { cls := 30, slots := #[.int (-66)], vm := .none },
  { cls := 30, slots := #[.int (-65)], vm := .none },
  { cls := 30, slots := #[.int (-64)], vm := .none },
  { cls := 30, slots := #[.int (-63)], vm := .none },
  { cls := 30, slots := #[.int (-62)], vm := .none },
  { cls := 30, slots := #[.int (-61)], vm := .none },
  { cls := 30, slots := #[.int (-60)], vm := .none },
  { cls := 30, slots := #[.int (-59)], vm := .none },
  { cls := 30, slots := #[.int (-58)], vm := .none },
  { cls := 30, slots := #[.int (-57)], vm := .none },
  { cls := 30, slots := #[.int (-56)], vm := .none },
  { cls := 30, slots := #[.int (-55)], vm := .none },
  { cls := 30, slots := #[.int (-54)], vm := .none },
  { cls := 30, slots := #[.int (-53)], vm := .none },
  { cls := 30, slots := #[.int (-52)], vm := .none },
  { cls := 30, slots := #[.int (-51)], vm := .none },
  { cls := 30, slots := #[.int (-50)], vm := .none },
  { cls := 30, slots := #[.int (-49)], vm := .none },
  { cls := 30, slots := #[.int (-48)], vm := .none },
  { cls := 30, slots := #[.int (-47)], vm := .none },
  { cls := 30, slots := #[.int (-46)], vm := .none },
  { cls := 30, slots := #[.int (-45)], vm := .none },
  { cls := 30, slots := #[.int (-44)], vm := .none },
  { cls := 30, slots := #[.int (-43)], vm := .none },
  { cls := 30, slots := #[.int (-42)], vm := .none },
  { cls := 30, slots := #[.int (-41)], vm := .none },
  { cls := 30, slots := #[.int (-40)], vm := .none },
  { cls := 30, slots := #[.int (-39)], vm := .none },
  { cls := 30, slots := #[.int (-38)], vm := .none },
  { cls := 30, slots := #[.int (-37)], vm := .none },
  { cls := 30, slots := #[.int (-36)], vm := .none },
  { cls := 30, slots := #[.int (-35)], vm := .none },
  { cls := 30, slots := #[.int (-34)], vm := .none },
  { cls := 30, slots := #[.int (-33)], vm := .none },
  { cls := 30, slots := #[.int (-32)], vm := .none },
  { cls := 30, slots := #[.int (-31)], vm := .none },
  { cls := 30, slots := #[.int (-30)], vm := .none },
  { cls := 30, slots := #[.int (-29)], vm := .none },
  { cls := 30, slots := #[.int (-28)], vm := .none },
  { cls := 30, slots := #[.int (-27)], vm := .none },
  { cls := 30, slots := #[.int (-26)], vm := .none },
  { cls := 30, slots := #[.int (-25)], vm := .none },
  { cls := 30, slots := #[.int (-24)], vm := .none },
  { cls := 30, slots := #[.int (-23)], vm := .none },
  { cls := 30, slots := #[.int (-22)], vm := .none },
  { cls := 30, slots := #[.int (-21)], vm := .none },
  { cls := 30, slots := #[.int (-20)], vm := .none },
  { cls := 30, slots := #[.int (-19)], vm := .none },
  { cls := 30, slots := #[.int (-18)], vm := .none },
  { cls := 30, slots := #[.int (-17)], vm := .none },
  { cls := 30, slots := #[.int (-16)], vm := .none },
  { cls := 30, slots := #[.int (-15)], vm := .none },
  { cls := 30, slots := #[.int (-14)], vm := .none },
  { cls := 30, slots := #[.int (-13)], vm := .none },
  { cls := 30, slots := #[.int (-12)], vm := .none },
  { cls := 30, slots := #[.int (-11)], vm := .none },
  { cls := 30, slots := #[.int (-10)], vm := .none },
  { cls := 30, slots := #[.int (-9)], vm := .none },
  { cls := 30, slots := #[.int (-8)], vm := .none },
  { cls := 30, slots := #[.int (-7)], vm := .none },
  { cls := 30, slots := #[.int (-6)], vm := .none },
  { cls := 30, slots := #[.int (-5)], vm := .none },
  { cls := 30, slots := #[.int (-4)], vm := .none },
  { cls := 30, slots := #[.int (-3)], vm := .none },
  { cls := 30, slots := #[.int (-2)], vm := .none },
  { cls := 30, slots := #[.int (-1)], vm := .none },
  { cls := 30, slots := #[.int (0)], vm := .none },
  { cls := 30, slots := #[.int (1)], vm := .none },
  { cls := 30, slots := #[.int (2)], vm := .none },
  { cls := 30, slots := #[.int (3)], vm := .none },
  { cls := 30, slots := #[.int (4)], vm := .none },
  { cls := 30, slots := #[.int (5)], vm := .none },
  { cls := 30, slots := #[.int (6)], vm := .none },
  { cls := 30, slots := #[.int (7)], vm := .none },
  { cls := 30, slots := #[.int (8)], vm := .none },
  { cls := 30, slots := #[.int (9)], vm := .none },
  { cls := 30, slots := #[.int (10)], vm := .none },
  { cls := 30, slots := #[.int (11)], vm := .none },
  { cls := 30, slots := #[.int (12)], vm := .none },
  { cls := 30, slots := #[.int (13)], vm := .none },
  { cls := 30, slots := #[.int (14)], vm := .none },
  { cls := 30, slots := #[.int (15)], vm := .none },
  { cls := 30, slots := #[.int (16)], vm := .none },
  { cls := 30, slots := #[.int (17)], vm := .none },
  { cls := 30, slots := #[.int (18)], vm := .none },
  { cls := 30, slots := #[.int (19)], vm := .none },
  { cls := 30, slots := #[.int (20)], vm := .none },
  { cls := 30, slots := #[.int (21)], vm := .none },
  { cls := 30, slots := #[.int (22)], vm := .none },
  { cls := 30, slots := #[.int (23)], vm := .none },
  { cls := 30, slots := #[.int (24)], vm := .none },
  { cls := 30, slots := #[.int (25)], vm := .none },
  { cls := 30, slots := #[.int (26)], vm := .none },
  { cls := 30, slots := #[.int (27)], vm := .none },
  { cls := 30, slots := #[.int (28)], vm := .none },
  { cls := 30, slots := #[.int (29)], vm := .none },
  { cls := 30, slots := #[.int (30)], vm := .none },
  { cls := 30, slots := #[.int (31)], vm := .none },
  { cls := 30, slots := #[.int (32)], vm := .none },
  { cls := 30, slots := #[.int (33)], vm := .none },
  { cls := 30, slots := #[.int (34)], vm := .none },
  { cls := 30, slots := #[.int (35)], vm := .none },
  { cls := 30, slots := #[.int (36)], vm := .none },
  { cls := 30, slots := #[.int (37)], vm := .none },
  { cls := 30, slots := #[.int (38)], vm := .none },
  { cls := 30, slots := #[.int (39)], vm := .none },
  { cls := 30, slots := #[.int (40)], vm := .none },
  { cls := 30, slots := #[.int (41)], vm := .none },
  { cls := 30, slots := #[.int (42)], vm := .none },
  { cls := 30, slots := #[.int (43)], vm := .none },
  { cls := 30, slots := #[.int (44)], vm := .none },
  { cls := 30, slots := #[.int (45)], vm := .none },
  { cls := 30, slots := #[.int (46)], vm := .none },
  { cls := 30, slots := #[.int (47)], vm := .none },
  { cls := 30, slots := #[.int (48)], vm := .none },
  { cls := 30, slots := #[.int (49)], vm := .none },
  { cls := 30, slots := #[.int (50)], vm := .none },
  { cls := 30, slots := #[.int (51)], vm := .none },
  { cls := 30, slots := #[.int (52)], vm := .none },
  { cls := 30, slots := #[.int (53)], vm := .none },
  { cls := 30, slots := #[.int (54)], vm := .none },
  { cls := 30, slots := #[.int (55)], vm := .none },
  { cls := 30, slots := #[.int (56)], vm := .none },
  { cls := 30, slots := #[.int (57)], vm := .none },
  { cls := 30, slots := #[.int (58)], vm := .none },
  { cls := 30, slots := #[.int (59)], vm := .none },
  { cls := 30, slots := #[.int (60)], vm := .none },
  { cls := 30, slots := #[.int (61)], vm := .none },
  { cls := 30, slots := #[.int (62)], vm := .none },
  { cls := 30, slots := #[.int (63)], vm := .none },
  { cls := 30, slots := #[.int (64)], vm := .none },
  { cls := 30, slots := #[.int (65)], vm := .none },
  { cls := 30, slots := #[.int (66)], vm := .none },
  { cls := 30, slots := #[.int (67)], vm := .none },
  { cls := 30, slots := #[.int (68)], vm := .none },
  { cls := 30, slots := #[.int (69)], vm := .none },
  { cls := 30, slots := #[.int (70)], vm := .none },
  { cls := 30, slots := #[.int (71)], vm := .none },
  { cls := 30, slots := #[.int (72)], vm := .none },
  { cls := 30, slots := #[.int (73)], vm := .none },
  { cls := 30, slots := #[.int (74)], vm := .none },
  { cls := 30, slots := #[.int (75)], vm := .none },
  { cls := 30, slots := #[.int (76)], vm := .none },
  { cls := 30, slots := #[.int (77)], vm := .none },
  { cls := 30, slots := #[.int (78)], vm := .none },
  { cls := 30, slots := #[.int (79)], vm := .none },
  { cls := 30, slots := #[.int (80)], vm := .none },
  { cls := 30, slots := #[.int (81)], vm := .none },
  { cls := 30, slots := #[.int (82)], vm := .none },
  { cls := 30, slots := #[.int (83)], vm := .none },
  { cls := 30, slots := #[.int (84)], vm := .none },
  { cls := 30, slots := #[.int (85)], vm := .none },
  { cls := 30, slots := #[.int (86)], vm := .none },
  { cls := 30, slots := #[.int (87)], vm := .none },
  { cls := 30, slots := #[.int (88)], vm := .none },
  { cls := 30, slots := #[.int (89)], vm := .none },
  { cls := 30, slots := #[.int (90)], vm := .none },
  { cls := 30, slots := #[.int (91)], vm := .none },
  { cls := 30, slots := #[.int (92)], vm := .none },
  { cls := 30, slots := #[.int (93)], vm := .none },
  { cls := 30, slots := #[.int (94)], vm := .none },
  { cls := 30, slots := #[.int (95)], vm := .none },
  { cls := 30, slots := #[.int (96)], vm := .none },
  { cls := 30, slots := #[.int (97)], vm := .none },
  { cls := 30, slots := #[.int (98)], vm := .none },
  { cls := 30, slots := #[.int (99)], vm := .none },
  { cls := 30, slots := #[.int (100)], vm := .none },
  { cls := 30, slots := #[.int (101)], vm := .none },
  { cls := 30, slots := #[.int (102)], vm := .none },
  { cls := 30, slots := #[.int (103)], vm := .none },
  { cls := 30, slots := #[.int (104)], vm := .none },
  { cls := 30, slots := #[.int (105)], vm := .none },
  { cls := 30, slots := #[.int (106)], vm := .none },
  { cls := 30, slots := #[.int (107)], vm := .none },
  { cls := 30, slots := #[.int (108)], vm := .none },
  { cls := 30, slots := #[.int (109)], vm := .none },
  { cls := 30, slots := #[.int (110)], vm := .none },
  { cls := 30, slots := #[.int (111)], vm := .none },
  { cls := 30, slots := #[.int (112)], vm := .none },
  { cls := 30, slots := #[.int (113)], vm := .none },
  { cls := 30, slots := #[.int (114)], vm := .none },
  { cls := 30, slots := #[.int (115)], vm := .none },
  { cls := 30, slots := #[.int (116)], vm := .none },
  { cls := 30, slots := #[.int (117)], vm := .none },
  { cls := 30, slots := #[.int (118)], vm := .none },
  { cls := 30, slots := #[.int (119)], vm := .none },
  { cls := 30, slots := #[.int (120)], vm := .none },
  { cls := 30, slots := #[.int (121)], vm := .none },
  { cls := 30, slots := #[.int (122)], vm := .none },
  { cls := 30, slots := #[.int (123)], vm := .none },
  { cls := 30, slots := #[.int (124)], vm := .none },
  { cls := 30, slots := #[.int (125)], vm := .none },
  { cls := 30, slots := #[.int (126)], vm := .none },
  { cls := 30, slots := #[.int (127)], vm := .none },
  { cls := 6, slots := #[.null, .int 0, .int 0], vm := .none },
  { cls := 6, slots := #[.null, .int 1, .int 0], vm := .none },
  { cls := 6, slots := #[.null, .int 2, .int 0], vm := .none },
  { cls := 27, slots := #[.ref 9, .int 0], vm := .none },
  { cls := 46, slots := #[], vm := .none },
  { cls := 46, slots := #[], vm := .none },
  { cls := 19, slots := #[.null], vm := .none },
  { cls := 0, slots := #[], vm := .none }]
def classes : Array Class := #[k0, k1, k2, k3, k4, k5, k6, k7, k8, k9, k10, k11, k12, k13, k14, k15, k16, k17, k18, k19, k20, k21, k22, k23, k24, k25, k26, k27, k28, k29, k30, k31, k32, k33, k34, k35, k36, k37, k38, k39, k40, k41, k42, k43, k44, k45, k46]
def interned : List (Array UInt16 × Addr) := []
def slotsUsed : Nat := 558
def theMethod : MethodId := ⟨1, 3⟩
def args0 : Array Value := #[.int 5, .int 6, .int 7, .int 8, .int 9, .int 10]
def aboutOver (below : List Frame) : State where
  vm := { classes := classes, interned := interned.toArray }
  heap := heap
  slotsUsed := slotsUsed
  threads := #[{ frames := .invoking theMethod args0 :: below }]
def below0 : List Frame := [.native { method := ⟨0, 0⟩, args := #[] }]
def about1 : State := aboutOver below0
def p0 : Program := .bare "" "" ""
def e0 : Env := launch0.env 0 0 0
theorem w_frames : about1.frames = Frame.invoking theMethod args0 :: below0 := rfl
set_option maxRecDepth 65536 in
theorem w_args : argsFit about1.vm theMethod args0 = true := by decide +kernel
set_option maxRecDepth 65536 in
theorem w_heap : heapFits about1 = true := by decide +kernel
set_option maxRecDepth 65536 in
theorem w_runnable : about1.curStatus? = some .runnable := by decide +kernel
set_option maxRecDepth 65536 in
theorem w_alone : about1.alone = true := by decide +kernel
set_option maxRecDepth 65536 in
theorem w_named : about1.methodNamed? x = some theMethod := by decide +kernel
set_option maxRecDepth 65536 in
theorem w_hears : about1.hears theMethod below0 = true := by decide +kernel
set_option maxRecDepth 65536 in
theorem w_ripe : about1.ripe theMethod args0 below0 = true := by decide +kernel
theorem w_running : about1.status = .running := rfl
set_option maxRecDepth 65536 in
theorem w_room : about1.hasRoom e0.platform room_1 = true :=
  launch0.hasRoom_least _ room_1 (by decide +kernel) (by decide +kernel) (by decide +kernel) (by decide +kernel) (by decide +kernel) (by decide +kernel)
theorem allAtoms_all (ts : List Jvm.Cond) (a : Array Jvm.Value) (st : Jvm.State) : (allAtoms ts).before a st = ts.all (fun c => c.before a st) := by
  induction ts with
  | nil => rfl
  | cons c t ih =>
    show (Jvm.Cond.and c (allAtoms t)).before a st = _
    rw [Jvm.Cond.before_and, ih, List.all_cons]
def words1 : List Jvm.Cond := Jvm.Cond.code x code maxLocals ret :: tables_1
/-- a 'code' word, met by the world's own term for the bytes: nothing is compared byte by byte -/
theorem code_word {y : MethodName} {bytes : ByteArray} {mx : Nat} {rt : Option FieldType} {a : Array Value} {s : State} {m : MethodId} {meth : Method} {c : Code} (h1 : s.methodNamed? y = some m) (h2 : s.vm.method? m = some meth) (h3 : meth.code = some c) (h4 : c.code = bytes)
    (h5 : (c.maxLocals == mx && c.exceptionTable.isEmpty && decide (c.maxStack ≤ mostOperands) && decide (meth.sig.returnType = rt) && !meth.locks && decide (parseMethodDescriptor y.desc = some meth.sig)) = true) : (Jvm.Cond.code y bytes mx rt).before a s = true := by
  simp only [Bool.and_eq_true, beq_iff_eq, Bool.not_eq_true', decide_eq_true_eq] at h5
  obtain ⟨⟨⟨⟨⟨g1, g2⟩, g3⟩, g4⟩, g5⟩, g6⟩ := h5
  simp [Cond.before, Cond.holds, Cond.value, h1, h2, h3, h4, g1, g2, g3, g4, g5, g6]
def isCode : Jvm.Cond → Bool
  | .code _ _ _ _ => true
  | _ => false
theorem all_split {L : List Jvm.Cond} {P : Jvm.Cond → Bool} (h1 : L.all (fun c => isCode c || P c) = true) (h2 : ∀ c ∈ L.filter isCode, P c = true) : L.all P = true := by
  refine List.all_eq_true.mpr fun c hc => ?_
  have h := List.all_eq_true.mp h1 c hc
  rcases Bool.eq_false_or_eq_true (isCode c) with hi | hi
  · exact h2 c (List.mem_filter.mpr ⟨hc, hi⟩)
  · simpa [hi] using h
set_option maxRecDepth 65536 in
theorem w_c0 : (Jvm.Cond.code x code maxLocals ret).before args0 about1 = true := code_word (m := ⟨1, 3⟩) (meth := k1m3) (c := k1c3) (by decide +kernel) rfl rfl rfl (by decide +kernel)
set_option maxRecDepth 65536 in
theorem w_c1 : (Jvm.Cond.code ({ cls := "com/example/stepwize/stepwize/engine/MessageAboutPinLaw", name := "sev", desc := "(I)Lcom/example/stepwize/stepwize/engine/Message$Severity;" } : Jvm.MethodName) method_3_code (2 : Nat) (Option.some (Jvm.ClassFile.FieldType.object "com/example/stepwize/stepwize/engine/Message$Severity"))).before args0 about1 = true := code_word (m := ⟨1, 2⟩) (meth := k1m2) (c := k1c2) (by decide +kernel) rfl rfl rfl (by decide +kernel)
set_option maxRecDepth 65536 in
theorem w_c2 : (Jvm.Cond.code ({ cls := "com/example/stepwize/stepwize/engine/MessageAboutPinLaw", name := "str", desc := "(I)Ljava/lang/String;" } : Jvm.MethodName) method_2_code (3 : Nat) (Option.some (Jvm.ClassFile.FieldType.object "java/lang/String"))).before args0 about1 = true := code_word (m := ⟨1, 1⟩) (meth := k1m1) (c := k1c1) (by decide +kernel) rfl rfl rfl (by decide +kernel)
set_option maxRecDepth 65536 in
theorem w_c3 : (Jvm.Cond.code ({ cls := "java/lang/String", name := "<init>", desc := "([C)V" } : Jvm.MethodName) jdk_42_method_3_code (2 : Nat) (Option.none : Option Jvm.ClassFile.FieldType)).before args0 about1 = true := code_word (m := ⟨9, 1⟩) (meth := k9m1) (c := k9c1) (by decide +kernel) rfl rfl rfl (by decide +kernel)
set_option maxRecDepth 65536 in
theorem w_c4 : (Jvm.Cond.code ({ cls := "java/lang/String", name := "<init>", desc := "([CIILjava/lang/Void;)V" } : Jvm.MethodName) jdk_42_method_149_code (6 : Nat) (Option.none : Option Jvm.ClassFile.FieldType)).before args0 about1 = true := code_word (m := ⟨9, 3⟩) (meth := k9m3) (c := k9c3) (by decide +kernel) rfl rfl rfl (by decide +kernel)
set_option maxRecDepth 65536 in
theorem w_c5 : (Jvm.Cond.code ({ cls := "java/lang/Object", name := "<init>", desc := "()V" } : Jvm.MethodName) object_method_1_code (1 : Nat) (Option.none : Option Jvm.ClassFile.FieldType)).before args0 about1 = true := code_word (m := ⟨0, 0⟩) (meth := k0m0) (c := k0c0) (by decide +kernel) rfl rfl rfl (by decide +kernel)
set_option maxRecDepth 65536 in
theorem w_c6 : (Jvm.Cond.code ({ cls := "java/util/ArrayList", name := "<init>", desc := "()V" } : Jvm.MethodName) jdk_38_method_2_code (1 : Nat) (Option.none : Option Jvm.ClassFile.FieldType)).before args0 about1 = true := code_word (m := ⟨18, 0⟩) (meth := k18m0) (c := k18c0) (by decide +kernel) rfl rfl rfl (by decide +kernel)
set_option maxRecDepth 65536 in
theorem w_c7 : (Jvm.Cond.code ({ cls := "java/util/AbstractList", name := "<init>", desc := "()V" } : Jvm.MethodName) jdk_39_method_1_code (1 : Nat) (Option.none : Option Jvm.ClassFile.FieldType)).before args0 about1 = true := code_word (m := ⟨15, 0⟩) (meth := k15m0) (c := k15c0) (by decide +kernel) rfl rfl rfl (by decide +kernel)
set_option maxRecDepth 65536 in
theorem w_c8 : (Jvm.Cond.code ({ cls := "java/util/AbstractCollection", name := "<init>", desc := "()V" } : Jvm.MethodName) jdk_22_method_1_code (1 : Nat) (Option.none : Option Jvm.ClassFile.FieldType)).before args0 about1 = true := code_word (m := ⟨12, 0⟩) (meth := k12m0) (c := k12c0) (by decide +kernel) rfl rfl rfl (by decide +kernel)
set_option maxRecDepth 65536 in
theorem w_c9 : (Jvm.Cond.code ({ cls := "java/util/Optional", name := "empty", desc := "()Ljava/util/Optional;" } : Jvm.MethodName) jdk_32_method_1_code (1 : Nat) (Option.some (Jvm.ClassFile.FieldType.object "java/util/Optional"))).before args0 about1 = true := code_word (m := ⟨19, 0⟩) (meth := k19m0) (c := k19c0) (by decide +kernel) rfl rfl rfl (by decide +kernel)
set_option maxRecDepth 65536 in
theorem w_c10 : (Jvm.Cond.code ({ cls := "com/example/stepwize/stepwize/engine/Message", name := "<init>", desc := "(Lcom/example/stepwize/stepwize/engine/Message$Severity;Ljava/util/Optional;Ljava/util/Optional;Ljava/util/List;Ljava/lang/String;)V" } : Jvm.MethodName) prog_33_method_1_code (6 : Nat) (Option.none : Option Jvm.ClassFile.FieldType)).before args0 about1 = true := code_word (m := ⟨21, 0⟩) (meth := k21m0) (c := k21c0) (by decide +kernel) rfl rfl rfl (by decide +kernel)
set_option maxRecDepth 65536 in
theorem w_c11 : (Jvm.Cond.code ({ cls := "java/lang/Record", name := "<init>", desc := "()V" } : Jvm.MethodName) jdk_30_method_1_code (1 : Nat) (Option.none : Option Jvm.ClassFile.FieldType)).before args0 about1 = true := code_word (m := ⟨20, 0⟩) (meth := k20m0) (c := k20c0) (by decide +kernel) rfl rfl rfl (by decide +kernel)
set_option maxRecDepth 65536 in
theorem w_c12 : (Jvm.Cond.code ({ cls := "java/util/Objects", name := "requireNonNull", desc := "(Ljava/lang/Object;Ljava/lang/String;)Ljava/lang/Object;" } : Jvm.MethodName) jdk_31_method_11_code (2 : Nat) (Option.some (Jvm.ClassFile.FieldType.object "java/lang/Object"))).before args0 about1 = true := code_word (m := ⟨22, 2⟩) (meth := k22m2) (c := k22c2) (by decide +kernel) rfl rfl rfl (by decide +kernel)
set_option maxRecDepth 65536 in
theorem w_c13 : (Jvm.Cond.code ({ cls := "java/util/List", name := "copyOf", desc := "(Ljava/util/Collection;)Ljava/util/List;" } : Jvm.MethodName) jdk_40_method_48_code (1 : Nat) (Option.some (Jvm.ClassFile.FieldType.object "java/util/List"))).before args0 about1 = true := code_word (m := ⟨14, 5⟩) (meth := k14m5) (c := k14c5) (by decide +kernel) rfl rfl rfl (by decide +kernel)
set_option maxRecDepth 65536 in
theorem w_c14 : (Jvm.Cond.code ({ cls := "java/util/ImmutableCollections", name := "listCopy", desc := "(Ljava/util/Collection;)Ljava/util/List;" } : Jvm.MethodName) jdk_56_method_3_code (2 : Nat) (Option.some (Jvm.ClassFile.FieldType.object "java/util/List"))).before args0 about1 = true := code_word (m := ⟨23, 1⟩) (meth := k23m1) (c := k23c1) (by decide +kernel) rfl rfl rfl (by decide +kernel)
set_option maxRecDepth 65536 in
theorem w_c15 : (Jvm.Cond.code ({ cls := "java/util/ArrayList", name := "isEmpty", desc := "()Z" } : Jvm.MethodName) jdk_38_method_9_code (1 : Nat) (Option.some Jvm.ClassFile.FieldType.boolean)).before args0 about1 = true := code_word (m := ⟨18, 3⟩) (meth := k18m3) (c := k18c3) (by decide +kernel) rfl rfl rfl (by decide +kernel)
set_option maxRecDepth 65536 in
theorem w_c16 : (Jvm.Cond.code ({ cls := "java/util/List", name := "of", desc := "()Ljava/util/List;" } : Jvm.MethodName) jdk_40_method_36_code (0 : Nat) (Option.some (Jvm.ClassFile.FieldType.object "java/util/List"))).before args0 about1 = true := code_word (m := ⟨14, 3⟩) (meth := k14m3) (c := k14c3) (by decide +kernel) rfl rfl rfl (by decide +kernel)
set_option maxRecDepth 65536 in
theorem w_c17 : (Jvm.Cond.code ({ cls := "com/example/stepwize/stepwize/engine/Message", name := "about", desc := "(Ljava/lang/String;)Lcom/example/stepwize/stepwize/engine/Message;" } : Jvm.MethodName) prog_33_method_4_code (2 : Nat) (Option.some (Jvm.ClassFile.FieldType.object "com/example/stepwize/stepwize/engine/Message"))).before args0 about1 = true := code_word (m := ⟨21, 1⟩) (meth := k21m1) (c := k21c1) (by decide +kernel) rfl rfl rfl (by decide +kernel)
set_option maxRecDepth 65536 in
theorem w_c18 : (Jvm.Cond.code ({ cls := "java/util/Optional", name := "of", desc := "(Ljava/lang/Object;)Ljava/util/Optional;" } : Jvm.MethodName) jdk_32_method_3_code (1 : Nat) (Option.some (Jvm.ClassFile.FieldType.object "java/util/Optional"))).before args0 about1 = true := code_word (m := ⟨19, 2⟩) (meth := k19m2) (c := k19c2) (by decide +kernel) rfl rfl rfl (by decide +kernel)
set_option maxRecDepth 65536 in
theorem w_c19 : (Jvm.Cond.code ({ cls := "java/util/Objects", name := "requireNonNull", desc := "(Ljava/lang/Object;)Ljava/lang/Object;" } : Jvm.MethodName) jdk_31_method_10_code (1 : Nat) (Option.some (Jvm.ClassFile.FieldType.object "java/lang/Object"))).before args0 about1 = true := code_word (m := ⟨22, 1⟩) (meth := k22m1) (c := k22c1) (by decide +kernel) rfl rfl rfl (by decide +kernel)
set_option maxRecDepth 65536 in
theorem w_c20 : (Jvm.Cond.code ({ cls := "java/util/Optional", name := "<init>", desc := "(Ljava/lang/Object;)V" } : Jvm.MethodName) jdk_32_method_2_code (2 : Nat) (Option.none : Option Jvm.ClassFile.FieldType)).before args0 about1 = true := code_word (m := ⟨19, 1⟩) (meth := k19m1) (c := k19c1) (by decide +kernel) rfl rfl rfl (by decide +kernel)
set_option maxRecDepth 65536 in
theorem w_c21 : (Jvm.Cond.code ({ cls := "com/example/stepwize/stepwize/engine/Message", name := "severity", desc := "()Lcom/example/stepwize/stepwize/engine/Message$Severity;" } : Jvm.MethodName) prog_33_method_8_code (1 : Nat) (Option.some (Jvm.ClassFile.FieldType.object "com/example/stepwize/stepwize/engine/Message$Severity"))).before args0 about1 = true := code_word (m := ⟨21, 2⟩) (meth := k21m2) (c := k21c2) (by decide +kernel) rfl rfl rfl (by decide +kernel)
set_option maxRecDepth 65536 in
theorem w_c22 : (Jvm.Cond.code ({ cls := "com/example/stepwize/stepwize/engine/Message", name := "source", desc := "()Ljava/util/Optional;" } : Jvm.MethodName) prog_33_method_9_code (1 : Nat) (Option.some (Jvm.ClassFile.FieldType.object "java/util/Optional"))).before args0 about1 = true := code_word (m := ⟨21, 3⟩) (meth := k21m3) (c := k21c3) (by decide +kernel) rfl rfl rfl (by decide +kernel)
set_option maxRecDepth 65536 in
theorem w_c23 : (Jvm.Cond.code ({ cls := "java/util/Optional", name := "isPresent", desc := "()Z" } : Jvm.MethodName) jdk_32_method_6_code (1 : Nat) (Option.some Jvm.ClassFile.FieldType.boolean)).before args0 about1 = true := code_word (m := ⟨19, 4⟩) (meth := k19m4) (c := k19c4) (by decide +kernel) rfl rfl rfl (by decide +kernel)
set_option maxRecDepth 65536 in
theorem w_c24 : (Jvm.Cond.code ({ cls := "java/util/Optional", name := "get", desc := "()Ljava/lang/Object;" } : Jvm.MethodName) jdk_32_method_5_code (1 : Nat) (Option.some (Jvm.ClassFile.FieldType.object "java/lang/Object"))).before args0 about1 = true := code_word (m := ⟨19, 3⟩) (meth := k19m3) (c := k19c3) (by decide +kernel) rfl rfl rfl (by decide +kernel)
set_option maxRecDepth 65536 in
theorem w_c25 : (Jvm.Cond.code ({ cls := "java/lang/String", name := "equals", desc := "(Ljava/lang/Object;)Z" } : Jvm.MethodName) jdk_42_method_66_code (3 : Nat) (Option.some Jvm.ClassFile.FieldType.boolean)).before args0 about1 = true := code_word (m := ⟨9, 2⟩) (meth := k9m2) (c := k9c2) (by decide +kernel) rfl rfl rfl (by decide +kernel)
set_option maxRecDepth 65536 in
theorem w_c26 : (Jvm.Cond.code ({ cls := "com/example/stepwize/stepwize/engine/Message", name := "code", desc := "()Ljava/util/Optional;" } : Jvm.MethodName) prog_33_method_10_code (1 : Nat) (Option.some (Jvm.ClassFile.FieldType.object "java/util/Optional"))).before args0 about1 = true := code_word (m := ⟨21, 4⟩) (meth := k21m4) (c := k21c4) (by decide +kernel) rfl rfl rfl (by decide +kernel)
set_option maxRecDepth 65536 in
theorem w_c27 : (Jvm.Cond.code ({ cls := "com/example/stepwize/stepwize/engine/Message", name := "arguments", desc := "()Ljava/util/List;" } : Jvm.MethodName) prog_33_method_11_code (1 : Nat) (Option.some (Jvm.ClassFile.FieldType.object "java/util/List"))).before args0 about1 = true := code_word (m := ⟨21, 5⟩) (meth := k21m5) (c := k21c5) (by decide +kernel) rfl rfl rfl (by decide +kernel)
set_option maxRecDepth 65536 in
theorem w_c28 : (Jvm.Cond.code ({ cls := "java/util/ImmutableCollections$ListN", name := "size", desc := "()I" } : Jvm.MethodName) jdk_45_method_3_code (1 : Nat) (Option.some Jvm.ClassFile.FieldType.int)).before args0 about1 = true := code_word (m := ⟨27, 0⟩) (meth := k27m0) (c := k27c0) (by decide +kernel) rfl rfl rfl (by decide +kernel)
set_option maxRecDepth 65536 in
theorem w_c29 : (Jvm.Cond.code ({ cls := "com/example/stepwize/stepwize/engine/Message", name := "text", desc := "()Ljava/lang/String;" } : Jvm.MethodName) prog_33_method_12_code (1 : Nat) (Option.some (Jvm.ClassFile.FieldType.object "java/lang/String"))).before args0 about1 = true := code_word (m := ⟨21, 6⟩) (meth := k21m6) (c := k21c6) (by decide +kernel) rfl rfl rfl (by decide +kernel)
set_option maxRecDepth 65536 in
theorem w_c30 : (Jvm.Cond.code ({ cls := "java/lang/StringUTF16", name := "compress", desc := "([CII)[B" } : Jvm.MethodName) jdk_52_method_16_code (6 : Nat) (Option.some (Jvm.ClassFile.FieldType.array Jvm.ClassFile.FieldType.byte))).before args0 about1 = true := code_word (m := ⟨28, 2⟩) (meth := k28m2) (c := k28c2) (by decide +kernel) rfl rfl rfl (by decide +kernel)
set_option maxRecDepth 65536 in
theorem w_c31 : (Jvm.Cond.code ({ cls := "java/lang/StringUTF16", name := "compress", desc := "([CI[BII)I" } : Jvm.MethodName) jdk_52_method_21_code (7 : Nat) (Option.some Jvm.ClassFile.FieldType.int)).before args0 about1 = true := code_word (m := ⟨28, 3⟩) (meth := k28m3) (c := k28c3) (by decide +kernel) rfl rfl rfl (by decide +kernel)
set_option maxRecDepth 65536 in
theorem w_c32 : (Jvm.Cond.code ({ cls := "java/lang/StringUTF16", name := "coderFromArrayLen", desc := "([BI)B" } : Jvm.MethodName) jdk_52_method_15_code (2 : Nat) (Option.some Jvm.ClassFile.FieldType.byte)).before args0 about1 = true := code_word (m := ⟨28, 1⟩) (meth := k28m1) (c := k28c1) (by decide +kernel) rfl rfl rfl (by decide +kernel)
set_option maxRecDepth 65536 in
theorem w_c33 : (Jvm.Cond.code ({ cls := "java/lang/Integer", name := "valueOf", desc := "(I)Ljava/lang/Integer;" } : Jvm.MethodName) jdk_33_method_22_code (1 : Nat) (Option.some (Jvm.ClassFile.FieldType.object "java/lang/Integer"))).before args0 about1 = true := code_word (m := ⟨30, 0⟩) (meth := k30m0) (c := k30c0) (by decide +kernel) rfl rfl rfl (by decide +kernel)
set_option maxRecDepth 65536 in
theorem w_c34 : (Jvm.Cond.code ({ cls := "java/lang/Integer", name := "<init>", desc := "(I)V" } : Jvm.MethodName) jdk_33_method_23_code (2 : Nat) (Option.none : Option Jvm.ClassFile.FieldType)).before args0 about1 = true := code_word (m := ⟨30, 1⟩) (meth := k30m1) (c := k30c1) (by decide +kernel) rfl rfl rfl (by decide +kernel)
set_option maxRecDepth 65536 in
theorem w_c35 : (Jvm.Cond.code ({ cls := "java/lang/Number", name := "<init>", desc := "()V" } : Jvm.MethodName) jdk_18_method_1_code (1 : Nat) (Option.none : Option Jvm.ClassFile.FieldType)).before args0 about1 = true := code_word (m := ⟨29, 0⟩) (meth := k29m0) (c := k29c0) (by decide +kernel) rfl rfl rfl (by decide +kernel)
set_option maxRecDepth 65536 in
theorem w_c36 : (Jvm.Cond.code ({ cls := "java/util/ArrayList", name := "add", desc := "(Ljava/lang/Object;)Z" } : Jvm.MethodName) jdk_38_method_25_code (2 : Nat) (Option.some Jvm.ClassFile.FieldType.boolean)).before args0 about1 = true := code_word (m := ⟨18, 6⟩) (meth := k18m6) (c := k18c6) (by decide +kernel) rfl rfl rfl (by decide +kernel)
set_option maxRecDepth 65536 in
theorem w_c37 : (Jvm.Cond.code ({ cls := "java/util/ArrayList", name := "add", desc := "(Ljava/lang/Object;[Ljava/lang/Object;I)V" } : Jvm.MethodName) jdk_38_method_24_code (4 : Nat) (Option.none : Option Jvm.ClassFile.FieldType)).before args0 about1 = true := code_word (m := ⟨18, 5⟩) (meth := k18m5) (c := k18c5) (by decide +kernel) rfl rfl rfl (by decide +kernel)
set_option maxRecDepth 65536 in
theorem w_c38 : (Jvm.Cond.code ({ cls := "java/util/ArrayList", name := "grow", desc := "()[Ljava/lang/Object;" } : Jvm.MethodName) jdk_38_method_7_code (1 : Nat) (Option.some (Jvm.ClassFile.FieldType.array (Jvm.ClassFile.FieldType.object "java/lang/Object")))).before args0 about1 = true := code_word (m := ⟨18, 2⟩) (meth := k18m2) (c := k18c2) (by decide +kernel) rfl rfl rfl (by decide +kernel)
set_option maxRecDepth 65536 in
theorem w_c39 : (Jvm.Cond.code ({ cls := "java/util/ArrayList", name := "grow", desc := "(I)[Ljava/lang/Object;" } : Jvm.MethodName) jdk_38_method_6_code (4 : Nat) (Option.some (Jvm.ClassFile.FieldType.array (Jvm.ClassFile.FieldType.object "java/lang/Object")))).before args0 about1 = true := code_word (m := ⟨18, 1⟩) (meth := k18m1) (c := k18c1) (by decide +kernel) rfl rfl rfl (by decide +kernel)
set_option maxRecDepth 65536 in
theorem w_c40 : (Jvm.Cond.code ({ cls := "java/lang/Math", name := "max", desc := "(II)I" } : Jvm.MethodName) jdk_29_method_65_code (2 : Nat) (Option.some Jvm.ClassFile.FieldType.int)).before args0 about1 = true := code_word (m := ⟨31, 1⟩) (meth := k31m1) (c := k31c1) (by decide +kernel) rfl rfl rfl (by decide +kernel)
set_option maxRecDepth 65536 in
theorem w_c41 : (Jvm.Cond.code ({ cls := "java/util/ArrayList", name := "toArray", desc := "()[Ljava/lang/Object;" } : Jvm.MethodName) jdk_38_method_16_code (1 : Nat) (Option.some (Jvm.ClassFile.FieldType.array (Jvm.ClassFile.FieldType.object "java/lang/Object")))).before args0 about1 = true := code_word (m := ⟨18, 4⟩) (meth := k18m4) (c := k18c4) (by decide +kernel) rfl rfl rfl (by decide +kernel)
set_option maxRecDepth 65536 in
theorem w_c42 : (Jvm.Cond.code ({ cls := "java/util/Arrays", name := "copyOf", desc := "([Ljava/lang/Object;I)[Ljava/lang/Object;" } : Jvm.MethodName) jdk_65_method_119_code (2 : Nat) (Option.some (Jvm.ClassFile.FieldType.array (Jvm.ClassFile.FieldType.object "java/lang/Object")))).before args0 about1 = true := code_word (m := ⟨32, 1⟩) (meth := k32m1) (c := k32c1) (by decide +kernel) rfl rfl rfl (by decide +kernel)
set_option maxRecDepth 65536 in
theorem w_c43 : (Jvm.Cond.code ({ cls := "java/util/Arrays", name := "copyOf", desc := "([Ljava/lang/Object;ILjava/lang/Class;)[Ljava/lang/Object;" } : Jvm.MethodName) jdk_65_method_120_code (4 : Nat) (Option.some (Jvm.ClassFile.FieldType.array (Jvm.ClassFile.FieldType.object "java/lang/Object")))).before args0 about1 = true := code_word (m := ⟨32, 2⟩) (meth := k32m2) (c := k32c2) (by decide +kernel) rfl rfl rfl (by decide +kernel)
set_option maxRecDepth 65536 in
theorem w_c44 : (Jvm.Cond.code ({ cls := "java/lang/Math", name := "min", desc := "(II)I" } : Jvm.MethodName) jdk_29_method_69_code (2 : Nat) (Option.some Jvm.ClassFile.FieldType.int)).before args0 about1 = true := code_word (m := ⟨31, 2⟩) (meth := k31m2) (c := k31c2) (by decide +kernel) rfl rfl rfl (by decide +kernel)
set_option maxRecDepth 65536 in
theorem w_c45 : (Jvm.Cond.code ({ cls := "java/util/List", name := "of", desc := "([Ljava/lang/Object;)Ljava/util/List;" } : Jvm.MethodName) jdk_40_method_47_code (2 : Nat) (Option.some (Jvm.ClassFile.FieldType.object "java/util/List"))).before args0 about1 = true := code_word (m := ⟨14, 4⟩) (meth := k14m4) (c := k14c4) (by decide +kernel) rfl rfl rfl (by decide +kernel)
set_option maxRecDepth 65536 in
theorem w_c46 : (Jvm.Cond.code ({ cls := "java/util/ImmutableCollections$List12", name := "<init>", desc := "(Ljava/lang/Object;)V" } : Jvm.MethodName) jdk_44_method_1_code (2 : Nat) (Option.none : Option Jvm.ClassFile.FieldType)).before args0 about1 = true := code_word (m := ⟨26, 0⟩) (meth := k26m0) (c := k26c0) (by decide +kernel) rfl rfl rfl (by decide +kernel)
set_option maxRecDepth 65536 in
theorem w_c47 : (Jvm.Cond.code ({ cls := "java/util/ImmutableCollections$AbstractImmutableList", name := "<init>", desc := "()V" } : Jvm.MethodName) jdk_46_method_1_code (1 : Nat) (Option.none : Option Jvm.ClassFile.FieldType)).before args0 about1 = true := code_word (m := ⟨25, 0⟩) (meth := k25m0) (c := k25c0) (by decide +kernel) rfl rfl rfl (by decide +kernel)
set_option maxRecDepth 65536 in
theorem w_c48 : (Jvm.Cond.code ({ cls := "java/util/ImmutableCollections$AbstractImmutableCollection", name := "<init>", desc := "()V" } : Jvm.MethodName) jdk_47_method_1_code (1 : Nat) (Option.none : Option Jvm.ClassFile.FieldType)).before args0 about1 = true := code_word (m := ⟨24, 0⟩) (meth := k24m0) (c := k24c0) (by decide +kernel) rfl rfl rfl (by decide +kernel)
set_option maxRecDepth 65536 in
theorem w_c49 : (Jvm.Cond.code ({ cls := "java/util/ImmutableCollections$List12", name := "size", desc := "()I" } : Jvm.MethodName) jdk_44_method_3_code (1 : Nat) (Option.some Jvm.ClassFile.FieldType.int)).before args0 about1 = true := code_word (m := ⟨26, 1⟩) (meth := k26m1) (c := k26c1) (by decide +kernel) rfl rfl rfl (by decide +kernel)
set_option maxRecDepth 65536 in
theorem w_c50 : (Jvm.Cond.code ({ cls := "java/util/ImmutableCollections$List12", name := "get", desc := "(I)Ljava/lang/Object;" } : Jvm.MethodName) jdk_44_method_5_code (2 : Nat) (Option.some (Jvm.ClassFile.FieldType.object "java/lang/Object"))).before args0 about1 = true := code_word (m := ⟨26, 2⟩) (meth := k26m2) (c := k26c2) (by decide +kernel) rfl rfl rfl (by decide +kernel)
set_option maxRecDepth 65536 in
theorem w_c51 : (Jvm.Cond.code ({ cls := "java/lang/Integer", name := "intValue", desc := "()I" } : Jvm.MethodName) jdk_33_method_27_code (1 : Nat) (Option.some Jvm.ClassFile.FieldType.int)).before args0 about1 = true := code_word (m := ⟨30, 2⟩) (meth := k30m2) (c := k30c2) (by decide +kernel) rfl rfl rfl (by decide +kernel)
def codes1 : List Jvm.Cond := [Jvm.Cond.code x code maxLocals ret, Jvm.Cond.code ({ cls := "com/example/stepwize/stepwize/engine/MessageAboutPinLaw", name := "sev", desc := "(I)Lcom/example/stepwize/stepwize/engine/Message$Severity;" } : Jvm.MethodName) method_3_code (2 : Nat) (Option.some (Jvm.ClassFile.FieldType.object "com/example/stepwize/stepwize/engine/Message$Severity")), Jvm.Cond.code ({ cls := "com/example/stepwize/stepwize/engine/MessageAboutPinLaw", name := "str", desc := "(I)Ljava/lang/String;" } : Jvm.MethodName) method_2_code (3 : Nat) (Option.some (Jvm.ClassFile.FieldType.object "java/lang/String")), Jvm.Cond.code ({ cls := "java/lang/String", name := "<init>", desc := "([C)V" } : Jvm.MethodName) jdk_42_method_3_code (2 : Nat) (Option.none : Option Jvm.ClassFile.FieldType), Jvm.Cond.code ({ cls := "java/lang/String", name := "<init>", desc := "([CIILjava/lang/Void;)V" } : Jvm.MethodName) jdk_42_method_149_code (6 : Nat) (Option.none : Option Jvm.ClassFile.FieldType), Jvm.Cond.code ({ cls := "java/lang/Object", name := "<init>", desc := "()V" } : Jvm.MethodName) object_method_1_code (1 : Nat) (Option.none : Option Jvm.ClassFile.FieldType), Jvm.Cond.code ({ cls := "java/util/ArrayList", name := "<init>", desc := "()V" } : Jvm.MethodName) jdk_38_method_2_code (1 : Nat) (Option.none : Option Jvm.ClassFile.FieldType), Jvm.Cond.code ({ cls := "java/util/AbstractList", name := "<init>", desc := "()V" } : Jvm.MethodName) jdk_39_method_1_code (1 : Nat) (Option.none : Option Jvm.ClassFile.FieldType), Jvm.Cond.code ({ cls := "java/util/AbstractCollection", name := "<init>", desc := "()V" } : Jvm.MethodName) jdk_22_method_1_code (1 : Nat) (Option.none : Option Jvm.ClassFile.FieldType), Jvm.Cond.code ({ cls := "java/util/Optional", name := "empty", desc := "()Ljava/util/Optional;" } : Jvm.MethodName) jdk_32_method_1_code (1 : Nat) (Option.some (Jvm.ClassFile.FieldType.object "java/util/Optional")), Jvm.Cond.code ({ cls := "com/example/stepwize/stepwize/engine/Message", name := "<init>", desc := "(Lcom/example/stepwize/stepwize/engine/Message$Severity;Ljava/util/Optional;Ljava/util/Optional;Ljava/util/List;Ljava/lang/String;)V" } : Jvm.MethodName) prog_33_method_1_code (6 : Nat) (Option.none : Option Jvm.ClassFile.FieldType), Jvm.Cond.code ({ cls := "java/lang/Record", name := "<init>", desc := "()V" } : Jvm.MethodName) jdk_30_method_1_code (1 : Nat) (Option.none : Option Jvm.ClassFile.FieldType), Jvm.Cond.code ({ cls := "java/util/Objects", name := "requireNonNull", desc := "(Ljava/lang/Object;Ljava/lang/String;)Ljava/lang/Object;" } : Jvm.MethodName) jdk_31_method_11_code (2 : Nat) (Option.some (Jvm.ClassFile.FieldType.object "java/lang/Object")), Jvm.Cond.code ({ cls := "java/util/List", name := "copyOf", desc := "(Ljava/util/Collection;)Ljava/util/List;" } : Jvm.MethodName) jdk_40_method_48_code (1 : Nat) (Option.some (Jvm.ClassFile.FieldType.object "java/util/List")), Jvm.Cond.code ({ cls := "java/util/ImmutableCollections", name := "listCopy", desc := "(Ljava/util/Collection;)Ljava/util/List;" } : Jvm.MethodName) jdk_56_method_3_code (2 : Nat) (Option.some (Jvm.ClassFile.FieldType.object "java/util/List")), Jvm.Cond.code ({ cls := "java/util/ArrayList", name := "isEmpty", desc := "()Z" } : Jvm.MethodName) jdk_38_method_9_code (1 : Nat) (Option.some Jvm.ClassFile.FieldType.boolean), Jvm.Cond.code ({ cls := "java/util/List", name := "of", desc := "()Ljava/util/List;" } : Jvm.MethodName) jdk_40_method_36_code (0 : Nat) (Option.some (Jvm.ClassFile.FieldType.object "java/util/List")), Jvm.Cond.code ({ cls := "com/example/stepwize/stepwize/engine/Message", name := "about", desc := "(Ljava/lang/String;)Lcom/example/stepwize/stepwize/engine/Message;" } : Jvm.MethodName) prog_33_method_4_code (2 : Nat) (Option.some (Jvm.ClassFile.FieldType.object "com/example/stepwize/stepwize/engine/Message")), Jvm.Cond.code ({ cls := "java/util/Optional", name := "of", desc := "(Ljava/lang/Object;)Ljava/util/Optional;" } : Jvm.MethodName) jdk_32_method_3_code (1 : Nat) (Option.some (Jvm.ClassFile.FieldType.object "java/util/Optional")), Jvm.Cond.code ({ cls := "java/util/Objects", name := "requireNonNull", desc := "(Ljava/lang/Object;)Ljava/lang/Object;" } : Jvm.MethodName) jdk_31_method_10_code (1 : Nat) (Option.some (Jvm.ClassFile.FieldType.object "java/lang/Object")), Jvm.Cond.code ({ cls := "java/util/Optional", name := "<init>", desc := "(Ljava/lang/Object;)V" } : Jvm.MethodName) jdk_32_method_2_code (2 : Nat) (Option.none : Option Jvm.ClassFile.FieldType), Jvm.Cond.code ({ cls := "com/example/stepwize/stepwize/engine/Message", name := "severity", desc := "()Lcom/example/stepwize/stepwize/engine/Message$Severity;" } : Jvm.MethodName) prog_33_method_8_code (1 : Nat) (Option.some (Jvm.ClassFile.FieldType.object "com/example/stepwize/stepwize/engine/Message$Severity")), Jvm.Cond.code ({ cls := "com/example/stepwize/stepwize/engine/Message", name := "source", desc := "()Ljava/util/Optional;" } : Jvm.MethodName) prog_33_method_9_code (1 : Nat) (Option.some (Jvm.ClassFile.FieldType.object "java/util/Optional")), Jvm.Cond.code ({ cls := "java/util/Optional", name := "isPresent", desc := "()Z" } : Jvm.MethodName) jdk_32_method_6_code (1 : Nat) (Option.some Jvm.ClassFile.FieldType.boolean), Jvm.Cond.code ({ cls := "java/util/Optional", name := "get", desc := "()Ljava/lang/Object;" } : Jvm.MethodName) jdk_32_method_5_code (1 : Nat) (Option.some (Jvm.ClassFile.FieldType.object "java/lang/Object")), Jvm.Cond.code ({ cls := "java/lang/String", name := "equals", desc := "(Ljava/lang/Object;)Z" } : Jvm.MethodName) jdk_42_method_66_code (3 : Nat) (Option.some Jvm.ClassFile.FieldType.boolean), Jvm.Cond.code ({ cls := "com/example/stepwize/stepwize/engine/Message", name := "code", desc := "()Ljava/util/Optional;" } : Jvm.MethodName) prog_33_method_10_code (1 : Nat) (Option.some (Jvm.ClassFile.FieldType.object "java/util/Optional")), Jvm.Cond.code ({ cls := "com/example/stepwize/stepwize/engine/Message", name := "arguments", desc := "()Ljava/util/List;" } : Jvm.MethodName) prog_33_method_11_code (1 : Nat) (Option.some (Jvm.ClassFile.FieldType.object "java/util/List")), Jvm.Cond.code ({ cls := "java/util/ImmutableCollections$ListN", name := "size", desc := "()I" } : Jvm.MethodName) jdk_45_method_3_code (1 : Nat) (Option.some Jvm.ClassFile.FieldType.int), Jvm.Cond.code ({ cls := "com/example/stepwize/stepwize/engine/Message", name := "text", desc := "()Ljava/lang/String;" } : Jvm.MethodName) prog_33_method_12_code (1 : Nat) (Option.some (Jvm.ClassFile.FieldType.object "java/lang/String")), Jvm.Cond.code ({ cls := "java/lang/StringUTF16", name := "compress", desc := "([CII)[B" } : Jvm.MethodName) jdk_52_method_16_code (6 : Nat) (Option.some (Jvm.ClassFile.FieldType.array Jvm.ClassFile.FieldType.byte)), Jvm.Cond.code ({ cls := "java/lang/StringUTF16", name := "compress", desc := "([CI[BII)I" } : Jvm.MethodName) jdk_52_method_21_code (7 : Nat) (Option.some Jvm.ClassFile.FieldType.int), Jvm.Cond.code ({ cls := "java/lang/StringUTF16", name := "coderFromArrayLen", desc := "([BI)B" } : Jvm.MethodName) jdk_52_method_15_code (2 : Nat) (Option.some Jvm.ClassFile.FieldType.byte), Jvm.Cond.code ({ cls := "java/lang/Integer", name := "valueOf", desc := "(I)Ljava/lang/Integer;" } : Jvm.MethodName) jdk_33_method_22_code (1 : Nat) (Option.some (Jvm.ClassFile.FieldType.object "java/lang/Integer")), Jvm.Cond.code ({ cls := "java/lang/Integer", name := "<init>", desc := "(I)V" } : Jvm.MethodName) jdk_33_method_23_code (2 : Nat) (Option.none : Option Jvm.ClassFile.FieldType), Jvm.Cond.code ({ cls := "java/lang/Number", name := "<init>", desc := "()V" } : Jvm.MethodName) jdk_18_method_1_code (1 : Nat) (Option.none : Option Jvm.ClassFile.FieldType), Jvm.Cond.code ({ cls := "java/util/ArrayList", name := "add", desc := "(Ljava/lang/Object;)Z" } : Jvm.MethodName) jdk_38_method_25_code (2 : Nat) (Option.some Jvm.ClassFile.FieldType.boolean), Jvm.Cond.code ({ cls := "java/util/ArrayList", name := "add", desc := "(Ljava/lang/Object;[Ljava/lang/Object;I)V" } : Jvm.MethodName) jdk_38_method_24_code (4 : Nat) (Option.none : Option Jvm.ClassFile.FieldType), Jvm.Cond.code ({ cls := "java/util/ArrayList", name := "grow", desc := "()[Ljava/lang/Object;" } : Jvm.MethodName) jdk_38_method_7_code (1 : Nat) (Option.some (Jvm.ClassFile.FieldType.array (Jvm.ClassFile.FieldType.object "java/lang/Object"))), Jvm.Cond.code ({ cls := "java/util/ArrayList", name := "grow", desc := "(I)[Ljava/lang/Object;" } : Jvm.MethodName) jdk_38_method_6_code (4 : Nat) (Option.some (Jvm.ClassFile.FieldType.array (Jvm.ClassFile.FieldType.object "java/lang/Object"))), Jvm.Cond.code ({ cls := "java/lang/Math", name := "max", desc := "(II)I" } : Jvm.MethodName) jdk_29_method_65_code (2 : Nat) (Option.some Jvm.ClassFile.FieldType.int), Jvm.Cond.code ({ cls := "java/util/ArrayList", name := "toArray", desc := "()[Ljava/lang/Object;" } : Jvm.MethodName) jdk_38_method_16_code (1 : Nat) (Option.some (Jvm.ClassFile.FieldType.array (Jvm.ClassFile.FieldType.object "java/lang/Object"))), Jvm.Cond.code ({ cls := "java/util/Arrays", name := "copyOf", desc := "([Ljava/lang/Object;I)[Ljava/lang/Object;" } : Jvm.MethodName) jdk_65_method_119_code (2 : Nat) (Option.some (Jvm.ClassFile.FieldType.array (Jvm.ClassFile.FieldType.object "java/lang/Object"))), Jvm.Cond.code ({ cls := "java/util/Arrays", name := "copyOf", desc := "([Ljava/lang/Object;ILjava/lang/Class;)[Ljava/lang/Object;" } : Jvm.MethodName) jdk_65_method_120_code (4 : Nat) (Option.some (Jvm.ClassFile.FieldType.array (Jvm.ClassFile.FieldType.object "java/lang/Object"))), Jvm.Cond.code ({ cls := "java/lang/Math", name := "min", desc := "(II)I" } : Jvm.MethodName) jdk_29_method_69_code (2 : Nat) (Option.some Jvm.ClassFile.FieldType.int), Jvm.Cond.code ({ cls := "java/util/List", name := "of", desc := "([Ljava/lang/Object;)Ljava/util/List;" } : Jvm.MethodName) jdk_40_method_47_code (2 : Nat) (Option.some (Jvm.ClassFile.FieldType.object "java/util/List")), Jvm.Cond.code ({ cls := "java/util/ImmutableCollections$List12", name := "<init>", desc := "(Ljava/lang/Object;)V" } : Jvm.MethodName) jdk_44_method_1_code (2 : Nat) (Option.none : Option Jvm.ClassFile.FieldType), Jvm.Cond.code ({ cls := "java/util/ImmutableCollections$AbstractImmutableList", name := "<init>", desc := "()V" } : Jvm.MethodName) jdk_46_method_1_code (1 : Nat) (Option.none : Option Jvm.ClassFile.FieldType), Jvm.Cond.code ({ cls := "java/util/ImmutableCollections$AbstractImmutableCollection", name := "<init>", desc := "()V" } : Jvm.MethodName) jdk_47_method_1_code (1 : Nat) (Option.none : Option Jvm.ClassFile.FieldType), Jvm.Cond.code ({ cls := "java/util/ImmutableCollections$List12", name := "size", desc := "()I" } : Jvm.MethodName) jdk_44_method_3_code (1 : Nat) (Option.some Jvm.ClassFile.FieldType.int), Jvm.Cond.code ({ cls := "java/util/ImmutableCollections$List12", name := "get", desc := "(I)Ljava/lang/Object;" } : Jvm.MethodName) jdk_44_method_5_code (2 : Nat) (Option.some (Jvm.ClassFile.FieldType.object "java/lang/Object")), Jvm.Cond.code ({ cls := "java/lang/Integer", name := "intValue", desc := "()I" } : Jvm.MethodName) jdk_33_method_27_code (1 : Nat) (Option.some Jvm.ClassFile.FieldType.int)]
set_option maxRecDepth 65536 in
theorem codes_eq : words1.filter isCode = codes1 := rfl
theorem w_codes : ∀ c ∈ words1.filter isCode, c.before args0 about1 = true := by
  rw [codes_eq]
  intro c hc
  simp only [codes1, List.mem_cons, List.not_mem_nil, or_false] at hc
  rcases hc with rfl | rfl | rfl | rfl | rfl | rfl | rfl | rfl | rfl | rfl | rfl | rfl | rfl | rfl | rfl | rfl | rfl | rfl | rfl | rfl | rfl | rfl | rfl | rfl | rfl | rfl | rfl | rfl | rfl | rfl | rfl | rfl | rfl | rfl | rfl | rfl | rfl | rfl | rfl | rfl | rfl | rfl | rfl | rfl | rfl | rfl | rfl | rfl | rfl | rfl | rfl | rfl
  · exact w_c0
  · exact w_c1
  · exact w_c2
  · exact w_c3
  · exact w_c4
  · exact w_c5
  · exact w_c6
  · exact w_c7
  · exact w_c8
  · exact w_c9
  · exact w_c10
  · exact w_c11
  · exact w_c12
  · exact w_c13
  · exact w_c14
  · exact w_c15
  · exact w_c16
  · exact w_c17
  · exact w_c18
  · exact w_c19
  · exact w_c20
  · exact w_c21
  · exact w_c22
  · exact w_c23
  · exact w_c24
  · exact w_c25
  · exact w_c26
  · exact w_c27
  · exact w_c28
  · exact w_c29
  · exact w_c30
  · exact w_c31
  · exact w_c32
  · exact w_c33
  · exact w_c34
  · exact w_c35
  · exact w_c36
  · exact w_c37
  · exact w_c38
  · exact w_c39
  · exact w_c40
  · exact w_c41
  · exact w_c42
  · exact w_c43
  · exact w_c44
  · exact w_c45
  · exact w_c46
  · exact w_c47
  · exact w_c48
  · exact w_c49
  · exact w_c50
  · exact w_c51
set_option maxRecDepth 65536 in
theorem w_t1 : (words1.take 24).all (fun c => isCode c || c.before args0 about1) = true := by decide +kernel
set_option maxRecDepth 65536 in
theorem w_t2 : ((words1.drop 24).take 24).all (fun c => isCode c || c.before args0 about1) = true := by decide +kernel
set_option maxRecDepth 65536 in
theorem w_t3 : (((words1.drop 24).drop 24).take 24).all (fun c => isCode c || c.before args0 about1) = true := by decide +kernel
set_option maxRecDepth 65536 in
theorem w_t4 : ((((words1.drop 24).drop 24).drop 24).take 24).all (fun c => isCode c || c.before args0 about1) = true := by decide +kernel
set_option maxRecDepth 65536 in
theorem w_t5 : (((((words1.drop 24).drop 24).drop 24).drop 24).take 24).all (fun c => isCode c || c.before args0 about1) = true := by decide +kernel
set_option maxRecDepth 65536 in
theorem w_t6 : ((((((words1.drop 24).drop 24).drop 24).drop 24).drop 24).take 24).all (fun c => isCode c || c.before args0 about1) = true := by decide +kernel
set_option maxRecDepth 65536 in
theorem w_t7 : (((((((words1.drop 24).drop 24).drop 24).drop 24).drop 24).drop 24).take 24).all (fun c => isCode c || c.before args0 about1) = true := by decide +kernel
set_option maxRecDepth 65536 in
theorem w_t8 : ((((((((words1.drop 24).drop 24).drop 24).drop 24).drop 24).drop 24).drop 24).take 24).all (fun c => isCode c || c.before args0 about1) = true := by decide +kernel
set_option maxRecDepth 65536 in
theorem w_t9 : (((((((((words1.drop 24).drop 24).drop 24).drop 24).drop 24).drop 24).drop 24).drop 24).take 24).all (fun c => isCode c || c.before args0 about1) = true := by decide +kernel
set_option maxRecDepth 65536 in
theorem w_t10 : ((((((((((words1.drop 24).drop 24).drop 24).drop 24).drop 24).drop 24).drop 24).drop 24).drop 24).take 24).all (fun c => isCode c || c.before args0 about1) = true := by decide +kernel
set_option maxRecDepth 65536 in
theorem w_t11 : (((((((((((words1.drop 24).drop 24).drop 24).drop 24).drop 24).drop 24).drop 24).drop 24).drop 24).drop 24).take 24).all (fun c => isCode c || c.before args0 about1) = true := by decide +kernel
set_option maxRecDepth 65536 in
theorem w_t12 : ((((((((((((words1.drop 24).drop 24).drop 24).drop 24).drop 24).drop 24).drop 24).drop 24).drop 24).drop 24).drop 24).take 24).all (fun c => isCode c || c.before args0 about1) = true := by decide +kernel
set_option maxRecDepth 65536 in
theorem w_t13 : (((((((((((((words1.drop 24).drop 24).drop 24).drop 24).drop 24).drop 24).drop 24).drop 24).drop 24).drop 24).drop 24).drop 24).take 24).all (fun c => isCode c || c.before args0 about1) = true := by decide +kernel
set_option maxRecDepth 65536 in
theorem w_t14 : ((((((((((((((words1.drop 24).drop 24).drop 24).drop 24).drop 24).drop 24).drop 24).drop 24).drop 24).drop 24).drop 24).drop 24).drop 24).take 24).all (fun c => isCode c || c.before args0 about1) = true := by decide +kernel
set_option maxRecDepth 65536 in
theorem w_t15 : ((((((((((((((words1.drop 24).drop 24).drop 24).drop 24).drop 24).drop 24).drop 24).drop 24).drop 24).drop 24).drop 24).drop 24).drop 24).drop 24).all (fun c => isCode c || c.before args0 about1) = true := by decide +kernel
theorem w_tables : (allAtoms (Jvm.Cond.code x code maxLocals ret :: tables_1)).before args0 about1 = true := by
  rw [allAtoms_all]
  show words1.all (fun c => c.before args0 about1) = true
  refine all_split ?_ w_codes
  rw [← List.take_append_drop 24 words1, List.all_append, w_t1, ← List.take_append_drop 24 (words1.drop 24), List.all_append, w_t2, ← List.take_append_drop 24 ((words1.drop 24).drop 24), List.all_append, w_t3, ← List.take_append_drop 24 (((words1.drop 24).drop 24).drop 24), List.all_append, w_t4, ← List.take_append_drop 24 ((((words1.drop 24).drop 24).drop 24).drop 24), List.all_append, w_t5, ← List.take_append_drop 24 (((((words1.drop 24).drop 24).drop 24).drop 24).drop 24), List.all_append, w_t6, ← List.take_append_drop 24 ((((((words1.drop 24).drop 24).drop 24).drop 24).drop 24).drop 24), List.all_append, w_t7, ← List.take_append_drop 24 (((((((words1.drop 24).drop 24).drop 24).drop 24).drop 24).drop 24).drop 24), List.all_append, w_t8, ← List.take_append_drop 24 ((((((((words1.drop 24).drop 24).drop 24).drop 24).drop 24).drop 24).drop 24).drop 24), List.all_append, w_t9, ← List.take_append_drop 24 (((((((((words1.drop 24).drop 24).drop 24).drop 24).drop 24).drop 24).drop 24).drop 24).drop 24), List.all_append, w_t10, ← List.take_append_drop 24 ((((((((((words1.drop 24).drop 24).drop 24).drop 24).drop 24).drop 24).drop 24).drop 24).drop 24).drop 24), List.all_append, w_t11, ← List.take_append_drop 24 (((((((((((words1.drop 24).drop 24).drop 24).drop 24).drop 24).drop 24).drop 24).drop 24).drop 24).drop 24).drop 24), List.all_append, w_t12, ← List.take_append_drop 24 ((((((((((((words1.drop 24).drop 24).drop 24).drop 24).drop 24).drop 24).drop 24).drop 24).drop 24).drop 24).drop 24).drop 24), List.all_append, w_t13, ← List.take_append_drop 24 (((((((((((((words1.drop 24).drop 24).drop 24).drop 24).drop 24).drop 24).drop 24).drop 24).drop 24).drop 24).drop 24).drop 24).drop 24), List.all_append, w_t14, w_t15]
  rfl
set_option maxRecDepth 65536 in
theorem w_rest : rest_1_c.before args0 about1 = true := by decide +kernel
set_option maxRecDepth 65536 in
theorem w_case : (Jvm.Cond.and given_1 narrow_1).before args0 about1 = true := by decide +kernel
set_option maxRecDepth 65536 in
theorem w_consts : constsHeld consts_1 about1 := Jvm.Lit.constsHeldB_iff.mp (by decide +kernel)
theorem w_applies : (headSpec (Jvm.Cond.code x code maxLocals ret :: tables_1) room_1).applies x e0.platform about1 = true :=
  (Spec.applies_iff w_frames).mpr ⟨w_running, w_runnable, w_alone, w_named, w_hears, w_ripe, w_room, w_tables⟩
set_option maxRecDepth 65536 in
theorem atStart : AtStart classFile x code maxLocals ret World_1 tables_1 room_1 Calls_1 rest_1 Pre_1 launch0 p0 e0 about1 theMethod args0 below0 :=
  ⟨lists_1, trivial, launch0.admits_env _ _ _, launch0.least_env, fairChoices_fair.cas, fairChoices_fair.clock, w_frames, w_args, w_heap, w_applies, ⟨⟨46, k46, 7, by decide +kernel, rfl, rfl, _, rfl, rfl⟩, ⟨w_consts, trivial⟩⟩, w_rest, w_case⟩
end start1
theorem witness_1 : WitnessClaimed_1 := ⟨start1.p0, start1.e0, start1.about1, start1.theMethod, start1.args0, start1.below0, start1.atStart⟩
end Jvm.Pilot.@@N@@
