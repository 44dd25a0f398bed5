import JvmDerived
import JvmDerived.Pilot.@@N@@Statement
import JvmDerived.Pilot.@@N@@Code
set_option linter.unusedVariables false
set_option linter.unusedSimpArgs false
namespace Jvm.Own
open Sem ClassFile Op Lib Jvm.Stand Jvm.Free Jvm.LawKit Jvm.RoadKit Bundle
section K
variable {p : Program} {l : Launch} {e : Env} {R : Room} {s : State} {m : MethodId} {args : Array Value} {below : List Frame} {meth : Method} {c : Code} {Z : State} {a0 : Array Value} {EL : List (String × Nat)} {pr : Bool} {y : MethodName} {bs : ByteArray} {ml : Nat} {rt : Option FieldType} {T : State} {vm0 : Vm} {h : Heap} {k n : Nat} {Φ : Outcome → State → Prop} {Ls : Array Slot} {st : List Value} {pc q : Nat}
/-- from U the run comes to its end, and Φ holds there -/
def Go (p : Program) (e : Env) (below : List Frame) (Φ : Outcome → State → Prop) (U : State) : Prop := ∃ s₂ o, Steps p.tables e below U s₂ ∧ s₂.status = .running ∧ Ended s₂ below o ∧ Φ o s₂
theorem Go.pre {U U' : State} (hr : Go p e below Φ U') (g : ∀ t, Steps p.tables e below U' t → Steps p.tables e below U t) : Go p e below Φ U := by
  obtain ⟨s2, o, h1, r⟩ := hr; exact ⟨s2, o, g _ h1, r⟩
theorem Go.pre' {U U' : State} (hr : Go p e below Φ U') (g : Steps p.tables e below U U') : Go p e below Φ U := hr.pre fun _ r => g.trans r
/-- where a walk stands: the tables vm0 since the last step that may have interned; only new places were written; what the start's heap held stands -/
def Wk (p : Program) (l : Launch) (e : Env) (R : Room) (s : State) (m : MethodId) (args : Array Value) (below : List Frame) (meth : Method) (c : Code) (Z : State) (a0 : Array Value) (EL : List (String × Nat)) (pr : Bool) (y : MethodName) (bs : ByteArray) (ml : Nat) (rt : Option FieldType) (T : State) (vm0 : Vm) (h : Heap) (k n : Nat) : Prop :=
  (p.tables.exec = Jvm.exec ∧ c.code = bs ∧ c.maxLocals = ml ∧ meth.sig.returnType = rt ∧ meth.locks = false ∧ meth.name = y.name ∧ EW Z a0 EL) ∧
  ∃ (k0 : Nat) (locs : List Loc), Stand p l e R (s.setVm vm0) m args below meth c T locs k n ∧ T.heap = h ∧ Z.Warmed39 vm0 ∧ vm0.findClass y.cls = some m.cls ∧ s.Since vm0 k0 ∧ k0 ≤ h.size ∧ Fr Z.heap.size locs ∧ CHr Z EL s.vm s.heap vm0 h ∧ Ext Z.heap h ∧ (pr = true → s.WarmedH vm0)
abbrev WkT (p : Program) (l : Launch) (e : Env) (R : Room) (s : State) (m : MethodId) (args : Array Value) (below : List Frame) (meth : Method) (c : Code) (Z : State) (a0 : Array Value) (EL : List (String × Nat)) (pr : Bool) (y : MethodName) (bs : ByteArray) (ml : Nat) (rt : Option FieldType) := Wk p l e R s m args below meth c Z a0 EL pr y bs ml rt
theorem Wk.here (w : Wk p l e R s m args below meth c Z a0 EL pr y bs ml rt T vm0 h k n) : At T m c below := by obtain ⟨-, _, _, X, -⟩ := w; exact X.here
theorem Wk.hx (w : Wk p l e R s m args below meth c Z a0 EL pr y bs ml rt T vm0 h k n) : p.tables.exec = Jvm.exec := w.1.1
theorem Wk.b (w : Wk p l e R s m args below meth c Z a0 EL pr y bs ml rt T vm0 h k n) {r : Except DecodeError (Instr × Nat)} (hd : decode bs pc = r) : decode c.code pc = r := hb w.1.2.1 hd
theorem Wk.old (w : Wk p l e R s m args below meth c Z a0 EL pr y bs ml rt T vm0 h k n) : Ext Z.heap h := by obtain ⟨-, _, _, -, -, -, -, -, -, -, -, O, -⟩ := w; exact O
theorem Wk.wz (w : Wk p l e R s m args below meth c Z a0 EL pr y bs ml rt T vm0 h k n) : Z.Warmed39 vm0 := by obtain ⟨-, _, _, -, -, hZ, -⟩ := w; exact hZ
theorem Wk.chv (w : Wk p l e R s m args below meth c Z a0 EL pr y bs ml rt T vm0 h k n) : CHv Z EL vm0 h := by obtain ⟨-, _, _, -, -, -, -, -, -, -, C, -⟩ := w; exact C.1
theorem Wk.safe (w : Wk p l e R s m args below meth c Z a0 EL pr y bs ml rt T vm0 h k n) {a : Addr} {C : String} (E : Exa Z h a C) (h1 : C ≠ "java/lang/String") (h2 : C ≠ "[B") : Safe Z EL vm0 h a := Safe.exa w.wz.alike E h1 h2
/-- how a body ends: it returned v, Q holds of v and the heap -/
def Fini (Z : State) (EL : List (String × Nat)) (pr : Bool) (kc ks : Nat) (Q : Option Value → Heap → Prop) (s : State) (o : Outcome) (t : State) : Prop :=
  ∃ v L, o = .returned v ∧ Q v t.heap ∧ Ext Z.heap t.heap ∧ Fr Z.heap.size L ∧ CHr Z EL s.vm s.heap t.vm t.heap ∧ (pr = true → s.WarmedH t.vm) ∧ ReturnedEndW s o t L kc ks
/-- a body's contract: called with these arguments at the heap h it returns, and Q holds -/
def Con (l : Launch) (Z : State) (EL : List (String × Nat)) (pr : Bool) (y : MethodName) (bs : ByteArray) (ml : Nat) (rt : Option FieldType) (ws : List Cond) (rm : Room) (as' : Array Value) (sf : List Addr) (h : Heap) (Q : Option Value → Heap → Prop) : Prop :=
  MetFree l y (head1 (Cond.code y bs ml rt :: ws) rm) (fun a U => a = as' ∧ Z.Warmed39 U.vm ∧ U.heap = h ∧ CHv Z EL U.vm h ∧ ∀ x ∈ sf, Safe Z EL U.vm h x) (fun _ _ _ _ _ => True) (fun _ U o U' => Fini Z EL pr rm.cells rm.slots Q U o U')
theorem Con.intro {ws : List Cond} {rm : Room} {as' : Array Value} {sf : List Addr} {Q : Option Value → Heap → Prop} (hpl : plainFor y = true) (hEL : EW Z a0 EL) (hO : Ext Z.heap h) (hef : ∀ m, entryFrame m as' ml = mkF m 0 Ls [])
    (body : ∀ (p : Program) (e : Env) (s : State) (m : MethodId) (below : List Frame) (meth : Method) (c : Code) (T : State), Wk p l e rm s m as' below meth c Z a0 EL pr y bs ml rt T s.vm h 0 0 → (∀ x ∈ sf, Safe Z EL s.vm h x) → Go p e below (Fini Z EL pr rm.cells rm.slots Q s) (T.setTop (mkF m 0 Ls []))) :
    Con l Z EL pr y bs ml rt ws rm as' sf h Q := by
  refine MetFree.of_bodySF hpl hisR ?_
  intro p e s m args below meth c s₁ Bd hml0 hP hK
  obtain ⟨rfl, hZ, hh, hC, hsf⟩ := hP
  have X0 : Stand p l e rm s m args below meth c s₁ [] 0 0 := Stand.of_body Bd
  have e0 : s₁.heap = h := by rw [← hh, Bd.state]; rfl
  have hown : s.vm.findClass y.cls = some m.cls := findClass_of_methodNamed Bd.named
  have hnm := (name_of_methodNamed Bd.named Bd.method).1
  have w : Wk p l e rm s m args below meth c Z a0 EL pr y bs ml rt s₁ s.vm h 0 0 :=
    ⟨⟨Bd.exec, Bd.bytes, hml0, Bd.returns, Bd.notSynchronized, hnm, hEL⟩, h.size, [], X0, e0, hZ, hown, (State.WarmedH.refl s).since _, Nat.le_refl _, Fr.nil _, by subst hh; exact CHr.refl hC, hO, fun _ => State.WarmedH.refl s⟩
  have q := body p e s m below meth c s₁ w hsf
  rw [← hef] at q
  exact q
/-- the two ends of a walk joined -/
theorem Wk.fin (w : Wk p l e R s m args below meth c Z a0 EL pr y bs ml rt T vm0 h k n) {Q : Option Value → Heap → Prop} {v : Option Value} (hv : rt = none → v = none) (hk : k ≤ R.cells) (hn : n ≤ R.slots) (hQ : Q v h) :
    ∃ fs, (∀ (f : JFrame) (acts : List Action), f.method = m → f.locked = none → f.entered = [] → (doReturn e (T.setTop f) acts v).1 = T.setFrames fs) ∧ (T.setFrames fs).status = .running ∧ Ended (T.setFrames fs) below (.returned v) ∧ Fini Z EL pr R.cells R.slots Q s (.returned v) (T.setFrames fs) := by
  obtain ⟨⟨hx, hb1, hml, hrt, hlk, hnm, hEL⟩, k0, locs, X, rfl, hZ, hown, hS, hk0, N, C, O, hpr⟩ := w
  obtain ⟨fs, hr, hrun, hended, e1, e2, e3, e4⟩ := X.leaveW hS hk0 (v := v) (fun q => hv (hrt.symm.trans q)) hlk
  exact ⟨fs, hr, hrun, hended, v, locs, rfl, hQ, O, N, C.trans (show CHr Z EL vm0 T.heap T.vm T.heap from CHv.at X hZ hEL C.1), fun q => State.WarmedH.trans (t := s.setVm vm0) (hpr q) X.warmed, e1, e2, e3, e4.mono hk hn⟩
/-- a value is returned -/
theorem g_ret (w : Wk p l e R s m args below meth c Z a0 EL pr y bs ml rt T vm0 h k n) {Q : Option Value → Heap → Prop} {t : FieldType} {i : Instr} {v : Value} (hd : decode bs pc = .ok (i, 1)) (ht : rt = some t) (hn : narrow t v = v)
    (hi : (i = .ireturn ∧ (t = .int ∨ t = .boolean ∨ t = .byte ∨ t = .char ∨ t = .short) ∧ ∃ z, v = .int z) ∨ (i = .lreturn ∧ t = .long ∧ ∃ z, v = .long z) ∨ (i = .dreturn ∧ t = .double ∧ ∃ z, v = .double z) ∨ (i = .freturn ∧ t = .float ∧ ∃ z, v = .float z) ∨ (i = .areturn ∧ t.isReference = true ∧ v.isRef = true))
    (hk : k ≤ R.cells) (hn' : n ≤ R.slots) (hQ : Q (some v) h) : Go p e below (Fini Z EL pr R.cells R.slots Q s) (T.setTop (mkF m pc Ls (v :: st))) := by
  obtain ⟨fs, hr, hrun, hended, hf⟩ := w.fin (v := some v) (fun q => by rw [ht] at q; cases q) hk hn' hQ
  obtain ⟨⟨hx, hb1, hml, hrt, -⟩, _, _, X, -⟩ := w
  exact ⟨_, _, retOut X hx (hrt.trans ht) hn hi (hb hb1 hd) hr, hrun, hended, hf⟩
theorem g_reti (w : Wk p l e R s m args below meth c Z a0 EL pr y bs ml rt T vm0 h k n) {Q : Option Value → Heap → Prop} {z : Int32} (hd : decode bs pc = .ok (.ireturn, 1)) (ht : rt = some .int) (hk : k ≤ R.cells) (hn : n ≤ R.slots) (hQ : Q (some (.int z)) h) : Go p e below (Fini Z EL pr R.cells R.slots Q s) (T.setTop (mkF m pc Ls (.int z :: st))) :=
  g_ret w hd ht rfl (Or.inl ⟨rfl, Or.inl rfl, _, rfl⟩) hk hn hQ
theorem g_retl (w : Wk p l e R s m args below meth c Z a0 EL pr y bs ml rt T vm0 h k n) {Q : Option Value → Heap → Prop} {z : Int64} (hd : decode bs pc = .ok (.lreturn, 1)) (ht : rt = some .long) (hk : k ≤ R.cells) (hn : n ≤ R.slots) (hQ : Q (some (.long z)) h) : Go p e below (Fini Z EL pr R.cells R.slots Q s) (T.setTop (mkF m pc Ls (.long z :: st))) :=
  g_ret w hd ht rfl (Or.inr (Or.inl ⟨rfl, rfl, _, rfl⟩)) hk hn hQ
/-- a boolean, byte, char or short is returned: it is narrowed -/
theorem g_retn (w : Wk p l e R s m args below meth c Z a0 EL pr y bs ml rt T vm0 h k n) {Q : Option Value → Heap → Prop} {t : FieldType} {z z' : Int32} (hd : decode bs pc = .ok (.ireturn, 1)) (ht : rt = some t) (hs : t = .boolean ∨ t = .byte ∨ t = .char ∨ t = .short) (hz : nar t z = z') (hk : k ≤ R.cells) (hn : n ≤ R.slots) (hQ : Q (some (.int z')) h) :
    Go p e below (Fini Z EL pr R.cells R.slots Q s) (T.setTop (mkF m pc Ls (.int z :: st))) := by
  subst hz
  obtain ⟨fs, hr, hrun, hended, hf⟩ := w.fin (v := some (.int (nar t z))) (fun q => by rw [ht] at q; cases q) hk hn hQ
  obtain ⟨⟨hx, hb1, hml, hrt, -⟩, _, _, X, -⟩ := w
  exact ⟨_, _, retN X hx (hrt.trans ht) hs (hb hb1 hd) hr, hrun, hended, hf⟩
theorem g_reta (w : Wk p l e R s m args below meth c Z a0 EL pr y bs ml rt T vm0 h k n) {Q : Option Value → Heap → Prop} {t : FieldType} {v : Value} (hd : decode bs pc = .ok (.areturn, 1)) (ht : rt = some t) (hr : t.isReference = true) (hv : v.isRef = true) (hk : k ≤ R.cells) (hn : n ≤ R.slots) (hQ : Q (some v) h) : Go p e below (Fini Z EL pr R.cells R.slots Q s) (T.setTop (mkF m pc Ls (v :: st))) :=
  g_ret w hd ht (by cases t <;> simp [FieldType.isReference] at hr <;> cases v <;> simp [Value.isRef] at hv <;> rfl) (Or.inr (Or.inr (Or.inr (Or.inr ⟨rfl, hr, hv⟩)))) hk hn hQ
theorem g_return (w : Wk p l e R s m args below meth c Z a0 EL pr y bs ml rt T vm0 h k n) {Q : Option Value → Heap → Prop} (hd : decode bs pc = .ok (.return_, 1)) (ht : rt = none) (hk : k ≤ R.cells) (hn : n ≤ R.slots) (hQ : Q none h) : Go p e below (Fini Z EL pr R.cells R.slots Q s) (T.setTop (mkF m pc Ls [])) := by
  obtain ⟨fs, hr, hrun, hended, hf⟩ := w.fin (v := none) (fun _ => rfl) hk hn hQ
  obtain ⟨⟨hx, hb1, hml, hrt, -⟩, _, _, X, -⟩ := w
  exact ⟨_, _, X.returnOut hx (hrt.trans ht) (hb hb1 hd) hr, hrun, hended, hf⟩
theorem g_iloadN (w : Wk p l e R s m args below meth c Z a0 EL pr y bs ml rt T vm0 h k n) {kk : Fin 4} {v : Int32} (hd : decode bs pc = .ok (.iload_n kk, 1)) (hq : pc + 1 = q) (hl : Ls[kk.val]? = some (.val (.int v))) (hr : Go p e below Φ (T.setTop (mkF m q Ls (.int v :: st)))) : Go p e below Φ (T.setTop (mkF m pc Ls st)) := by
  subst hq; exact hr.pre fun t r => Jvm.Free.XS.iloadN w.here w.hx rfl (w.b hd) hl r
theorem g_iload (w : Wk p l e R s m args below meth c Z a0 EL pr y bs ml rt T vm0 h k n) {kk : Nat} {v : Int32} (hd : decode bs pc = .ok (.iload kk, 2)) (hq : pc + 2 = q) (hl : Ls[kk]? = some (.val (.int v))) (hr : Go p e below Φ (T.setTop (mkF m q Ls (.int v :: st)))) : Go p e below Φ (T.setTop (mkF m pc Ls st)) := by
  subst hq; exact hr.pre fun t r => Jvm.Free.XS.iload w.here w.hx rfl (w.b hd) hl r
theorem g_lloadN (w : Wk p l e R s m args below meth c Z a0 EL pr y bs ml rt T vm0 h k n) {kk : Fin 4} {v : Int64} (hd : decode bs pc = .ok (.lload_n kk, 1)) (hq : pc + 1 = q) (hl : Ls[kk.val]? = some (.val (.long v))) (hr : Go p e below Φ (T.setTop (mkF m q Ls (.long v :: st)))) : Go p e below Φ (T.setTop (mkF m pc Ls st)) := by
  subst hq; exact hr.pre fun t r => Jvm.Free.XT.lloadN w.here w.hx rfl (w.b hd) hl r
theorem g_lload (w : Wk p l e R s m args below meth c Z a0 EL pr y bs ml rt T vm0 h k n) {kk : Nat} {v : Int64} (hd : decode bs pc = .ok (.lload kk, 2)) (hq : pc + 2 = q) (hl : Ls[kk]? = some (.val (.long v))) (hr : Go p e below Φ (T.setTop (mkF m q Ls (.long v :: st)))) : Go p e below Φ (T.setTop (mkF m pc Ls st)) := by
  subst hq; exact hr.pre fun t r => Jvm.Free.XT.lload w.here w.hx rfl (w.b hd) hl r
theorem g_aloadN (w : Wk p l e R s m args below meth c Z a0 EL pr y bs ml rt T vm0 h k n) {kk : Fin 4} {v : Value} (hd : decode bs pc = .ok (.aload_n kk, 1)) (hq : pc + 1 = q) (hl : Ls[kk.val]? = some (.val v)) (hv : v.isRef = true) (hr : Go p e below Φ (T.setTop (mkF m q Ls (v :: st)))) : Go p e below Φ (T.setTop (mkF m pc Ls st)) := by
  subst hq; exact hr.pre fun t r => Jvm.Free.XS.aloadN w.here w.hx rfl (w.b hd) hl hv r
theorem g_aload (w : Wk p l e R s m args below meth c Z a0 EL pr y bs ml rt T vm0 h k n) {kk : Nat} {v : Value} (hd : decode bs pc = .ok (.aload kk, 2)) (hq : pc + 2 = q) (hl : Ls[kk]? = some (.val v)) (hv : v.isRef = true) (hr : Go p e below Φ (T.setTop (mkF m q Ls (v :: st)))) : Go p e below Φ (T.setTop (mkF m pc Ls st)) := by
  subst hq; exact hr.pre fun t r => Jvm.Free.XS.aload w.here w.hx rfl (w.b hd) hl hv r
theorem g_istoreN (w : Wk p l e R s m args below meth c Z a0 EL pr y bs ml rt T vm0 h k n) {kk : Fin 4} {v : Int32} {Ls' : Array Slot} (hd : decode bs pc = .ok (.istore_n kk, 1)) (hq : pc + 1 = q) (hl : storeLocals Ls kk.val (.int v) = some Ls') (hr : Go p e below Φ (T.setTop (mkF m q Ls' st))) : Go p e below Φ (T.setTop (mkF m pc Ls (.int v :: st))) := by
  subst hq; exact hr.pre fun t r => Jvm.Free.XS.istoreN w.here w.hx rfl (w.b hd) rfl hl r
theorem g_istore (w : Wk p l e R s m args below meth c Z a0 EL pr y bs ml rt T vm0 h k n) {kk : Nat} {v : Int32} {Ls' : Array Slot} (hd : decode bs pc = .ok (.istore kk, 2)) (hq : pc + 2 = q) (hl : storeLocals Ls kk (.int v) = some Ls') (hr : Go p e below Φ (T.setTop (mkF m q Ls' st))) : Go p e below Φ (T.setTop (mkF m pc Ls (.int v :: st))) := by
  subst hq; exact hr.pre fun t r => Jvm.Free.XS.istore w.here w.hx rfl (w.b hd) rfl hl r
theorem g_lstoreN (w : Wk p l e R s m args below meth c Z a0 EL pr y bs ml rt T vm0 h k n) {kk : Fin 4} {v : Int64} {Ls' : Array Slot} (hd : decode bs pc = .ok (.lstore_n kk, 1)) (hq : pc + 1 = q) (hl : storeLocals Ls kk.val (.long v) = some Ls') (hr : Go p e below Φ (T.setTop (mkF m q Ls' st))) : Go p e below Φ (T.setTop (mkF m pc Ls (.long v :: st))) := by
  subst hq; exact hr.pre fun t r => Jvm.Free.XT.lstoreN w.here w.hx rfl (w.b hd) rfl hl r
theorem g_lstore (w : Wk p l e R s m args below meth c Z a0 EL pr y bs ml rt T vm0 h k n) {kk : Nat} {v : Int64} {Ls' : Array Slot} (hd : decode bs pc = .ok (.lstore kk, 2)) (hq : pc + 2 = q) (hl : storeLocals Ls kk (.long v) = some Ls') (hr : Go p e below Φ (T.setTop (mkF m q Ls' st))) : Go p e below Φ (T.setTop (mkF m pc Ls (.long v :: st))) := by
  subst hq; exact hr.pre fun t r => Jvm.Free.XT.lstore w.here w.hx rfl (w.b hd) rfl hl r
theorem g_astoreN (w : Wk p l e R s m args below meth c Z a0 EL pr y bs ml rt T vm0 h k n) {kk : Fin 4} {v : Value} {Ls' : Array Slot} (hd : decode bs pc = .ok (.astore_n kk, 1)) (hq : pc + 1 = q) (hv : v.isRef = true) (hl : storeLocals Ls kk.val v = some Ls') (hr : Go p e below Φ (T.setTop (mkF m q Ls' st))) : Go p e below Φ (T.setTop (mkF m pc Ls (v :: st))) := by
  subst hq; exact hr.pre fun t r => Jvm.Free.XS.astoreN w.here w.hx rfl (w.b hd) rfl hv hl r
theorem g_astore (w : Wk p l e R s m args below meth c Z a0 EL pr y bs ml rt T vm0 h k n) {kk : Nat} {v : Value} {Ls' : Array Slot} (hd : decode bs pc = .ok (.astore kk, 2)) (hq : pc + 2 = q) (hv : v.isRef = true) (hl : storeLocals Ls kk v = some Ls') (hr : Go p e below Φ (T.setTop (mkF m q Ls' st))) : Go p e below Φ (T.setTop (mkF m pc Ls (v :: st))) := by
  subst hq; exact hr.pre fun t r => Jvm.Free.XS.astore w.here w.hx rfl (w.b hd) rfl hv hl r
theorem g_iconst (w : Wk p l e R s m args below meth c Z a0 EL pr y bs ml rt T vm0 h k n) {i : Int} {v : Int32} (hd : decode bs pc = .ok (.iconst i, 1)) (hq : pc + 1 = q) (hv : Int32.ofInt i = v) (hr : Go p e below Φ (T.setTop (mkF m q Ls (.int v :: st)))) : Go p e below Φ (T.setTop (mkF m pc Ls st)) := by
  subst hq; exact hr.pre fun t r => Jvm.Free.XT.iconstV w.here w.hx rfl v (w.b hd) hv r
theorem g_bipush (w : Wk p l e R s m args below meth c Z a0 EL pr y bs ml rt T vm0 h k n) {i : Int} {v : Int32} (hd : decode bs pc = .ok (.bipush i, 2)) (hq : pc + 2 = q) (hv : (Int8.ofInt i).toInt32 = v) (hr : Go p e below Φ (T.setTop (mkF m q Ls (.int v :: st)))) : Go p e below Φ (T.setTop (mkF m pc Ls st)) := by
  subst hq; exact hr.pre fun t r => Jvm.Free.XT.bipushV w.here w.hx rfl v (w.b hd) hv r
theorem g_sipush (w : Wk p l e R s m args below meth c Z a0 EL pr y bs ml rt T vm0 h k n) {i : Int} {v : Int32} (hd : decode bs pc = .ok (.sipush i, 3)) (hq : pc + 3 = q) (hv : (Int16.ofInt i).toInt32 = v) (hr : Go p e below Φ (T.setTop (mkF m q Ls (.int v :: st)))) : Go p e below Φ (T.setTop (mkF m pc Ls st)) := by
  subst hq; exact hr.pre fun t r => Jvm.Free.XT.sipushV w.here w.hx rfl v (w.b hd) hv r
theorem g_lconst (w : Wk p l e R s m args below meth c Z a0 EL pr y bs ml rt T vm0 h k n) {i : Fin 2} {v : Int64} (hd : decode bs pc = .ok (.lconst i, 1)) (hq : pc + 1 = q) (hv : Int64.ofNat i = v) (hr : Go p e below Φ (T.setTop (mkF m q Ls (.long v :: st)))) : Go p e below Φ (T.setTop (mkF m pc Ls st)) := by
  subst hq; exact hr.pre fun t r => Jvm.Free.XT.lconstV w.here w.hx rfl v (w.b hd) hv r
theorem g_anull (w : Wk p l e R s m args below meth c Z a0 EL pr y bs ml rt T vm0 h k n) (hd : decode bs pc = .ok (.aconst_null, 1)) (hq : pc + 1 = q) (hr : Go p e below Φ (T.setTop (mkF m q Ls (.null :: st)))) : Go p e below Φ (T.setTop (mkF m pc Ls st)) := by
  subst hq; exact hr.pre fun t r => Jvm.Free.XS.aconstNull w.here w.hx rfl (w.b hd) r
theorem g_dup (w : Wk p l e R s m args below meth c Z a0 EL pr y bs ml rt T vm0 h k n) {v : Value} (hd : decode bs pc = .ok (.dup, 1)) (hq : pc + 1 = q) (hc : v.category = 1) (hr : Go p e below Φ (T.setTop (mkF m q Ls (v :: v :: st)))) : Go p e below Φ (T.setTop (mkF m pc Ls (v :: st))) := by
  subst hq; exact hr.pre fun t r => Jvm.Free.XS.dup w.here w.hx rfl (w.b hd) rfl hc r
theorem g_pop (w : Wk p l e R s m args below meth c Z a0 EL pr y bs ml rt T vm0 h k n) {v : Value} (hd : decode bs pc = .ok (.pop, 1)) (hq : pc + 1 = q) (hc : v.category = 1) (hr : Go p e below Φ (T.setTop (mkF m q Ls st))) : Go p e below Φ (T.setTop (mkF m pc Ls (v :: st))) := by
  subst hq; exact hr.pre fun t r => Jvm.Free.XT.pop w.here w.hx rfl (w.b hd) rfl hc r
theorem g_dupX1 (w : Wk p l e R s m args below meth c Z a0 EL pr y bs ml rt T vm0 h k n) {v u : Value} (hd : decode bs pc = .ok (.dup_x1, 1)) (hq : pc + 1 = q) (hc : v.category = 1) (hc' : u.category = 1) (hr : Go p e below Φ (T.setTop (mkF m q Ls (v :: u :: v :: st)))) : Go p e below Φ (T.setTop (mkF m pc Ls (v :: u :: st))) := by
  subst hq; exact hr.pre fun t r => Jvm.Free.XT.dupX1 w.here w.hx rfl (w.b hd) rfl hc hc' r
theorem g_dup2 (w : Wk p l e R s m args below meth c Z a0 EL pr y bs ml rt T vm0 h k n) {v u : Value} (hd : decode bs pc = .ok (.dup2, 1)) (hq : pc + 1 = q) (hc : v.category = 1) (hc' : u.category = 1) (hr : Go p e below Φ (T.setTop (mkF m q Ls (v :: u :: v :: u :: st)))) : Go p e below Φ (T.setTop (mkF m pc Ls (v :: u :: st))) := by
  subst hq; exact hr.pre fun t r => Jvm.Free.XT.dup2 w.here w.hx rfl (w.b hd) rfl hc hc' r
theorem g_dup2L (w : Wk p l e R s m args below meth c Z a0 EL pr y bs ml rt T vm0 h k n) {x : Int64} (hd : decode bs pc = .ok (.dup2, 1)) (hq : pc + 1 = q) (hr : Go p e below Φ (T.setTop (mkF m q Ls (.long x :: .long x :: st)))) : Go p e below Φ (T.setTop (mkF m pc Ls (.long x :: st))) := by
  subst hq; exact hr.pre fun t r => Jvm.Free.XT.dup2L w.here w.hx rfl (w.b hd) rfl r
theorem g_iadd (w : Wk p l e R s m args below meth c Z a0 EL pr y bs ml rt T vm0 h k n) {x z : Int32} (hd : decode bs pc = .ok (.iadd, 1)) (hq : pc + 1 = q) (hr : Go p e below Φ (T.setTop (mkF m q Ls (.int (x + z) :: st)))) : Go p e below Φ (T.setTop (mkF m pc Ls (.int z :: .int x :: st))) := by
  subst hq; exact hr.pre fun t r => Jvm.Free.XS.iadd w.here w.hx rfl (w.b hd) rfl r
theorem g_isub (w : Wk p l e R s m args below meth c Z a0 EL pr y bs ml rt T vm0 h k n) {x z : Int32} (hd : decode bs pc = .ok (.isub, 1)) (hq : pc + 1 = q) (hr : Go p e below Φ (T.setTop (mkF m q Ls (.int (x - z) :: st)))) : Go p e below Φ (T.setTop (mkF m pc Ls (.int z :: .int x :: st))) := by
  subst hq; exact hr.pre fun t r => Jvm.Free.XS.isub w.here w.hx rfl (w.b hd) rfl r
theorem g_imul (w : Wk p l e R s m args below meth c Z a0 EL pr y bs ml rt T vm0 h k n) {x z : Int32} (hd : decode bs pc = .ok (.imul, 1)) (hq : pc + 1 = q) (hr : Go p e below Φ (T.setTop (mkF m q Ls (.int (x * z) :: st)))) : Go p e below Φ (T.setTop (mkF m pc Ls (.int z :: .int x :: st))) := by
  subst hq; exact hr.pre fun t r => Jvm.Free.XS.imul w.here w.hx rfl (w.b hd) rfl r
theorem g_iand (w : Wk p l e R s m args below meth c Z a0 EL pr y bs ml rt T vm0 h k n) {x z : Int32} (hd : decode bs pc = .ok (.iand, 1)) (hq : pc + 1 = q) (hr : Go p e below Φ (T.setTop (mkF m q Ls (.int (x &&& z) :: st)))) : Go p e below Φ (T.setTop (mkF m pc Ls (.int z :: .int x :: st))) := by
  subst hq; exact hr.pre fun t r => Jvm.Free.XS.iand w.here w.hx rfl (w.b hd) rfl r
theorem g_ior (w : Wk p l e R s m args below meth c Z a0 EL pr y bs ml rt T vm0 h k n) {x z : Int32} (hd : decode bs pc = .ok (.ior, 1)) (hq : pc + 1 = q) (hr : Go p e below Φ (T.setTop (mkF m q Ls (.int (x ||| z) :: st)))) : Go p e below Φ (T.setTop (mkF m pc Ls (.int z :: .int x :: st))) := by
  subst hq; exact hr.pre fun t r => Jvm.Free.XT.ior w.here w.hx rfl (w.b hd) rfl r
theorem g_ixor (w : Wk p l e R s m args below meth c Z a0 EL pr y bs ml rt T vm0 h k n) {x z : Int32} (hd : decode bs pc = .ok (.ixor, 1)) (hq : pc + 1 = q) (hr : Go p e below Φ (T.setTop (mkF m q Ls (.int (x ^^^ z) :: st)))) : Go p e below Φ (T.setTop (mkF m pc Ls (.int z :: .int x :: st))) := by
  subst hq; exact hr.pre fun t r => Jvm.Free.XT.ixor w.here w.hx rfl (w.b hd) rfl r
theorem g_ishl (w : Wk p l e R s m args below meth c Z a0 EL pr y bs ml rt T vm0 h k n) {x z : Int32} (hd : decode bs pc = .ok (.ishl, 1)) (hq : pc + 1 = q) (hr : Go p e below Φ (T.setTop (mkF m q Ls (.int (x <<< (z &&& 31)) :: st)))) : Go p e below Φ (T.setTop (mkF m pc Ls (.int z :: .int x :: st))) := by
  subst hq; exact hr.pre fun t r => Jvm.Free.XT.ishl w.here w.hx rfl (w.b hd) rfl r
theorem g_ishr (w : Wk p l e R s m args below meth c Z a0 EL pr y bs ml rt T vm0 h k n) {x z : Int32} (hd : decode bs pc = .ok (.ishr, 1)) (hq : pc + 1 = q) (hr : Go p e below Φ (T.setTop (mkF m q Ls (.int (x >>> (z &&& 31)) :: st)))) : Go p e below Φ (T.setTop (mkF m pc Ls (.int z :: .int x :: st))) := by
  subst hq; exact hr.pre fun t r => Jvm.Free.XT.ishr w.here w.hx rfl (w.b hd) rfl r
theorem g_iushr (w : Wk p l e R s m args below meth c Z a0 EL pr y bs ml rt T vm0 h k n) {x z : Int32} (hd : decode bs pc = .ok (.iushr, 1)) (hq : pc + 1 = q) (hr : Go p e below Φ (T.setTop (mkF m q Ls (.int (Jvm.Free.XT.ushr x z) :: st)))) : Go p e below Φ (T.setTop (mkF m pc Ls (.int z :: .int x :: st))) := by
  subst hq; exact hr.pre fun t r => Jvm.Free.XT.iushr w.here w.hx rfl (w.b hd) rfl r
theorem g_idiv (w : Wk p l e R s m args below meth c Z a0 EL pr y bs ml rt T vm0 h k n) {x z : Int32} (hd : decode bs pc = .ok (.idiv, 1)) (hq : pc + 1 = q) (hz : z ≠ 0) (hr : Go p e below Φ (T.setTop (mkF m q Ls (.int (x / z) :: st)))) : Go p e below Φ (T.setTop (mkF m pc Ls (.int z :: .int x :: st))) := by
  subst hq; exact hr.pre fun t r => Jvm.Free.XS.idiv w.here w.hx rfl (w.b hd) rfl hz r
theorem g_irem (w : Wk p l e R s m args below meth c Z a0 EL pr y bs ml rt T vm0 h k n) {x z : Int32} (hd : decode bs pc = .ok (.irem, 1)) (hq : pc + 1 = q) (hz : z ≠ 0) (hr : Go p e below Φ (T.setTop (mkF m q Ls (.int (x % z) :: st)))) : Go p e below Φ (T.setTop (mkF m pc Ls (.int z :: .int x :: st))) := by
  subst hq; obtain ⟨⟨hx, hb1, -⟩, _, _, X, -⟩ := w; exact hr.pre fun t r => iremM X hx rfl (hb hb1 hd) rfl hz r
theorem g_ladd (w : Wk p l e R s m args below meth c Z a0 EL pr y bs ml rt T vm0 h k n) {x z : Int64} (hd : decode bs pc = .ok (.ladd, 1)) (hq : pc + 1 = q) (hr : Go p e below Φ (T.setTop (mkF m q Ls (.long (x + z) :: st)))) : Go p e below Φ (T.setTop (mkF m pc Ls (.long z :: .long x :: st))) := by
  subst hq; exact hr.pre fun t r => Jvm.Free.XT.ladd w.here w.hx rfl (w.b hd) rfl r
theorem g_lsub (w : Wk p l e R s m args below meth c Z a0 EL pr y bs ml rt T vm0 h k n) {x z : Int64} (hd : decode bs pc = .ok (.lsub, 1)) (hq : pc + 1 = q) (hr : Go p e below Φ (T.setTop (mkF m q Ls (.long (x - z) :: st)))) : Go p e below Φ (T.setTop (mkF m pc Ls (.long z :: .long x :: st))) := by
  subst hq; exact hr.pre fun t r => Jvm.Free.XT.lsub w.here w.hx rfl (w.b hd) rfl r
theorem g_lmul (w : Wk p l e R s m args below meth c Z a0 EL pr y bs ml rt T vm0 h k n) {x z : Int64} (hd : decode bs pc = .ok (.lmul, 1)) (hq : pc + 1 = q) (hr : Go p e below Φ (T.setTop (mkF m q Ls (.long (x * z) :: st)))) : Go p e below Φ (T.setTop (mkF m pc Ls (.long z :: .long x :: st))) := by
  subst hq; exact hr.pre fun t r => Jvm.Free.XT.lmul w.here w.hx rfl (w.b hd) rfl r
theorem g_land (w : Wk p l e R s m args below meth c Z a0 EL pr y bs ml rt T vm0 h k n) {x z : Int64} (hd : decode bs pc = .ok (.land, 1)) (hq : pc + 1 = q) (hr : Go p e below Φ (T.setTop (mkF m q Ls (.long (x &&& z) :: st)))) : Go p e below Φ (T.setTop (mkF m pc Ls (.long z :: .long x :: st))) := by
  subst hq; exact hr.pre fun t r => Jvm.Free.XT.land w.here w.hx rfl (w.b hd) rfl r
theorem g_lor (w : Wk p l e R s m args below meth c Z a0 EL pr y bs ml rt T vm0 h k n) {x z : Int64} (hd : decode bs pc = .ok (.lor, 1)) (hq : pc + 1 = q) (hr : Go p e below Φ (T.setTop (mkF m q Ls (.long (x ||| z) :: st)))) : Go p e below Φ (T.setTop (mkF m pc Ls (.long z :: .long x :: st))) := by
  subst hq; exact hr.pre fun t r => Jvm.Free.XT.lor w.here w.hx rfl (w.b hd) rfl r
theorem g_lxor (w : Wk p l e R s m args below meth c Z a0 EL pr y bs ml rt T vm0 h k n) {x z : Int64} (hd : decode bs pc = .ok (.lxor, 1)) (hq : pc + 1 = q) (hr : Go p e below Φ (T.setTop (mkF m q Ls (.long (x ^^^ z) :: st)))) : Go p e below Φ (T.setTop (mkF m pc Ls (.long z :: .long x :: st))) := by
  subst hq; exact hr.pre fun t r => Jvm.Free.XT.lxor w.here w.hx rfl (w.b hd) rfl r
theorem g_ldiv (w : Wk p l e R s m args below meth c Z a0 EL pr y bs ml rt T vm0 h k n) {x z : Int64} (hd : decode bs pc = .ok (.ldiv, 1)) (hq : pc + 1 = q) (hz : z ≠ 0) (hr : Go p e below Φ (T.setTop (mkF m q Ls (.long (x / z) :: st)))) : Go p e below Φ (T.setTop (mkF m pc Ls (.long z :: .long x :: st))) := by
  subst hq; exact hr.pre fun t r => Jvm.Free.XT.ldiv w.here w.hx rfl (w.b hd) rfl hz r
theorem g_lrem (w : Wk p l e R s m args below meth c Z a0 EL pr y bs ml rt T vm0 h k n) {x z : Int64} (hd : decode bs pc = .ok (.lrem, 1)) (hq : pc + 1 = q) (hz : z ≠ 0) (hr : Go p e below Φ (T.setTop (mkF m q Ls (.long (x - (x / z) * z) :: st)))) : Go p e below Φ (T.setTop (mkF m pc Ls (.long z :: .long x :: st))) := by
  subst hq; exact hr.pre fun t r => Jvm.Free.XT.lrem w.here w.hx rfl (w.b hd) rfl hz r
theorem g_lneg (w : Wk p l e R s m args below meth c Z a0 EL pr y bs ml rt T vm0 h k n) {x : Int64} (hd : decode bs pc = .ok (.lneg, 1)) (hq : pc + 1 = q) (hr : Go p e below Φ (T.setTop (mkF m q Ls (.long (-x) :: st)))) : Go p e below Φ (T.setTop (mkF m pc Ls (.long x :: st))) := by
  subst hq; exact hr.pre fun t r => Jvm.Free.XT.lneg w.here w.hx rfl (w.b hd) rfl r
theorem g_ineg (w : Wk p l e R s m args below meth c Z a0 EL pr y bs ml rt T vm0 h k n) {x : Int32} (hd : decode bs pc = .ok (.ineg, 1)) (hq : pc + 1 = q) (hr : Go p e below Φ (T.setTop (mkF m q Ls (.int (-x) :: st)))) : Go p e below Φ (T.setTop (mkF m pc Ls (.int x :: st))) := by
  subst hq; exact hr.pre fun t r => Jvm.Free.XS.ineg w.here w.hx rfl (w.b hd) rfl r
theorem g_i2l (w : Wk p l e R s m args below meth c Z a0 EL pr y bs ml rt T vm0 h k n) {x : Int32} (hd : decode bs pc = .ok (.i2l, 1)) (hq : pc + 1 = q) (hr : Go p e below Φ (T.setTop (mkF m q Ls (.long (x.toInt64) :: st)))) : Go p e below Φ (T.setTop (mkF m pc Ls (.int x :: st))) := by
  subst hq; exact hr.pre fun t r => Jvm.Free.XT.i2l w.here w.hx rfl (w.b hd) rfl r
theorem g_i2b (w : Wk p l e R s m args below meth c Z a0 EL pr y bs ml rt T vm0 h k n) {x : Int32} (hd : decode bs pc = .ok (.i2b, 1)) (hq : pc + 1 = q) (hr : Go p e below Φ (T.setTop (mkF m q Ls (.int (x.toInt8.toInt32) :: st)))) : Go p e below Φ (T.setTop (mkF m pc Ls (.int x :: st))) := by
  subst hq; exact hr.pre fun t r => Jvm.Free.XT.i2b w.here w.hx rfl (w.b hd) rfl r
theorem g_i2c (w : Wk p l e R s m args below meth c Z a0 EL pr y bs ml rt T vm0 h k n) {x : Int32} (hd : decode bs pc = .ok (.i2c, 1)) (hq : pc + 1 = q) (hr : Go p e below Φ (T.setTop (mkF m q Ls (.int (x.toUInt32.toUInt16.toUInt32.toInt32) :: st)))) : Go p e below Φ (T.setTop (mkF m pc Ls (.int x :: st))) := by
  subst hq; exact hr.pre fun t r => Jvm.Free.XT.i2c w.here w.hx rfl (w.b hd) rfl r
theorem g_l2i (w : Wk p l e R s m args below meth c Z a0 EL pr y bs ml rt T vm0 h k n) {x : Int64} (hd : decode bs pc = .ok (.l2i, 1)) (hq : pc + 1 = q) (hr : Go p e below Φ (T.setTop (mkF m q Ls (.int (x.toInt32) :: st)))) : Go p e below Φ (T.setTop (mkF m pc Ls (.long x :: st))) := by
  subst hq; exact hr.pre fun t r => Jvm.Free.XT.l2i w.here w.hx rfl (w.b hd) rfl r
theorem g_lcmp (w : Wk p l e R s m args below meth c Z a0 EL pr y bs ml rt T vm0 h k n) {x z : Int64} (hd : decode bs pc = .ok (.lcmp, 1)) (hq : pc + 1 = q) (hr : Go p e below Φ (T.setTop (mkF m q Ls (.int (Jvm.Free.XT.cmpL x z) :: st)))) : Go p e below Φ (T.setTop (mkF m pc Ls (.long z :: .long x :: st))) := by
  subst hq; exact hr.pre fun t r => Jvm.Free.XT.lcmp w.here w.hx rfl (w.b hd) rfl r
theorem g_iinc (w : Wk p l e R s m args below meth c Z a0 EL pr y bs ml rt T vm0 h k n) {kk : Nat} {cst : Int} {x v : Int32} {Ls' : Array Slot} (hd : decode bs pc = .ok (.iinc kk cst, 3)) (hq : pc + 3 = q) (hv : Int32.ofInt cst = v) (hl : Ls[kk]? = some (.val (.int x))) (hl' : storeLocals Ls kk (.int (x + v)) = some Ls') (hr : Go p e below Φ (T.setTop (mkF m q Ls' st))) : Go p e below Φ (T.setTop (mkF m pc Ls st)) := by
  subst hq; exact hr.pre fun t r => Jvm.Free.XS.iinc w.here w.hx rfl (w.b hd) hl (by rw [hv]; exact hl') r
theorem g_goto (w : Wk p l e R s m args below meth c Z a0 EL pr y bs ml rt T vm0 h k n) {o : Int} (hd : decode bs pc = .ok (.goto o, 3)) (ho : 0 ≤ (pc : Int) + o) (hq : ((pc : Int) + o).toNat = q) (hr : Go p e below Φ (T.setTop (mkF m q Ls st))) : Go p e below Φ (T.setTop (mkF m pc Ls st)) := by
  exact hr.pre fun t r => Jvm.Free.XS.goto w.here w.hx rfl rfl (w.b hd) ho hq r
theorem g_ifY (w : Wk p l e R s m args below meth c Z a0 EL pr y bs ml rt T vm0 h k n) {cd : ClassFile.Cond} {x : Int32} {o : Int} (hd : decode bs pc = .ok (.ifCond cd o, 3)) (ho : 0 ≤ (pc : Int) + o) (hq : ((pc : Int) + o).toNat = q) (hc : ifCond.holds cd x = true) (hr : Go p e below Φ (T.setTop (mkF m q Ls st))) : Go p e below Φ (T.setTop (mkF m pc Ls (.int x :: st))) := by
  exact hr.pre fun t r => Jvm.Free.XS.ifYes w.here w.hx rfl rfl (w.b hd) rfl hc ho hq r
theorem g_ifN (w : Wk p l e R s m args below meth c Z a0 EL pr y bs ml rt T vm0 h k n) {cd : ClassFile.Cond} {x : Int32} {o : Int} (hd : decode bs pc = .ok (.ifCond cd o, 3)) (hq : pc + 3 = q) (hc : ifCond.holds cd x = false) (hr : Go p e below Φ (T.setTop (mkF m q Ls st))) : Go p e below Φ (T.setTop (mkF m pc Ls (.int x :: st))) := by
  subst hq; exact hr.pre fun t r => Jvm.Free.XS.ifNo w.here w.hx rfl (w.b hd) rfl hc r
theorem g_icY (w : Wk p l e R s m args below meth c Z a0 EL pr y bs ml rt T vm0 h k n) {cd : ClassFile.Cond} {x z : Int32} {o : Int} (hd : decode bs pc = .ok (.if_icmp cd o, 3)) (ho : 0 ≤ (pc : Int) + o) (hq : ((pc : Int) + o).toNat = q) (hc : if_icmp.holds cd x z = true) (hr : Go p e below Φ (T.setTop (mkF m q Ls st))) : Go p e below Φ (T.setTop (mkF m pc Ls (.int z :: .int x :: st))) := by
  exact hr.pre fun t r => Jvm.Free.XS.icmpYes w.here w.hx rfl rfl (w.b hd) rfl hc ho hq r
theorem g_icN (w : Wk p l e R s m args below meth c Z a0 EL pr y bs ml rt T vm0 h k n) {cd : ClassFile.Cond} {x z : Int32} {o : Int} (hd : decode bs pc = .ok (.if_icmp cd o, 3)) (hq : pc + 3 = q) (hc : if_icmp.holds cd x z = false) (hr : Go p e below Φ (T.setTop (mkF m q Ls st))) : Go p e below Φ (T.setTop (mkF m pc Ls (.int z :: .int x :: st))) := by
  subst hq; exact hr.pre fun t r => Jvm.Free.XS.icmpNo w.here w.hx rfl (w.b hd) rfl hc r
theorem g_acY (w : Wk p l e R s m args below meth c Z a0 EL pr y bs ml rt T vm0 h k n) {cd : ClassFile.ACond} {x z : Value} {o : Int} (hd : decode bs pc = .ok (.if_acmp cd o, 3)) (ho : 0 ≤ (pc : Int) + o) (hq : ((pc : Int) + o).toNat = q) (h1 : x.isRef = true) (h2 : z.isRef = true) (hc : Jvm.Free.XT.acmp cd x z = true) (hr : Go p e below Φ (T.setTop (mkF m q Ls st))) : Go p e below Φ (T.setTop (mkF m pc Ls (z :: x :: st))) := by
  exact hr.pre fun t r => Jvm.Free.XT.acmpYes w.here w.hx rfl rfl (w.b hd) rfl h1 h2 hc ho hq r
theorem g_acN (w : Wk p l e R s m args below meth c Z a0 EL pr y bs ml rt T vm0 h k n) {cd : ClassFile.ACond} {x z : Value} {o : Int} (hd : decode bs pc = .ok (.if_acmp cd o, 3)) (hq : pc + 3 = q) (h1 : x.isRef = true) (h2 : z.isRef = true) (hc : Jvm.Free.XT.acmp cd x z = false) (hr : Go p e below Φ (T.setTop (mkF m q Ls st))) : Go p e below Φ (T.setTop (mkF m pc Ls (z :: x :: st))) := by
  subst hq; exact hr.pre fun t r => Jvm.Free.XT.acmpNo w.here w.hx rfl (w.b hd) rfl h1 h2 hc r
theorem g_nullY (w : Wk p l e R s m args below meth c Z a0 EL pr y bs ml rt T vm0 h k n) {o : Int} (hd : decode bs pc = .ok (.ifnull o, 3)) (ho : 0 ≤ (pc : Int) + o) (hq : ((pc : Int) + o).toNat = q) (hr : Go p e below Φ (T.setTop (mkF m q Ls st))) : Go p e below Φ (T.setTop (mkF m pc Ls (.null :: st))) := by
  exact hr.pre fun t r => Jvm.Free.XS.ifnullYes w.here w.hx rfl rfl (w.b hd) rfl ho hq r
theorem g_nullN (w : Wk p l e R s m args below meth c Z a0 EL pr y bs ml rt T vm0 h k n) {o : Int} {b : Addr} (hd : decode bs pc = .ok (.ifnull o, 3)) (hq : pc + 3 = q) (hr : Go p e below Φ (T.setTop (mkF m q Ls st))) : Go p e below Φ (T.setTop (mkF m pc Ls (.ref b :: st))) := by
  subst hq; exact hr.pre fun t r => Jvm.Free.XS.ifnullNo w.here w.hx rfl (w.b hd) rfl r
theorem g_nonnullY (w : Wk p l e R s m args below meth c Z a0 EL pr y bs ml rt T vm0 h k n) {o : Int} {b : Addr} (hd : decode bs pc = .ok (.ifnonnull o, 3)) (ho : 0 ≤ (pc : Int) + o) (hq : ((pc : Int) + o).toNat = q) (hr : Go p e below Φ (T.setTop (mkF m q Ls st))) : Go p e below Φ (T.setTop (mkF m pc Ls (.ref b :: st))) := by
  exact hr.pre fun t r => Jvm.Free.XT.ifnonnullYes w.here w.hx rfl rfl (w.b hd) rfl ho hq r
theorem g_nonnullN (w : Wk p l e R s m args below meth c Z a0 EL pr y bs ml rt T vm0 h k n) {o : Int} (hd : decode bs pc = .ok (.ifnonnull o, 3)) (hq : pc + 3 = q) (hr : Go p e below Φ (T.setTop (mkF m q Ls st))) : Go p e below Φ (T.setTop (mkF m pc Ls (.null :: st))) := by
  subst hq; exact hr.pre fun t r => Jvm.Free.XT.ifnonnullNo w.here w.hx rfl (w.b hd) rfl r
theorem g_if_eq (w : Wk p l e R s m args below meth c Z a0 EL pr y bs ml rt T vm0 h k n) {x : Int32} {o : Int} {q' : Nat} (hd : decode bs pc = .ok (.ifCond .eq o, 3)) (ho : 0 ≤ (pc : Int) + o) (hq : ((pc : Int) + o).toNat = q) (hq' : pc + 3 = q') (hY : x = 0 → Go p e below Φ (T.setTop (mkF m q Ls st))) (hN : ¬ x = 0 → Go p e below Φ (T.setTop (mkF m q' Ls st))) : Go p e below Φ (T.setTop (mkF m pc Ls (.int x :: st))) := by
  by_cases hc : x = 0
  · exact g_ifY w hd ho hq (Jvm.Free.XT.i0_eq_t hc) (hY hc)
  · exact g_ifN w hd hq' (Jvm.Free.XT.i0_eq_f hc) (hN hc)
theorem g_ic_eq (w : Wk p l e R s m args below meth c Z a0 EL pr y bs ml rt T vm0 h k n) {x z : Int32} {o : Int} {q' : Nat} (hd : decode bs pc = .ok (.if_icmp .eq o, 3)) (ho : 0 ≤ (pc : Int) + o) (hq : ((pc : Int) + o).toNat = q) (hq' : pc + 3 = q') (hY : x = z → Go p e below Φ (T.setTop (mkF m q Ls st))) (hN : ¬ x = z → Go p e below Φ (T.setTop (mkF m q' Ls st))) : Go p e below Φ (T.setTop (mkF m pc Ls (.int z :: .int x :: st))) := by
  by_cases hc : x = z
  · exact g_icY w hd ho hq (Jvm.Free.XT.ii_eq_t hc) (hY hc)
  · exact g_icN w hd hq' (Jvm.Free.XT.ii_eq_f hc) (hN hc)
theorem g_lc_eq (w : Wk p l e R s m args below meth c Z a0 EL pr y bs ml rt T vm0 h k n) {x z : Int64} {o : Int} {q' : Nat} (hd : decode bs pc = .ok (.ifCond .eq o, 3)) (ho : 0 ≤ (pc : Int) + o) (hq : ((pc : Int) + o).toNat = q) (hq' : pc + 3 = q') (hY : x = z → Go p e below Φ (T.setTop (mkF m q Ls st))) (hN : ¬ x = z → Go p e below Φ (T.setTop (mkF m q' Ls st))) : Go p e below Φ (T.setTop (mkF m pc Ls (.int (Jvm.Free.XT.cmpL x z) :: st))) := by
  by_cases hc : x = z
  · exact g_ifY w hd ho hq (Jvm.Free.XT.ll_eq_t hc) (hY hc)
  · exact g_ifN w hd hq' (Jvm.Free.XT.ll_eq_f hc) (hN hc)
theorem g_if_ne (w : Wk p l e R s m args below meth c Z a0 EL pr y bs ml rt T vm0 h k n) {x : Int32} {o : Int} {q' : Nat} (hd : decode bs pc = .ok (.ifCond .ne o, 3)) (ho : 0 ≤ (pc : Int) + o) (hq : ((pc : Int) + o).toNat = q) (hq' : pc + 3 = q') (hY : ¬ x = 0 → Go p e below Φ (T.setTop (mkF m q Ls st))) (hN : x = 0 → Go p e below Φ (T.setTop (mkF m q' Ls st))) : Go p e below Φ (T.setTop (mkF m pc Ls (.int x :: st))) := by
  by_cases hc : ¬ x = 0
  · exact g_ifY w hd ho hq (Jvm.Free.XT.i0_ne_t hc) (hY hc)
  · exact g_ifN w hd hq' (Jvm.Free.XT.i0_ne_f (Classical.not_not.mp hc)) (hN (Classical.not_not.mp hc))
theorem g_ic_ne (w : Wk p l e R s m args below meth c Z a0 EL pr y bs ml rt T vm0 h k n) {x z : Int32} {o : Int} {q' : Nat} (hd : decode bs pc = .ok (.if_icmp .ne o, 3)) (ho : 0 ≤ (pc : Int) + o) (hq : ((pc : Int) + o).toNat = q) (hq' : pc + 3 = q') (hY : ¬ x = z → Go p e below Φ (T.setTop (mkF m q Ls st))) (hN : x = z → Go p e below Φ (T.setTop (mkF m q' Ls st))) : Go p e below Φ (T.setTop (mkF m pc Ls (.int z :: .int x :: st))) := by
  by_cases hc : ¬ x = z
  · exact g_icY w hd ho hq (Jvm.Free.XT.ii_ne_t hc) (hY hc)
  · exact g_icN w hd hq' (Jvm.Free.XT.ii_ne_f (Classical.not_not.mp hc)) (hN (Classical.not_not.mp hc))
theorem g_lc_ne (w : Wk p l e R s m args below meth c Z a0 EL pr y bs ml rt T vm0 h k n) {x z : Int64} {o : Int} {q' : Nat} (hd : decode bs pc = .ok (.ifCond .ne o, 3)) (ho : 0 ≤ (pc : Int) + o) (hq : ((pc : Int) + o).toNat = q) (hq' : pc + 3 = q') (hY : ¬ x = z → Go p e below Φ (T.setTop (mkF m q Ls st))) (hN : x = z → Go p e below Φ (T.setTop (mkF m q' Ls st))) : Go p e below Φ (T.setTop (mkF m pc Ls (.int (Jvm.Free.XT.cmpL x z) :: st))) := by
  by_cases hc : ¬ x = z
  · exact g_ifY w hd ho hq (Jvm.Free.XT.ll_ne_t hc) (hY hc)
  · exact g_ifN w hd hq' (Jvm.Free.XT.ll_ne_f (Classical.not_not.mp hc)) (hN (Classical.not_not.mp hc))
theorem g_if_lt (w : Wk p l e R s m args below meth c Z a0 EL pr y bs ml rt T vm0 h k n) {x : Int32} {o : Int} {q' : Nat} (hd : decode bs pc = .ok (.ifCond .lt o, 3)) (ho : 0 ≤ (pc : Int) + o) (hq : ((pc : Int) + o).toNat = q) (hq' : pc + 3 = q') (hY : x < 0 → Go p e below Φ (T.setTop (mkF m q Ls st))) (hN : ¬ x < 0 → Go p e below Φ (T.setTop (mkF m q' Ls st))) : Go p e below Φ (T.setTop (mkF m pc Ls (.int x :: st))) := by
  by_cases hc : x < 0
  · exact g_ifY w hd ho hq (Jvm.Free.XT.i0_lt_t hc) (hY hc)
  · exact g_ifN w hd hq' (Jvm.Free.XT.i0_lt_f hc) (hN hc)
theorem g_ic_lt (w : Wk p l e R s m args below meth c Z a0 EL pr y bs ml rt T vm0 h k n) {x z : Int32} {o : Int} {q' : Nat} (hd : decode bs pc = .ok (.if_icmp .lt o, 3)) (ho : 0 ≤ (pc : Int) + o) (hq : ((pc : Int) + o).toNat = q) (hq' : pc + 3 = q') (hY : x < z → Go p e below Φ (T.setTop (mkF m q Ls st))) (hN : ¬ x < z → Go p e below Φ (T.setTop (mkF m q' Ls st))) : Go p e below Φ (T.setTop (mkF m pc Ls (.int z :: .int x :: st))) := by
  by_cases hc : x < z
  · exact g_icY w hd ho hq (Jvm.Free.XT.ii_lt_t hc) (hY hc)
  · exact g_icN w hd hq' (Jvm.Free.XT.ii_lt_f hc) (hN hc)
theorem g_lc_lt (w : Wk p l e R s m args below meth c Z a0 EL pr y bs ml rt T vm0 h k n) {x z : Int64} {o : Int} {q' : Nat} (hd : decode bs pc = .ok (.ifCond .lt o, 3)) (ho : 0 ≤ (pc : Int) + o) (hq : ((pc : Int) + o).toNat = q) (hq' : pc + 3 = q') (hY : x < z → Go p e below Φ (T.setTop (mkF m q Ls st))) (hN : ¬ x < z → Go p e below Φ (T.setTop (mkF m q' Ls st))) : Go p e below Φ (T.setTop (mkF m pc Ls (.int (Jvm.Free.XT.cmpL x z) :: st))) := by
  by_cases hc : x < z
  · exact g_ifY w hd ho hq (Jvm.Free.XT.ll_lt_t hc) (hY hc)
  · exact g_ifN w hd hq' (Jvm.Free.XT.ll_lt_f hc) (hN hc)
theorem g_if_ge (w : Wk p l e R s m args below meth c Z a0 EL pr y bs ml rt T vm0 h k n) {x : Int32} {o : Int} {q' : Nat} (hd : decode bs pc = .ok (.ifCond .ge o, 3)) (ho : 0 ≤ (pc : Int) + o) (hq : ((pc : Int) + o).toNat = q) (hq' : pc + 3 = q') (hY : ¬ x < 0 → Go p e below Φ (T.setTop (mkF m q Ls st))) (hN : x < 0 → Go p e below Φ (T.setTop (mkF m q' Ls st))) : Go p e below Φ (T.setTop (mkF m pc Ls (.int x :: st))) := by
  by_cases hc : ¬ x < 0
  · exact g_ifY w hd ho hq (Jvm.Free.XT.i0_ge_t hc) (hY hc)
  · exact g_ifN w hd hq' (Jvm.Free.XT.i0_ge_f (Classical.not_not.mp hc)) (hN (Classical.not_not.mp hc))
theorem g_ic_ge (w : Wk p l e R s m args below meth c Z a0 EL pr y bs ml rt T vm0 h k n) {x z : Int32} {o : Int} {q' : Nat} (hd : decode bs pc = .ok (.if_icmp .ge o, 3)) (ho : 0 ≤ (pc : Int) + o) (hq : ((pc : Int) + o).toNat = q) (hq' : pc + 3 = q') (hY : ¬ x < z → Go p e below Φ (T.setTop (mkF m q Ls st))) (hN : x < z → Go p e below Φ (T.setTop (mkF m q' Ls st))) : Go p e below Φ (T.setTop (mkF m pc Ls (.int z :: .int x :: st))) := by
  by_cases hc : ¬ x < z
  · exact g_icY w hd ho hq (Jvm.Free.XT.ii_ge_t hc) (hY hc)
  · exact g_icN w hd hq' (Jvm.Free.XT.ii_ge_f (Classical.not_not.mp hc)) (hN (Classical.not_not.mp hc))
theorem g_lc_ge (w : Wk p l e R s m args below meth c Z a0 EL pr y bs ml rt T vm0 h k n) {x z : Int64} {o : Int} {q' : Nat} (hd : decode bs pc = .ok (.ifCond .ge o, 3)) (ho : 0 ≤ (pc : Int) + o) (hq : ((pc : Int) + o).toNat = q) (hq' : pc + 3 = q') (hY : ¬ x < z → Go p e below Φ (T.setTop (mkF m q Ls st))) (hN : x < z → Go p e below Φ (T.setTop (mkF m q' Ls st))) : Go p e below Φ (T.setTop (mkF m pc Ls (.int (Jvm.Free.XT.cmpL x z) :: st))) := by
  by_cases hc : ¬ x < z
  · exact g_ifY w hd ho hq (Jvm.Free.XT.ll_ge_t hc) (hY hc)
  · exact g_ifN w hd hq' (Jvm.Free.XT.ll_ge_f (Classical.not_not.mp hc)) (hN (Classical.not_not.mp hc))
theorem g_if_gt (w : Wk p l e R s m args below meth c Z a0 EL pr y bs ml rt T vm0 h k n) {x : Int32} {o : Int} {q' : Nat} (hd : decode bs pc = .ok (.ifCond .gt o, 3)) (ho : 0 ≤ (pc : Int) + o) (hq : ((pc : Int) + o).toNat = q) (hq' : pc + 3 = q') (hY : 0 < x → Go p e below Φ (T.setTop (mkF m q Ls st))) (hN : ¬ 0 < x → Go p e below Φ (T.setTop (mkF m q' Ls st))) : Go p e below Φ (T.setTop (mkF m pc Ls (.int x :: st))) := by
  by_cases hc : 0 < x
  · exact g_ifY w hd ho hq (Jvm.Free.XT.i0_gt_t hc) (hY hc)
  · exact g_ifN w hd hq' (Jvm.Free.XT.i0_gt_f hc) (hN hc)
theorem g_ic_gt (w : Wk p l e R s m args below meth c Z a0 EL pr y bs ml rt T vm0 h k n) {x z : Int32} {o : Int} {q' : Nat} (hd : decode bs pc = .ok (.if_icmp .gt o, 3)) (ho : 0 ≤ (pc : Int) + o) (hq : ((pc : Int) + o).toNat = q) (hq' : pc + 3 = q') (hY : z < x → Go p e below Φ (T.setTop (mkF m q Ls st))) (hN : ¬ z < x → Go p e below Φ (T.setTop (mkF m q' Ls st))) : Go p e below Φ (T.setTop (mkF m pc Ls (.int z :: .int x :: st))) := by
  by_cases hc : z < x
  · exact g_icY w hd ho hq (Jvm.Free.XT.ii_gt_t hc) (hY hc)
  · exact g_icN w hd hq' (Jvm.Free.XT.ii_gt_f hc) (hN hc)
theorem g_lc_gt (w : Wk p l e R s m args below meth c Z a0 EL pr y bs ml rt T vm0 h k n) {x z : Int64} {o : Int} {q' : Nat} (hd : decode bs pc = .ok (.ifCond .gt o, 3)) (ho : 0 ≤ (pc : Int) + o) (hq : ((pc : Int) + o).toNat = q) (hq' : pc + 3 = q') (hY : z < x → Go p e below Φ (T.setTop (mkF m q Ls st))) (hN : ¬ z < x → Go p e below Φ (T.setTop (mkF m q' Ls st))) : Go p e below Φ (T.setTop (mkF m pc Ls (.int (Jvm.Free.XT.cmpL x z) :: st))) := by
  by_cases hc : z < x
  · exact g_ifY w hd ho hq (Jvm.Free.XT.ll_gt_t hc) (hY hc)
  · exact g_ifN w hd hq' (Jvm.Free.XT.ll_gt_f hc) (hN hc)
theorem g_if_le (w : Wk p l e R s m args below meth c Z a0 EL pr y bs ml rt T vm0 h k n) {x : Int32} {o : Int} {q' : Nat} (hd : decode bs pc = .ok (.ifCond .le o, 3)) (ho : 0 ≤ (pc : Int) + o) (hq : ((pc : Int) + o).toNat = q) (hq' : pc + 3 = q') (hY : ¬ 0 < x → Go p e below Φ (T.setTop (mkF m q Ls st))) (hN : 0 < x → Go p e below Φ (T.setTop (mkF m q' Ls st))) : Go p e below Φ (T.setTop (mkF m pc Ls (.int x :: st))) := by
  by_cases hc : ¬ 0 < x
  · exact g_ifY w hd ho hq (Jvm.Free.XT.i0_le_t hc) (hY hc)
  · exact g_ifN w hd hq' (Jvm.Free.XT.i0_le_f (Classical.not_not.mp hc)) (hN (Classical.not_not.mp hc))
theorem g_ic_le (w : Wk p l e R s m args below meth c Z a0 EL pr y bs ml rt T vm0 h k n) {x z : Int32} {o : Int} {q' : Nat} (hd : decode bs pc = .ok (.if_icmp .le o, 3)) (ho : 0 ≤ (pc : Int) + o) (hq : ((pc : Int) + o).toNat = q) (hq' : pc + 3 = q') (hY : ¬ z < x → Go p e below Φ (T.setTop (mkF m q Ls st))) (hN : z < x → Go p e below Φ (T.setTop (mkF m q' Ls st))) : Go p e below Φ (T.setTop (mkF m pc Ls (.int z :: .int x :: st))) := by
  by_cases hc : ¬ z < x
  · exact g_icY w hd ho hq (Jvm.Free.XT.ii_le_t hc) (hY hc)
  · exact g_icN w hd hq' (Jvm.Free.XT.ii_le_f (Classical.not_not.mp hc)) (hN (Classical.not_not.mp hc))
theorem g_lc_le (w : Wk p l e R s m args below meth c Z a0 EL pr y bs ml rt T vm0 h k n) {x z : Int64} {o : Int} {q' : Nat} (hd : decode bs pc = .ok (.ifCond .le o, 3)) (ho : 0 ≤ (pc : Int) + o) (hq : ((pc : Int) + o).toNat = q) (hq' : pc + 3 = q') (hY : ¬ z < x → Go p e below Φ (T.setTop (mkF m q Ls st))) (hN : z < x → Go p e below Φ (T.setTop (mkF m q' Ls st))) : Go p e below Φ (T.setTop (mkF m pc Ls (.int (Jvm.Free.XT.cmpL x z) :: st))) := by
  by_cases hc : ¬ z < x
  · exact g_ifY w hd ho hq (Jvm.Free.XT.ll_le_t hc) (hY hc)
  · exact g_ifN w hd hq' (Jvm.Free.XT.ll_le_f (Classical.not_not.mp hc)) (hN (Classical.not_not.mp hc))
theorem g_ar_eq (w : Wk p l e R s m args below meth c Z a0 EL pr y bs ml rt T vm0 h k n) {a b : Addr} {o : Int} {q' : Nat} (hd : decode bs pc = .ok (.if_acmp .eq o, 3)) (ho : 0 ≤ (pc : Int) + o) (hq : ((pc : Int) + o).toNat = q) (hq' : pc + 3 = q') (hY : a = b → Go p e below Φ (T.setTop (mkF m q Ls st))) (hN : ¬ a = b → Go p e below Φ (T.setTop (mkF m q' Ls st))) : Go p e below Φ (T.setTop (mkF m pc Ls (.ref b :: .ref a :: st))) := by
  by_cases hc : a = b
  · exact g_acY w hd ho hq rfl rfl (Jvm.Free.XT.aa_eq_t (congrArg Value.ref hc)) (hY hc)
  · exact g_acN w hd hq' rfl rfl (Jvm.Free.XT.aa_eq_f fun z => hc (Value.ref.inj z)) (hN hc)
theorem g_ar_ne (w : Wk p l e R s m args below meth c Z a0 EL pr y bs ml rt T vm0 h k n) {a b : Addr} {o : Int} {q' : Nat} (hd : decode bs pc = .ok (.if_acmp .ne o, 3)) (ho : 0 ≤ (pc : Int) + o) (hq : ((pc : Int) + o).toNat = q) (hq' : pc + 3 = q') (hY : ¬ a = b → Go p e below Φ (T.setTop (mkF m q Ls st))) (hN : a = b → Go p e below Φ (T.setTop (mkF m q' Ls st))) : Go p e below Φ (T.setTop (mkF m pc Ls (.ref b :: .ref a :: st))) := by
  by_cases hc : a = b
  · exact g_acN w hd hq' rfl rfl (Jvm.Free.XT.aa_ne_f (congrArg Value.ref hc)) (hN hc)
  · exact g_acY w hd ho hq rfl rfl (Jvm.Free.XT.aa_ne_t fun z => hc (Value.ref.inj z)) (hY hc)
theorem g_ldcI (w : Wk p l e R s m args below meth c Z a0 EL pr y bs ml rt T vm0 h k n) {i : Nat} {v : Int32} (hd : decode bs pc = .ok (.ldc i, 2)) (hq : pc + 2 = q) (wc : (Cond.constant y.cls i v).before a0 Z = true) (hr : Go p e below Φ (T.setTop (mkF m q Ls (.int v :: st)))) : Go p e below Φ (T.setTop (mkF m pc Ls st)) := by
  subst hq; obtain ⟨⟨hx, hb1, hml, hrt, hlk, hnm, hEL⟩, k0, locs, X, hh, hZ, hown, hS, hk0, N, C, O, hpr⟩ := w
  exact hr.pre fun t r => X.ldcI hx hown (mvT (s := s.setVm vm0) hZ wc) rfl (hb hb1 hd) r
theorem g_ldcWI (w : Wk p l e R s m args below meth c Z a0 EL pr y bs ml rt T vm0 h k n) {i : Nat} {v : Int32} (hd : decode bs pc = .ok (.ldc_w i, 3)) (hq : pc + 3 = q) (wc : (Cond.constant y.cls i v).before a0 Z = true) (hr : Go p e below Φ (T.setTop (mkF m q Ls (.int v :: st)))) : Go p e below Φ (T.setTop (mkF m pc Ls st)) := by
  subst hq; obtain ⟨⟨hx, hb1, hml, hrt, hlk, hnm, hEL⟩, k0, locs, X, hh, hZ, hown, hS, hk0, N, C, O, hpr⟩ := w
  exact hr.pre fun t r => X.ldcWI hx hown (mvT (s := s.setVm vm0) hZ wc) rfl (hb hb1 hd) r
theorem g_ldc2J (w : Wk p l e R s m args below meth c Z a0 EL pr y bs ml rt T vm0 h k n) {i : Nat} {v : Int64} (hd : decode bs pc = .ok (.ldc2_w i, 3)) (hq : pc + 3 = q) (wc : (Cond.constantLong y.cls i v).before a0 Z = true) (hr : Go p e below Φ (T.setTop (mkF m q Ls (.long v :: st)))) : Go p e below Φ (T.setTop (mkF m pc Ls st)) := by
  subst hq; obtain ⟨⟨hx, hb1, hml, hrt, hlk, hnm, hEL⟩, k0, locs, X, hh, hZ, hown, hS, hk0, N, C, O, hpr⟩ := w
  exact hr.pre fun t r => X.ldc2J hx hown (mvT (s := s.setVm vm0) hZ wc) rfl (hb hb1 hd) r
theorem ext_refl (h : Heap) : Ext h h := ⟨Nat.le_refl _, fun _ _ q => q⟩
theorem ext_trans {h1 h2 h3 : Heap} (E : Ext h1 h2) (F : Ext h2 h3) : Ext h1 h3 := ⟨Nat.le_trans E.1 F.1, fun a c q => F.2 _ _ (E.2 _ _ q)⟩
theorem ext_keep {h1 h2 h3 : Heap} {a : Addr} (E : Ext h1 h2) (K : Keep h2 h3 [a]) (ha : h1.size ≤ a) : Ext h1 h3 := ⟨Nat.le_trans E.1 K.1, fun x c q => K.2.1 x c (E.2 _ _ q) fun hm => by
  have := (Array.getElem?_eq_some_iff.mp q).1
  cases List.mem_singleton.mp hm
  omega⟩
theorem ext_wr {h1 h2 h3 : Heap} {a : Addr} {sl : Nat} {v : Value} (E : Ext h1 h2) (W : Wr h2 h3 a sl v) (ha : h1.size ≤ a) : Ext h1 h3 := ext_keep E (Keep.of_wr W) ha
theorem Wk.sta (w : Wk p l e R s m args below meth c Z a0 EL pr y bs ml rt T vm0 h k n) {C nm d : String} {v : Value} (S : Sta Z Z.heap C nm d v) : Sta Z h C nm d v := S.ext w.old
/-- getfield -/
theorem g_getF (w : Wk p l e R s m args below meth c Z a0 EL pr y bs ml rt T vm0 h k n) {i : Nat} {R0 O' nm d host : String} {a : Addr} {v : Value} (hd : decode bs pc = .ok (.getfield i, 3)) (hq : pc + 3 = q) (wl : (Cond.fieldLink y.cls i R0 nm d).before a0 Z = true ∨ (Cond.fieldLinkNest y.cls i R0 nm d host).before a0 Z = true) (via : Via Z R0 O' nm d) (F : Fld Z h a O' nm d v)
    (K : ∀ T', Wk p l e R s m args below meth c Z a0 EL pr y bs ml rt T' vm0 h k n → Go p e below Φ (T'.setTop (mkF m q Ls (v :: st)))) : Go p e below Φ (T.setTop (mkF m pc Ls (.ref a :: st))) := by
  subst hq; obtain ⟨⟨hx, hb1, hml, hrt, hlk, hnm, hEL⟩, k0, locs, X, hh, hZ, hown, hS, hk0, N, C, O, hpr⟩ := w
  obtain ⟨T', X', e', g'⟩ := getF X hx hZ hown wl via hh F (g := mkF m pc Ls (.ref a :: st)) rfl rfl (hb hb1 hd)
  exact (K T' ⟨⟨hx, hb1, hml, hrt, hlk, hnm, hEL⟩, k0, locs, X', e', hZ, hown, hS, hk0, N, C, O, hpr⟩).pre g'
/-- getstatic -/
theorem g_getS (w : Wk p l e R s m args below meth c Z a0 EL pr y bs ml rt T vm0 h k n) {i : Nat} {R0 O' nm d : String} {v : Value} (hd : decode bs pc = .ok (.getstatic i, 3)) (hq : pc + 3 = q) (wl : (Cond.fieldLink y.cls i R0 nm d).before a0 Z = true) (via : Via Z R0 O' nm d) (F : Sta Z Z.heap O' nm d v)
    (K : ∀ T', Wk p l e R s m args below meth c Z a0 EL pr y bs ml rt T' vm0 h k n → Go p e below Φ (T'.setTop (mkF m q Ls (v :: st)))) : Go p e below Φ (T.setTop (mkF m pc Ls st)) := by
  subst hq; have F' := w.sta F; obtain ⟨⟨hx, hb1, hml, hrt, hlk, hnm, hEL⟩, k0, locs, X, hh, hZ, hown, hS, hk0, N, C, O, hpr⟩ := w
  obtain ⟨T', X', e', g'⟩ := getS (host := "") X hx hZ hown wl via hh F' (g := mkF m pc Ls st) rfl (hb hb1 hd)
  exact (K T' ⟨⟨hx, hb1, hml, hrt, hlk, hnm, hEL⟩, k0, locs, X', e', hZ, hown, hS, hk0, N, C, O, hpr⟩).pre g'
/-- putfield of an object that is new -/
theorem g_putF (w : Wk p l e R s m args below meth c Z a0 EL pr y bs ml rt T vm0 h k n) {i kk : Nat} {R0 O' nm d C' : String} {a : Addr} {v v' old : Value} {ty : FieldType} (hd : decode bs pc = .ok (.putfield i, 3)) (hq : pc + 3 = q) (wl : (Cond.fieldLink y.cls i R0 nm d).before a0 Z = true) (via : Via Z R0 O' nm d) (F : Fld Z h a O' nm d old) (E : Exa Z h a C')
    (L : (Cond.lays C' O' nm d).before a0 Z = true ∨ ((Cond.laysFinal C' O' nm d).before a0 Z = true ∧ y.cls = O' ∧ y.name = "<init>")) (wi : (Cond.instantiable C' kk).before a0 Z = true) (hty : parseFieldDescriptor d = some ty) (hn : narrow ty v = v') (hf : fits ty v' = true) (ga : Z.heap.size ≤ a) (S : Safe Z EL vm0 h a)
    (K : ∀ T' h', Wk p l e R s m args below meth c Z a0 EL pr y bs ml rt T' vm0 h' k n → Wr h h' a (Jvm.RoadKit.slotOf Z O' nm d) v' → Go p e below Φ (T'.setTop (mkF m q Ls st))) : Go p e below Φ (T.setTop (mkF m pc Ls (v :: .ref a :: st))) := by
  subst hq; obtain ⟨⟨hx, hb1, hml, hrt, hlk, hnm, hEL⟩, k0, locs, X, hh, hZ, hown, hS, hk0, N, C, O, hpr⟩ := w
  obtain ⟨T', h', X', e', W, g'⟩ := putFN X hx hZ hown wl via hh F E (L.imp id fun q => ⟨q.1, q.2.1, hnm.trans q.2.2⟩) wi hty hn hf (g := mkF m pc Ls (v :: .ref a :: st)) rfl rfl (hb hb1 hd)
  exact (K T' h' ⟨⟨hx, hb1, hml, hrt, hlk, hnm, hEL⟩, k0, _, X', e', hZ, hown, hS, by rw [W.size]; exact hk0, N.snoc X' ga, C.trans (CHr.wr W S C.1), ext_wr O W ga, hpr⟩ W).pre g'
/-- new -/
theorem g_new (w : Wk p l e R s m args below meth c Z a0 EL pr y bs ml rt T vm0 h k n) {i nn : Nat} {C' : String} (hd : decode bs pc = .ok (.new i, 3)) (hq : pc + 3 = q) (w1 : (Cond.classLink y.cls i C').before a0 Z = true) (w2 : (Cond.instantiable C' nn).before a0 Z = true) (w3 : (Cond.initialized C').before a0 Z = true) (hc : k + 1 ≤ R.cells) (hl : n + nn ≤ R.slots)
    (K : ∀ T' h' a, Wk p l e R s m args below meth c Z a0 EL pr y bs ml rt T' vm0 h' (k + 1) (n + nn) → Ext h h' → h.size ≤ a → Z.heap.size ≤ a → Exa Z h' a C' → (∀ {O' nm d : String} {ty : FieldType}, Laid Z a0 C' O' nm d → parseFieldDescriptor d = some ty → Fld Z h' a O' nm d (defaultValue ty)) → Safe Z EL vm0 h' a → Go p e below Φ (T'.setTop (mkF m q Ls (.ref a :: st)))) : Go p e below Φ (T.setTop (mkF m pc Ls st)) := by
  subst hq; obtain ⟨⟨hx, hb1, hml, hrt, hlk, hnm, hEL⟩, k0, locs, X, hh, hZ, hown, hS, hk0, N, C, O, hpr⟩ := w
  obtain ⟨T', h', X', e', E, A, D, -, g'⟩ := newO X hx hZ hown w1 w2 w3 hh (g := mkF m pc Ls st) rfl (hb hb1 hd) hc hl
  exact (K T' h' h.size ⟨⟨hx, hb1, hml, hrt, hlk, hnm, hEL⟩, k0, locs, X', e', hZ, hown, hS, Nat.le_trans hk0 E.1, N, C.trans (CHr.ext E C.1), ext_trans O E, hpr⟩ E (Nat.le_refl _) O.1 A D (Safe.ext E C.1 (Safe.new (Nat.le_refl _)))).pre g'
/-- an array, its components known -/
def Ar (Z : State) (h : Heap) (a : Addr) (ty : FieldType) (vs : List Value) : Prop := vs.length < 2147483648 ∧ ∃ kC d, Arv Z h a kC ty (Int32.ofNat vs.length) vs d
theorem ofNat_clamp {n : Nat} (h : n < 2147483648) : (Int32.ofNat n).toNatClampNeg = n := by
  have : (Int32.ofNat n).toInt = n := Int32.toInt_ofNat_of_lt (by omega)
  simp only [Int32.toNatClampNeg, this]; rfl
theorem ofNat_nonneg {n : Nat} (h : n < 2147483648) : ¬ Int32.ofNat n < 0 := by
  have : (Int32.ofNat n).toInt = n := Int32.toInt_ofNat_of_lt (by omega)
  rw [Int32.lt_iff_toInt_lt, this, show (0 : Int32).toInt = 0 from rfl]; omega
theorem Ar.lt {a : Addr} {ty : FieldType} {vs : List Value} (F : Ar Z h a ty vs) : a < h.size := by obtain ⟨-, _, _, F⟩ := F; exact F.lt
theorem Ar.ext {h' : Heap} {a : Addr} {ty : FieldType} {vs : List Value} (F : Ar Z h a ty vs) (E : Ext h h') : Ar Z h' a ty vs := by obtain ⟨q, _, _, F⟩ := F; exact ⟨q, _, _, F.ext E⟩
theorem Ar.keep {h' : Heap} {a : Addr} {ty : FieldType} {vs : List Value} {ws : List Addr} (F : Ar Z h a ty vs) (K : Keep h h' ws) (q : a ∉ ws) : Ar Z h' a ty vs := by obtain ⟨q', _, _, F⟩ := F; exact ⟨q', _, _, F.keep K q⟩
theorem Ar.other {h' : Heap} {a b : Addr} {ty : FieldType} {vs : List Value} {sl : Nat} {v : Value} (F : Ar Z h b ty vs) (W : Wr h h' a sl v) (q : b ≠ a) : Ar Z h' b ty vs := by obtain ⟨q', _, _, F⟩ := F; exact ⟨q', _, _, F.other W q⟩
theorem Ar.arv {a : Addr} {ty : FieldType} {vs : List Value} (F : Ar Z h a ty vs) (d' : Value) : ∃ kC, Arv Z h a kC ty (Int32.ofNat vs.length) vs d' := by
  obtain ⟨q, kC, d, c, A, r1, r2, r3, H, G⟩ := F
  have e : ∀ i, i < c.slots.size → vs.getD i d' = vs.getD i d := fun i hi => by
    rw [r2, ofNat_clamp q] at hi; simp [List.getD_eq_getElem?_getD, hi]
  exact ⟨kC, c, A, r1, r2, r3, fun i hi => by rw [e i hi]; exact H i hi, fun i hi => by rw [e i hi]; exact G i hi⟩
/-- newarray -/
theorem g_newarr (w : Wk p l e R s m args below meth c Z a0 EL pr y bs ml rt T vm0 h k n) {aty : ArrayType} {z : Int32} {len cap : Nat} (hd : decode bs pc = .ok (.newarray aty, 2)) (hq : pc + 2 = q) (w1 : (Cond.arrayClass (newarray.typeOf aty)).before a0 Z = true) (hz : z = Int32.ofNat len) (hl : len ≤ cap) (hcap : cap * 8 ≤ 536870912) (hc : k + 1 ≤ R.cells) (hs : n + cap ≤ R.slots)
    (K : ∀ T' h' a, Wk p l e R s m args below meth c Z a0 EL pr y bs ml rt T' vm0 h' (k + 1) (n + cap) → Ext h h' → h.size ≤ a → Z.heap.size ≤ a → Ar Z h' a (newarray.typeOf aty) (List.replicate len (defaultValue (newarray.typeOf aty))) → Safe Z EL vm0 h' a → Go p e below Φ (T'.setTop (mkF m q Ls (.ref a :: st)))) : Go p e below Φ (T.setTop (mkF m pc Ls (.int z :: st))) := by
  subst hq hz; obtain ⟨⟨hx, hb1, hml, hrt, hlk, hnm, hEL⟩, k0, locs, X, hh, hZ, hown, hS, hk0, N, C, O, hpr⟩ := w
  have hlen : len < 2147483648 := by omega
  obtain ⟨T', h', cA, X', e', E, A, g'⟩ := newP X hx hZ w1 hh (g := mkF m pc Ls (.int (Int32.ofNat len) :: st)) rfl (hb hb1 hd) rfl (ofNat_nonneg hlen) (cap := cap) (by rw [ofNat_clamp hlen]; exact hl) hcap hc hs
  refine (K T' h' h.size ⟨⟨hx, hb1, hml, hrt, hlk, hnm, hEL⟩, k0, locs, X', e', hZ, hown, hS, Nat.le_trans hk0 E.1, N, C.trans (CHr.ext E C.1), ext_trans O E, hpr⟩ E (Nat.le_refl _) O.1 ⟨by simpa using hlen, cA, defaultValue (newarray.typeOf aty), ?_⟩ (Safe.ext E C.1 (Safe.new (Nat.le_refl _)))).pre g'
  have q := (Arv.new A (ofNat_nonneg hlen)).pad (vs' := List.replicate len (defaultValue (newarray.typeOf aty))) (fun i => by simpa using pad_rep [] (defaultValue (newarray.typeOf aty)) len i)
  simpa using q
theorem inb {vs : List Value} {i : Nat} {cl : Cell} (hv : vs.length < 2147483648) (S : cl.slots.size = (Int32.ofNat vs.length).toNatClampNeg) (hi : i < vs.length) : ¬ (Int32.ofNat i < 0 ∨ cl.slots.size ≤ (Int32.ofNat i).toNatClampNeg) := by
  rw [S, ofNat_clamp hv, ofNat_clamp (by omega)]
  intro q
  rcases q with q | q
  · exact ofNat_nonneg (by omega) q
  · omega
/-- castore into a new array -/
theorem g_castore (w : Wk p l e R s m args below meth c Z a0 EL pr y bs ml rt T vm0 h k n) {a : Addr} {vs : List Value} {j x x' : Int32} {i : Nat} (hd : decode bs pc = .ok (.castore, 1)) (hq : pc + 1 = q) (A : Ar Z h a .char vs) (hj : j = Int32.ofNat i) (hi : i < vs.length) (hx' : nar .char x = x') (ga : Z.heap.size ≤ a) (S : Safe Z EL vm0 h a)
    (K : ∀ T' h', Wk p l e R s m args below meth c Z a0 EL pr y bs ml rt T' vm0 h' k n → Wr h h' a i (.int x') → Ar Z h' a .char (vs.set i (.int x')) → Go p e below Φ (T'.setTop (mkF m q Ls st))) : Go p e below Φ (T.setTop (mkF m pc Ls (.int x :: .int j :: .ref a :: st))) := by
  subst hq hj hx'; obtain ⟨⟨hx, hb1, hml, hrt, hlk, hnm, hEL⟩, k0, locs, X, hh, hZ, hown, hS, hk0, N, C, O, hpr⟩ := w
  obtain ⟨hv, kC, dv, cl, B, q1, S1, q3, H1, G1⟩ := A
  obtain ⟨T', h', X', e', W, g'⟩ := stC X hx hZ hh B (j := Int32.ofNat i) (inb hv S1 hi) (g := mkF m pc Ls (.int x :: .int (Int32.ofNat i) :: .ref a :: st)) rfl rfl (hb hb1 hd)
  have V := Arv.set B q1 S1 q3 H1 G1 (fits_nar_char x) W i (ofNat_clamp (by omega)) hi
  rw [ofNat_clamp (by omega)] at W
  exact (K T' h' ⟨⟨hx, hb1, hml, hrt, hlk, hnm, hEL⟩, k0, _, X', e', hZ, hown, hS, by rw [W.size]; exact hk0, N.snoc X' ga, C.trans (CHr.wr W S C.1), ext_wr O W ga, hpr⟩ W ⟨by simpa using hv, kC, dv, by simpa using V⟩).pre g'
/-- bastore into a new byte[] -/
theorem g_bastore (w : Wk p l e R s m args below meth c Z a0 EL pr y bs ml rt T vm0 h k n) {a : Addr} {vs : List Value} {j x x' : Int32} {i : Nat} (hd : decode bs pc = .ok (.bastore, 1)) (hq : pc + 1 = q) (A : Ar Z h a .byte vs) (hj : j = Int32.ofNat i) (hi : i < vs.length) (hx' : nar .byte x = x') (ga : Z.heap.size ≤ a) (S : Safe Z EL vm0 h a)
    (K : ∀ T' h', Wk p l e R s m args below meth c Z a0 EL pr y bs ml rt T' vm0 h' k n → Wr h h' a i (.int x') → Ar Z h' a .byte (vs.set i (.int x')) → Go p e below Φ (T'.setTop (mkF m q Ls st))) : Go p e below Φ (T.setTop (mkF m pc Ls (.int x :: .int j :: .ref a :: st))) := by
  subst hq hj hx'; obtain ⟨⟨hx, hb1, hml, hrt, hlk, hnm, hEL⟩, k0, locs, X, hh, hZ, hown, hS, hk0, N, C, O, hpr⟩ := w
  obtain ⟨hv, kC, dv, cl, B, q1, S1, q3, H1, G1⟩ := A
  obtain ⟨T', h', X', e', W, g'⟩ := stB X hx hZ hh B (j := Int32.ofNat i) (inb hv S1 hi) (g := mkF m pc Ls (.int x :: .int (Int32.ofNat i) :: .ref a :: st)) rfl rfl (hb hb1 hd)
  have V := Arv.set B q1 S1 q3 H1 G1 (fits_nar_byte x) W i (ofNat_clamp (by omega)) hi
  rw [ofNat_clamp (by omega)] at W
  exact (K T' h' ⟨⟨hx, hb1, hml, hrt, hlk, hnm, hEL⟩, k0, _, X', e', hZ, hown, hS, by rw [W.size]; exact hk0, N.snoc X' ga, C.trans (CHr.wr W S C.1), ext_wr O W ga, hpr⟩ W ⟨by simpa using hv, kC, dv, by rw [List.length_set]; exact V⟩).pre g'
theorem g_alen (w : Wk p l e R s m args below meth c Z a0 EL pr y bs ml rt T vm0 h k n) {a : Addr} {ty : FieldType} {vs : List Value} (hd : decode bs pc = .ok (.arraylength, 1)) (hq : pc + 1 = q) (A : Ar Z h a ty vs) (hr : Go p e below Φ (T.setTop (mkF m q Ls (.int (Int32.ofNat vs.length) :: st)))) : Go p e below Φ (T.setTop (mkF m pc Ls (.ref a :: st))) := by
  subst hq; obtain ⟨⟨hx, hb1, hml, hrt, hlk, hnm, hEL⟩, k0, locs, X, hh, hZ, hown, hS, hk0, N, C, O, hpr⟩ := w
  obtain ⟨hv, kC, dv, cl, B, q1, S1, q3, H1, G1⟩ := A
  refine hr.pre fun t r => X.arraylength (g := mkF m pc Ls (.ref a :: st)) hx (by rw [hh]; exact B.1) (State.isArrayOf_alike hZ.alike B.2.1) rfl rfl (hb hb1 hd) t ?_
  rw [len_of S1 q3]; exact r
theorem g_caload (w : Wk p l e R s m args below meth c Z a0 EL pr y bs ml rt T vm0 h k n) {a : Addr} {vs : List Value} {j : Int32} {i : Nat} {v : Value} (hd : decode bs pc = .ok (.caload, 1)) (hq : pc + 1 = q) (A : Ar Z h a .char vs) (hj : j = Int32.ofNat i) (hi : i < vs.length) (hv' : vs[i]? = some v) (hr : Go p e below Φ (T.setTop (mkF m q Ls (v :: st)))) : Go p e below Φ (T.setTop (mkF m pc Ls (.int j :: .ref a :: st))) := by
  subst hq hj; obtain ⟨⟨hx, hb1, hml, hrt, hlk, hnm, hEL⟩, k0, locs, X, hh, hZ, hown, hS, hk0, N, C, O, hpr⟩ := w
  obtain ⟨hv, kC, dv, cl, B, q1, S1, q3, H1, G1⟩ := A
  refine hr.pre fun t r => X.caload (g := mkF m pc Ls (.int (Int32.ofNat i) :: .ref a :: st)) hx (by rw [hh]; exact B.1) (State.isArrayOf_alike hZ.alike B.2.1) B.2.2 (inb hv S1 hi) (H1.at (inb hv S1 hi) (by rw [ofNat_clamp (by omega), List.getD_eq_getElem?_getD, hv']; rfl)) rfl rfl (hb hb1 hd) t r
theorem g_baload (w : Wk p l e R s m args below meth c Z a0 EL pr y bs ml rt T vm0 h k n) {a : Addr} {vs : List Value} {j : Int32} {i : Nat} {v : Value} (hd : decode bs pc = .ok (.baload, 1)) (hq : pc + 1 = q) (A : Ar Z h a .byte vs) (hj : j = Int32.ofNat i) (hi : i < vs.length) (hv' : vs[i]? = some v) (hr : Go p e below Φ (T.setTop (mkF m q Ls (v :: st)))) : Go p e below Φ (T.setTop (mkF m pc Ls (.int j :: .ref a :: st))) := by
  subst hq hj; obtain ⟨⟨hx, hb1, hml, hrt, hlk, hnm, hEL⟩, k0, locs, X, hh, hZ, hown, hS, hk0, N, C, O, hpr⟩ := w
  obtain ⟨hv, kC, dv, cl, B, q1, S1, q3, H1, G1⟩ := A
  refine hr.pre fun t r => X.baloadBytes (g := mkF m pc Ls (.int (Int32.ofNat i) :: .ref a :: st)) hx (by rw [hh]; exact B.1) (State.isArrayOf_alike hZ.alike B.2.1) B.2.2 (inb hv S1 hi) (H1.at (inb hv S1 hi) (by rw [ofNat_clamp (by omega), List.getD_eq_getElem?_getD, hv']; rfl)) rfl rfl (hb hb1 hd) t r
/-- checkcast, instanceof: yes -/
theorem g_cast (w : Wk p l e R s m args below meth c Z a0 EL pr y bs ml rt T vm0 h k n) {i : Nat} {K' : String} {a : Addr} (hd : decode bs pc = .ok (.checkcast i, 3)) (hq : pc + 3 = q) (w1 : (Cond.classLink y.cls i K').before a0 Z = true) (F : Ins Z h a K' true) (K : ∀ T', Wk p l e R s m args below meth c Z a0 EL pr y bs ml rt T' vm0 h k n → Go p e below Φ (T'.setTop (mkF m q Ls (.ref a :: st)))) : Go p e below Φ (T.setTop (mkF m pc Ls (.ref a :: st))) := by
  subst hq; obtain ⟨⟨hx, hb1, hml, hrt, hlk, hnm, hEL⟩, k0, locs, X, hh, hZ, hown, hS, hk0, N, C, O, hpr⟩ := w
  obtain ⟨T', X', e', g'⟩ := castY X hx hZ hown w1 hh F (g := mkF m pc Ls (.ref a :: st)) rfl rfl (hb hb1 hd)
  exact (K T' ⟨⟨hx, hb1, hml, hrt, hlk, hnm, hEL⟩, k0, locs, X', e', hZ, hown, hS, hk0, N, C, O, hpr⟩).pre g'
theorem g_inst (w : Wk p l e R s m args below meth c Z a0 EL pr y bs ml rt T vm0 h k n) {i : Nat} {K' : String} {a : Addr} (hd : decode bs pc = .ok (.instanceof i, 3)) (hq : pc + 3 = q) (w1 : (Cond.classLink y.cls i K').before a0 Z = true) (F : Ins Z h a K' true) (K : ∀ T', Wk p l e R s m args below meth c Z a0 EL pr y bs ml rt T' vm0 h k n → Go p e below Φ (T'.setTop (mkF m q Ls (.int 1 :: st)))) : Go p e below Φ (T.setTop (mkF m pc Ls (.ref a :: st))) := by
  subst hq; obtain ⟨⟨hx, hb1, hml, hrt, hlk, hnm, hEL⟩, k0, locs, X, hh, hZ, hown, hS, hk0, N, C, O, hpr⟩ := w
  obtain ⟨T', X', e', g'⟩ := instY X hx hZ hown w1 hh F (g := mkF m pc Ls (.ref a :: st)) rfl rfl (hb hb1 hd)
  exact (K T' ⟨⟨hx, hb1, hml, hrt, hlk, hnm, hEL⟩, k0, locs, X', e', hZ, hown, hS, hk0, N, C, O, hpr⟩).pre g'
/-- Object.<init> -/
theorem g_initO (w : Wk p l e R s m args below meth c Z a0 EL pr y bs ml rt T vm0 h k n) {i W : Nat} {a : Addr} (hd : decode bs pc = .ok (.invokespecial i, 3)) (hq : pc + 3 = q) (hsz : Ls.size = ml) (w1 : (Cond.methodLink y.cls i Lib.objectInit).before a0 Z = true) (w2 : (Cond.instanceMethod Lib.objectInit).before a0 Z = true) (w3 : (Cond.code Lib.objectInit ⟨#[0xb1]⟩ 1 none).before a0 Z = true) (hW : 2 * 0 + (st.map fun v => v.category).sum ≤ W) (hf : 1 ≤ R.frames) (hl : W + 12 ≤ R.locals)
    (K : ∀ T', Wk p l e R s m args below meth c Z a0 EL pr y bs ml rt T' vm0 h k n → Go p e below Φ (T'.setTop (mkF m q Ls st))) : Go p e below Φ (T.setTop (mkF m pc Ls (.ref a :: st))) := by
  subst hq; obtain ⟨⟨hx, hb1, hml, hrt, hlk, hnm, hEL⟩, k0, locs, X, hh, hZ, hown, hS, hk0, N, C, O, hpr⟩ := w
  obtain ⟨T', X', e', g'⟩ := initO X hx hZ hown w1 w2 w3 hh (g := mkF m pc Ls (.ref a :: st)) rfl (hsz.trans hml.symm) rfl (hb hb1 hd) hf hW hl
  exact (K T' ⟨⟨hx, hb1, hml, hrt, hlk, hnm, hEL⟩, k0, locs, X', e', hZ, hown, hS, hk0, N, C, O, hpr⟩).pre g'
/-- ldc of a String constant of EL -/
theorem g_ldcS (w : Wk p l e R s m args below meth c Z a0 EL pr y bs ml rt T vm0 h k n) {i nn : Nat} {text : String} {vs : List Value} {z : Int32} (hd : decode bs pc = .ok (.ldc i, 2)) (hq : pc + 2 = q) (hp : pr = false) (w1 : (Cond.stringLink y.cls i text).before a0 Z = true) (wS : ∀ a ∈ Bundle.stringAtoms, a.before a0 Z = true) (hmem : (y.cls, i) ∈ EL)
    (ht : (∀ c ∈ text.toList, c.toNat < 256) ∧ text.toList.map (fun c => Value.int (Jvm.Lit.byteI c.toNat.toUInt16)) = vs) (hz : ¬ z < 0) (hl : z.toNatClampNeg = vs.length) (hn : 4 * text.toList.length ≤ nn) (hbig : nn ≤ 536870912) (hc : k + 2 ≤ R.cells) (hs : n + (nn + 4) ≤ R.slots)
    (K : ∀ T' vm' h' a b kb, Wk p l e R s m args below meth c Z a0 EL pr y bs ml rt T' vm' h' (k + 2) (n + (nn + 4)) → Ext h h' → Exa Z h' a "java/lang/String" → Fld Z h' a "java/lang/String" "coder" "B" (.int 0) → Fld Z h' a "java/lang/String" "value" "[B" (.ref b) → Arv Z h' b kb .byte z vs (.int 0) → CHr Z EL vm0 h vm' h' → (∀ x, Safe Z EL vm' h' x → x ≠ a ∧ x ≠ b) → Go p e below Φ (T'.setTop (mkF m q Ls (.ref a :: st)))) : Go p e below Φ (T.setTop (mkF m pc Ls st)) := by
  subst hq hp; obtain ⟨⟨hx, hb1, hml, hrt, hlk, hnm, hEL⟩, k0, locs, X, hh, hZ, hown, hS, hk0, N, C, O, hpr⟩ := w
  obtain ⟨a, T', h', k1, b, kb, X', e', E, hS', hk', hZ', hown', E1, F1, F2, A1, -, -, C', -, Sf, g'⟩ := ldcCH X hx hZ hown w1 wS hh hS hk0 hEL hmem C.1 ht hz hl (g := mkF m pc Ls st) rfl (hb hb1 hd) hn hbig hc hs
  exact (K T' T'.vm h' a b kb ⟨⟨hx, hb1, hml, hrt, hlk, hnm, hEL⟩, k1, locs, X', e', hZ', hown', hS', hk', N, C.trans C', ext_trans O E, fun q => by cases q⟩ E E1 F1 F2 A1 C' Sf).pre g'
/-- ldc of a String constant, its text not asked -/
theorem g_ldcO (w : Wk p l e R s m args below meth c Z a0 EL pr y bs ml rt T vm0 h k n) {i nn : Nat} {text : String} (hd : decode bs pc = .ok (.ldc i, 2)) (hq : pc + 2 = q) (hp : pr = false) (w1 : (Cond.stringLink y.cls i text).before a0 Z = true) (wS : ∀ a ∈ Bundle.stringAtoms, a.before a0 Z = true) (hn : 4 * text.toList.length ≤ nn) (hbig : nn ≤ 536870912) (hc : k + 2 ≤ R.cells) (hs : n + (nn + 4) ≤ R.slots)
    (K : ∀ T' vm' h' a, Wk p l e R s m args below meth c Z a0 EL pr y bs ml rt T' vm' h' (k + 2) (n + (nn + 4)) → Ext h h' → CHr Z EL vm0 h vm' h' → Go p e below Φ (T'.setTop (mkF m q Ls (.ref a :: st)))) : Go p e below Φ (T.setTop (mkF m pc Ls st)) := by
  subst hq hp; obtain ⟨⟨hx, hb1, hml, hrt, hlk, hnm, hEL⟩, k0, locs, X, hh, hZ, hown, hS, hk0, N, C, O, hpr⟩ := w
  obtain ⟨a, T', h', k1, X', e', E, hS', hk', hZ', hown', C', -, g'⟩ := ldcOH X hx hZ hown w1 wS hh hS hk0 hEL C.1 (g := mkF m pc Ls st) rfl (hb hb1 hd) hn hbig hc hs
  exact (K T' T'.vm h' a ⟨⟨hx, hb1, hml, hrt, hlk, hnm, hEL⟩, k1, locs, X', e', hZ', hown', hS', hk', N, C.trans C', ext_trans O E, fun q => by cases q⟩ E C').pre g'
/-- a callee's contract, at the call -/
theorem Con.back {y' : MethodName} {bs' : ByteArray} {ml' : Nat} {rt' : Option FieldType} {rm : Room} {as' : Array Value} {sf : List Addr} {Q : Option Value → Heap → Prop} {len W : Nat} (hM : Con l Z EL pr y' bs' ml' rt' [] rm as' sf h Q) (hsf : ∀ x ∈ sf, x < h.size ∧ Safe Z EL vm0 h x) (hZ : Z.Warmed39 vm0) (wc : (Cond.code y' bs' ml' rt').before a0 Z = true) (wz : (Cond.initialized y'.cls).before a0 Z = true)
    (hf : rm.frames + 1 ≤ R.frames) (hl : W + (ml' + 11) + rm.locals ≤ R.locals) (hEL : EW Z a0 EL) (H : CHv Z EL vm0 h) :
    BackS l R p e below (s.setVm vm0) args y' len W (fun A a => a = as' ∧ A.U.heap = h ∧ A.cells + rm.cells ≤ R.cells ∧ A.slots + rm.slots ≤ R.slots)
      (fun A _ v B => ∃ L, (Q v B.U.heap ∧ Ext Z.heap B.U.heap ∧ Fr Z.heap.size L) ∧ B.locs = A.locs ++ L ∧ B.cells = A.cells + rm.cells ∧ B.slots = A.slots + rm.slots ∧ CHr Z EL vm0 h B.U.vm B.U.heap ∧ (pr = true → A.U.WarmedH B.U.vm)) :=
  BackS.of_freeW (bytes := bs') (maxL := ml') (ret := rt') (E := fun _ first o t L kk nn => kk = rm.cells ∧ nn = rm.slots ∧ (∃ v, o = .returned v ∧ Q v t.heap ∧ Ext Z.heap t.heap ∧ Fr Z.heap.size L) ∧ CHr Z EL first.vm first.heap t.vm t.heap ∧ (pr = true → first.WarmedH t.vm)) hM hf hl
    (fun m meth c A a Y hp => have hU : Z.Warmed39 A.U.vm := wtrans (s := s.setVm vm0) hZ Y.warmed
      ⟨by show (Cond.and _ .tt).before a A.U = true; rw [Cond.before_and, mv hU wc]; rfl, mv hU wc, mv hU wz, hp.2.2.1, hp.2.2.2⟩)
    (fun m meth c A a g mk Y hp => ⟨hp.1, wtrans (s := s.setVm vm0) hZ Y.warmed, hp.2.1, (CHv.at Y hZ hEL H).1, fun x hx => (CHv.at Y hZ hEL H).safe (hsf x hx).1 (hsf x hx).2⟩) (fun _ _ _ _ _ _ _ _ _ => trivial)
    (fun _ _ _ _ ⟨v, L, h1, h2, h3, h4, h5, h6, h7⟩ => ⟨L, _, _, h7, rfl, rfl, ⟨v, h1, h2, h3, h4⟩, h5, h6⟩)
    (fun m meth c A a g mk v t L kk nn Y hp _ _ ⟨e1, e2, ⟨v', e3, e4⟩, e5, e6⟩ => by
      cases e3; subst e1 e2
      refine ⟨L, e4, rfl, rfl, rfl, (CHv.at Y hZ hEL H).trans ?_, e6⟩
      rw [← hp.2.1]; exact e5)
/-- behind a call -/
theorem Wk.after (w : Wk p l e R s m args below meth c Z a0 EL pr y bs ml rt T vm0 h k n) {T' : State} {locs' : List Loc} {k' n' : Nat} (X' : Stand p l e R ((s.setVm vm0).setVm T'.vm) m args below meth c T' locs' k' n') (h2 : (s.setVm vm0).Since T'.vm T'.heap.size) (hg : T.heap.size ≤ T'.heap.size) (N' : Fr Z.heap.size locs') (C' : CHr Z EL vm0 h T'.vm T'.heap) (O' : Ext Z.heap T'.heap) (hpr' : pr = true → (s.setVm vm0).WarmedH T'.vm) :
    Wk p l e R s m args below meth c Z a0 EL pr y bs ml rt T' T'.vm T'.heap k' n' := by
  obtain ⟨hd, k0, locs, X, rfl, hZ, hown, hS, hk0, N, C, O, hpr⟩ := w
  obtain ⟨a, b, c', d⟩ := rebS (Z := Z) hS hk0 X' h2 hg hZ hown
  exact ⟨hd, _, locs', a, rfl, c', d, b, Nat.le_refl _, N', C.trans C', O', fun q => State.WarmedH.trans (t := s.setVm vm0) (hpr q) (hpr' q)⟩
/-- invokestatic -/
theorem g_static (w : Wk p l e R s m args below meth c Z a0 EL pr y bs ml rt T vm0 h k n) {y' : MethodName} {bs' : ByteArray} {ml' : Nat} {rt' : Option FieldType} {rm : Room} {Q : Option Value → Heap → Prop} {i W : Nat} {argsL : List Value} {ps : List FieldType} {rr : Option FieldType} {stk : List Value} {sf : List Addr} (hM : Con l Z EL pr y' bs' ml' rt' [] rm argsL.toArray sf h Q) (hsf : ∀ x ∈ sf, x < h.size ∧ Safe Z EL vm0 h x) (hd : decode bs pc = .ok (.invokestatic i, 3)) (hq : pc + 3 = q) (hsz : Ls.size = ml)
    (w1 : (Cond.methodLink y.cls i y').before a0 Z = true) (w2 : (Cond.static y').before a0 Z = true) (w3 : (Cond.initialized y'.cls).before a0 Z = true) (w4 : (Cond.code y' bs' ml' rt').before a0 Z = true) (hy : y'.cls ≠ "java/lang/invoke/MethodHandle" ∧ y'.cls ≠ "java/lang/invoke/VarHandle") (hpd : parseMethodDescriptor y'.desc = some ⟨ps, rr⟩) (hlen : argsL.length = ps.length) (hst : stk = argsL.reverse ++ st)
    (hW : 2 * 0 + (st.map fun v => v.category).sum ≤ W) (hf : rm.frames + 1 ≤ R.frames) (hl : W + (ml' + 11) + rm.locals ≤ R.locals) (hc : k + rm.cells ≤ R.cells) (hs : n + rm.slots ≤ R.slots)
    (K : ∀ T' h' v, Wk p l e R s m args below meth c Z a0 EL pr y bs ml rt T' T'.vm h' (k + rm.cells) (n + rm.slots) → h.size ≤ h'.size → CHr Z EL vm0 h T'.vm h' → Q v h' → Go p e below Φ (T'.setTop (mkF m q Ls (v.toList ++ st)))) : Go p e below Φ (T.setTop (mkF m pc Ls stk)) := by
  subst hq hst; have w' := w; obtain ⟨⟨hx, hb1, hml, hrt, hlk, hnm, hEL⟩, k0, locs, X, hh, hZ, hown, hS, hk0, N, C, O, hpr⟩ := w
  obtain ⟨v, vm₁, ⟨T', L', k', n'⟩, hW1, X', hS', hg, ⟨L, ⟨hQ, hO', hF⟩, hl', hk', hn', hC', hp'⟩, stp⟩ := callSS X hx hown (mvT (s := s.setVm vm0) hZ w1) (mvT (s := s.setVm vm0) hZ w2) (mvT (s := s.setVm vm0) hZ w3) (mvT (s := s.setVm vm0) hZ w4) hy (hM.back hsf hZ w4 w3 hf hl hEL C.1) (g := mkF m pc Ls (argsL.reverse ++ st)) rfl (hsz.trans hml.symm) (lenOf hpd hlen) rfl hW (hb hb1 hd) (fun _ _ => ⟨rfl, hh, hc, hs⟩)
  dsimp only [Pt.U, Pt.locs, Pt.cells, Pt.slots] at X' hS' hg hQ hO' hl' hk' hn' hC' hp' stp
  subst hl' hk' hn'
  exact (K T' T'.heap v (w'.after X' hS' hg (N.app hF) hC' hO' fun q => State.WarmedH.trans (t := T.setVm vm₁) hW1 (hp' q)) hC'.2.1 hC' hQ).pre' stp
/-- invokespecial of a constructor -/
theorem g_special (w : Wk p l e R s m args below meth c Z a0 EL pr y bs ml rt T vm0 h k n) {y' : MethodName} {bs' : ByteArray} {ml' : Nat} {rm : Room} {Q : Option Value → Heap → Prop} {i W : Nat} {a : Addr} {argsL : List Value} {ps : List FieldType} {rr : Option FieldType} {stk : List Value} {sf : List Addr} (hM : Con l Z EL pr y' bs' ml' none [] rm (.ref a :: argsL).toArray sf h Q) (hsf : ∀ x ∈ sf, x < h.size ∧ Safe Z EL vm0 h x) (hd : decode bs pc = .ok (.invokespecial i, 3)) (hq : pc + 3 = q) (hsz : Ls.size = ml) (hni : y'.name = "<init>")
    (w1 : (Cond.methodLink y.cls i y').before a0 Z = true) (w2 : (Cond.instanceMethod y').before a0 Z = true) (w3 : (Cond.initialized y'.cls).before a0 Z = true) (w4 : (Cond.code y' bs' ml' none).before a0 Z = true) (hy : y'.cls ≠ "java/lang/invoke/MethodHandle" ∧ y'.cls ≠ "java/lang/invoke/VarHandle") (hpd : parseMethodDescriptor y'.desc = some ⟨ps, rr⟩) (hlen : argsL.length = ps.length) (hst : stk = argsL.reverse ++ .ref a :: st)
    (hW : 2 * 0 + (st.map fun v => v.category).sum ≤ W) (hf : rm.frames + 1 ≤ R.frames) (hl : W + (ml' + 11) + rm.locals ≤ R.locals) (hc : k + rm.cells ≤ R.cells) (hs : n + rm.slots ≤ R.slots)
    (K : ∀ T' h' v, Wk p l e R s m args below meth c Z a0 EL pr y bs ml rt T' T'.vm h' (k + rm.cells) (n + rm.slots) → h.size ≤ h'.size → CHr Z EL vm0 h T'.vm h' → Q v h' → Go p e below Φ (T'.setTop (mkF m q Ls (v.toList ++ st)))) : Go p e below Φ (T.setTop (mkF m pc Ls stk)) := by
  subst hq hst; have w' := w; obtain ⟨⟨hx, hb1, hml, hrt, hlk, hnm, hEL⟩, k0, locs, X, hh, hZ, hown, hS, hk0, N, C, O, hpr⟩ := w
  obtain ⟨v, vm₁, ⟨T', L', k', n'⟩, hW1, X', hS', hg, ⟨L, ⟨hQ, hO', hF⟩, hl', hk', hn', hC', hp'⟩, stp⟩ := X.specialBackS hx hni hown (mvT (s := s.setVm vm0) hZ w1) (mvT (s := s.setVm vm0) hZ w2) (mvT (s := s.setVm vm0) hZ w4) hy (hM.back hsf hZ w4 w3 hf hl hEL C.1) (g := mkF m pc Ls (argsL.reverse ++ .ref a :: st)) rfl (hsz.trans hml.symm) (Steps.refl _) (a := a) (lenOf hpd hlen) rfl hW (hb hb1 hd) (fun _ _ => ⟨rfl, hh, hc, hs⟩)
  dsimp only [Pt.U, Pt.locs, Pt.cells, Pt.slots] at X' hS' hg hQ hO' hl' hk' hn' hC' hp' stp
  subst hl' hk' hn'
  exact (K T' T'.heap v (w'.after X' hS' hg (N.app hF) hC' hO' fun q => State.WarmedH.trans (t := T.setVm vm₁) hW1 (hp' q)) hC'.2.1 hC' hQ).pre' stp
/-- invokevirtual -/
theorem g_virtual (w : Wk p l e R s m args below meth c Z a0 EL pr y bs ml rt T vm0 h k n) {y1 y' : MethodName} {bs' : ByteArray} {ml' : Nat} {rt' : Option FieldType} {rm : Room} {Q : Option Value → Heap → Prop} {i W : Nat} {a : Addr} {C' : String} {argsL : List Value} {ps : List FieldType} {rr : Option FieldType} {stk : List Value} {sf : List Addr} (hM : Con l Z EL pr y' bs' ml' rt' [] rm (.ref a :: argsL).toArray sf h Q) (hsf : ∀ x ∈ sf, x < h.size ∧ Safe Z EL vm0 h x) (E : Exa Z h a C') (hd : decode bs pc = .ok (.invokevirtual i, 3)) (hq : pc + 3 = q) (hsz : Ls.size = ml)
    (w1 : (Cond.methodLink y.cls i y1).before a0 Z = true) (wd : (Cond.declares y1).before a0 Z = true) (ws : (Cond.selects C' y1 y').before a0 Z = true) (w2 : (Cond.instanceMethod y').before a0 Z = true) (w3 : (Cond.initialized y'.cls).before a0 Z = true) (w4 : (Cond.code y' bs' ml' rt').before a0 Z = true) (hy : y1.cls ≠ "java/lang/invoke/MethodHandle" ∧ y1.cls ≠ "java/lang/invoke/VarHandle") (hnf : ∀ s' : State, Z.Warmed39 s'.vm → NotFace s' y1) (hpd : parseMethodDescriptor y1.desc = some ⟨ps, rr⟩) (hlen : argsL.length = ps.length) (hst : stk = argsL.reverse ++ .ref a :: st)
    (hW : 2 * 0 + (st.map fun v => v.category).sum ≤ W) (hf : rm.frames + 1 ≤ R.frames) (hl : W + (ml' + 11) + rm.locals ≤ R.locals) (hc : k + rm.cells ≤ R.cells) (hs : n + rm.slots ≤ R.slots)
    (K : ∀ T' h' v, Wk p l e R s m args below meth c Z a0 EL pr y bs ml rt T' T'.vm h' (k + rm.cells) (n + rm.slots) → h.size ≤ h'.size → CHr Z EL vm0 h T'.vm h' → Q v h' → Go p e below Φ (T'.setTop (mkF m q Ls (v.toList ++ st)))) : Go p e below Φ (T.setTop (mkF m pc Ls stk)) := by
  subst hq hst; have w' := w; obtain ⟨⟨hx, hb1, hml, hrt, hlk, hnm, hEL⟩, k0, locs, X, hh, hZ, hown, hS, hk0, N, C, O, hpr⟩ := w
  obtain ⟨cq, kq, qa, -, qc⟩ := isOf (s := s.setVm vm0) hZ hh E
  obtain ⟨v, vm₁, ⟨T', L', k', n'⟩, hW1, X', hS', hg, ⟨L, ⟨hQ, hO', hF⟩, hl', hk', hn', hC', hp'⟩, stp⟩ := X.virtualBackS hx hown (mvT (s := s.setVm vm0) hZ w1) (mvT (s := s.setVm vm0) hZ wd) (hnf (s.setVm vm0) hZ) (mvT (s := s.setVm vm0) hZ ws) (mvT (s := s.setVm vm0) hZ w2) hy (hM.back hsf hZ w4 w3 hf hl hEL C.1) qa qc (g := mkF m pc Ls (argsL.reverse ++ .ref a :: st)) rfl (hsz.trans hml.symm) (Steps.refl _) (lenOf hpd hlen) rfl hW (hb hb1 hd) (fun _ _ => ⟨rfl, hh, hc, hs⟩)
  dsimp only [Pt.U, Pt.locs, Pt.cells, Pt.slots] at X' hS' hg hQ hO' hl' hk' hn' hC' hp' stp
  subst hl' hk' hn'
  exact (K T' T'.heap v (w'.after X' hS' hg (N.app hF) hC' hO' fun q => State.WarmedH.trans (t := T.setVm vm₁) hW1 (hp' q)) hC'.2.1 hC' hQ).pre' stp
theorem nf {y1 : MethodName} {C' : String} (ws : (Cond.selects C' y1 y1).before a0 Z = true) (s' : State) (hZ : Z.Warmed39 s'.vm) : NotFace s' y1 := notFace_of_selects (args := #[]) (mvT hZ ws)
/-- behind a step whose law leaves the tables: Back's form -/
theorem Wk.afterB (w : Wk p l e R s m args below meth c Z a0 EL pr y bs ml rt T vm0 h k n) {T' : State} {L : List Loc} {k' n' : Nat} {ws : List Addr} (hh' : ∃ locs, ∀ locs0, locs0 = locs → Stand p l e R (s.setVm vm0) m args below meth c T' (locs0 ++ L) k' n' ∧ Fr Z.heap.size locs0) (hF : Fr Z.heap.size L) (Kp : Keep h T'.heap ws) (hs : ∀ x ∈ ws, Safe Z EL vm0 h x) (hn : ∀ x ∈ ws, Z.heap.size ≤ x) : Wk p l e R s m args below meth c Z a0 EL pr y bs ml rt T' vm0 T'.heap k' n' := by
  obtain ⟨hd, k0, locs, X, rfl, hZ, hown, hS, hk0, N, C, O, hpr⟩ := w
  obtain ⟨l1, q⟩ := hh'
  obtain ⟨X', N'⟩ := q _ rfl
  exact ⟨hd, k0, _, X', rfl, hZ, hown, hS, Nat.le_trans hk0 Kp.1, N'.app hF, C.trans (CHr.keep Kp hs C.1), (Old.keep (n0 := Z.heap.size) ⟨rfl, O⟩ Kp hn).2, hpr⟩
/-- invokevirtual paid by a law that leaves the heap -/
theorem g_virtualB (w : Wk p l e R s m args below meth c Z a0 EL pr y bs ml rt T vm0 h k n) {y1 y' : MethodName} {V : Option Value → Prop} {i W : Nat} {a : Addr} {C' : String} {argsL : List Value} {ps : List FieldType} {rr : Option FieldType} {stk : List Value}
    (hK : ∀ s' : State, Z.Warmed39 s'.vm → Back l R p e below s' args y' 3 W (fun P a' => a' = (.ref a :: argsL).toArray ∧ P.U.heap = h ∧ P.cells + 0 ≤ R.cells ∧ P.slots + 0 ≤ R.slots) (fun P _ v B => ∃ L, (V v ∧ L = [] ∧ B.U.heap = h) ∧ B.locs = P.locs ++ L ∧ B.cells = P.cells + 0 ∧ B.slots = P.slots + 0))
    (E : Exa Z h a C') (hd : decode bs pc = .ok (.invokevirtual i, 3)) (hq : pc + 3 = q) (hsz : Ls.size = ml)
    (w1 : (Cond.methodLink y.cls i y1).before a0 Z = true) (wd : (Cond.declares y1).before a0 Z = true) (ws : (Cond.selects C' y1 y').before a0 Z = true) (w2 : (Cond.instanceMethod y').before a0 Z = true) (hy : y1.cls ≠ "java/lang/invoke/MethodHandle" ∧ y1.cls ≠ "java/lang/invoke/VarHandle") (hnf : ∀ s' : State, Z.Warmed39 s'.vm → NotFace s' y1) (hpd : parseMethodDescriptor y1.desc = some ⟨ps, rr⟩) (hlen : argsL.length = ps.length) (hst : stk = argsL.reverse ++ .ref a :: st)
    (hW : 2 * 0 + (st.map fun v => v.category).sum ≤ W) (hc : k ≤ R.cells) (hs : n ≤ R.slots)
    (K : ∀ T' v, Wk p l e R s m args below meth c Z a0 EL pr y bs ml rt T' vm0 h k n → V v → Go p e below Φ (T'.setTop (mkF m q Ls (v.toList ++ st)))) : Go p e below Φ (T.setTop (mkF m pc Ls stk)) := by
  subst hq hst; have w' := w; obtain ⟨⟨hx, hb1, hml, hrt, hlk, hnm, hEL⟩, k0, locs, X, hh, hZ, hown, hS, hk0, N, C, O, hpr⟩ := w
  obtain ⟨cq, kq, qa, -, qc⟩ := isOf (s := s.setVm vm0) hZ hh E
  obtain ⟨v, vm₁, ⟨T', L', k', n'⟩, hW1, X', ⟨L, ⟨hV, hL, hH⟩, hl', hk', hn'⟩, stp⟩ := X.virtualBack hx hown (mvT (s := s.setVm vm0) hZ w1) (mvT (s := s.setVm vm0) hZ wd) (hnf (s.setVm vm0) hZ) (mvT (s := s.setVm vm0) hZ ws) (mvT (s := s.setVm vm0) hZ w2) hy (hK (s.setVm vm0) hZ) qa qc (g := mkF m pc Ls (argsL.reverse ++ .ref a :: st)) rfl (hsz.trans hml.symm) (Steps.refl _) (lenOf hpd hlen) rfl hW (hb hb1 hd) (fun _ _ => ⟨rfl, hh, hc, hs⟩)
  dsimp only [Pt.U, Pt.locs, Pt.cells, Pt.slots] at X' hV hL hH hl' hk' hn' stp
  subst hL hl' hk' hn'
  exact (K T' v ⟨⟨hx, hb1, hml, hrt, hlk, hnm, hEL⟩, k0, _, X', hH, hZ, hown, hS, hk0, N.app (Fr.nil _), C, O, hpr⟩ hV).pre' stp
/-- a constructor paid by a law in Back's form -/
theorem g_specialB (w : Wk p l e R s m args below meth c Z a0 EL pr y bs ml rt T vm0 h k n) {y' : MethodName} {bs' : ByteArray} {ml' kc ks : Nat} {Q : Option Value → Heap → List Loc → Prop} {i W : Nat} {a : Addr} {argsL : List Value} {ps : List FieldType} {rr : Option FieldType} {stk : List Value} {wr : List Addr}
    (hK : ∀ s' : State, Z.Warmed39 s'.vm → Back l R p e below s' args y' 3 W (fun P a' => a' = (.ref a :: argsL).toArray ∧ P.U.heap = h ∧ P.cells + kc ≤ R.cells ∧ P.slots + ks ≤ R.slots) (fun P _ v B => ∃ L, Q v B.U.heap L ∧ B.locs = P.locs ++ L ∧ B.cells = P.cells + kc ∧ B.slots = P.slots + ks))
    (hQ : ∀ v h' L, Q v h' L → Fr Z.heap.size L ∧ Keep h h' wr) (hsf : ∀ x ∈ wr, Safe Z EL vm0 h x) (hnw : ∀ x ∈ wr, Z.heap.size ≤ x)
    (hd : decode bs pc = .ok (.invokespecial i, 3)) (hq : pc + 3 = q) (hsz : Ls.size = ml) (hni : y'.name = "<init>")
    (w1 : (Cond.methodLink y.cls i y').before a0 Z = true) (w2 : (Cond.instanceMethod y').before a0 Z = true) (w4 : (Cond.code y' bs' ml' none).before a0 Z = true) (hy : y'.cls ≠ "java/lang/invoke/MethodHandle" ∧ y'.cls ≠ "java/lang/invoke/VarHandle") (hpd : parseMethodDescriptor y'.desc = some ⟨ps, rr⟩) (hlen : argsL.length = ps.length) (hst : stk = argsL.reverse ++ .ref a :: st)
    (hW : 2 * 0 + (st.map fun v => v.category).sum ≤ W) (hc : k + kc ≤ R.cells) (hs : n + ks ≤ R.slots)
    (K : ∀ T' h' v L, Wk p l e R s m args below meth c Z a0 EL pr y bs ml rt T' vm0 h' (k + kc) (n + ks) → Q v h' L → Go p e below Φ (T'.setTop (mkF m q Ls (v.toList ++ st)))) : Go p e below Φ (T.setTop (mkF m pc Ls stk)) := by
  subst hq hst; have w' := w; obtain ⟨⟨hx, hb1, hml, hrt, hlk, hnm, hEL⟩, k0, locs, X, hh, hZ, hown, hS, hk0, N, C, O, hpr⟩ := w
  obtain ⟨v, vm₁, ⟨T', L', k', n'⟩, hW1, X', ⟨L, hQ', hl', hk', hn'⟩, stp⟩ := X.specialBack hx hni hown (mvT (s := s.setVm vm0) hZ w1) (mvT (s := s.setVm vm0) hZ w2) (mvT (s := s.setVm vm0) hZ w4) hy (hK (s.setVm vm0) hZ) (g := mkF m pc Ls (argsL.reverse ++ .ref a :: st)) rfl (hsz.trans hml.symm) (Steps.refl _) (a := a) (lenOf hpd hlen) rfl hW (hb hb1 hd) (fun _ _ => ⟨rfl, hh, hc, hs⟩)
  dsimp only [Pt.U, Pt.locs, Pt.cells, Pt.slots] at X' hQ' hl' hk' hn' stp
  subst hl' hk' hn'
  obtain ⟨hF, Kp⟩ := hQ v T'.heap L hQ'
  exact (K T' T'.heap v L ⟨⟨hx, hb1, hml, hrt, hlk, hnm, hEL⟩, k0, _, X', rfl, hZ, hown, hS, Nat.le_trans hk0 Kp.1, N.app hF, C.trans (CHr.keep Kp hsf C.1), (Old.keep (n0 := Z.heap.size) ⟨rfl, O⟩ Kp hnw).2, hpr⟩ hQ').pre' stp
/-- a String whose value is null is no booked one -/
theorem safe_null {vm : Vm} {x : Addr} {kk : Nat} (hal : Z.vm.Alike vm) (wi : (Cond.instantiable "java/lang/String" kk).before a0 Z = true) (E : Exa Z h x "java/lang/String") (F : Fld Z h x "java/lang/String" "value" "[B" .null) : Safe Z EL vm h x := fun B => by
  obtain ⟨p, -, u, a, -, q, -, F', hy⟩ := B
  obtain ⟨cell, cf, k, i, f, h1, h2, h3, h4, h5, h6, h7⟩ := F
  obtain ⟨cS, ⟨⟨s1, s2, s3, ⟨cv, kv, iv, s4, s4'⟩, -, s6, s7, s8, s9, s10, s11, -⟩, -⟩, -⟩ := F'
  obtain ⟨k3, e3, -⟩ := State.fieldFound?_setVm (s := Z) hal h2
  have e4 := (show (Wst Z vm h).fieldFound? _ _ _ = _ from e3).symm.trans s4
  simp only [Option.some.injEq, Prod.mk.injEq] at e4
  rcases hy with rfl | rfl
  · have e5 : h[q.sa]? = some q.sC := s1
    rw [h1] at e5; cases e5
    rw [← e4.2.2.2, h7] at s8; cases s8
  · have e5 : h[q.sd]? = some q.SA := s10
    rw [h1] at e5; cases e5
    obtain ⟨ce, ke, f1, f2, f3, -⟩ := E
    rw [h1] at f1; cases f1
    obtain ⟨c2, k2, i1, i2, i3, -⟩ := Cond.instantiable_spec wi
    cases f2.symm.trans i1
    cases f3.symm.trans i2
    obtain ⟨k', z1, z2⟩ := hal.2.2 _ _ f3
    obtain ⟨-, k9, hk9, comp, hkind⟩ := s11
    have hk9 : vm.classes[q.SA.cls]? = some k9 := hk9
    cases hk9.symm.trans z1
    rw [z2] at hkind
    have hkind : ke.kind = _ := hkind
    rw [i3] at hkind; cases hkind
theorem Wk.more (w : Wk p l e R s m args below meth c Z a0 EL pr y bs ml rt T vm0 h k n) {k' n' : Nat} (hk : k ≤ k') (hn : n ≤ n') : Wk p l e R s m args below meth c Z a0 EL pr y bs ml rt T vm0 h k' n' := by
  obtain ⟨hd, k0, locs, X, r⟩ := w
  exact ⟨hd, k0, locs, X.more hk hn, r⟩
theorem Wk.safeAr (w : Wk p l e R s m args below meth c Z a0 EL pr y bs ml rt T vm0 h k n) {a : Addr} {ty : FieldType} {vs : List Value} (A : Ar Z h a ty vs) (ht : ty ≠ .byte) : Safe Z EL vm0 h a := by
  obtain ⟨-, _, _, A⟩ := A; exact Safe.arv w.wz.alike A ht
/-- calls whose callee leaves the heap as it was -/
theorem g_staticP (w : Wk p l e R s m args below meth c Z a0 EL pr y bs ml rt T vm0 h k n) {y' : MethodName} {bs' : ByteArray} {ml' : Nat} {rt' : Option FieldType} {rm : Room} {V : Option Value → Prop} {i W : Nat} {argsL : List Value} {ps : List FieldType} {rr : Option FieldType} {stk : List Value} {sf : List Addr} (hM : Con l Z EL pr y' bs' ml' rt' [] rm argsL.toArray sf h (fun v h' => V v ∧ h' = h)) (hsf : ∀ x ∈ sf, x < h.size ∧ Safe Z EL vm0 h x) (hd : decode bs pc = .ok (.invokestatic i, 3)) (hq : pc + 3 = q) (hsz : Ls.size = ml)
    (w1 : (Cond.methodLink y.cls i y').before a0 Z = true) (w2 : (Cond.static y').before a0 Z = true) (w3 : (Cond.initialized y'.cls).before a0 Z = true) (w4 : (Cond.code y' bs' ml' rt').before a0 Z = true) (hy : y'.cls ≠ "java/lang/invoke/MethodHandle" ∧ y'.cls ≠ "java/lang/invoke/VarHandle") (hpd : parseMethodDescriptor y'.desc = some ⟨ps, rr⟩) (hlen : argsL.length = ps.length) (hst : stk = argsL.reverse ++ st)
    (hW : 2 * 0 + (st.map fun v => v.category).sum ≤ W) (hf : rm.frames + 1 ≤ R.frames) (hl : W + (ml' + 11) + rm.locals ≤ R.locals) (hc : k + rm.cells ≤ R.cells) (hs : n + rm.slots ≤ R.slots)
    (K : ∀ T' v, Wk p l e R s m args below meth c Z a0 EL pr y bs ml rt T' T'.vm h (k + rm.cells) (n + rm.slots) → CHr Z EL vm0 h T'.vm h → V v → Go p e below Φ (T'.setTop (mkF m q Ls (v.toList ++ st)))) : Go p e below Φ (T.setTop (mkF m pc Ls stk)) :=
  g_static w hM hsf hd hq hsz w1 w2 w3 w4 hy hpd hlen hst hW hf hl hc hs fun T' h' v w' _ C' q' => by
    obtain ⟨hV, rfl⟩ := q'; exact K T' v w' C' hV
theorem g_specialP (w : Wk p l e R s m args below meth c Z a0 EL pr y bs ml rt T vm0 h k n) {y' : MethodName} {bs' : ByteArray} {ml' : Nat} {rm : Room} {V : Option Value → Prop} {i W : Nat} {a : Addr} {argsL : List Value} {ps : List FieldType} {rr : Option FieldType} {stk : List Value} {sf : List Addr} (hM : Con l Z EL pr y' bs' ml' none [] rm (.ref a :: argsL).toArray sf h (fun v h' => V v ∧ h' = h)) (hsf : ∀ x ∈ sf, x < h.size ∧ Safe Z EL vm0 h x) (hd : decode bs pc = .ok (.invokespecial i, 3)) (hq : pc + 3 = q) (hsz : Ls.size = ml) (hni : y'.name = "<init>")
    (w1 : (Cond.methodLink y.cls i y').before a0 Z = true) (w2 : (Cond.instanceMethod y').before a0 Z = true) (w3 : (Cond.initialized y'.cls).before a0 Z = true) (w4 : (Cond.code y' bs' ml' none).before a0 Z = true) (hy : y'.cls ≠ "java/lang/invoke/MethodHandle" ∧ y'.cls ≠ "java/lang/invoke/VarHandle") (hpd : parseMethodDescriptor y'.desc = some ⟨ps, rr⟩) (hlen : argsL.length = ps.length) (hst : stk = argsL.reverse ++ .ref a :: st)
    (hW : 2 * 0 + (st.map fun v => v.category).sum ≤ W) (hf : rm.frames + 1 ≤ R.frames) (hl : W + (ml' + 11) + rm.locals ≤ R.locals) (hc : k + rm.cells ≤ R.cells) (hs : n + rm.slots ≤ R.slots)
    (K : ∀ T' v, Wk p l e R s m args below meth c Z a0 EL pr y bs ml rt T' T'.vm h (k + rm.cells) (n + rm.slots) → CHr Z EL vm0 h T'.vm h → V v → Go p e below Φ (T'.setTop (mkF m q Ls (v.toList ++ st)))) : Go p e below Φ (T.setTop (mkF m pc Ls stk)) :=
  g_special w hM hsf hd hq hsz hni w1 w2 w3 w4 hy hpd hlen hst hW hf hl hc hs fun T' h' v w' _ C' q' => by
    obtain ⟨hV, rfl⟩ := q'; exact K T' v w' C' hV
theorem g_virtualP (w : Wk p l e R s m args below meth c Z a0 EL pr y bs ml rt T vm0 h k n) {y1 y' : MethodName} {bs' : ByteArray} {ml' : Nat} {rt' : Option FieldType} {rm : Room} {V : Option Value → Prop} {i W : Nat} {a : Addr} {C' : String} {argsL : List Value} {ps : List FieldType} {rr : Option FieldType} {stk : List Value} {sf : List Addr} (hM : Con l Z EL pr y' bs' ml' rt' [] rm (.ref a :: argsL).toArray sf h (fun v h' => V v ∧ h' = h)) (hsf : ∀ x ∈ sf, x < h.size ∧ Safe Z EL vm0 h x) (E : Exa Z h a C') (hd : decode bs pc = .ok (.invokevirtual i, 3)) (hq : pc + 3 = q) (hsz : Ls.size = ml)
    (w1 : (Cond.methodLink y.cls i y1).before a0 Z = true) (wd : (Cond.declares y1).before a0 Z = true) (ws : (Cond.selects C' y1 y').before a0 Z = true) (w2 : (Cond.instanceMethod y').before a0 Z = true) (w3 : (Cond.initialized y'.cls).before a0 Z = true) (w4 : (Cond.code y' bs' ml' rt').before a0 Z = true) (hy : y1.cls ≠ "java/lang/invoke/MethodHandle" ∧ y1.cls ≠ "java/lang/invoke/VarHandle") (hnf : ∀ s' : State, Z.Warmed39 s'.vm → NotFace s' y1) (hpd : parseMethodDescriptor y1.desc = some ⟨ps, rr⟩) (hlen : argsL.length = ps.length) (hst : stk = argsL.reverse ++ .ref a :: st)
    (hW : 2 * 0 + (st.map fun v => v.category).sum ≤ W) (hf : rm.frames + 1 ≤ R.frames) (hl : W + (ml' + 11) + rm.locals ≤ R.locals) (hc : k + rm.cells ≤ R.cells) (hs : n + rm.slots ≤ R.slots)
    (K : ∀ T' v, Wk p l e R s m args below meth c Z a0 EL pr y bs ml rt T' T'.vm h (k + rm.cells) (n + rm.slots) → CHr Z EL vm0 h T'.vm h → V v → Go p e below Φ (T'.setTop (mkF m q Ls (v.toList ++ st)))) : Go p e below Φ (T.setTop (mkF m pc Ls stk)) :=
  g_virtual w hM hsf E hd hq hsz w1 wd ws w2 w3 w4 hy hnf hpd hlen hst hW hf hl hc hs fun T' h' v w' _ C' q' => by
    obtain ⟨hV, rfl⟩ := q'; exact K T' v w' C' hV
theorem g_i2cM (w : Wk p l e R s m args below meth c Z a0 EL pr y bs ml rt T vm0 h k n) {x : Int32} (hd : decode bs pc = .ok (.i2c, 1)) (hq : pc + 1 = q) (hr : Go p e below Φ (T.setTop (mkF m q Ls (.int (x &&& 255) :: st)))) : Go p e below Φ (T.setTop (mkF m pc Ls (.int (x &&& 255) :: st))) := by
  refine g_i2c w hd hq ?_
  rw [i2c_mask]; exact hr
theorem no0 {P : Addr → Prop} : ∀ x ∈ ([] : List Addr), P x := fun _ q => nomatch q
theorem not1 {a b : Addr} (h : b ≠ a) : b ∉ [a] := fun q => h (List.mem_singleton.mp q)
theorem in1 {a : Addr} {P : Addr → Prop} (h : P a) : ∀ x ∈ [a], P x := fun x hx => by cases List.mem_singleton.mp hx; exact h
theorem keep_same {h1 h2 h3 : Heap} {a : Addr} (K : Keep h1 h2 [a]) (K' : Keep h2 h3 [a]) : Keep h1 h3 [a] := K.trans K' fun x hx => Or.inl hx
theorem keep_new {h1 h2 h3 : Heap} {a b : Addr} (K : Keep h1 h2 [a]) (K' : Keep h2 h3 [b]) (z : h1.size ≤ b) : Keep h1 h3 [a] := K.trans K' fun x hx => by cases List.mem_singleton.mp hx; exact Or.inr z
/-- a char of Latin-1; a char -/
def Lt8 (c : Int32) : Prop := ¬ c < 0 ∧ ¬ (255 : Int32) < c
def Lt16 (c : Int32) : Prop := ¬ c < 0 ∧ ¬ (65535 : Int32) < c
theorem Lt16.int {c : Int32} (h : Lt16 c) : 0 ≤ c.toInt ∧ c.toInt ≤ 65535 := by
  obtain ⟨h0, h1⟩ := h
  rw [Int32.lt_iff_toInt_lt] at h0 h1
  have e0 : (0 : Int32).toInt = 0 := rfl
  have e1 : (65535 : Int32).toInt = 65535 := rfl
  omega
theorem Lt8.int {c : Int32} (h : Lt8 c) : 0 ≤ c.toInt ∧ c.toInt ≤ 255 := by
  obtain ⟨h0, h1⟩ := h
  rw [Int32.lt_iff_toInt_lt] at h0 h1
  have e0 : (0 : Int32).toInt = 0 := rfl
  have e1 : (255 : Int32).toInt = 255 := rfl
  omega
theorem Lt16.of {c : Int32} (h0 : 0 ≤ c.toInt) (h1 : c.toInt ≤ 65535) : Lt16 c := by
  constructor
  · rw [Int32.lt_iff_toInt_lt]; have e0 : (0 : Int32).toInt = 0 := rfl; omega
  · rw [Int32.lt_iff_toInt_lt]; have e0 : (65535 : Int32).toInt = 65535 := rfl; omega
theorem Lt8.of {c : Int32} (h0 : 0 ≤ c.toInt) (h1 : c.toInt ≤ 255) : Lt8 c := by
  constructor
  · rw [Int32.lt_iff_toInt_lt]; have e0 : (0 : Int32).toInt = 0 := rfl; omega
  · rw [Int32.lt_iff_toInt_lt]; have e0 : (255 : Int32).toInt = 255 := rfl; omega
theorem Lt8.chr {c : Int32} (h : Lt8 c) : Lt16 c := Lt16.of h.int.1 (by have := h.int.2; omega)
theorem nar_chr {c : Int32} (h : Lt16 c) : nar .char c = c := by
  have := h.int
  show c.toUInt32.toUInt16.toUInt32.toInt32 = c
  apply Int32.toInt_inj.mp
  have e : c.toUInt32.toNat = c.toInt.toNat := by
    have h1 : c.toInt = c.toBitVec.toInt := rfl
    have h2 : c.toUInt32.toNat = c.toBitVec.toNat := rfl
    rw [h2, h1]
    rw [h1] at this
    rw [BitVec.toInt_eq_toNat_cond] at this ⊢
    split at this <;> split <;> omega
  have e2 : c.toUInt32.toUInt16.toUInt32 = c.toUInt32 := by
    apply UInt32.toNat_inj.mp
    rw [UInt16.toNat_toUInt32, UInt32.toNat_toUInt16, e]
    omega
  rw [e2, Int32.toInt32_toUInt32]
theorem nar_lat {c : Int32} (h : Lt8 c) : nar .char c = c := nar_chr h.chr
theorem mask255 (x : Int32) : Lt8 (x &&& 255) := by
  have e : (x &&& 255).toInt = ((x &&& 255).toBitVec.toNat : Int) ∧ (x &&& 255).toBitVec.toNat ≤ 255 := by
    have h1 : (x &&& 255).toBitVec.toNat = x.toBitVec.toNat % 256 := by
      rw [Int32.toBitVec_and, BitVec.toNat_and]
      exact Nat.and_two_pow_sub_one_eq_mod _ 8
    have h3 : (x &&& 255).toInt = (x &&& 255).toBitVec.toInt := rfl
    refine ⟨?_, by omega⟩
    rw [h3, BitVec.toInt_eq_toNat_cond, if_pos (by omega)]
  exact Lt8.of (by omega) (by omega)
theorem cs0 {P : Int32 → Prop} : ∀ c ∈ ([] : List Int32), P c := fun _ q => nomatch q
theorem csS {P : Int32 → Prop} {a : Int32} {l : List Int32} (h : P a) (r : ∀ c ∈ l, P c) : ∀ c ∈ a :: l, P c := fun c q => by
  rcases List.mem_cons.mp q with rfl | q
  · exact h
  · exact r c q
theorem lt8_nat {c : Int32} : Lt8 c ↔ c.toBitVec.toNat < 256 := by
  have h3 : c.toInt = c.toBitVec.toInt := rfl
  constructor
  · intro h
    have := h.int
    rw [h3, BitVec.toInt_eq_toNat_cond] at this
    split at this <;> omega
  · intro h
    have : c.toInt = (c.toBitVec.toNat : Int) := by rw [h3, BitVec.toInt_eq_toNat_cond, if_pos (by omega)]
    exact Lt8.of (by omega) (by omega)
theorem lat_xor {a : Int32} (ha : Lt8 a) (x : Int32) : Lt8 ((a ^^^ (x &&& 1)).toUInt32.toUInt16.toUInt32.toInt32) := by
  have h1 : (x &&& 1).toBitVec.toNat < 256 := by
    rw [Int32.toBitVec_and, BitVec.toNat_and]
    exact Nat.lt_of_le_of_lt Nat.and_le_right (by decide)
  have h2 : Lt8 (a ^^^ (x &&& 1)) := by
    rw [lt8_nat] at ha ⊢
    rw [Int32.toBitVec_xor, BitVec.toNat_xor]
    exact Nat.xor_lt_two_pow (n := 8) ha h1
  have h3 : (a ^^^ (x &&& 1)).toUInt32.toUInt16.toUInt32.toInt32 = a ^^^ (x &&& 1) := nar_lat h2
  rw [h3]; exact h2
theorem mask31_nat (x : Int32) : (x &&& 2147483647).toInt = ((x.toBitVec.toNat % 2147483648 : Nat) : Int) := by
  have h1 : (x &&& 2147483647).toBitVec.toNat = x.toBitVec.toNat % 2147483648 := by
    rw [Int32.toBitVec_and, BitVec.toNat_and]
    exact Nat.and_two_pow_sub_one_eq_mod _ 31
  have h3 : (x &&& 2147483647).toInt = (x &&& 2147483647).toBitVec.toInt := rfl
  rw [h3, BitVec.toInt_eq_toNat_cond, if_pos (by omega), h1]
theorem mask31 (x : Int32) : ¬ (x &&& 2147483647) < 0 := by
  rw [Int32.lt_iff_toInt_lt, mask31_nat, show (0 : Int32).toInt = 0 from rfl]; omega
theorem rem_int {x z : Int32} (hx : ¬ x < 0) (hz : 0 < z.toInt) : (x % z).toInt = x.toInt % z.toInt := by
  rw [Int32.lt_iff_toInt_lt, show (0 : Int32).toInt = 0 from rfl] at hx
  rw [Int32.toInt_mod, Int.tmod_eq_emod_of_nonneg (by omega)]
theorem mod3 {x : Int32} (hx : ¬ x < 0) : x % 3 = 0 ∨ x % 3 = 1 ∨ x % 3 = 2 := by
  have h := rem_int (z := 3) hx (by decide)
  rw [show (3 : Int32).toInt = 3 from rfl] at h
  have h2 : (x % 3).toInt = 0 ∨ (x % 3).toInt = 1 ∨ (x % 3).toInt = 2 := by omega
  rcases h2 with h2 | h2 | h2
  · exact Or.inl (Int32.toInt_inj.mp h2)
  · exact Or.inr (Or.inl (Int32.toInt_inj.mp h2))
  · exact Or.inr (Or.inr (Int32.toInt_inj.mp h2))
theorem mask3 (x : Int32) : x &&& 3 = 0 ∨ x &&& 3 = 1 ∨ x &&& 3 = 2 ∨ x &&& 3 = 3 := by
  have h1 : (x &&& 3).toBitVec.toNat = x.toBitVec.toNat % 4 := by
    rw [Int32.toBitVec_and, BitVec.toNat_and]
    exact Nat.and_two_pow_sub_one_eq_mod _ 2
  have h2 : (x &&& 3).toBitVec.toNat = 0 ∨ (x &&& 3).toBitVec.toNat = 1 ∨ (x &&& 3).toBitVec.toNat = 2 ∨ (x &&& 3).toBitVec.toNat = 3 := by omega
  rcases h2 with h2 | h2 | h2 | h2
  · exact Or.inl (Int32.toBitVec_inj.mp (BitVec.eq_of_toNat_eq h2))
  · exact Or.inr (Or.inl (Int32.toBitVec_inj.mp (BitVec.eq_of_toNat_eq h2)))
  · exact Or.inr (Or.inr (Or.inl (Int32.toBitVec_inj.mp (BitVec.eq_of_toNat_eq h2))))
  · exact Or.inr (Or.inr (Or.inr (Int32.toBitVec_inj.mp (BitVec.eq_of_toNat_eq h2))))
theorem ushr16 (x : Int32) : ¬ Jvm.Free.XT.ushr x 16 < 0 := by
  have h1 : (Jvm.Free.XT.ushr x 16).toBitVec.toNat < 65536 := by
    show (x.toUInt32 >>> ((16 : Int32) &&& 31).toUInt32).toNat < 65536
    rw [show ((16 : Int32) &&& 31).toUInt32 = 16 from by decide, UInt32.toNat_shiftRight, show (16 : UInt32).toNat % 32 = 16 from rfl, Nat.shiftRight_eq_div_pow]
    have := x.toUInt32.toNat_lt
    omega
  have h3 : (Jvm.Free.XT.ushr x 16).toInt = (Jvm.Free.XT.ushr x 16).toBitVec.toInt := rfl
  rw [Int32.lt_iff_toInt_lt, h3, BitVec.toInt_eq_toNat_cond, if_pos (by omega), show (0 : Int32).toInt = 0 from rfl]; omega
/-- a String of none, one or two of these chars -/
def sg (n a b : Int32) : List Int32 := if n = 0 then [] else if n = 1 then [a] else [a, b]
def In3 (n : Int32) : Prop := n = 0 ∨ n = 1 ∨ n = 2
theorem sg_iff {n z a b c d : Int32} (hn : In3 n) (hz : In3 z) : sg n a b = sg z c d ↔ (n = z ∧ (n < 1 ∨ a = c) ∧ (n < 2 ∨ b = d)) := by
  rcases hn with rfl | rfl | rfl <;> rcases hz with rfl | rfl | rfl <;> simp [sg]
theorem sg_lat {n a b : Int32} (ha : Lt8 a) (hb : Lt8 b) : ∀ c ∈ sg n a b, Lt8 c := by
  unfold sg; split
  · exact cs0
  · split
    · exact csS ha cs0
    · exact csS ha (csS hb cs0)
/-- x is a String of these Latin-1 chars -/
def Sg (Z : State) (h : Heap) (x : Addr) (cs : List Int32) : Prop := cs.length ≤ 4000 ∧ (∀ c ∈ cs, Lt8 c) ∧ Exa Z h x "java/lang/String" ∧ ∃ (t : Addr) (kb : ClassId), Fld Z h x "java/lang/String" "value" "[B" (.ref t) ∧ Fld Z h x "java/lang/String" "coder" "B" (.int 0) ∧ Arv Z h t kb .byte (Int32.ofNat cs.length) ((cs.map fun c => c.toInt8.toInt32).map Value.int) (.int 0)
theorem Sg.ext {h' : Heap} {x : Addr} {cs : List Int32} (F : Sg Z h x cs) (E : Ext h h') : Sg Z h' x cs := by obtain ⟨a, b, c, t, kb, d, e, f⟩ := F; exact ⟨a, b, c.ext E, t, kb, d.ext E, e.ext E, f.ext E⟩
theorem Sg.lt {x : Addr} {cs : List Int32} (F : Sg Z h x cs) : x < h.size := F.2.2.1.lt
theorem Sg.exa {x : Addr} {cs : List Int32} (F : Sg Z h x cs) : Exa Z h x "java/lang/String" := F.2.2.1
theorem Sg.keepO {h' : Heap} {x a : Addr} {cs : List Int32} {C : String} {kk : Nat} (F : Sg Z h x cs) (K : Keep h h' [a]) (q : x ≠ a) (E : Exa Z h a C) (wi : (Cond.instantiable C kk).before a0 Z = true) : Sg Z h' x cs := by
  obtain ⟨a, b, c, t, kb, d, e, f⟩ := F
  exact ⟨a, b, c.keep K, t, kb, d.keep K (not1 q), e.keep K (not1 q), f.keep K (not1 (Exa.neArv E f wi).symm)⟩
theorem Sg.ar {x : Addr} {cs : List Int32} (F : Sg Z h x cs) : ∃ t, Fld Z h x "java/lang/String" "value" "[B" (.ref t) ∧ Fld Z h x "java/lang/String" "coder" "B" (.int 0) ∧ Ar Z h t .byte ((cs.map fun c => c.toInt8.toInt32).map Value.int) := by
  obtain ⟨a, b, c, t, kb, d, e, f⟩ := F
  exact ⟨t, d, e, by simp; omega, kb, _, by simpa using f⟩
/-- compact strings are on -/
def Cpt (Z : State) : Prop := ∃ z : Int32, ¬ z = 0 ∧ Sta Z Z.heap "java/lang/String" "COMPACT_STRINGS" "Z" (.int z)
end K
end Jvm.Own
namespace Jvm.Own
open Sem ClassFile Op Lib Jvm.Stand Jvm.Free Jvm.LawKit Jvm.RoadKit Bundle
section KU
variable {p : Program} {l : Launch} {e : Env} {R : Room} {s : State} {m : MethodId} {args : Array Value} {below : List Frame} {meth : Method} {c : Code} {Z : State} {a0 : Array Value} {EL : List (String × Nat)} {pr : Bool} {y : MethodName} {bs : ByteArray} {ml : Nat} {rt : Option FieldType} {T : State} {vm0 : Vm} {h : Heap} {k n : Nat} {Φ : Outcome → State → Prop} {Ls : Array Slot} {st : List Value} {pc q : Nat}
/-- Fini, and the object returned is safe -/
def FiniS (Z : State) (EL : List (String × Nat)) (pr : Bool) (kc ks : Nat) (Q : Option Value → Heap → Prop) (s : State) (o : Outcome) (t : State) : Prop := Fini Z EL pr kc ks Q s o t ∧ ∀ a, o = .returned (some (.ref a)) → Safe Z EL t.vm t.heap a
def ConS (l : Launch) (Z : State) (EL : List (String × Nat)) (pr : Bool) (y : MethodName) (bs : ByteArray) (ml : Nat) (rt : Option FieldType) (ws : List Cond) (rm : Room) (as' : Array Value) (sf : List Addr) (h : Heap) (Q : Option Value → Heap → Prop) : Prop :=
  MetFree l y (head1 (Cond.code y bs ml rt :: ws) rm) (fun a U => a = as' ∧ Z.Warmed39 U.vm ∧ U.heap = h ∧ CHv Z EL U.vm h ∧ ∀ x ∈ sf, Safe Z EL U.vm h x) (fun _ _ _ _ _ => True) (fun _ U o U' => FiniS Z EL pr rm.cells rm.slots Q U o U')
theorem ConS.intro {ws : List Cond} {rm : Room} {as' : Array Value} {sf : List Addr} {Q : Option Value → Heap → Prop} (hpl : plainFor y = true) (hEL : EW Z a0 EL) (hO : Ext Z.heap h) (hef : ∀ m, entryFrame m as' ml = mkF m 0 Ls [])
    (body : ∀ (p : Program) (e : Env) (s : State) (m : MethodId) (below : List Frame) (meth : Method) (c : Code) (T : State), Wk p l e rm s m as' below meth c Z a0 EL pr y bs ml rt T s.vm h 0 0 → (∀ x ∈ sf, Safe Z EL s.vm h x) → Go p e below (FiniS Z EL pr rm.cells rm.slots Q s) (T.setTop (mkF m 0 Ls []))) :
    ConS l Z EL pr y bs ml rt ws rm as' sf h Q := by
  refine MetFree.of_bodySF hpl hisR ?_
  intro p e s m args below meth c s₁ Bd hml0 hP hK
  obtain ⟨rfl, hZ, hh, hC, hsf⟩ := hP
  have X0 : Stand p l e rm s m args below meth c s₁ [] 0 0 := Stand.of_body Bd
  have e0 : s₁.heap = h := by rw [← hh, Bd.state]; rfl
  have hown : s.vm.findClass y.cls = some m.cls := findClass_of_methodNamed Bd.named
  have hnm := (name_of_methodNamed Bd.named Bd.method).1
  have w : Wk p l e rm s m args below meth c Z a0 EL pr y bs ml rt s₁ s.vm h 0 0 :=
    ⟨⟨Bd.exec, Bd.bytes, hml0, Bd.returns, Bd.notSynchronized, hnm, hEL⟩, h.size, [], X0, e0, hZ, hown, (State.WarmedH.refl s).since _, Nat.le_refl _, Fr.nil _, by subst hh; exact CHr.refl hC, hO, fun _ => State.WarmedH.refl s⟩
  have q := body p e s m below meth c s₁ w hsf
  rw [← hef] at q
  exact q
theorem g_retaS (w : Wk p l e R s m args below meth c Z a0 EL pr y bs ml rt T vm0 h k n) {Q : Option Value → Heap → Prop} {t : FieldType} {a : Addr} (hd : decode bs pc = .ok (.areturn, 1)) (ht : rt = some t) (hr : t.isReference = true) (hk : k ≤ R.cells) (hn' : n ≤ R.slots) (ha : a < h.size) (S : Safe Z EL vm0 h a) (hQ : Q (some (.ref a)) h) : Go p e below (FiniS Z EL pr R.cells R.slots Q s) (T.setTop (mkF m pc Ls (.ref a :: st))) := by
  have hn : narrow t (.ref a) = .ref a := by cases t <;> simp [FieldType.isReference] at hr <;> rfl
  obtain ⟨fs, hr', hrun, hended, hf⟩ := w.fin (v := some (.ref a)) (fun q => by rw [ht] at q; cases q) hk hn' hQ
  obtain ⟨⟨hx, hb1, hml, hrt, hlk, hnm, hEL⟩, k0, locs, X, rfl, hZ, hown, hS, hk0, N, C, O, hpr⟩ := w
  exact ⟨_, _, retOut X hx (hrt.trans ht) hn (Or.inr (Or.inr (Or.inr (Or.inr ⟨rfl, hr, rfl⟩)))) (hb hb1 hd) hr', hrun, hended, hf, fun b eb => by cases eb; exact (CHv.at X hZ hEL C.1).safe ha S⟩
theorem ConS.back {y' : MethodName} {bs' : ByteArray} {ml' : Nat} {rt' : Option FieldType} {rm : Room} {as' : Array Value} {sf : List Addr} {Q : Option Value → Heap → Prop} {len W : Nat} (hM : ConS l Z EL pr y' bs' ml' rt' [] rm as' sf h Q) (hsf : ∀ x ∈ sf, x < h.size ∧ Safe Z EL vm0 h x) (hZ : Z.Warmed39 vm0) (wc : (Cond.code y' bs' ml' rt').before a0 Z = true) (wz : (Cond.initialized y'.cls).before a0 Z = true)
    (hf : rm.frames + 1 ≤ R.frames) (hl : W + (ml' + 11) + rm.locals ≤ R.locals) (hEL : EW Z a0 EL) (H : CHv Z EL vm0 h) :
    BackS l R p e below (s.setVm vm0) args y' len W (fun A a => a = as' ∧ A.U.heap = h ∧ A.cells + rm.cells ≤ R.cells ∧ A.slots + rm.slots ≤ R.slots)
      (fun A _ v B => ∃ L, ((Q v B.U.heap ∧ ∀ a, v = some (.ref a) → Safe Z EL B.U.vm B.U.heap a) ∧ Ext Z.heap B.U.heap ∧ Fr Z.heap.size L) ∧ B.locs = A.locs ++ L ∧ B.cells = A.cells + rm.cells ∧ B.slots = A.slots + rm.slots ∧ CHr Z EL vm0 h B.U.vm B.U.heap ∧ (pr = true → A.U.WarmedH B.U.vm)) :=
  BackS.of_freeW (bytes := bs') (maxL := ml') (ret := rt') (E := fun _ first o t L kk nn => kk = rm.cells ∧ nn = rm.slots ∧ (∃ v, o = .returned v ∧ (Q v t.heap ∧ ∀ a, v = some (.ref a) → Safe Z EL t.vm t.heap a) ∧ Ext Z.heap t.heap ∧ Fr Z.heap.size L) ∧ CHr Z EL first.vm first.heap t.vm t.heap ∧ (pr = true → first.WarmedH t.vm)) hM hf hl
    (fun m meth c A a Y hp => have hU : Z.Warmed39 A.U.vm := wtrans (s := s.setVm vm0) hZ Y.warmed
      ⟨by show (Cond.and _ .tt).before a A.U = true; rw [Cond.before_and, mv hU wc]; rfl, mv hU wc, mv hU wz, hp.2.2.1, hp.2.2.2⟩)
    (fun m meth c A a g mk Y hp => ⟨hp.1, wtrans (s := s.setVm vm0) hZ Y.warmed, hp.2.1, (CHv.at Y hZ hEL H).1, fun x hx => (CHv.at Y hZ hEL H).safe (hsf x hx).1 (hsf x hx).2⟩) (fun _ _ _ _ _ _ _ _ _ => trivial)
    (fun _ _ _ _ ⟨⟨v, L, h1, h2, h3, h4, h5, h6, h7⟩, h8⟩ => ⟨L, _, _, h7, rfl, rfl, ⟨v, h1, ⟨h2, fun a ea => h8 a (by rw [h1, ea])⟩, h3, h4⟩, h5, h6⟩)
    (fun m meth c A a g mk v t L kk nn Y hp _ _ ⟨e1, e2, ⟨v', e3, e4⟩, e5, e6⟩ => by
      cases e3; subst e1 e2
      refine ⟨L, e4, rfl, rfl, rfl, (CHv.at Y hZ hEL H).trans ?_, e6⟩
      rw [← hp.2.1]; exact e5)
theorem g_staticS (w : Wk p l e R s m args below meth c Z a0 EL pr y bs ml rt T vm0 h k n) {y' : MethodName} {bs' : ByteArray} {ml' : Nat} {rt' : Option FieldType} {rm : Room} {Q : Option Value → Heap → Prop} {i W : Nat} {argsL : List Value} {ps : List FieldType} {rr : Option FieldType} {stk : List Value} {sf : List Addr} (hM : ConS l Z EL pr y' bs' ml' rt' [] rm argsL.toArray sf h Q) (hsf : ∀ x ∈ sf, x < h.size ∧ Safe Z EL vm0 h x) (hd : decode bs pc = .ok (.invokestatic i, 3)) (hq : pc + 3 = q) (hsz : Ls.size = ml)
    (w1 : (Cond.methodLink y.cls i y').before a0 Z = true) (w2 : (Cond.static y').before a0 Z = true) (w3 : (Cond.initialized y'.cls).before a0 Z = true) (w4 : (Cond.code y' bs' ml' rt').before a0 Z = true) (hy : y'.cls ≠ "java/lang/invoke/MethodHandle" ∧ y'.cls ≠ "java/lang/invoke/VarHandle") (hpd : parseMethodDescriptor y'.desc = some ⟨ps, rr⟩) (hlen : argsL.length = ps.length) (hst : stk = argsL.reverse ++ st)
    (hW : 2 * 0 + (st.map fun v => v.category).sum ≤ W) (hf : rm.frames + 1 ≤ R.frames) (hl : W + (ml' + 11) + rm.locals ≤ R.locals) (hc : k + rm.cells ≤ R.cells) (hs : n + rm.slots ≤ R.slots)
    (K : ∀ T' h' v, Wk p l e R s m args below meth c Z a0 EL pr y bs ml rt T' T'.vm h' (k + rm.cells) (n + rm.slots) → h.size ≤ h'.size → CHr Z EL vm0 h T'.vm h' → Q v h' → (∀ a, v = some (.ref a) → Safe Z EL T'.vm h' a) → Go p e below Φ (T'.setTop (mkF m q Ls (v.toList ++ st)))) : Go p e below Φ (T.setTop (mkF m pc Ls stk)) := by
  subst hq hst; have w' := w; obtain ⟨⟨hx, hb1, hml, hrt, hlk, hnm, hEL⟩, k0, locs, X, hh, hZ, hown, hS, hk0, N, C, O, hpr⟩ := w
  obtain ⟨v, vm₁, ⟨T', L', k', n'⟩, hW1, X', hS', hg, ⟨L, ⟨hQ, hO', hF⟩, hl', hk', hn', hC', hp'⟩, stp⟩ := callSS X hx hown (mvT (s := s.setVm vm0) hZ w1) (mvT (s := s.setVm vm0) hZ w2) (mvT (s := s.setVm vm0) hZ w3) (mvT (s := s.setVm vm0) hZ w4) hy (hM.back hsf hZ w4 w3 hf hl hEL C.1) (g := mkF m pc Ls (argsL.reverse ++ st)) rfl (hsz.trans hml.symm) (lenOf hpd hlen) rfl hW (hb hb1 hd) (fun _ _ => ⟨rfl, hh, hc, hs⟩)
  dsimp only [Pt.U, Pt.locs, Pt.cells, Pt.slots] at X' hS' hg hQ hO' hl' hk' hn' hC' hp' stp
  subst hl' hk' hn'
  exact (K T' T'.heap v (w'.after X' hS' hg (N.app hF) hC' hO' fun q => State.WarmedH.trans (t := T.setVm vm₁) hW1 (hp' q)) hC'.2.1 hC' hQ.1 hQ.2).pre' stp
theorem fits_long (x : Int64) : fits .long (.long x) = true := rfl
/-- lastore into a new long[] -/
theorem g_lastore (w : Wk p l e R s m args below meth c Z a0 EL pr y bs ml rt T vm0 h k n) {a : Addr} {vs : List Value} {j : Int32} {x : Int64} {i : Nat} (hd : decode bs pc = .ok (.lastore, 1)) (hq : pc + 1 = q) (A : Ar Z h a .long vs) (hj : j = Int32.ofNat i) (hi : i < vs.length) (ga : Z.heap.size ≤ a) (S : Safe Z EL vm0 h a)
    (K : ∀ T' h', Wk p l e R s m args below meth c Z a0 EL pr y bs ml rt T' vm0 h' k n → Wr h h' a i (.long x) → Ar Z h' a .long (vs.set i (.long x)) → Go p e below Φ (T'.setTop (mkF m q Ls st))) : Go p e below Φ (T.setTop (mkF m pc Ls (.long x :: .int j :: .ref a :: st))) := by
  subst hq hj; obtain ⟨⟨hx, hb1, hml, hrt, hlk, hnm, hEL⟩, k0, locs, X, hh, hZ, hown, hS, hk0, N, C, O, hpr⟩ := w
  obtain ⟨hv, kC, dv, cl, B, q1, S1, q3, H1, G1⟩ := A
  obtain ⟨T', h', X', e', W, g'⟩ := Jvm.RoadKit.stJ X hx hZ hh B (j := Int32.ofNat i) (inb hv S1 hi) (g := mkF m pc Ls (.long x :: .int (Int32.ofNat i) :: .ref a :: st)) rfl rfl (hb hb1 hd)
  have V := Arv.set B q1 S1 q3 H1 G1 (fits_long x) W i (ofNat_clamp (by omega)) hi
  rw [ofNat_clamp (by omega)] at W
  exact (K T' h' ⟨⟨hx, hb1, hml, hrt, hlk, hnm, hEL⟩, k0, _, X', e', hZ, hown, hS, by rw [W.size]; exact hk0, N.snoc X' ga, C.trans (CHr.wr W S C.1), ext_wr O W ga, hpr⟩ W ⟨by simpa using hv, kC, dv, by rw [List.length_set]; exact V⟩).pre g'
theorem g_laload (w : Wk p l e R s m args below meth c Z a0 EL pr y bs ml rt T vm0 h k n) {a : Addr} {vs : List Value} {j : Int32} {i : Nat} {v : Value} (hd : decode bs pc = .ok (.laload, 1)) (hq : pc + 1 = q) (A : Ar Z h a .long vs) (hj : j = Int32.ofNat i) (hi : i < vs.length) (hv' : vs[i]? = some v) (hr : Go p e below Φ (T.setTop (mkF m q Ls (v :: st)))) : Go p e below Φ (T.setTop (mkF m pc Ls (.int j :: .ref a :: st))) := by
  subst hq hj; obtain ⟨⟨hx, hb1, hml, hrt, hlk, hnm, hEL⟩, k0, locs, X, hh, hZ, hown, hS, hk0, N, C, O, hpr⟩ := w
  obtain ⟨hv, kC, dv, cl, B, q1, S1, q3, H1, G1⟩ := A
  refine hr.pre fun t r => X.laload (g := mkF m pc Ls (.int (Int32.ofNat i) :: .ref a :: st)) hx (by rw [hh]; exact B.1) (State.isArrayOf_alike hZ.alike B.2.1) B.2.2 (inb hv S1 hi) (H1.at (inb hv S1 hi) (by rw [ofNat_clamp (by omega), List.getD_eq_getElem?_getD, hv']; rfl)) rfl rfl (hb hb1 hd) t r
end KU
end Jvm.Own
/- laws to paste: Road.lenW, pair_says, lo8_mask, Road.codOf (cut by pick.py; bodies as the Statement names them) -/
namespace Jvm.Pilot.@@N@@
namespace StrChars
open Jvm Sem ClassFile Op Lib Jvm.Stand Jvm.Free.XT Jvm.Free.ALB Jvm.Free.JM Jvm.Free
open Jvm.Lib.Cold (StaticIs)
/-- a char array whose places are chars -/
def Ch (a : Addr) (A : Cell) (U : State) : Prop := Arr .char a A U ∧ Typed .char A
theorem Ch.mv {a : Addr} {A : Cell} {U U' : State} (h : Ch a A U) (hal : U.vm.Alike U'.vm) (hh : U'.heap = U.heap) : Ch a A U' := ⟨h.1.mv hal hh, h.2⟩
theorem Ch.keep {a : Addr} {A : Cell} {U U' : State} (h : Ch a A U) (hal : U.vm.Alike U'.vm) (hk : U'.heap[a]? = some A) : Ch a A U' := ⟨h.1.keep hal hk, h.2⟩
/-- what place i of a char[]'s cell holds -/
def cv (A : Cell) (i : Nat) : Int32 := match A.slots[i]? with | some (.int x) => x | _ => 0
theorem Ch.get {a : Addr} {A : Cell} {U : State} (h : Ch a A U) {i : Nat} (hi : i < A.slots.size) : A.slots[i]? = some (.int (cv A i)) := by
  have e := Array.getElem?_eq_getElem hi
  have f := h.2 i _ e
  unfold cv; rw [e]
  generalize A.slots[i] = v at f
  cases v <;> simp [fits] at f ⊢
/-- the byte that i2b leaves of a char -/
def lo8 (x : Int32) : Int32 := x.toInt8.toInt32
theorem fits_lo8 (y : Int32) : fits .byte (.int (lo8 y)) = true := by
  have h1 := y.toInt8.le_toInt
  have h2 := y.toInt8.toInt_lt
  simp only [lo8, fits, Bool.and_eq_true, decide_eq_true_eq, Int32.le_iff_toInt_le, Int8.toInt_toInt32, show (-128 : Int32).toInt = -128 from by decide, show (127 : Int32).toInt = 127 from by decide]
  omega
/-- A' is A but that each place j of lo .. hi - 1 holds f j -/
def Laid (A A' : Cell) (lo hi : Nat) (f : Nat → Value) : Prop := A'.cls = A.cls ∧ A'.vm = A.vm ∧ A'.slots.size = A.slots.size ∧ ∀ i, A'.slots[i]? = if lo ≤ i ∧ i < hi then some (f i) else A.slots[i]?
theorem Laid.zero (A : Cell) (lo : Nat) (f : Nat → Value) : Laid A A lo (lo + 0) f := ⟨rfl, rfl, rfl, fun i => by rw [if_neg (by omega)]⟩
theorem Laid.step {A Ak : Cell} {lo k : Nat} {f : Nat → Value} {v : Value} (h : Laid A Ak lo k f) (hlo : lo ≤ k) (hk : k < Ak.slots.size) (hv : v = f k) : Laid A (Ak.setSlot k v) lo (k + 1) f := by
  refine ⟨h.1, h.2.1, by simpa [Cell.setSlot] using h.2.2.1, fun i => ?_⟩
  by_cases e : k = i
  · subst e; rw [Cell.slots_setSlot_self v hk, if_pos (by omega), hv]
  · rw [Cell.slots_setSlot_ne v e, h.2.2.2 i]
    by_cases q : lo ≤ i ∧ i < k
    · rw [if_pos q, if_pos (by omega)]
    · rw [if_neg q, if_neg (by omega)]
def U16 : String := "java/lang/StringUTF16"
namespace Cmp5
def yN : MethodName := ⟨"java/lang/StringUTF16", "compress", "([CI[BII)I"⟩
abbrev yB : ByteArray := jdk_52_method_21_code
theorem d0 : decode yB 0 = .ok (.iconst 0, 1) := by decide +kernel
theorem d1 : decode yB 1 = .ok (.istore 5, 2) := by decide +kernel
theorem d3 : decode yB 3 = .ok (.iload 5, 2) := by decide +kernel
theorem d5 : decode yB 5 = .ok (.iload 4, 2) := by decide +kernel
theorem d7 : decode yB 7 = .ok (.if_icmp (.ge) 37, 3) := by decide +kernel
theorem d10 : decode yB 10 = .ok (.aload_n 0, 1) := by decide +kernel
theorem d11 : decode yB 11 = .ok (.iload_n 1, 1) := by decide +kernel
theorem d12 : decode yB 12 = .ok (.caload, 1) := by decide +kernel
theorem d13 : decode yB 13 = .ok (.istore 6, 2) := by decide +kernel
theorem d15 : decode yB 15 = .ok (.iload 6, 2) := by decide +kernel
theorem d17 : decode yB 17 = .ok (.sipush 255, 3) := by decide +kernel
theorem d20 : decode yB 20 = .ok (.if_icmp (.le) 6, 3) := by decide +kernel
theorem d26 : decode yB 26 = .ok (.aload_n 2, 1) := by decide +kernel
theorem d27 : decode yB 27 = .ok (.iload_n 3, 1) := by decide +kernel
theorem d28 : decode yB 28 = .ok (.iload 6, 2) := by decide +kernel
theorem d30 : decode yB 30 = .ok (.i2b, 1) := by decide +kernel
theorem d31 : decode yB 31 = .ok (.bastore, 1) := by decide +kernel
theorem d32 : decode yB 32 = .ok (.iinc 1 1, 3) := by decide +kernel
theorem d35 : decode yB 35 = .ok (.iinc 3 1, 3) := by decide +kernel
theorem d38 : decode yB 38 = .ok (.iinc 5 1, 3) := by decide +kernel
theorem d41 : decode yB 41 = .ok (.goto (-38), 3) := by decide +kernel
theorem d44 : decode yB 44 = .ok (.iload 4, 2) := by decide +kernel
theorem d46 : decode yB 46 = .ok (.ireturn, 1) := by decide +kernel
def site : List Cond := []
def tab : Cond := tabOf yN yB 7 (some .int) site
def P (b : Addr) (A : Cell) (d : Addr) (B : Cell) (o q len : Nat) (args : Array Value) (s : State) : Prop := args = #[.ref b, .int (Int32.ofNat o), .ref d, .int (Int32.ofNat q), .int (Int32.ofNat len)] ∧ Ch b A s ∧ Arr .byte d B s ∧ b ≠ d ∧ o + len ≤ A.slots.size ∧ q + len ≤ B.slots.size ∧ ∀ i, i < len → ¬ 255 < cv A (o + i)
def E (b : Addr) (A : Cell) (d : Addr) (B : Cell) (o q len : Nat) (r : Option Value) (s u : State) : Prop := r = some (.int (Int32.ofNat len)) ∧ ∃ B', Put d B' s u ∧ Laid B B' q (q + len) (fun j => Value.int (lo8 (cv A (o + (j - q)))))
/-- no char of the range above 255: len; the places written hold each char's low byte -/
theorem law (l : Launch) (b : Addr) (A : Cell) (d : Addr) (B : Cell) (o q len : Nat) : Law l yN 5 5 0 0 yB 7 (some .int) site (P b A d B o q len) (E b A d B o q len) (copyLocs d q len) 0 0 := by
  refine Law.of_walk (plainFor_of_name (by decide +kernel)) (by decide +kernel) (by decide +kernel) (by decide) (fun _ _ h => by rw [h.1]; rfl) (fun _ U U' hal hh h => ⟨h.1, h.2.1.mv hal hh, h.2.2.1.mv hal hh, h.2.2.2⟩) (fun r U U' V V' h1 hal h2 h => ⟨h.1, h.2.elim fun B' q => ⟨B', q.1.mv h1 h2, q.2⟩⟩) ?_
  intro p e s m args below meth c s₁ X0 hexec hbytes hml hret hlk hnm hown hh0 W hP
  obtain ⟨rfl, hA, hB, hne, l1, l2, hp⟩ := hP
  have c1 : Steps p.tables e below (s₁.setTop (entryFrame m #[.ref b, .int (Int32.ofNat o), .ref d, .int (Int32.ofNat q), .int (Int32.ofNat len)] 7)) (s₁.setTop (mkF m 0 #[.val (.ref b), .val (.int (Int32.ofNat o)), .val (.ref d), .val (.int (Int32.ofNat q)), .val (.int (Int32.ofNat len)), .unset, .unset] [])) := entry rfl
  have hA0 := hA.1.mv X0.warmed.alike hh0
  have hB0 := hB.mv X0.warmed.alike hh0
  have a31 := hA.1.2.2.2
  have c2 : Steps p.tables e below (s₁.setTop (entryFrame m #[.ref b, .int (Int32.ofNat o), .ref d, .int (Int32.ofNat q), .int (Int32.ofNat len)] 7)) (s₁.setTop (mkF m 3 #[.val (.ref b), .val (.int (Int32.ofNat o)), .val (.ref d), .val (.int (Int32.ofNat q)), .val (.int (Int32.ofNat len)), .val (.int 0), .unset] [])) := c1.trans (by
    refine iconstV X0.here hexec rfl 0 (hb hbytes d0) (by decide) ?_
    refine XS.istore X0.here hexec rfl (hb hbytes d1) rfl rfl ?_
    exact Steps.refl _)
  have loop : ∀ (r i : Nat), i + r = len → ∀ (z : Slot), (z = .unset ∨ ∃ w, z = .val w ∧ w.category = 1) → ∀ (Tl : State) (Bk : Cell), Stand p l e { frames := 0, locals := 0, cells := 0, slots := 0 } s m #[.ref b, .int (Int32.ofNat o), .ref d, .int (Int32.ofNat q), .int (Int32.ofNat len)] below meth c Tl ([] ++ copyLocs d q i) 0 0 → Put d Bk s₁ Tl → Laid B Bk q (q + i) (fun j => Value.int (lo8 (cv A (o + (j - q))))) →
      Steps p.tables e below (s₁.setTop (entryFrame m #[.ref b, .int (Int32.ofNat o), .ref d, .int (Int32.ofNat q), .int (Int32.ofNat len)] 7)) (Tl.setTop (mkF m 3 #[.val (.ref b), .val (.int (Int32.ofNat (o + i))), .val (.ref d), .val (.int (Int32.ofNat (q + i))), .val (.int (Int32.ofNat len)), .val (.int (Int32.ofNat i)), z] [])) → ∃ (T' : State) (B' : Cell) (z' : Slot), Stand p l e { frames := 0, locals := 0, cells := 0, slots := 0 } s m #[.ref b, .int (Int32.ofNat o), .ref d, .int (Int32.ofNat q), .int (Int32.ofNat len)] below meth c T' ([] ++ copyLocs d q len) 0 0 ∧ Put d B' s₁ T' ∧ Laid B B' q (q + len) (fun j => Value.int (lo8 (cv A (o + (j - q))))) ∧
      Steps p.tables e below (s₁.setTop (entryFrame m #[.ref b, .int (Int32.ofNat o), .ref d, .int (Int32.ofNat q), .int (Int32.ofNat len)] 7)) (T'.setTop (mkF m 3 #[.val (.ref b), .val (.int (Int32.ofNat (o + len))), .val (.ref d), .val (.int (Int32.ofNat (q + len))), .val (.int (Int32.ofNat len)), .val (.int (Int32.ofNat len)), z'] [])) := by
    intro r
    induction r with
    | zero =>
      intro i hi z hz Tl Bk Xl pl fl cl
      have hil : i = len := by omega
      rw [hil] at Xl fl cl
      exact ⟨Tl, Bk, z, Xl, pl, fl, cl⟩
    | succ r ih =>
      intro i hi z hz Tl Bk Xl pl fl cl
      have all := X0.warmed.alike.symm.trans Xl.warmed.alike
      have hAl := hA0.keep all (pl.other hne hA0.1)
      have hBk := hB0.like all pl.1 fl.1 fl.2.1 fl.2.2.1
      have hlt : q + i < Bk.slots.size := by rw [fl.2.2.1]; omega
      have c3 : Steps p.tables e below (s₁.setTop (entryFrame m #[.ref b, .int (Int32.ofNat o), .ref d, .int (Int32.ofNat q), .int (Int32.ofNat len)] 7)) (Tl.setTop (mkF m 12 #[.val (.ref b), .val (.int (Int32.ofNat (o + i))), .val (.ref d), .val (.int (Int32.ofNat (q + i))), .val (.int (Int32.ofNat len)), .val (.int (Int32.ofNat i)), z] [.int (Int32.ofNat (o + i)), .ref b])) := cl.trans (by
        refine XS.iload Xl.here hexec rfl (hb hbytes d3) rfl ?_
        refine XS.iload Xl.here hexec rfl (hb hbytes d5) rfl ?_
        refine XS.icmpNo Xl.here hexec rfl (hb hbytes d7) rfl (ii_ge_f (lt32 (by omega) (by omega))) ?_
        refine XS.aloadN Xl.here hexec rfl (hb hbytes d10) rfl rfl ?_
        refine XS.iloadN Xl.here hexec rfl (hb hbytes d11) rfl ?_
        exact Steps.refl _)
      have c4 : Steps p.tables e below (s₁.setTop (entryFrame m #[.ref b, .int (Int32.ofNat o), .ref d, .int (Int32.ofNat q), .int (Int32.ofNat len)] 7)) (Tl.setTop (mkF m 13 #[.val (.ref b), .val (.int (Int32.ofNat (o + i))), .val (.ref d), .val (.int (Int32.ofNat (q + i))), .val (.int (Int32.ofNat len)), .val (.int (Int32.ofNat i)), z] [.int (cv A (o + i))])) := c3.trans (by
        refine Xl.aget hexec hAl rfl (hA.get (i := o + i) (by omega)) rfl rfl (hb hbytes d12) ?_
        exact Steps.refl _)
      have c5 : Steps p.tables e below (s₁.setTop (entryFrame m #[.ref b, .int (Int32.ofNat o), .ref d, .int (Int32.ofNat q), .int (Int32.ofNat len)] 7)) (Tl.setTop (mkF m 15 #[.val (.ref b), .val (.int (Int32.ofNat (o + i))), .val (.ref d), .val (.int (Int32.ofNat (q + i))), .val (.int (Int32.ofNat len)), .val (.int (Int32.ofNat i)), .val (.int (cv A (o + i)))] [])) := c4.trans (by
        refine XS.istoreS Xl.here hexec rfl (hb hbytes d13) rfl rfl hz ?_
        exact Steps.refl _)
      have c6 : Steps p.tables e below (s₁.setTop (entryFrame m #[.ref b, .int (Int32.ofNat o), .ref d, .int (Int32.ofNat q), .int (Int32.ofNat len)] 7)) (Tl.setTop (mkF m 31 #[.val (.ref b), .val (.int (Int32.ofNat (o + i))), .val (.ref d), .val (.int (Int32.ofNat (q + i))), .val (.int (Int32.ofNat len)), .val (.int (Int32.ofNat i)), .val (.int (cv A (o + i)))] [.int (lo8 (cv A (o + i))), .int (Int32.ofNat (q + i)), .ref d])) := c5.trans (by
        refine XS.iload Xl.here hexec rfl (hb hbytes d15) rfl ?_
        refine sipushV Xl.here hexec rfl 255 (hb hbytes d17) (by decide) ?_
        refine XS.icmpYes Xl.here hexec rfl (pc0 := 20) rfl (hb hbytes d20) rfl (ii_le_t (hp i (by omega))) (by decide) rfl ?_
        refine XS.aloadN Xl.here hexec rfl (hb hbytes d26) rfl rfl ?_
        refine XS.iloadN Xl.here hexec rfl (hb hbytes d27) rfl ?_
        refine XS.iload Xl.here hexec rfl (hb hbytes d28) rfl ?_
        refine i2b Xl.here hexec rfl (hb hbytes d30) rfl ?_
        exact Steps.refl _)
      obtain ⟨T7, X7, p7, st7⟩ := Xl.aput hexec hBk rfl hlt rfl (fits_lo8 (cv A (o + i))) (g := (mkF m 31 #[.val (.ref b), .val (.int (Int32.ofNat (o + i))), .val (.ref d), .val (.int (Int32.ofNat (q + i))), .val (.int (Int32.ofNat len)), .val (.int (Int32.ofNat i)), .val (.int (cv A (o + i)))] [.int (lo8 (cv A (o + i))), .int (Int32.ofNat (q + i)), .ref d])) rfl (rest := []) rfl (hb hbytes d31)
      have c8 : Steps p.tables e below (s₁.setTop (entryFrame m #[.ref b, .int (Int32.ofNat o), .ref d, .int (Int32.ofNat q), .int (Int32.ofNat len)] 7)) (T7.setTop (mkF m 32 #[.val (.ref b), .val (.int (Int32.ofNat (o + i))), .val (.ref d), .val (.int (Int32.ofNat (q + i))), .val (.int (Int32.ofNat len)), .val (.int (Int32.ofNat i)), .val (.int (cv A (o + i)))] [])) := c6.trans (st7 _ (Steps.refl _))
      have c9 : Steps p.tables e below (s₁.setTop (entryFrame m #[.ref b, .int (Int32.ofNat o), .ref d, .int (Int32.ofNat q), .int (Int32.ofNat len)] 7)) (T7.setTop (mkF m 3 #[.val (.ref b), .val (.int (Int32.ofNat (o + i) + 1)), .val (.ref d), .val (.int (Int32.ofNat (q + i) + 1)), .val (.int (Int32.ofNat len)), .val (.int (Int32.ofNat i + 1)), .val (.int (cv A (o + i)))] [])) := c8.trans (by
        refine iincV X7.here hexec rfl 1 (hb hbytes d32) (by decide) rfl rfl ?_
        refine iincV X7.here hexec rfl 1 (hb hbytes d35) (by decide) rfl rfl ?_
        refine iincV X7.here hexec rfl 1 (hb hbytes d38) (by decide) rfl rfl ?_
        refine XS.goto X7.here hexec rfl (pc0 := 41) rfl (hb hbytes d41) (by decide) rfl ?_
        exact Steps.refl _)
      have c10 : Steps p.tables e below (s₁.setTop (entryFrame m #[.ref b, .int (Int32.ofNat o), .ref d, .int (Int32.ofNat q), .int (Int32.ofNat len)] 7)) (T7.setTop (mkF m 3 #[.val (.ref b), .val (.int (Int32.ofNat (o + (i + 1)))), .val (.ref d), .val (.int (Int32.ofNat (q + (i + 1)))), .val (.int (Int32.ofNat len)), .val (.int (Int32.ofNat (i + 1))), .val (.int (cv A (o + i)))] [])) := by
        have := c9
        rw [succ32, succ32, succ32] at this
        exact this
      exact ih (i + 1) (by omega) _ (Or.inr ⟨_, rfl, rfl⟩) T7 _ (by rw [copyLocs_step, ← List.append_assoc]; exact X7) (pl.trans p7) (fl.step (by omega) hlt (by simp)) c10
  obtain ⟨T9, B9, z9, X9, p9, f9, g9⟩ := loop len 0 (by omega) .unset (Or.inl rfl) s₁ B (by simpa [copyLocs] using X0) ⟨hB0.1, fun _ _ => rfl, rfl⟩ (Laid.zero _ _ _) c2
  have c11 : Steps p.tables e below (s₁.setTop (entryFrame m #[.ref b, .int (Int32.ofNat o), .ref d, .int (Int32.ofNat q), .int (Int32.ofNat len)] 7)) (T9.setTop (mkF m 46 #[.val (.ref b), .val (.int (Int32.ofNat (o + len))), .val (.ref d), .val (.int (Int32.ofNat (q + len))), .val (.int (Int32.ofNat len)), .val (.int (Int32.ofNat len)), z9] [.int (Int32.ofNat len)])) := g9.trans (by
    refine XS.iload X9.here hexec rfl (hb hbytes d3) rfl ?_
    refine XS.iload X9.here hexec rfl (hb hbytes d5) rfl ?_
    refine XS.icmpYes X9.here hexec rfl (pc0 := 7) rfl (hb hbytes d7) rfl (ii_ge_t (nlt32 (by omega) (Nat.le_refl _))) (by decide) rfl ?_
    refine XS.iload X9.here hexec rfl (hb hbytes d44) rfl ?_
    exact Steps.refl _)
  exact ⟨T9, some (.int (Int32.ofNat len)), _, _, _, X9, by simp, rfl, rfl, (fun h => by cases h), ⟨rfl, B9, p9.from hh0, f9⟩, fun fs hl => c11.trans (X9.ireturnOut hexec hret rfl (Or.inl rfl) (hb hbytes d46) hl)⟩
end Cmp5
namespace Cmp3
def yN : MethodName := ⟨"java/lang/StringUTF16", "compress", "([CII)[B"⟩
abbrev yB : ByteArray := jdk_52_method_16_code
theorem d0 : decode yB 0 = .ok (.iload_n 2, 1) := by decide +kernel
theorem d1 : decode yB 1 = .ok (.newarray .byte, 2) := by decide +kernel
theorem d3 : decode yB 3 = .ok (.astore_n 3, 1) := by decide +kernel
theorem d4 : decode yB 4 = .ok (.aload_n 0, 1) := by decide +kernel
theorem d5 : decode yB 5 = .ok (.iload_n 1, 1) := by decide +kernel
theorem d6 : decode yB 6 = .ok (.aload_n 3, 1) := by decide +kernel
theorem d7 : decode yB 7 = .ok (.iconst 0, 1) := by decide +kernel
theorem d8 : decode yB 8 = .ok (.iload_n 2, 1) := by decide +kernel
theorem d9 : decode yB 9 = .ok (.invokestatic 115, 3) := by decide +kernel
theorem d12 : decode yB 12 = .ok (.istore 4, 2) := by decide +kernel
theorem d14 : decode yB 14 = .ok (.iload 4, 2) := by decide +kernel
theorem d16 : decode yB 16 = .ok (.iload_n 2, 1) := by decide +kernel
theorem d17 : decode yB 17 = .ok (.if_icmp (.eq) 40, 3) := by decide +kernel
theorem d57 : decode yB 57 = .ok (.aload_n 3, 1) := by decide +kernel
theorem d58 : decode yB 58 = .ok (.areturn, 1) := by decide +kernel
def site : List Cond := [.arrayClass .byte, Cmp5.tab] ++ staticW U16 115 Cmp5.yN
def tab : Cond := tabOf yN yB 6 (some (.array .byte)) site
def P (b : Addr) (A : Cell) (o len : Nat) (args : Array Value) (s : State) : Prop := args = #[.ref b, .int (Int32.ofNat o), .int (Int32.ofNat len)] ∧ Ch b A s ∧ o + len ≤ A.slots.size ∧ len ≤ 536870912 ∧ ∀ i, i < len → ¬ 255 < cv A (o + i)
def E (b : Addr) (A : Cell) (o len : Nat) (r : Option Value) (s u : State) : Prop := NewArr .byte "[B" len (fun j => .int (lo8 (cv A (o + j)))) r s u ∧ u.heap.size = s.heap.size + 1
/-- no char of the range above 255: a new byte[] of their low bytes -/
theorem law (l : Launch) (b : Addr) (A : Cell) (o len : Nat) : Law l yN 3 3 1 18 yB 6 (some (.array .byte)) site (P b A o len) (E b A o len) [] 1 len := by
  refine Law.of_walk (plainFor_of_name (by decide +kernel)) (by decide +kernel) (by decide +kernel) (by decide) (fun _ _ h => by rw [h.1]; rfl) (fun _ U U' hal hh h => ⟨h.1, h.2.1.mv hal hh, h.2.2⟩) (fun r U U' V V' h1 hal h2 h => ⟨NewArr.mv r U U' V V' h1 hal h2 h.1, by rw [h1, h2]; exact h.2⟩) ?_
  intro p e s m args below meth c s₁ X0 hexec hbytes hml hret hlk hnm hown hh0 W hP
  obtain ⟨rfl, hA, l1, l2, hp⟩ := hP
  have a31 := hA.1.2.2.2
  have c1 : Steps p.tables e below (s₁.setTop (entryFrame m #[.ref b, .int (Int32.ofNat o), .int (Int32.ofNat len)] 6)) (s₁.setTop (mkF m 0 #[.val (.ref b), .val (.int (Int32.ofNat o)), .val (.int (Int32.ofNat len)), .unset, .unset, .unset] [])) := entry rfl
  have c2 : Steps p.tables e below (s₁.setTop (entryFrame m #[.ref b, .int (Int32.ofNat o), .int (Int32.ofNat len)] 6)) (s₁.setTop (mkF m 1 #[.val (.ref b), .val (.int (Int32.ofNat o)), .val (.int (Int32.ofNat len)), .unset, .unset, .unset] [.int (Int32.ofNat len)])) := c1.trans (by
    refine XS.iloadN X0.here hexec rfl (hb hbytes d0) rfl ?_
    exact Steps.refl _)
  obtain ⟨T3, B3, X3, ba3, bs3, bv3, bh3, bf3, st3⟩ := X0.anew hexec (atype := .byte) (wk W (.arrayClass .byte)) rfl (by show len * 1 ≤ _; omega) (by omega) (g := (mkF m 1 #[.val (.ref b), .val (.int (Int32.ofNat o)), .val (.int (Int32.ofNat len)), .unset, .unset, .unset] [.int (Int32.ofNat len)])) rfl (hb hbytes d1) (rest := []) rfl (Nat.le_refl _) (by show 0 + len ≤ len; omega)
  rw [hh0] at ba3 st3
  have kp3 : XT.Kept s T3 := (XT.Kept.of_eq hh0).push bh3
  have hA3 := hA.keep X3.warmed.alike (kp3 _ _ hA.1.1)
  have hne : b ≠ s.heap.size := hA.1.ne
  have c4 : Steps p.tables e below (s₁.setTop (entryFrame m #[.ref b, .int (Int32.ofNat o), .int (Int32.ofNat len)] 6)) (T3.setTop (mkF m 3 #[.val (.ref b), .val (.int (Int32.ofNat o)), .val (.int (Int32.ofNat len)), .unset, .unset, .unset] [.ref s.heap.size])) := c2.trans (st3 _ (Steps.refl _))
  have c5 : Steps p.tables e below (s₁.setTop (entryFrame m #[.ref b, .int (Int32.ofNat o), .int (Int32.ofNat len)] 6)) (T3.setTop (mkF m 9 #[.val (.ref b), .val (.int (Int32.ofNat o)), .val (.int (Int32.ofNat len)), .val (.ref s.heap.size), .unset, .unset] [.int (Int32.ofNat len), .int 0, .ref s.heap.size, .int (Int32.ofNat o), .ref b])) := c4.trans (by
    refine XS.astoreN X3.here hexec rfl (hb hbytes d3) rfl rfl rfl ?_
    refine XS.aloadN X3.here hexec rfl (hb hbytes d4) rfl rfl ?_
    refine XS.iloadN X3.here hexec rfl (hb hbytes d5) rfl ?_
    refine XS.aloadN X3.here hexec rfl (hb hbytes d6) rfl rfl ?_
    refine iconstV X3.here hexec rfl 0 (hb hbytes d7) (by decide) ?_
    refine XS.iloadN X3.here hexec rfl (hb hbytes d8) rfl ?_
    exact Steps.refl _)
  obtain ⟨v6, T6, X6, E6, g6⟩ := X3.callS hexec (Cmp5.law l b A s.heap.size B3 o 0 len) hown (wks W (staticW U16 115 Cmp5.yN)) (wk W Cmp5.tab) (W := 0) (Nat.le_of_ble_eq_true rfl) (Nat.le_of_ble_eq_true rfl) (Nat.le_refl _) (by show 0 + len + 0 ≤ len; omega) (g := (mkF m 9 #[.val (.ref b), .val (.int (Int32.ofNat o)), .val (.int (Int32.ofNat len)), .val (.ref s.heap.size), .unset, .unset] [.int (Int32.ofNat len), .int (Int32.ofNat 0), .ref s.heap.size, .int (Int32.ofNat o), .ref b])) rfl (by rw [hml]; rfl) c5 (argsL := [.ref b, .int (Int32.ofNat o), .ref s.heap.size, .int (Int32.ofNat 0), .int (Int32.ofNat len)]) (rest := []) rfl rfl (by show 2 * 0 + 0 ≤ _; decide) (hb hbytes d9) (⟨rfl, hA3, ba3, hne, l1, by rw [bs3]; simp, hp⟩)
  obtain ⟨rfl, B6, p6, f6⟩ := E6
  have c7 : Steps p.tables e below (s₁.setTop (entryFrame m #[.ref b, .int (Int32.ofNat o), .int (Int32.ofNat len)] 6)) (T6.setTop (mkF m 12 #[.val (.ref b), .val (.int (Int32.ofNat o)), .val (.int (Int32.ofNat len)), .val (.ref s.heap.size), .unset, .unset] [.int (Int32.ofNat len)])) := g6
  have c8 : Steps p.tables e below (s₁.setTop (entryFrame m #[.ref b, .int (Int32.ofNat o), .int (Int32.ofNat len)] 6)) (T6.setTop (mkF m 58 #[.val (.ref b), .val (.int (Int32.ofNat o)), .val (.int (Int32.ofNat len)), .val (.ref s.heap.size), .val (.int (Int32.ofNat len)), .unset] [.ref s.heap.size])) := c7.trans (by
    refine XS.istore X6.here hexec rfl (hb hbytes d12) rfl rfl ?_
    refine XS.iload X6.here hexec rfl (hb hbytes d14) rfl ?_
    refine XS.iloadN X6.here hexec rfl (hb hbytes d16) rfl ?_
    refine XS.icmpYes X6.here hexec rfl (pc0 := 17) rfl (hb hbytes d17) rfl (ii_eq_t rfl) (by decide) rfl ?_
    refine XS.aloadN X6.here hexec rfl (hb hbytes d57) rfl rfl ?_
    exact Steps.refl _)
  have X8 := X6.wide (L' := []) (cells' := 1) (slots' := len) (fun x hx hlt => by
    simp only [List.nil_append, copyLocs, List.mem_map, List.mem_range] at hx
    obtain ⟨i, -, rfl⟩ := hx
    exact absurd hlt (Nat.lt_irrefl _)) (Nat.le_refl _) (by omega)
  exact ⟨T6, some (.ref s.heap.size), _, _, _, X8, rfl, rfl, rfl, (fun h => by cases h), ⟨⟨rfl, B6, ba3.like (X3.warmed.alike.symm.trans X6.warmed.alike) p6.1 f6.1 f6.2.1 f6.2.2.1, f6.2.1.trans bv3, by rw [X6.warmed.alike.findClass, f6.1]; exact bf3, by rw [f6.2.2.1, bs3]; simp, fun j hj => by rw [f6.2.2.2 j, if_pos (by omega)]; rfl, kp3.put p6 (Nat.le_refl _)⟩, by rw [p6.2.2, bh3, hh0]; simp⟩, fun fs hl => c8.trans (X8.areturnOut hexec rfl hret rfl (hb hbytes d58) hl)⟩
end Cmp3
namespace CodL
def yN : MethodName := ⟨"java/lang/StringUTF16", "coderFromArrayLen", "([BI)B"⟩
abbrev yB : ByteArray := jdk_52_method_15_code
theorem d0 : decode yB 0 = .ok (.iload_n 1, 1) := by decide +kernel
theorem d1 : decode yB 1 = .ok (.aload_n 0, 1) := by decide +kernel
theorem d2 : decode yB 2 = .ok (.arraylength, 1) := by decide +kernel
theorem d3 : decode yB 3 = .ok (.isub, 1) := by decide +kernel
theorem d4 : decode yB 4 = .ok (.bipush 31, 2) := by decide +kernel
theorem d6 : decode yB 6 = .ok (.iushr, 1) := by decide +kernel
theorem d7 : decode yB 7 = .ok (.i2b, 1) := by decide +kernel
theorem d8 : decode yB 8 = .ok (.ireturn, 1) := by decide +kernel
def site : List Cond := []
def tab : Cond := tabOf yN yB 2 (some .byte) site
def P (d : Addr) (B : Cell) (args : Array Value) (s : State) : Prop := args = #[.ref d, .int (Int32.ofNat B.slots.size)] ∧ Arr .byte d B s
def E (r : Option Value) (s u : State) : Prop := XT.PureE (some (.int 0)) r s u
/-- an array as long as the number of chars: LATIN1 -/
theorem law (l : Launch) (d : Addr) (B : Cell) : Law l yN 2 2 0 0 yB 2 (some .byte) site (P d B) E [] 0 0 := by
  refine Law.of_walk (plainFor_of_name (by decide +kernel)) (by decide +kernel) (by decide +kernel) (by decide) (fun _ _ h => by rw [h.1]; rfl) (fun _ U U' hal hh h => ⟨h.1, h.2.mv hal hh⟩) (fun r U U' V V' h1 hal h2 h => XT.PureE.mv r U U' V V' h1 hal h2 h) ?_
  intro p e s m args below meth c s₁ X0 hexec hbytes hml hret hlk hnm hown hh0 W hP
  obtain ⟨rfl, hB⟩ := hP
  have hB0 := hB.mv X0.warmed.alike hh0
  have c1 : Steps p.tables e below (s₁.setTop (entryFrame m #[.ref d, .int (Int32.ofNat B.slots.size)] 2)) (s₁.setTop (mkF m 0 #[.val (.ref d), .val (.int (Int32.ofNat B.slots.size))] [])) := entry rfl
  have c2 : Steps p.tables e below (s₁.setTop (entryFrame m #[.ref d, .int (Int32.ofNat B.slots.size)] 2)) (s₁.setTop (mkF m 2 #[.val (.ref d), .val (.int (Int32.ofNat B.slots.size))] [.ref d, .int (Int32.ofNat B.slots.size)])) := c1.trans (by
    refine XS.iloadN X0.here hexec rfl (hb hbytes d0) rfl ?_
    refine XS.aloadN X0.here hexec rfl (hb hbytes d1) rfl rfl ?_
    exact Steps.refl _)
  have c3 : Steps p.tables e below (s₁.setTop (entryFrame m #[.ref d, .int (Int32.ofNat B.slots.size)] 2)) (s₁.setTop (mkF m 8 #[.val (.ref d), .val (.int (Int32.ofNat B.slots.size))] [.int (lo8 (ushr (Int32.ofNat B.slots.size - Int32.ofNat B.slots.size) 31))])) := c2.trans (by
    refine X0.alen hexec hB0 rfl rfl (hb hbytes d2) ?_
    refine XS.isub X0.here hexec rfl (hb hbytes d3) rfl ?_
    refine bipushV X0.here hexec rfl 31 (hb hbytes d4) (by decide) ?_
    refine iushr X0.here hexec rfl (hb hbytes d6) rfl ?_
    refine i2b X0.here hexec rfl (hb hbytes d7) rfl ?_
    exact Steps.refl _)
  have e0 : lo8 (ushr (Int32.ofNat B.slots.size - Int32.ofNat B.slots.size) 31) = 0 := by rw [Int32.sub_self]; decide
  rw [e0] at c3
  exact ⟨s₁, some (.int 0), _, _, _, X0, rfl, rfl, rfl, (fun h => by cases h), ⟨rfl, hh0⟩, fun fs hl => c3.trans (X0.ireturnOut hexec hret rfl (Or.inr (Or.inr (Or.inl rfl))) (hb hbytes d8) hl)⟩
end CodL
/-- the String at a is Latin-1 over a new byte[] (the heap's one new cell): the low bytes of the len chars of A from o on; every cell but a is kept -/
def Got (a : Addr) (D : Cell) (fV fC : Field) (A : Cell) (o len : Nat) (r : Option Value) (s u : State) : Prop := r = none ∧ ∃ D' V : Cell, Blank "java/lang/String" a D' u ∧ Same D D' [fV.slot, fC.slot] ∧ D'.slots[fV.slot]? = some (.ref s.heap.size) ∧ D'.slots[fC.slot]? = some (.int 0) ∧ Arr .byte s.heap.size V u ∧ V.vm = .none ∧ u.vm.findClass "[B" = some V.cls ∧ V.slots.size = len ∧ (∀ j, j < len → V.slots[j]? = some (.int (lo8 (cv A (o + j))))) ∧ (∀ (y : Addr) (c : Cell), y ≠ a → s.heap[y]? = some c → u.heap[y]? = some c) ∧ u.heap.size = s.heap.size + 1
theorem Got.mv {a : Addr} {D A : Cell} {fV fC : Field} {o len : Nat} : ∀ r (U U' V V' : State), U'.heap = U.heap → V.vm.Alike V'.vm → V'.heap = V.heap → Got a D fV fC A o len r U V → Got a D fV fC A o len r U' V' :=
  fun r U U' V V' h1 hal h2 ⟨e0, D', X, a1, a2, a3, a4, a5, a6, a7, a8, a9, a10, a11⟩ => ⟨e0, D', X, a1.mv hal h2, a2, by rw [h1]; exact a3, a4, by rw [h1]; exact a5.mv hal h2, a6, by rw [hal.findClass]; exact a7, a8, a9, by rw [h1, h2]; exact a10, by rw [h1, h2]; exact a11⟩
namespace New4
def yN : MethodName := ⟨"java/lang/String", "<init>", "([CIILjava/lang/Void;)V"⟩
abbrev yB : ByteArray := jdk_42_method_149_code
theorem d0 : decode yB 0 = .ok (.aload_n 0, 1) := by decide +kernel
theorem d1 : decode yB 1 = .ok (.invokespecial 1, 3) := by decide +kernel
theorem d4 : decode yB 4 = .ok (.iload_n 3, 1) := by decide +kernel
theorem d5 : decode yB 5 = .ok (.ifCond (.ne) 22, 3) := by decide +kernel
theorem d27 : decode yB 27 = .ok (.getstatic 38, 3) := by decide +kernel
theorem d30 : decode yB 30 = .ok (.ifCond (.eq) 28, 3) := by decide +kernel
theorem d33 : decode yB 33 = .ok (.aload_n 1, 1) := by decide +kernel
theorem d34 : decode yB 34 = .ok (.iload_n 2, 1) := by decide +kernel
theorem d35 : decode yB 35 = .ok (.iload_n 3, 1) := by decide +kernel
theorem d36 : decode yB 36 = .ok (.invokestatic 177, 3) := by decide +kernel
theorem d39 : decode yB 39 = .ok (.astore 5, 2) := by decide +kernel
theorem d41 : decode yB 41 = .ok (.aload_n 0, 1) := by decide +kernel
theorem d42 : decode yB 42 = .ok (.aload 5, 2) := by decide +kernel
theorem d44 : decode yB 44 = .ok (.iload_n 3, 1) := by decide +kernel
theorem d45 : decode yB 45 = .ok (.invokestatic 47, 3) := by decide +kernel
theorem d48 : decode yB 48 = .ok (.putfield 15, 3) := by decide +kernel
theorem d51 : decode yB 51 = .ok (.aload_n 0, 1) := by decide +kernel
theorem d52 : decode yB 52 = .ok (.aload 5, 2) := by decide +kernel
theorem d54 : decode yB 54 = .ok (.putfield 9, 3) := by decide +kernel
theorem d57 : decode yB 57 = .ok (.return_, 1) := by decide +kernel
def site : List Cond := [.fieldLink "java/lang/String" 38 "java/lang/String" "COMPACT_STRINGS" "Z", Cmp3.tab, CodL.tab, .laysFinal "java/lang/String" "java/lang/String" "value" "[B", .fieldLink "java/lang/String" 9 "java/lang/String" "value" "[B", .laysFinal "java/lang/String" "java/lang/String" "coder" "B", .fieldLink "java/lang/String" 15 "java/lang/String" "coder" "B"] ++ objW "java/lang/String" 1 ++ staticW "java/lang/String" 177 Cmp3.yN ++ staticW "java/lang/String" 47 CodL.yN
def tab : Cond := tabOf yN yB 6 none site
def P (a : Addr) (D : Cell) (fV fC : Field) (b : Addr) (A : Cell) (z : Int32) (o len : Nat) (args : Array Value) (s : State) : Prop := args = #[.ref a, .ref b, .int (Int32.ofNat o), .int (Int32.ofNat len), .null] ∧ Blank "java/lang/String" a D s ∧ Found "java/lang/String" "value" "[B" fV s ∧ Found "java/lang/String" "coder" "B" fC s ∧ Ch b A s ∧ StaticIs s "java/lang/String" "COMPACT_STRINGS" "Z" (.int z) ∧ ¬ z = 0 ∧ 0 < len ∧ o + len ≤ A.slots.size ∧ len ≤ 536870912 ∧ ∀ i, i < len → ¬ 255 < cv A (o + i)
def E (a : Addr) (D : Cell) (fV fC : Field) (A : Cell) (o len : Nat) (r : Option Value) (s u : State) : Prop := Got a D fV fC A o len r s u
/-- len > 0, no char of the range above 255: a Latin-1 String of their low bytes -/
theorem law (l : Launch) (a : Addr) (D : Cell) (fV fC : Field) (b : Addr) (A : Cell) (z : Int32) (o len : Nat) : Law l yN 5 4 2 35 yB 6 none site (P a D fV fC b A z o len) (E a D fV fC A o len) [⟨a, fC.slot⟩, ⟨a, fV.slot⟩] 1 len := by
  refine Law.of_walk (plainFor_of_name (by decide +kernel)) (by decide +kernel) (by decide +kernel) (by decide) (fun _ _ h => by rw [h.1]; rfl) (fun _ U U' hal hh h => ⟨h.1, h.2.1.mv hal hh, h.2.2.1.al hal, h.2.2.2.1.al hal, h.2.2.2.2.1.mv hal hh, h.2.2.2.2.2.1.there hal hh, h.2.2.2.2.2.2⟩) (fun r U U' V V' h1 hal h2 h => Got.mv r U U' V V' h1 hal h2 h) ?_
  intro p e s m args below meth c s₁ X0 hexec hbytes hml hret hlk hnm hown hh0 W hP
  obtain ⟨rfl, hB, f1, f2, hA, s1, hz, l0, l1, l2, hp⟩ := hP
  have a31 := hA.1.2.2.2
  have c1 : Steps p.tables e below (s₁.setTop (entryFrame m #[.ref a, .ref b, .int (Int32.ofNat o), .int (Int32.ofNat len), .null] 6)) (s₁.setTop (mkF m 0 #[.val (.ref a), .val (.ref b), .val (.int (Int32.ofNat o)), .val (.int (Int32.ofNat len)), .val .null, .unset] [])) := entry rfl
  have c2 : Steps p.tables e below (s₁.setTop (entryFrame m #[.ref a, .ref b, .int (Int32.ofNat o), .int (Int32.ofNat len), .null] 6)) (s₁.setTop (mkF m 1 #[.val (.ref a), .val (.ref b), .val (.int (Int32.ofNat o)), .val (.int (Int32.ofNat len)), .val .null, .unset] [.ref a])) := c1.trans (by
    refine XS.aloadN X0.here hexec rfl (hb hbytes d0) rfl rfl ?_
    exact Steps.refl _)
  obtain ⟨T3, X3, q3, st3⟩ := X0.oinit hexec hown (wks W (objW "java/lang/String" 1)) (g := (mkF m 1 #[.val (.ref a), .val (.ref b), .val (.int (Int32.ofNat o)), .val (.int (Int32.ofNat len)), .val .null, .unset] [.ref a])) rfl (by rw [hml]; rfl) (rest := []) rfl (hb hbytes d1) (W := 0) (by show 2 * 0 + 0 ≤ _; decide) (Nat.le_of_ble_eq_true rfl) (Nat.le_of_ble_eq_true rfl)
  have hh3 := q3.trans hh0
  have c4 : Steps p.tables e below (s₁.setTop (entryFrame m #[.ref a, .ref b, .int (Int32.ofNat o), .int (Int32.ofNat len), .null] 6)) (T3.setTop (mkF m 27 #[.val (.ref a), .val (.ref b), .val (.int (Int32.ofNat o)), .val (.int (Int32.ofNat len)), .val .null, .unset] [])) := (c2.trans (st3 _ (Steps.refl _))).trans (by
    refine XS.iloadN X3.here hexec rfl (hb hbytes d4) rfl ?_
    refine XS.ifYes X3.here hexec rfl (pc0 := 5) rfl (hb hbytes d5) rfl (i0_ne_t (nz32 (by omega) l0)) (by decide) rfl ?_
    exact Steps.refl _)
  obtain ⟨T5, X5, q5, st5⟩ := X3.sget hexec hown (wk W (.fieldLink "java/lang/String" 38 "java/lang/String" "COMPACT_STRINGS" "Z")) s1 (fun _ _ h => by rw [hh3]; exact h) (g := (mkF m 27 #[.val (.ref a), .val (.ref b), .val (.int (Int32.ofNat o)), .val (.int (Int32.ofNat len)), .val .null, .unset] [])) rfl (hb hbytes d27)
  have hh5 := q5.trans hh3
  have c6 : Steps p.tables e below (s₁.setTop (entryFrame m #[.ref a, .ref b, .int (Int32.ofNat o), .int (Int32.ofNat len), .null] 6)) (T5.setTop (mkF m 30 #[.val (.ref a), .val (.ref b), .val (.int (Int32.ofNat o)), .val (.int (Int32.ofNat len)), .val .null, .unset] [.int z])) := c4.trans (st5 _ (Steps.refl _))
  have c7 : Steps p.tables e below (s₁.setTop (entryFrame m #[.ref a, .ref b, .int (Int32.ofNat o), .int (Int32.ofNat len), .null] 6)) (T5.setTop (mkF m 36 #[.val (.ref a), .val (.ref b), .val (.int (Int32.ofNat o)), .val (.int (Int32.ofNat len)), .val .null, .unset] [.int (Int32.ofNat len), .int (Int32.ofNat o), .ref b])) := c6.trans (by
    refine XS.ifNo X5.here hexec rfl (hb hbytes d30) rfl (i0_eq_f hz) ?_
    refine XS.aloadN X5.here hexec rfl (hb hbytes d33) rfl rfl ?_
    refine XS.iloadN X5.here hexec rfl (hb hbytes d34) rfl ?_
    refine XS.iloadN X5.here hexec rfl (hb hbytes d35) rfl ?_
    exact Steps.refl _)
  obtain ⟨v8, T8, X8, E8, g8⟩ := X5.callS hexec (Cmp3.law l b A o len) hown (wks W (staticW "java/lang/String" 177 Cmp3.yN)) (wk W Cmp3.tab) (W := 0) (Nat.le_of_ble_eq_true rfl) (Nat.le_of_ble_eq_true rfl) (Nat.le_refl _) (by show 0 + len ≤ len; omega) (g := (mkF m 36 #[.val (.ref a), .val (.ref b), .val (.int (Int32.ofNat o)), .val (.int (Int32.ofNat len)), .val .null, .unset] [.int (Int32.ofNat len), .int (Int32.ofNat o), .ref b])) rfl (by rw [hml]; rfl) c7 (argsL := [.ref b, .int (Int32.ofNat o), .int (Int32.ofNat len)]) (rest := []) rfl rfl (by show 2 * 0 + 0 ≤ _; decide) (hb hbytes d36) (⟨rfl, hA.mv X5.warmed.alike hh5, l1, l2, hp⟩)
  obtain ⟨e8, z8⟩ := E8
  obtain ⟨rfl, N, n1, n2, n3, n4, n5, n6⟩ := NewArr.mv _ T5 s _ _ hh5.symm (Vm.Alike.refl _) rfl e8
  rw [hh5] at z8
  have hB1 := hB.keep X8.warmed.alike (n6 _ _ hB.1)
  have hne : s.heap.size ≠ a := (Nat.ne_of_lt (Array.getElem?_eq_some_iff.mp hB.1).1).symm
  have c9 : Steps p.tables e below (s₁.setTop (entryFrame m #[.ref a, .ref b, .int (Int32.ofNat o), .int (Int32.ofNat len), .null] 6)) (T8.setTop (mkF m 39 #[.val (.ref a), .val (.ref b), .val (.int (Int32.ofNat o)), .val (.int (Int32.ofNat len)), .val .null, .unset] [.ref s.heap.size])) := g8
  have c10 : Steps p.tables e below (s₁.setTop (entryFrame m #[.ref a, .ref b, .int (Int32.ofNat o), .int (Int32.ofNat len), .null] 6)) (T8.setTop (mkF m 45 #[.val (.ref a), .val (.ref b), .val (.int (Int32.ofNat o)), .val (.int (Int32.ofNat len)), .val .null, .val (.ref s.heap.size)] [.int (Int32.ofNat N.slots.size), .ref s.heap.size, .ref a])) := by
    have hc : Steps p.tables e below (s₁.setTop (entryFrame m #[.ref a, .ref b, .int (Int32.ofNat o), .int (Int32.ofNat len), .null] 6)) (T8.setTop (mkF m 45 #[.val (.ref a), .val (.ref b), .val (.int (Int32.ofNat o)), .val (.int (Int32.ofNat len)), .val .null, .val (.ref s.heap.size)] [.int (Int32.ofNat len), .ref s.heap.size, .ref a])) := c9.trans (by
      refine XS.astore X8.here hexec rfl (hb hbytes d39) rfl rfl rfl ?_
      refine XS.aloadN X8.here hexec rfl (hb hbytes d41) rfl rfl ?_
      refine XS.aload X8.here hexec rfl (hb hbytes d42) rfl rfl ?_
      refine XS.iloadN X8.here hexec rfl (hb hbytes d44) rfl ?_
      exact Steps.refl _)
    rw [n4]; exact hc
  obtain ⟨v11, T11, X11, E11, g11⟩ := X8.callS hexec (CodL.law l s.heap.size N) hown (wks W (staticW "java/lang/String" 47 CodL.yN)) (wk W CodL.tab) (W := 1) (Nat.le_of_ble_eq_true rfl) (Nat.le_of_ble_eq_true rfl) (Nat.le_refl _) (by show 0 + len + 0 ≤ len; omega) (g := (mkF m 45 #[.val (.ref a), .val (.ref b), .val (.int (Int32.ofNat o)), .val (.int (Int32.ofNat len)), .val .null, .val (.ref s.heap.size)] [.int (Int32.ofNat N.slots.size), .ref s.heap.size, .ref a])) rfl (by rw [hml]; rfl) c10 (argsL := [.ref s.heap.size, .int (Int32.ofNat N.slots.size)]) (rest := [.ref a]) rfl rfl (by show 2 * 0 + (1 + 0) ≤ _; decide) (hb hbytes d45) (⟨rfl, n1⟩)
  obtain ⟨rfl, q11⟩ := E11
  have hB11 := hB1.mv (X8.warmed.alike.symm.trans X11.warmed.alike) q11
  have c12 : Steps p.tables e below (s₁.setTop (entryFrame m #[.ref a, .ref b, .int (Int32.ofNat o), .int (Int32.ofNat len), .null] 6)) (T11.setTop (mkF m 48 #[.val (.ref a), .val (.ref b), .val (.int (Int32.ofNat o)), .val (.int (Int32.ofNat len)), .val .null, .val (.ref s.heap.size)] [.int 0, .ref a])) := g11
  obtain ⟨T13, X13, p13, bl13, sl13, st13⟩ := X11.finit hexec hown (wk W (.fieldLink "java/lang/String" 15 "java/lang/String" "coder" "B")) (Or.inr ⟨_, (wk W (.laysFinal "java/lang/String" "java/lang/String" "coder" "B"))⟩) (Or.inl ⟨rfl, hnm⟩) f2 (Or.inl rfl) hB11 (t := .byte) (by decide +kernel) rfl (g := (mkF m 48 #[.val (.ref a), .val (.ref b), .val (.int (Int32.ofNat o)), .val (.int (Int32.ofNat len)), .val .null, .val (.ref s.heap.size)] [.int 0, .ref a])) rfl (rest := []) rfl (hb hbytes d48)
  have c14 : Steps p.tables e below (s₁.setTop (entryFrame m #[.ref a, .ref b, .int (Int32.ofNat o), .int (Int32.ofNat len), .null] 6)) (T13.setTop (mkF m 54 #[.val (.ref a), .val (.ref b), .val (.int (Int32.ofNat o)), .val (.int (Int32.ofNat len)), .val .null, .val (.ref s.heap.size)] [.ref s.heap.size, .ref a])) := (c12.trans (st13 _ (Steps.refl _))).trans (by
    refine XS.aloadN X13.here hexec rfl (hb hbytes d51) rfl rfl ?_
    refine XS.aload X13.here hexec rfl (hb hbytes d52) rfl rfl ?_
    exact Steps.refl _)
  obtain ⟨T15, X15, p15, bl15, sl15, st15⟩ := X13.finit hexec hown (wk W (.fieldLink "java/lang/String" 9 "java/lang/String" "value" "[B")) (Or.inr ⟨_, (wk W (.laysFinal "java/lang/String" "java/lang/String" "value" "[B"))⟩) (Or.inl ⟨rfl, hnm⟩) f1 (Or.inl rfl) bl13 (t := (.array .byte)) (by decide +kernel) rfl (g := (mkF m 54 #[.val (.ref a), .val (.ref b), .val (.int (Int32.ofNat o)), .val (.int (Int32.ofNat len)), .val .null, .val (.ref s.heap.size)] [.ref s.heap.size, .ref a])) rfl (rest := []) rfl (hb hbytes d54)
  have c16 : Steps p.tables e below (s₁.setTop (entryFrame m #[.ref a, .ref b, .int (Int32.ofNat o), .int (Int32.ofNat len), .null] 6)) (T15.setTop (mkF m 57 #[.val (.ref a), .val (.ref b), .val (.int (Int32.ofNat o)), .val (.int (Int32.ofNat len)), .val .null, .val (.ref s.heap.size)] [])) := c14.trans (st15 _ (Steps.refl _))
  have ap := apart (Or.inr ⟨_, (wk W (.laysFinal "java/lang/String" "java/lang/String" "value" "[B"))⟩) (Or.inr ⟨_, (wk W (.laysFinal "java/lang/String" "java/lang/String" "coder" "B"))⟩) f1 f2 (t₁ := .array .byte) (t₂ := .byte) (by decide +kernel) (by decide +kernel) (by decide)
  have al := X8.warmed.alike.symm.trans X15.warmed.alike
  have n7 : T11.heap[s.heap.size]? = some N := by rw [q11]; exact n1.1
  exact ⟨T15, none, _, _, _, X15, by simp, rfl, by omega, (fun _ => rfl), ⟨rfl, _, N, bl15, ((Same.refl D _).set _ (by simp)).set _ (by simp), sl15, (Cell.slots_setSlot_ne _ ap).trans sl13, n1.keep al (p15.other hne (p13.other hne n7)), n2, by rw [al.findClass]; exact n3, n4, n5, fun y c h1 h2 => p15.other h1 (p13.other h1 (by rw [q11]; exact n6 y c h2)), by rw [p15.2.2, p13.2.2, q11]; exact z8⟩, fun fs hl => c16.trans (X15.returnOut hexec hret (hb hbytes d57) hl)⟩
end New4
namespace New1
def yN : MethodName := ⟨"java/lang/String", "<init>", "([C)V"⟩
abbrev yB : ByteArray := jdk_42_method_3_code
theorem d0 : decode yB 0 = .ok (.aload_n 0, 1) := by decide +kernel
theorem d1 : decode yB 1 = .ok (.aload_n 1, 1) := by decide +kernel
theorem d2 : decode yB 2 = .ok (.iconst 0, 1) := by decide +kernel
theorem d3 : decode yB 3 = .ok (.aload_n 1, 1) := by decide +kernel
theorem d4 : decode yB 4 = .ok (.arraylength, 1) := by decide +kernel
theorem d5 : decode yB 5 = .ok (.aconst_null, 1) := by decide +kernel
theorem d6 : decode yB 6 = .ok (.invokespecial 27, 3) := by decide +kernel
theorem d9 : decode yB 9 = .ok (.return_, 1) := by decide +kernel
def site : List Cond := [New4.tab] ++ initW "java/lang/String" 27 New4.yN
def tab : Cond := tabOf yN yB 2 none site
def P (a : Addr) (D : Cell) (fV fC : Field) (b : Addr) (A : Cell) (z : Int32) (args : Array Value) (s : State) : Prop := args = #[.ref a, .ref b] ∧ Blank "java/lang/String" a D s ∧ Found "java/lang/String" "value" "[B" fV s ∧ Found "java/lang/String" "coder" "B" fC s ∧ Ch b A s ∧ StaticIs s "java/lang/String" "COMPACT_STRINGS" "Z" (.int z) ∧ ¬ z = 0 ∧ 0 < A.slots.size ∧ A.slots.size ≤ 536870912 ∧ ∀ i, i < A.slots.size → ¬ 255 < cv A i
def E (a : Addr) (D : Cell) (fV fC : Field) (A : Cell) (r : Option Value) (s u : State) : Prop := Got a D fV fC A 0 A.slots.size r s u
/-- new String(chars), not empty, no char above 255: a Latin-1 String of their low bytes -/
theorem law (l : Launch) (a : Addr) (D : Cell) (fV fC : Field) (b : Addr) (A : Cell) (z : Int32) : Law l yN 2 1 3 52 yB 2 none site (P a D fV fC b A z) (E a D fV fC A) [⟨a, fC.slot⟩, ⟨a, fV.slot⟩] 1 A.slots.size := by
  refine Law.of_walk (plainFor_of_name (by decide +kernel)) (by decide +kernel) (by decide +kernel) (by decide) (fun _ _ h => by rw [h.1]; rfl) (fun _ U U' hal hh h => ⟨h.1, h.2.1.mv hal hh, h.2.2.1.al hal, h.2.2.2.1.al hal, h.2.2.2.2.1.mv hal hh, h.2.2.2.2.2.1.there hal hh, h.2.2.2.2.2.2⟩) (fun r U U' V V' h1 hal h2 h => Got.mv r U U' V V' h1 hal h2 h) ?_
  intro p e s m args below meth c s₁ X0 hexec hbytes hml hret hlk hnm hown hh0 W hP
  obtain ⟨rfl, hB, f1, f2, hA, s1, hz, l0, l2, hp⟩ := hP
  have c1 : Steps p.tables e below (s₁.setTop (entryFrame m #[.ref a, .ref b] 2)) (s₁.setTop (mkF m 0 #[.val (.ref a), .val (.ref b)] [])) := entry rfl
  have c2 : Steps p.tables e below (s₁.setTop (entryFrame m #[.ref a, .ref b] 2)) (s₁.setTop (mkF m 6 #[.val (.ref a), .val (.ref b)] [.null, .int (Int32.ofNat A.slots.size), .int 0, .ref b, .ref a])) := c1.trans (by
    refine XS.aloadN X0.here hexec rfl (hb hbytes d0) rfl rfl ?_
    refine XS.aloadN X0.here hexec rfl (hb hbytes d1) rfl rfl ?_
    refine iconstV X0.here hexec rfl 0 (hb hbytes d2) (by decide) ?_
    refine XS.aloadN X0.here hexec rfl (hb hbytes d3) rfl rfl ?_
    refine X0.alen hexec (hA.1.mv X0.warmed.alike hh0) rfl rfl (hb hbytes d4) ?_
    refine XS.aconstNull X0.here hexec rfl (hb hbytes d5) ?_
    exact Steps.refl _)
  obtain ⟨v3, T3, X3, E3, g3⟩ := X0.callN hexec (New4.law l a D fV fC b A z 0 A.slots.size) rfl hown (wks W (initW "java/lang/String" 27 New4.yN)) (W New4.tab (by simp only [site, List.mem_cons, List.mem_append, true_or, or_true])) (W := 0) (Nat.le_of_ble_eq_true rfl) (Nat.le_of_ble_eq_true rfl) (Nat.le_refl _) (by show 0 + A.slots.size ≤ A.slots.size; omega) (g := (mkF m 6 #[.val (.ref a), .val (.ref b)] [.null, .int (Int32.ofNat A.slots.size), .int (Int32.ofNat 0), .ref b, .ref a])) rfl (by rw [hml]; rfl) c2 (argsL := [.ref b, .int (Int32.ofNat 0), .int (Int32.ofNat A.slots.size), .null]) (rest := []) rfl rfl (by show 2 * 0 + 0 ≤ _; decide) (hb hbytes d6) (⟨rfl, hB.mv X0.warmed.alike hh0, f1.al X0.warmed.alike, f2.al X0.warmed.alike, hA.mv X0.warmed.alike hh0, s1.there X0.warmed.alike hh0, hz, l0, by omega, l2, fun i hi => by rw [Nat.zero_add]; exact hp i hi⟩)
  have e0 := Got.mv _ s₁ s _ _ hh0.symm (Vm.Alike.refl _) rfl E3
  obtain rfl := e0.1
  have c4 : Steps p.tables e below (s₁.setTop (entryFrame m #[.ref a, .ref b] 2)) (T3.setTop (mkF m 9 #[.val (.ref a), .val (.ref b)] [])) := g3
  exact ⟨T3, none, _, _, _, X3, by simp, rfl, by omega, (fun _ => rfl), e0, fun fs hl => c4.trans (X3.returnOut hexec hret (hb hbytes d9) hl)⟩
theorem pays {l : Launch} {R : Room} {p : Program} {e : Env} {below : List Frame} {s : State} {sargs : Array Value} {len W : Nat} (a : Addr) (D : Cell) (fV fC : Field) (b : Addr) (A : Cell) (z : Int32) (htab : tab.before sargs s = true) (hfr : 4 ≤ R.frames) (hlo : W + 65 ≤ R.locals) :
    Back l R p e below s sargs yN len W (fun A₁ a₁ => A₁.cells + 1 ≤ R.cells ∧ A₁.slots + A.slots.size ≤ R.slots ∧ P a D fV fC b A z a₁ A₁.U) (fun A₁ _ v₁ B₁ => E a D fV fC A v₁ A₁.U B₁.U ∧ B₁.locs = A₁.locs ++ [⟨a, fC.slot⟩, ⟨a, fV.slot⟩] ∧ B₁.cells = A₁.cells + 1 ∧ B₁.slots = A₁.slots + A.slots.size) :=
  (law l a D fV fC b A z).pays htab hfr (by omega)
end New1
/-- the byte, read back as charAt reads it, is the char -/
theorem lo8_mask {x : Int32} (h0 : ¬ x < 0) (h1 : ¬ 255 < x) : lo8 x &&& 255 = x := by
  have t : ∀ k : Fin 256, lo8 (Int32.ofNat k.val) &&& 255 = Int32.ofNat k.val := by decide +kernel
  rw [Int32.lt_iff_toInt_lt] at h0 h1
  have e0 : (0 : Int32).toInt = 0 := rfl
  have e1 : (255 : Int32).toInt = 255 := rfl
  obtain ⟨k, hk⟩ : ∃ k : Nat, x.toInt = k := ⟨x.toInt.toNat, by omega⟩
  have hx : x = Int32.ofNat k := Int32.toInt_inj.mp (by rw [hk, Int32.toInt_ofNat_small (by omega)])
  rw [hx]
  exact t ⟨k, by omega⟩
end StrChars
namespace StrChars.Road
open Jvm Sem ClassFile Op Lib Jvm.Stand Jvm.Free Jvm.Free.XT
open Jvm.Lib.Cold (StaticIs)
abbrev ST : String := "java/lang/String"
/-- every table word that New1's law asks, flat -/
abbrev words : List Jvm.Cond := [.code New1.yN New1.yB 2 none, .initialized ST, .methodLink ST 27 New4.yN, .instanceMethod New4.yN,
  .code New4.yN New4.yB 6 none, .fieldLink ST 38 ST "COMPACT_STRINGS" "Z", .laysFinal ST ST "value" "[B", .fieldLink ST 9 ST "value" "[B", .laysFinal ST ST "coder" "B", .fieldLink ST 15 ST "coder" "B",
  .methodLink ST 1 Lib.objectInit, .instanceMethod Lib.objectInit, .code Lib.objectInit ⟨#[0xb1]⟩ 1 none, .methodLink ST 177 Cmp3.yN, .static Cmp3.yN, .methodLink ST 47 CodL.yN, .static CodL.yN,
  .code Cmp3.yN Cmp3.yB 6 (some (.array .byte)), .initialized U16, .arrayClass .byte, .methodLink U16 115 Cmp5.yN, .static Cmp5.yN, .code Cmp5.yN Cmp5.yB 7 (some .int), .code CodL.yN CodL.yB 2 (some .byte)]
theorem tab_of {a : Array Value} {s : State} (h : ∀ w ∈ words, w.before a s = true) : New1.tab.before a s = true := by
  have h5 : Cmp5.tab.before a s = true := unparts (wk h (.code Cmp5.yN Cmp5.yB 7 (some .int))) (wks h (.initialized Cmp5.yN.cls :: Cmp5.site))
  have hc : CodL.tab.before a s = true := unparts (wk h (.code CodL.yN CodL.yB 2 (some .byte))) (wks h (.initialized CodL.yN.cls :: CodL.site))
  have q5 : ∀ w ∈ Cmp5.tab :: words, w.before a s = true := fun w hw => (List.mem_cons.mp hw).elim (fun e => e ▸ h5) (h w)
  have h3 : Cmp3.tab.before a s = true := unparts (wk q5 (.code Cmp3.yN Cmp3.yB 6 (some (.array .byte)))) (wks q5 (.initialized Cmp3.yN.cls :: Cmp3.site))
  have q3 : ∀ w ∈ Cmp3.tab :: CodL.tab :: words, w.before a s = true := fun w hw => (List.mem_cons.mp hw).elim (fun e => e ▸ h3) fun hw => (List.mem_cons.mp hw).elim (fun e => e ▸ hc) (h w)
  have h4 : New4.tab.before a s = true := unparts (wk q3 (.code New4.yN New4.yB 6 none)) (wks q3 (.initialized New4.yN.cls :: New4.site))
  have q4 : ∀ w ∈ New4.tab :: words, w.before a s = true := fun w hw => (List.mem_cons.mp hw).elim (fun e => e ▸ h4) (h w)
  exact unparts (wk q4 (.code New1.yN New1.yB 2 none)) (wks q4 (.initialized New1.yN.cls :: New1.site))
/-- the words ride from the start Z to the walk's own state -/
theorem moved {Z s : State} {a0 args : Array Value} (hZ : Z.Warmed39 s.vm) (hw : ∀ d ∈ words, d.before a0 Z = true) : ∀ d ∈ words, d.before args s = true := fun d hd => by
  have q := hw d hd
  have t : ∀ d ∈ words, d = .arrayClass .byte ∨ (d.onTables && d.keepsFace) = true := by decide +kernel
  rcases t d hd with rfl | t
  · exact RoadKit.mvA hZ q
  · exact RoadKit.mv hZ q t
/-- WHAT COMES BACK, over the tables of the start Z: h the heap at the call, h' behind it -/
def Q (Z : State) (x : Addr) (A : Cell) (h : Heap) (v : Option Value) (h' : Heap) (L : List Loc) : Prop := v = none ∧ (∀ y ∈ L, y.base = x) ∧ RoadKit.Keep h h' [x] ∧ h'.size = h.size + 1 ∧ RoadKit.Exa Z h' x ST ∧ RoadKit.Fld Z h' x ST "value" "[B" (.ref h.size) ∧ RoadKit.Fld Z h' x ST "coder" "B" (.int 0) ∧
  (∃ V : Cell, RoadKit.Arr Z h' h.size V .byte ∧ V.vm = .none ∧ Z.vm.findClass "[B" = some V.cls ∧ V.slots.size = A.slots.size ∧ ∀ j, j < A.slots.size → V.slots[j]? = some (.int (lo8 (cv A j)))) ∧
  ∀ (O n d : String) (w : Value), RoadKit.Fld Z h x O n d w → RoadKit.slotOf Z O n d ≠ RoadKit.slotOf Z ST "value" "[B" → RoadKit.slotOf Z O n d ≠ RoadKit.slotOf Z ST "coder" "B" → RoadKit.Fld Z h' x O n d w
/-- **new String(chars) AT A CALL, IN THE ROAD'S FORM**: for specialBack behind newO: x the fresh String, b the char[] with the cell A -/
theorem back {p : Program} {l : Launch} {e : Env} {R : Room} {s : State} {args : Array Value} {below : List Frame} {len W : Nat} {Z : State} {a0 : Array Value} {h : Heap} (hZ : Z.Warmed39 s.vm) (hw : ∀ d ∈ words, d.before a0 Z = true) {kI : Nat} (wi : (Jvm.Cond.instantiable ST kI).before a0 Z = true)
    {x b : Addr} {A : Cell} {z : Int32} {v0 c0 : Value} (E : RoadKit.Exa Z h x ST) (V : RoadKit.Fld Z h x ST "value" "[B" v0) (C : RoadKit.Fld Z h x ST "coder" "B" c0) (K : RoadKit.Arr Z h b A .char) (hty : Typed .char A) (S : RoadKit.Sta Z h ST "COMPACT_STRINGS" "Z" (.int z)) (hz : ¬ z = 0)
    (l0 : 0 < A.slots.size) (l2 : A.slots.size ≤ 536870912) (hp : ∀ i, i < A.slots.size → ¬ 255 < cv A i) (hfr : 4 ≤ R.frames) (hlo : W + 65 ≤ R.locals) :
    Back l R p e below s args New1.yN len W (fun P a => a = #[.ref x, .ref b] ∧ P.U.heap = h ∧ P.cells + 1 ≤ R.cells ∧ P.slots + A.slots.size ≤ R.slots)
      (fun P _ v B => ∃ L, Q Z x A h v B.U.heap L ∧ B.locs = P.locs ++ L ∧ B.cells = P.cells + 1 ∧ B.slots = P.slots + A.slots.size) := by
  intro m meth c P g ig mk a X hg hsize hdg hW hn hp'
  obtain ⟨rfl, rfl, r1, r2⟩ := hp'
  have al : Z.vm.Alike P.U.vm := hZ.alike.trans X.warmed.alike
  obtain ⟨D, cfV, kV, iV, fV, hD, gV, stV, knV, obV, asV, slV⟩ := id V
  obtain ⟨D', cfC, kC, iC, fC, hD', gC, stC, -, -, asC, slC⟩ := id C
  cases hD.symm.trans hD'
  obtain ⟨D2, kD, e1, e2, e3, e4, e5⟩ := id E
  cases hD.symm.trans e1
  obtain ⟨c2, k2, i1, i2, i3, -⟩ := Cond.instantiable_spec wi
  cases e2.symm.trans i1
  cases e3.symm.trans i2
  obtain ⟨kU, u1, u2⟩ := al.2.2 _ _ e3
  have hB : Blank ST x D P.U := ⟨hD, ⟨knV, fun q hq => by rw [hq] at obV; cases obV⟩, by rw [al.findClass]; exact e2, kU, u1, by rw [u2]; exact i3, by rw [u2]; exact e5 i3⟩
  have F1 : Found ST "value" "[B" fV P.U := ⟨SBG.found_only al ⟨cfV, kV, iV, gV⟩, stV⟩
  have F2 : Found ST "coder" "B" fC P.U := ⟨SBG.found_only al ⟨cfC, kC, iC, gC⟩, stC⟩
  have hA : Ch b A P.U := ⟨⟨K.1, State.isArrayOf_alike al K.2.1, K.2.2, by omega⟩, hty⟩
  have hS : StaticIs P.U ST "COMPACT_STRINGS" "Z" (.int z) := by
    obtain ⟨cfS, iS, kS, fS, st, cS, t1, t2, t3, t4, t5, t6, t7⟩ := S
    exact StaticIs.there (s := { Z with heap := P.U.heap }) ⟨cfS, iS, kS, fS, st, cS, t1, t2, t3, t4, t5, (fun q => by rw [q] at t6; cases t6), t7⟩ al rfl
  obtain ⟨v, B, X', ⟨⟨hv, E', V', q1, q2, q3, q4, q5, q6, q7, q8, q9, q10, q11⟩, hl, hc, hs⟩, st⟩ := New1.pays x D fV fC b A z (tab_of (moved hZ hw)) hfr hlo m meth c P g ig mk _ X hg hsize hdg hW hn ⟨r1, r2, rfl, hB, F1, F2, hA, hS, hz, l0, l2, hp⟩
  have al' : Z.vm.Alike B.U.vm := hZ.alike.trans X'.warmed.alike
  have hsz : E'.slots.size = D.slots.size := by
    obtain ⟨-, -, -, kB, w1, w2, w3⟩ := q1
    obtain ⟨kB', y1, y2⟩ := al'.2.2 _ _ e3
    rw [q2.2.1] at w1
    cases w1.symm.trans y1
    rw [w3, e5 i3, y2]
  refine ⟨v, B, X', ⟨_, ⟨hv, ?_, ⟨by omega, fun y cy hy hn' => q10 y cy (by simpa using hn') hy, fun y cy hy => ?_⟩, q11, ⟨E', _, q1.1, by rw [q2.2.1]; exact e2, by rw [q2.2.1]; exact e3, by rw [q2.1]; exact obV, fun _ => by rw [hsz]; exact e5 i3⟩,
    ⟨E', cfV, kV, iV, fV, q1.1, gV, stV, by rw [q2.1]; exact knV, by rw [q2.1]; exact obV, by rw [q2.2.1]; exact asV, q3⟩, ⟨E', cfC, kC, iC, fC, q1.1, gC, stC, by rw [q2.1]; exact knV, by rw [q2.1]; exact obV, by rw [q2.2.1]; exact asC, q4⟩,
    ⟨V', ⟨q5.1, State.isArrayOf_alike al'.symm q5.2.1, q5.2.2.1⟩, q6, by rw [← al'.findClass]; exact q7, q8, fun j hj => by have := q9 j hj; rwa [Nat.zero_add] at this⟩, fun O n d w F n1 n2 => ?_⟩, hl, hc, hs⟩, st⟩
  · intro y hy
    simp only [List.mem_cons, List.not_mem_nil, or_false] at hy
    rcases hy with rfl | rfl <;> rfl
  · by_cases q : y = x
    · subst q
      cases hD.symm.trans hy
      exact ⟨E', q1.1, q2.2.1, q2.1, hsz⟩
    · exact ⟨cy, q10 y cy q hy, rfl, rfl, rfl⟩
  · obtain ⟨D3, cf, k, i, f, g1, g2, g3, g4, g5, g6, g7⟩ := F
    cases hD.symm.trans g1
    simp only [RoadKit.slotOf, g2, gV, gC, Option.map_some, Option.getD_some] at n1 n2
    exact ⟨E', cf, k, i, f, q1.1, g2, g3, by rw [q2.1]; exact g4, by rw [q2.1]; exact g5, by rw [q2.2.1]; exact g6, by rw [q2.2.2 f.slot (by simp [n1, n2])]; exact g7⟩
end StrChars.Road
namespace StrChars.Road
open Jvm Sem ClassFile Op Lib Jvm.Stand Jvm.Free Jvm.Free.XT
/-- WHAT COMES BACK, the byte[] as a list of values -/
def QA (Z : State) (x : Addr) (zn : Int32) (cs : List Int32) (h : Heap) (v : Option Value) (h' : Heap) (L : List Loc) : Prop := v = none ∧ (∀ y ∈ L, y.base = x) ∧ RoadKit.Keep h h' [x] ∧ h'.size = h.size + 1 ∧ RoadKit.Exa Z h' x ST ∧ RoadKit.Fld Z h' x ST "value" "[B" (.ref h.size) ∧ RoadKit.Fld Z h' x ST "coder" "B" (.int 0) ∧
  (∃ kb, Z.vm.findClass "[B" = some kb ∧ RoadKit.Arv Z h' h.size kb .byte zn (cs.map fun c => .int (lo8 c)) (.int 0)) ∧
  ∀ (O n d : String) (w : Value), RoadKit.Fld Z h x O n d w → RoadKit.slotOf Z O n d ≠ RoadKit.slotOf Z ST "value" "[B" → RoadKit.slotOf Z O n d ≠ RoadKit.slotOf Z ST "coder" "B" → RoadKit.Fld Z h' x O n d w
/-- **new String(chars) AT A CALL, THE ARRAYS AS LISTS**: the char[] at b holds cs, not empty, no char above 255 -/
theorem backArv {p : Program} {l : Launch} {e : Env} {R : Room} {s : State} {args : Array Value} {below : List Frame} {len W : Nat} {Z : State} {a0 : Array Value} {h : Heap} (hZ : Z.Warmed39 s.vm) (hw : ∀ d ∈ words, d.before a0 Z = true) {kI : Nat} (wi : (Jvm.Cond.instantiable ST kI).before a0 Z = true)
    {x b : Addr} {k : ClassId} {zn z : Int32} {cs : List Int32} {dv v0 c0 : Value} (E : RoadKit.Exa Z h x ST) (V : RoadKit.Fld Z h x ST "value" "[B" v0) (C : RoadKit.Fld Z h x ST "coder" "B" c0) (K : RoadKit.Arv Z h b k .char zn (cs.map Value.int) dv) (S : RoadKit.Sta Z h ST "COMPACT_STRINGS" "Z" (.int z)) (hz : ¬ z = 0)
    (hlen : zn.toNatClampNeg = cs.length) (h0 : 0 < cs.length) (hbig : cs.length ≤ 536870912) (hall : ∀ c ∈ cs, ¬ 255 < c) (hfr : 4 ≤ R.frames) (hlo : W + 65 ≤ R.locals) :
    Back l R p e below s args New1.yN len W (fun P a => a = #[.ref x, .ref b] ∧ P.U.heap = h ∧ P.cells + 1 ≤ R.cells ∧ P.slots + cs.length ≤ R.slots)
      (fun P _ v B => ∃ L, QA Z x zn cs h v B.U.heap L ∧ B.locs = P.locs ++ L ∧ B.cells = P.cells + 1 ∧ B.slots = P.slots + cs.length) := by
  obtain ⟨A, K1, K2, K3, K4, K5, K6⟩ := K
  have e : A.slots.size = cs.length := K3.trans hlen
  have hat : ∀ (i : Nat) (hi : i < cs.length), A.slots[i]? = some (.int cs[i]) := fun i hi => by rw [K5 i (by omega)]; simp [List.getD_eq_getElem?_getD, hi]
  have hcv : ∀ (i : Nat) (hi : i < cs.length), cv A i = cs[i] := fun i hi => by unfold cv; rw [hat i hi]
  have hty : Typed .char A := fun i v hv => by
    have hi : i < A.slots.size := (Array.getElem?_eq_some_iff.mp hv).1
    have q := K5 i hi
    rw [hv] at q
    rw [Option.some.inj q]
    exact K6 i hi
  refine Back.mono (back hZ hw wi E V C K1 hty S hz (by omega) (by omega) (fun i hi => by rw [hcv i (by omega)]; exact hall _ (List.getElem_mem _)) hfr hlo) (fun P a hp => ⟨hp.1, hp.2.1, hp.2.2.1, by rw [e]; exact hp.2.2.2⟩) (fun P a v B hp hq => ?_)
  obtain ⟨L, ⟨q1, q2, q3, q4, q5, q6, q7, ⟨V', v1, v2, v3, v4, v5⟩, q9⟩, hl, hc, hs⟩ := hq
  refine ⟨L, ⟨q1, q2, q3, q4, q5, q6, q7, ⟨V'.cls, v3, V', v1, rfl, by rw [v4, e, hlen], K4, fun i hi => ?_, fun i hi => ?_⟩, q9⟩, hl, hc, by rw [hs, e]⟩
  · have hi' : i < cs.length := by omega
    rw [v5 i (by omega), hcv i hi']; simp [List.getD_eq_getElem?_getD, hi']
  · have hi' : i < cs.length := by omega
    simp only [List.getD_eq_getElem?_getD, List.getElem?_map, List.getElem?_eq_getElem hi', Option.map_some, Option.getD_some]
    exact fits_lo8 _
end StrChars.Road
namespace StrChars.Road
open Jvm Sem ClassFile Op Lib Jvm.Stand Jvm.Free Jvm.Free.XT
/-- WHAT COMES BACK, in the writer's own shape -/
def QV (Z : State) (x : Addr) (N : Int32) (bs : List Int32) (h : Heap) (n0 : Nat) (v : Option Value) (h' : Heap) (L : List Loc) : Prop := v = none ∧ RoadKit.Fr n0 L ∧ RoadKit.Keep h h' [x] ∧ RoadKit.Exa Z h' x ST ∧ RoadKit.Fld Z h' x ST "coder" "B" (.int 0) ∧
  ∃ (t : Addr) (kb : ClassId), n0 ≤ t ∧ h.size ≤ t ∧ ¬ t = x ∧ RoadKit.Fld Z h' x ST "value" "[B" (.ref t) ∧ RoadKit.Arv Z h' t kb .byte N (bs.map Value.int) (.int 0)
/-- **new String(chars) AT A CALL, FOR THE WRITER**: a char[] of n known ints, each 0 to 255 -/
theorem backV {p : Program} {l : Launch} {e : Env} {R : Room} {s : State} {args : Array Value} {below : List Frame} {len W : Nat} {Z : State} {a0 : Array Value} {h : Heap} (hZ : Z.Warmed39 s.vm) (hw : ∀ d ∈ words, d.before a0 Z = true) {kI : Nat} (wi : (Jvm.Cond.instantiable ST kI).before a0 Z = true)
    {x b : Addr} {kC : ClassId} {cs bs : List Int32} {d v0 c0 : Value} {z N : Int32} {n n0 : Nat} (hx0 : n0 ≤ x) (hh0 : n0 ≤ h.size) (E : RoadKit.Exa Z h x ST) (V : RoadKit.Fld Z h x ST "value" "[B" v0) (C : RoadKit.Fld Z h x ST "coder" "B" c0) (K : RoadKit.Arv Z h b kC .char N (cs.map Value.int) d) (S : RoadKit.Sta Z h ST "COMPACT_STRINGS" "Z" (.int z)) (hz : ¬ z = 0)
    (hn : cs.length = n) (hN : N = Int32.ofNat n) (l0 : 0 < n) (l2 : n ≤ 4000) (hp : ∀ c ∈ cs, ¬ c < 0 ∧ ¬ (255 : Int32) < c) (hb : bs = cs.map (fun c => c.toInt8.toInt32)) (hfr : 4 ≤ R.frames) (hlo : W + 65 ≤ R.locals) :
    Back l R p e below s args (⟨"java/lang/String", "<init>", "([C)V"⟩ : MethodName) len W (fun P a => a = #[.ref x, .ref b] ∧ P.U.heap = h ∧ P.cells + 1 ≤ R.cells ∧ P.slots + n ≤ R.slots)
      (fun P _ v B => ∃ L, QV Z x N bs h n0 v B.U.heap L ∧ B.locs = P.locs ++ L ∧ B.cells = P.cells + 1 ∧ B.slots = P.slots + n) := by
  subst hn hN hb
  refine Back.mono (backArv hZ hw wi E V C K S hz (n32 (by omega)) l0 (by omega) (fun c hc => (hp c hc).2) hfr hlo) (fun P a hp => hp) (fun P a v B hp hq => ?_)
  obtain ⟨L, ⟨q1, q2, q3, q4, q5, q6, q7, ⟨kb, v1, v2⟩, q9⟩, hl, hc, hs⟩ := hq
  exact ⟨L, ⟨q1, fun y hy => by rw [q2 y hy]; exact hx0, q3, q5, q7, h.size, kb, hh0, Nat.le_refl _, Nat.ne_of_gt E.lt, q6, by rw [List.map_map]; exact v2⟩, hl, hc, hs⟩
end StrChars.Road
namespace StrChars
open Jvm Sem ClassFile Op Lib Jvm.Stand Jvm.Free.XT Jvm.Free.ALB Jvm.Free.JM Jvm.Free
open Jvm.Lib.Cold (StaticIs)
def hi8 (x : Int32) : Int32 := lo8 (x >>> ((8 : Int32) &&& 31))
/-- what StringUTF16.getChar makes of two bytes -/
def pairCh (u v : Int32) : Int32 := (((u &&& 255) <<< ((0 : Int32) &&& 31)) ||| ((v &&& 255) <<< ((8 : Int32) &&& 31))).toUInt32.toUInt16.toUInt32.toInt32
theorem shr0 (c : Int32) : c >>> ((0 : Int32) &&& 31) = c := by
  have e : ((0 : Int32) &&& 31) = 0 := by decide
  rw [e]
  apply Int32.toBitVec_inj.mp
  rw [Int32.toBitVec_shiftRight]
  have e1 : ((0 : Int32).toBitVec.smod 32) = 0#32 := by decide
  rw [e1, BitVec.sshiftRight_eq']
  exact BitVec.sshiftRight_zero
theorem lo8_and (x : Int32) : (lo8 x &&& 255).toBitVec.toNat = x.toBitVec.toNat % 256 := by
  have h : (lo8 x).toBitVec = (x.toBitVec.signExtend 8).signExtend 32 := by rw [lo8, Int8.toBitVec_toInt32, Int32.toBitVec_toInt8]
  rw [Int32.toBitVec_and, BitVec.toNat_and, h]
  have e : ((x.toBitVec.signExtend 8).signExtend 32).toNat % 256 = x.toBitVec.toNat % 256 := by
    rw [BitVec.toNat_signExtend]
    have hlt := x.toBitVec.isLt
    simp only [BitVec.toNat_setWidth, BitVec.toNat_signExtend]
    split <;> split <;> omega
  rw [← e]
  exact Nat.and_two_pow_sub_one_eq_mod _ 8
theorem pair_says {c : Int32} (h0 : ¬ c < 0) (h1 : ¬ 65535 < c) : pairCh (lo8 c) (hi8 c) = c := by
  rw [Int32.lt_iff_toInt_lt] at h0 h1
  have e0 : (0 : Int32).toInt = 0 := rfl
  have e1 : (65535 : Int32).toInt = 65535 := rfl
  have hc : c.toInt = c.toBitVec.toNat := by
    have := c.toBitVec.isLt
    have e : c.toInt = c.toBitVec.toInt := rfl
    rw [e] at h0 h1
    rw [e]
    rw [BitVec.toInt_eq_toNat_cond] at h0 h1 ⊢
    split at h0 <;> split <;> omega
  have hn : c.toBitVec.toNat < 65536 := by omega
  have a1 := lo8_and c
  have a2 : (hi8 c &&& 255).toBitVec.toNat = c.toBitVec.toNat / 256 := by
    rw [hi8, lo8_and]
    have e : ((8 : Int32) &&& 31) = 8 := by decide
    rw [e, Int32.toBitVec_shiftRight]
    have e2 : ((8 : Int32).toBitVec.smod 32) = 8#32 := by decide
    rw [e2, BitVec.sshiftRight_eq', BitVec.toNat_sshiftRight_of_msb_false (by rw [BitVec.msb_eq_false_iff_two_mul_lt]; omega)]
    show c.toBitVec.toNat >>> 8 % 256 = _
    rw [Nat.shiftRight_eq_div_pow]
    omega
  unfold pairCh
  apply Int32.toBitVec_inj.mp
  apply BitVec.eq_of_toNat_eq
  have f0 : ((0 : Int32) &&& 31) = 0 := by decide
  have f8 : ((8 : Int32) &&& 31) = 8 := by decide
  rw [f0, f8]
  have g : (((lo8 c &&& 255) <<< (0 : Int32)) ||| ((hi8 c &&& 255) <<< (8 : Int32))).toBitVec.toNat = c.toBitVec.toNat := by
    rw [Int32.toBitVec_or, Int32.toBitVec_shiftLeft, Int32.toBitVec_shiftLeft]
    have s0 : ((0 : Int32).toBitVec.smod 32) = 0#32 := by decide
    have s8 : ((8 : Int32).toBitVec.smod 32) = 8#32 := by decide
    rw [s0, s8, BitVec.toNat_or]
    simp only [BitVec.shiftLeft_eq', BitVec.toNat_shiftLeft, a1, a2]
    show (c.toBitVec.toNat % 256) <<< 0 % 2 ^ 32 ||| (c.toBitVec.toNat / 256) <<< 8 % 2 ^ 32 = _
    rw [Nat.shiftLeft_zero, Nat.mod_eq_of_lt (show c.toBitVec.toNat % 256 < 2 ^ 32 by omega), Nat.mod_eq_of_lt (show (c.toBitVec.toNat / 256) <<< 8 < 2 ^ 32 by rw [Nat.shiftLeft_eq]; omega), Nat.or_comm, ← Nat.shiftLeft_add_eq_or_of_lt (by omega), Nat.shiftLeft_eq]
    omega
  show BitVec.toNat (((((lo8 c &&& 255) <<< (0 : Int32)) ||| ((hi8 c &&& 255) <<< (8 : Int32))).toBitVec.setWidth 16).setWidth 32) = _
  rw [BitVec.toNat_setWidth, BitVec.toNat_setWidth, g]
  omega
end StrChars
namespace StrChars
open Jvm Sem ClassFile Op Lib Jvm.Stand Jvm.Free.XT Jvm.Free.ALB Jvm.Free.JM Jvm.Free
open Jvm.Lib.Cold (StaticIs)
theorem shr1 {n : Nat} (h : 2 * n < 2 ^ 31) : Int32.ofNat (2 * n) >>> ((1 : Int32) &&& 31) = Int32.ofNat n := by
  have e : ((1 : Int32) &&& 31) = 1 := by decide
  rw [e]
  apply Int32.toBitVec_inj.mp
  rw [Int32.toBitVec_shiftRight]
  have e1 : ((1 : Int32).toBitVec.smod 32) = 1#32 := by decide
  have hm : (BitVec.ofNat 32 (2 * n)).toNat = 2 * n := by rw [BitVec.toNat_ofNat, Nat.mod_eq_of_lt (by omega)]
  rw [e1, BitVec.sshiftRight_eq']
  apply BitVec.eq_of_toNat_eq
  show ((BitVec.ofNat 32 (2 * n)).sshiftRight 1).toNat = (BitVec.ofNat 32 n).toNat
  rw [BitVec.toNat_sshiftRight_of_msb_false (by rw [BitVec.msb_eq_false_iff_two_mul_lt, hm]; omega), hm, BitVec.toNat_ofNat, Nat.shiftRight_eq_div_pow]
  omega
/-- the array's cell V codes the n chars f 0 .. f (n - 1) by the coder cd, as the JDK does: coder 1 just where some char is above 255 -/
def Cod (cd : Int32) (n : Nat) (f : Nat → Int32) (V : Cell) : Prop := (cd = 0 ∧ V.slots.size = n ∧ ∀ j, j < n → V.slots[j]? = some (.int (lo8 (f j))) ∧ ¬ 255 < f j) ∨ (cd = 1 ∧ V.slots.size = 2 * n ∧ (∀ j, j < n → V.slots[2 * j]? = some (.int (lo8 (f j))) ∧ V.slots[2 * j + 1]? = some (.int (hi8 (f j)))) ∧ ∃ j, j < n ∧ 255 < f j)
theorem Cod.cd {cd : Int32} {n : Nat} {f : Nat → Int32} {V : Cell} (h : Cod cd n f V) : cd = 0 ∨ cd = 1 := h.imp (fun q => q.1) fun q => q.1
theorem Cod.len {cd : Int32} {n : Nat} {f : Nat → Int32} {V : Cell} (h : Cod cd n f V) (hs : V.slots.size < 2 ^ 31) : Int32.ofNat V.slots.size >>> (cd &&& 31) = Int32.ofNat n := by
  rcases h with ⟨rfl, h, -⟩ | ⟨rfl, h, -⟩
  · rw [shr0, h]
  · rw [h, shr1 (by omega)]
/-- **x is a String of the n chars f 0 .. f (n - 1)**, Latin-1 or UTF-16; its array at t has the cell V -/
def Txt (x t : Addr) (V : Cell) (cd : Int32) (n : Nat) (f : Nat → Int32) (U : State) : Prop := Exact "java/lang/String" x U ∧ Has x "java/lang/String" "value" "[B" (.ref t) U ∧ Has x "java/lang/String" "coder" "B" (.int cd) U ∧ XT.Arr .byte t V U ∧ Cod cd n f V ∧ ∀ j, j < n → ¬ f j < 0 ∧ ¬ 65535 < f j
theorem Txt.mv {x t : Addr} {V : Cell} {cd : Int32} {n : Nat} {f : Nat → Int32} {U U' : State} (h : Txt x t V cd n f U) (hal : U.vm.Alike U'.vm) (hh : U'.heap = U.heap) : Txt x t V cd n f U' := ⟨h.1.mv hal hh, h.2.1.mv hal hh, h.2.2.1.mv hal hh, h.2.2.2.1.mv hal hh, h.2.2.2.2⟩
namespace Cdr
def yN : MethodName := ⟨"java/lang/String", "coder", "()B"⟩
abbrev yB : ByteArray := jdk_42_method_152_code
theorem d0 : decode yB 0 = .ok (.getstatic 38, 3) := by decide +kernel
theorem d3 : decode yB 3 = .ok (.ifCond (.eq) 10, 3) := by decide +kernel
theorem d6 : decode yB 6 = .ok (.aload_n 0, 1) := by decide +kernel
theorem d7 : decode yB 7 = .ok (.getfield 15, 3) := by decide +kernel
theorem d10 : decode yB 10 = .ok (.goto 4, 3) := by decide +kernel
theorem d14 : decode yB 14 = .ok (.ireturn, 1) := by decide +kernel
def site : List Cond := [.fieldLink "java/lang/String" 38 "java/lang/String" "COMPACT_STRINGS" "Z", .fieldLink "java/lang/String" 15 "java/lang/String" "coder" "B"]
def tab : Cond := tabOf yN yB 1 (some .byte) site
def P (x : Addr) (cd z : Int32) (args : Array Value) (s : State) : Prop := args = #[.ref x] ∧ Has x "java/lang/String" "coder" "B" (.int cd) s ∧ (cd = 0 ∨ cd = 1) ∧ StaticIs s "java/lang/String" "COMPACT_STRINGS" "Z" (.int z) ∧ ¬ z = 0
def E (cd : Int32) (r : Option Value) (s u : State) : Prop := XT.PureE (some (.int cd)) r s u
theorem law (l : Launch) (x : Addr) (cd z : Int32) : Law l yN 1 0 0 0 yB 1 (some .byte) site (P x cd z) (E cd) [] 0 0 := by
  refine Law.of_walk (plainFor_of_name (by decide +kernel)) (by decide +kernel) (by decide +kernel) (by decide) (fun _ _ h => by rw [h.1]; rfl) (fun _ U U' hal hh h => ⟨h.1, h.2.1.mv hal hh, h.2.2.1, h.2.2.2.1.there hal hh, h.2.2.2.2⟩) (fun r U U' V V' h1 hal h2 h => XT.PureE.mv r U U' V V' h1 hal h2 h) ?_
  intro p e s m args below meth c s₁ X0 hexec hbytes hml hret hlk hnm hown hh0 W hP
  obtain ⟨rfl, hx, hc, s1, hz⟩ := hP
  have c1 : Steps p.tables e below (s₁.setTop (entryFrame m #[.ref x] 1)) (s₁.setTop (mkF m 0 #[.val (.ref x)] [])) := entry rfl
  obtain ⟨T2, X2, q2, st2⟩ := X0.sget hexec hown (wk W (.fieldLink "java/lang/String" 38 "java/lang/String" "COMPACT_STRINGS" "Z")) s1 (fun _ _ h => by rw [hh0]; exact h) (g := (mkF m 0 #[.val (.ref x)] [])) rfl (hb hbytes d0)
  have hh2 := q2.trans hh0
  have c3 : Steps p.tables e below (s₁.setTop (entryFrame m #[.ref x] 1)) (T2.setTop (mkF m 7 #[.val (.ref x)] [.ref x])) := (c1.trans (st2 _ (Steps.refl _))).trans (by
    refine XS.ifNo X2.here hexec rfl (hb hbytes d3) rfl (i0_eq_f hz) ?_
    refine XS.aloadN X2.here hexec rfl (hb hbytes d6) rfl rfl ?_
    exact Steps.refl _)
  obtain ⟨T4, X4, q4, st4⟩ := X2.hget hexec hown (wk W (.fieldLink "java/lang/String" 15 "java/lang/String" "coder" "B")) (hx.mv X2.warmed.alike hh2) (g := (mkF m 7 #[.val (.ref x)] [.ref x])) rfl (rest := []) rfl (hb hbytes d7)
  have c5 : Steps p.tables e below (s₁.setTop (entryFrame m #[.ref x] 1)) (T4.setTop (mkF m 14 #[.val (.ref x)] [.int cd])) := (c3.trans (st4 _ (Steps.refl _))).trans (by
    refine XS.goto X4.here hexec rfl (pc0 := 10) rfl (hb hbytes d10) (by decide) rfl ?_
    exact Steps.refl _)
  exact ⟨T4, some (.int cd), _, _, _, X4, rfl, rfl, rfl, (fun h => by cases h), ⟨rfl, q4.trans hh2⟩, fun fs hl => c5.trans (X4.ireturnOut hexec hret (by rcases hc with rfl | rfl <;> rfl) (Or.inr (Or.inr (Or.inl rfl))) (hb hbytes d14) hl)⟩
end Cdr
namespace Len
def yN : MethodName := ⟨"java/lang/String", "length", "()I"⟩
abbrev yB : ByteArray := jdk_42_method_54_code
theorem d0 : decode yB 0 = .ok (.aload_n 0, 1) := by decide +kernel
theorem d1 : decode yB 1 = .ok (.getfield 9, 3) := by decide +kernel
theorem d4 : decode yB 4 = .ok (.arraylength, 1) := by decide +kernel
theorem d5 : decode yB 5 = .ok (.aload_n 0, 1) := by decide +kernel
theorem d6 : decode yB 6 = .ok (.invokevirtual 335, 3) := by decide +kernel
theorem d9 : decode yB 9 = .ok (.ishr, 1) := by decide +kernel
theorem d10 : decode yB 10 = .ok (.ireturn, 1) := by decide +kernel
def site : List Cond := [.fieldLink "java/lang/String" 9 "java/lang/String" "value" "[B", Cdr.tab] ++ virtW "java/lang/String" 335 "java/lang/String" Cdr.yN Cdr.yN
def tab : Cond := tabOf yN yB 1 (some .int) site
def P (x t : Addr) (V : Cell) (cd : Int32) (n : Nat) (f : Nat → Int32) (z : Int32) (args : Array Value) (s : State) : Prop := args = #[.ref x] ∧ Txt x t V cd n f s ∧ StaticIs s "java/lang/String" "COMPACT_STRINGS" "Z" (.int z) ∧ ¬ z = 0
def E (n : Nat) (r : Option Value) (s u : State) : Prop := XT.PureE (some (.int (Int32.ofNat n))) r s u
/-- length() of a String of n chars, in either coding -/
theorem law (l : Launch) (x t : Addr) (V : Cell) (cd : Int32) (n : Nat) (f : Nat → Int32) (z : Int32) : Law l yN 1 0 1 13 yB 1 (some .int) site (P x t V cd n f z) (E n) [] 0 0 := by
  refine Law.of_walk (plainFor_of_name (by decide +kernel)) (by decide +kernel) (by decide +kernel) (by decide) (fun _ _ h => by rw [h.1]; rfl) (fun _ U U' hal hh h => ⟨h.1, h.2.1.mv hal hh, h.2.2.1.there hal hh, h.2.2.2⟩) (fun r U U' V V' h1 hal h2 h => XT.PureE.mv r U U' V V' h1 hal h2 h) ?_
  intro p e s m args below meth c s₁ X0 hexec hbytes hml hret hlk hnm hown hh0 W hP
  obtain ⟨rfl, hx, s1, hz⟩ := hP
  have v31 := hx.2.2.2.1.2.2.2
  have c1 : Steps p.tables e below (s₁.setTop (entryFrame m #[.ref x] 1)) (s₁.setTop (mkF m 1 #[.val (.ref x)] [.ref x])) := Steps.trans (entry rfl) (by
    show Steps p.tables e below (s₁.setTop (mkF m 0 #[.val (.ref x)] [])) _
    refine XS.aloadN X0.here hexec rfl (hb hbytes d0) rfl rfl ?_
    exact Steps.refl _)
  obtain ⟨T2, X2, q2, st2⟩ := X0.hget hexec hown (wk W (.fieldLink "java/lang/String" 9 "java/lang/String" "value" "[B")) (hx.mv X0.warmed.alike hh0).2.1 (g := (mkF m 1 #[.val (.ref x)] [.ref x])) rfl (rest := []) rfl (hb hbytes d1)
  have hh2 := q2.trans hh0
  have hx2 := hx.mv X2.warmed.alike hh2
  have c3 : Steps p.tables e below (s₁.setTop (entryFrame m #[.ref x] 1)) (T2.setTop (mkF m 6 #[.val (.ref x)] [.ref x, .int (Int32.ofNat V.slots.size)])) := (c1.trans (st2 _ (Steps.refl _))).trans (by
    refine X2.alen hexec hx2.2.2.2.1 rfl rfl (hb hbytes d4) ?_
    refine XS.aloadN X2.here hexec rfl (hb hbytes d5) rfl rfl ?_
    exact Steps.refl _)
  obtain ⟨v4, T4, X4, E4, g4⟩ := X2.callV hexec (Cdr.law l x cd z) hown (wks W (virtW "java/lang/String" 335 "java/lang/String" Cdr.yN Cdr.yN)) rfl (by decide) (wk W Cdr.tab) (W := 1) (Nat.le_of_ble_eq_true rfl) (Nat.le_of_ble_eq_true rfl) (Nat.le_refl _) (Nat.le_refl _) (hx2.1.fc X2.warmed.alike) hx2.1.is (g := (mkF m 6 #[.val (.ref x)] [.ref x, .int (Int32.ofNat V.slots.size)])) rfl (by rw [hml]; rfl) c3 (argsL := []) (rest := [.int (Int32.ofNat V.slots.size)]) rfl rfl (by show 2 * 0 + (1 + 0) ≤ _; decide) (hb hbytes d6) (⟨rfl, hx2.2.2.1, hx.2.2.2.2.1.cd, s1.there X2.warmed.alike hh2, hz⟩)
  obtain ⟨rfl, q4⟩ := E4
  have c5 : Steps p.tables e below (s₁.setTop (entryFrame m #[.ref x] 1)) (T4.setTop (mkF m 10 #[.val (.ref x)] [.int (Int32.ofNat V.slots.size >>> (cd &&& 31))])) := Steps.trans g4 (by
    refine ishr X4.here hexec rfl (hb hbytes d9) rfl ?_
    exact Steps.refl _)
  rw [hx.2.2.2.2.1.len v31] at c5
  exact ⟨T4, some (.int (Int32.ofNat n)), _, _, _, X4, rfl, rfl, rfl, (fun h => by cases h), ⟨rfl, q4.trans hh2⟩, fun fs hl => c5.trans (X4.ireturnOut hexec hret rfl (Or.inl rfl) (hb hbytes d10) hl)⟩
theorem pays {l : Launch} {R : Room} {p : Program} {e : Env} {below : List Frame} {s : State} {sargs : Array Value} {len W : Nat} (x t : Addr) (V : Cell) (cd : Int32) (n : Nat) (f : Nat → Int32) (z : Int32) (htab : tab.before sargs s = true) (hfr : 2 ≤ R.frames) (hlo : W + 25 ≤ R.locals) :
    Back l R p e below s sargs yN len W (fun A₁ a₁ => A₁.cells + 0 ≤ R.cells ∧ A₁.slots + 0 ≤ R.slots ∧ P x t V cd n f z a₁ A₁.U) (fun A₁ _ v₁ B₁ => E n v₁ A₁.U B₁.U ∧ B₁.locs = A₁.locs ++ [] ∧ B₁.cells = A₁.cells + 0 ∧ B₁.slots = A₁.slots + 0) :=
  (law l x t V cd n f z).pays htab hfr (by omega)
end Len
end StrChars
namespace StrChars.Road
open Jvm Sem ClassFile Op Lib Jvm.Stand Jvm.Free Jvm.Free.XT
open Jvm.Lib.Cold (StaticIs)
theorem consq {a : Array Value} {s : State} {c : Jvm.Cond} {L : List Jvm.Cond} (h0 : c.before a s = true) (h : ∀ w ∈ L, w.before a s = true) : ∀ w ∈ c :: L, w.before a s = true := fun w hw => (List.mem_cons.mp hw).elim (fun e => e ▸ h0) (h w)
/-- the words of String.length(), either coding -/
abbrev wordsLen : List Jvm.Cond := [.code Len.yN Len.yB 1 (some .int), .initialized ST, .fieldLink ST 9 ST "value" "[B", .fieldLink ST 38 ST "COMPACT_STRINGS" "Z", .fieldLink ST 15 ST "coder" "B", .code Cdr.yN Cdr.yB 1 (some .byte), .methodLink ST 335 Cdr.yN, .declares Cdr.yN, .selects ST Cdr.yN Cdr.yN, .instanceMethod Cdr.yN]
theorem tabLen_of {a : Array Value} {s : State} (h : ∀ w ∈ wordsLen, w.before a s = true) : Len.tab.before a s = true := by
  have hc : Cdr.tab.before a s = true := unparts (wk h (.code Cdr.yN Cdr.yB 1 (some .byte))) (wks h (.initialized Cdr.yN.cls :: Cdr.site))
  have q := consq hc h
  exact unparts (wk q (.code Len.yN Len.yB 1 (some .int))) (wks q (.initialized Len.yN.cls :: Len.site))
theorem movedLen {Z s : State} {a0 args : Array Value} (hZ : Z.Warmed39 s.vm) (hw : ∀ d ∈ wordsLen, d.before a0 Z = true) : ∀ d ∈ wordsLen, d.before args s = true := fun d hd => by
  have q := hw d hd
  have t : ∀ d ∈ wordsLen, d = .arrayClass .byte ∨ (d.onTables && d.keepsFace) = true := by decide +kernel
  rcases t d hd with rfl | t
  · exact RoadKit.mvA hZ q
  · exact RoadKit.mv hZ q t
/-- the bytes of the chars cs, low before high -/
def wideBytes : List Int32 → List Value
  | [] => []
  | c :: cs => .int (lo8 c) :: .int (hi8 c) :: wideBytes cs
theorem wide_lo (d : Value) : ∀ (cs : List Int32) (j : Nat), j < cs.length → (wideBytes cs).getD (2 * j) d = .int (lo8 (cs.getD j 0))
  | [], j, h => absurd h (Nat.not_lt_zero j)
  | c :: cs, 0, _ => rfl
  | c :: cs, j + 1, h => by
    have q := wide_lo d cs j (by simpa using h)
    rw [show 2 * (j + 1) = 2 * j + 1 + 1 from by omega]
    simpa [wideBytes] using q
theorem wide_hi (d : Value) : ∀ (cs : List Int32) (j : Nat), j < cs.length → (wideBytes cs).getD (2 * j + 1) d = .int (hi8 (cs.getD j 0))
  | [], j, h => absurd h (Nat.not_lt_zero j)
  | c :: cs, 0, _ => rfl
  | c :: cs, j + 1, h => by
    have q := wide_hi d cs j (by simpa using h)
    rw [show 2 * (j + 1) + 1 = 2 * j + 1 + 1 + 1 from by omega]
    simpa [wideBytes] using q
theorem low_at (d : Value) (cs : List Int32) (j : Nat) (h : j < cs.length) : (cs.map fun c => Value.int (lo8 c)).getD j d = .int (lo8 (cs.getD j 0)) := by
  simp [List.getD_eq_getElem?_getD, h]
/-- an array of N2 bytes vs codes the chars cs by the coder cd -/
def CodA (cs : List Int32) (cd N2 : Int32) (vs : List Value) : Prop := (cd = 0 ∧ N2 = Int32.ofNat cs.length ∧ vs = (cs.map fun c => Value.int (lo8 c)) ∧ ∀ c ∈ cs, ¬ 255 < c) ∨ (cd = 1 ∧ N2 = Int32.ofNat (2 * cs.length) ∧ vs = wideBytes cs ∧ ∃ c ∈ cs, 255 < c)
theorem CodA.cod {cs : List Int32} {cd N2 : Int32} {vs : List Value} {V : Cell} (h : CodA cs cd N2 vs) (hn : 2 * cs.length < 2 ^ 31) (hs : V.slots.size = N2.toNatClampNeg) (hv : RoadKit.Has V vs (.int 0)) : Cod cd cs.length (fun j => cs.getD j 0) V := by
  rcases h with ⟨rfl, rfl, rfl, h⟩ | ⟨rfl, rfl, rfl, c, hc, hw⟩
  · rw [n32 (by omega)] at hs
    exact Or.inl ⟨rfl, hs, fun j hj => ⟨by rw [hv j (by omega), low_at _ _ _ hj], by
      have e : cs.getD j 0 = cs[j] := by simp [List.getD_eq_getElem?_getD, hj]
      show ¬ 255 < cs.getD j 0
      rw [e]; exact h _ (List.getElem_mem _)⟩⟩
  · rw [n32 (by omega)] at hs
    obtain ⟨j, hj, rfl⟩ := List.getElem_of_mem hc
    exact Or.inr ⟨rfl, hs, fun j hj => ⟨by rw [hv _ (by omega), wide_lo _ _ _ hj], by rw [hv _ (by omega), wide_hi _ _ _ hj]⟩, j, hj, by
      have e : cs.getD j 0 = cs[j] := by simp [List.getD_eq_getElem?_getD, hj]
      show 255 < cs.getD j 0
      rw [e]; exact hw⟩
/-- an object of exactly java/lang/String, its two fields found: as the laws ask it -/
theorem strObj {Z U : State} {a0 : Array Value} {kI : Nat} (wi : (Jvm.Cond.instantiable ST kI).before a0 Z = true) (al : Z.vm.Alike U.vm) {x : Addr} {v0 c0 : Value} (E : RoadKit.Exa Z U.heap x ST) (V : RoadKit.Fld Z U.heap x ST "value" "[B" v0) (C : RoadKit.Fld Z U.heap x ST "coder" "B" c0) :
    ∃ (D : Cell) (fV fC : Field), Blank ST x D U ∧ Found ST "value" "[B" fV U ∧ Found ST "coder" "B" fC U ∧ D.slots[fV.slot]? = some v0 ∧ D.slots[fC.slot]? = some c0 ∧ RoadKit.slotOf Z ST "value" "[B" = fV.slot ∧ RoadKit.slotOf Z ST "coder" "B" = fC.slot := by
  obtain ⟨D, cfV, kV, iV, fV, hD, gV, stV, knV, obV, asV, slV⟩ := V
  obtain ⟨D', cfC, kC, iC, fC, hD', gC, stC, -, -, asC, slC⟩ := C
  cases hD.symm.trans hD'
  obtain ⟨D2, kD, e1, e2, e3, e4, e5⟩ := E
  cases hD.symm.trans e1
  obtain ⟨c2, k2, i1, i2, i3, -⟩ := Cond.instantiable_spec wi
  cases e2.symm.trans i1
  cases e3.symm.trans i2
  obtain ⟨kU, u1, u2⟩ := al.2.2 _ _ e3
  exact ⟨D, fV, fC, ⟨hD, ⟨knV, fun q hq => by rw [hq] at obV; cases obV⟩, by rw [al.findClass]; exact e2, kU, u1, by rw [u2]; exact i3, by rw [u2]; exact e5 i3⟩, ⟨SBG.found_only al ⟨cfV, kV, iV, gV⟩, stV⟩, ⟨SBG.found_only al ⟨cfC, kC, iC, gC⟩, stC⟩, slV, slC, by simp [RoadKit.slotOf, gV], by simp [RoadKit.slotOf, gC]⟩
theorem sta_is {Z U : State} (al : Z.vm.Alike U.vm) {C n d : String} {v : Value} (S : RoadKit.Sta Z U.heap C n d v) : StaticIs U C n d v := by
  obtain ⟨cfS, iS, kS, fS, st, cS, t1, t2, t3, t4, t5, t6, t7⟩ := S
  exact StaticIs.there (s := { Z with heap := U.heap }) ⟨cfS, iS, kS, fS, st, cS, t1, t2, t3, t4, t5, (fun q => by rw [q] at t6; cases t6), t7⟩ al rfl
/-- **length() OF SUCH A STRING** -/
theorem lenW {p : Program} {l : Launch} {e : Env} {R : Room} {s : State} {args : Array Value} {below : List Frame} {len W : Nat} {Z : State} {a0 : Array Value} {h : Heap} (hZ : Z.Warmed39 s.vm) (hw : ∀ d ∈ wordsLen, d.before a0 Z = true) {kI : Nat} (wi : (Jvm.Cond.instantiable ST kI).before a0 Z = true)
    {x t : Addr} {kb : ClassId} {cs : List Int32} {cd N2 z : Int32} {vs : List Value} (E : RoadKit.Exa Z h x ST) (V : RoadKit.Fld Z h x ST "value" "[B" (.ref t)) (C : RoadKit.Fld Z h x ST "coder" "B" (.int cd)) (K : RoadKit.Arv Z h t kb .byte N2 vs (.int 0)) (hc : CodA cs cd N2 vs) (hb : ∀ c ∈ cs, ¬ c < 0 ∧ ¬ (65535 : Int32) < c)
    (S : RoadKit.Sta Z h ST "COMPACT_STRINGS" "Z" (.int z)) (hz : ¬ z = 0) (l2 : cs.length ≤ 4000) (hfr : 2 ≤ R.frames) (hlo : W + 25 ≤ R.locals) :
    Back l R p e below s args (⟨"java/lang/String", "length", "()I"⟩ : MethodName) len W (fun P a => a = #[.ref x] ∧ P.U.heap = h ∧ P.cells + 0 ≤ R.cells ∧ P.slots + 0 ≤ R.slots)
      (fun P _ v B => ∃ L, (v = some (.int (Int32.ofNat cs.length)) ∧ L = [] ∧ B.U.heap = h) ∧ B.locs = P.locs ++ L ∧ B.cells = P.cells + 0 ∧ B.slots = P.slots + 0) := by
  obtain ⟨A, K1, K2, K3, K4, K5, K6⟩ := K
  have hcod := hc.cod (by omega) K3 K5
  intro m meth c P g ig mk a X hg hsize hdg hW hn hp'
  obtain ⟨rfl, rfl, r1, r2⟩ := hp'
  have al : Z.vm.Alike P.U.vm := hZ.alike.trans X.warmed.alike
  obtain ⟨D, fV, fC, hB, F1, F2, g1, g2, -, -⟩ := strObj wi al E V C
  have hx : Txt x t A cd cs.length (fun j => cs.getD j 0) P.U := ⟨⟨_, hB.2.2.1, D, hB.1, rfl, by cases q : D.vm <;> first | rfl | exact absurd q (hB.2.1.2 _)⟩, Has.of hB F1 g1, Has.of hB F2 g2, ⟨K1.1, State.isArrayOf_alike al K1.2.1, K1.2.2, by rcases hcod with ⟨-, q, -⟩ | ⟨-, q, -⟩ <;> omega⟩, hcod, fun j hj => by
    have e : cs.getD j 0 = cs[j] := by simp [List.getD_eq_getElem?_getD, hj]
    show ¬ cs.getD j 0 < 0 ∧ ¬ 65535 < cs.getD j 0
    rw [e]; exact hb _ (List.getElem_mem _)⟩
  obtain ⟨v, B, X', ⟨⟨hv, hh⟩, hl, hk, hs⟩, st⟩ := Len.pays x t A cd cs.length (fun j => cs.getD j 0) z (tabLen_of (movedLen hZ hw)) hfr hlo m meth c P g ig mk _ X hg hsize hdg hW hn ⟨r1, r2, rfl, hx, sta_is al S, hz⟩
  exact ⟨v, B, X', ⟨[], ⟨hv, rfl, hh⟩, hl, hk, hs⟩, st⟩
end StrChars.Road
namespace StrChars.Road
open Jvm Sem ClassFile Op Lib Jvm.Stand Jvm.Free Jvm.Free.XT
open Jvm.Lib.Cold (StaticIs)
/-- what backV says of its String, as the contracts of this text ask it: cs's low bytes, coder 0 -/
theorem codOf {cs : List Int32} {n : Nat} (hn : cs.length = n) (hb : ∀ c ∈ cs, ¬ 255 < c) : CodA cs 0 (Int32.ofNat n) ((cs.map lo8).map Value.int) := Or.inl ⟨rfl, by rw [hn], by simp [List.map_map, Function.comp_def], hb⟩
end StrChars.Road
end Jvm.Pilot.@@N@@
namespace Jvm.Pilot.@@N@@
open Jvm Jvm.ClassFile Sem Op Lib Jvm.Free Jvm.Stand Jvm.LawKit Jvm.RoadKit Bundle Jvm.Own Jvm.Pilot.@@N@@.Jvm.D
theorem own_EL {Z : State} {a0 : Array Value} (hw : ∀ d ∈ tables_1, d.before a0 Z = true) : EW Z a0 consts_1 := (EW.cons (hw _ (List.mem_of_getElem? (i := 34) rfl)) (by decide) (EW.cons (hw _ (List.mem_of_getElem? (i := 35) rfl)) (by decide) (EW.cons (hw _ (List.mem_of_getElem? (i := 22) rfl)) (by decide) EW.nil)))
theorem own_wS {Z : State} {a0 : Array Value} (hw : ∀ d ∈ tables_1, d.before a0 Z = true) : ∀ d ∈ Bundle.stringAtoms, d.before a0 Z = true := fun d hd => hw d ((by decide +kernel : ∀ d ∈ Bundle.stringAtoms, d ∈ tables_1) d hd)
theorem own_hLen {Z : State} {a0 : Array Value} (hw : ∀ d ∈ tables_1, d.before a0 Z = true) : ∀ d ∈ StrChars.Road.wordsLen, d.before a0 Z = true := fun d hd => hw d ((by decide +kernel : ∀ d ∈ StrChars.Road.wordsLen, d ∈ tables_1) d hd)
/-- the first place of c in a list, counted from i; -1 where there is none -/
def fix (c : Int32) : List Int32 → Nat → Int32
  | [], _ => -1
  | d :: ds, i => if d = c then Int32.ofNat i else fix c ds (i + 1)
theorem drop_at {cs : List Int32} {i : Nat} (h : i < cs.length) : cs.drop i = cs.getD i 0 :: cs.drop (i + 1) := by
  rw [List.drop_eq_getElem_cons h]; simp [List.getD_eq_getElem?_getD, h]
theorem fix_here {cs : List Int32} {c : Int32} {i : Nat} (h : i < cs.length) (e : cs.getD i 0 = c) : fix c (cs.drop i) i = Int32.ofNat i := by rw [drop_at h, fix, if_pos e]
theorem fix_next {cs : List Int32} {c : Int32} {i : Nat} (h : i < cs.length) (e : ¬ cs.getD i 0 = c) : fix c (cs.drop i) i = fix c (cs.drop (i + 1)) (i + 1) := by rw [drop_at h, fix, if_neg e]
theorem fix_end {cs : List Int32} {c : Int32} {i : Nat} (h : i + 0 = cs.length) : fix c (cs.drop i) i = -1 := by rw [List.drop_of_length_le (by omega)]; rfl
/-- the last place of c among the first n -/
def lix (c : Int32) (cs : List Int32) : Nat → Int32
  | 0 => -1
  | n + 1 => if cs.getD n 0 = c then Int32.ofNat n else lix c cs n
theorem lat_at {cs : List Int32} {i : Nat} (h : i < cs.length) : ((cs.map fun c => c.toInt8.toInt32).map Value.int)[i]? = some (.int (cs.getD i 0).toInt8.toInt32) := by
  simp [List.getD_eq_getElem?_getD, h]
theorem lat_all {cs : List Int32} (hl : ∀ c ∈ cs, Lt8 c) {i : Nat} (h : i < cs.length) : Lt8 (cs.getD i 0) := by
  have e : cs.getD i 0 = cs[i] := by simp [List.getD_eq_getElem?_getD, h]
  rw [e]; exact hl _ (List.getElem_mem h)
theorem lo8_inj {x y : Int32} (hx : Lt8 x) (hy : Lt8 y) (h : x.toInt8.toInt32 = y.toInt8.toInt32) : x = y := by
  have a := StrChars.lo8_mask hx.1 hx.2
  have b := StrChars.lo8_mask hy.1 hy.2
  have e : StrChars.lo8 x = StrChars.lo8 y := h
  rw [e] at a; exact a.symm.trans b
theorem lt_ofNat {i n : Nat} (h : i < n) (hn : n ≤ 4000) : Int32.ofNat i < Int32.ofNat n := by
  have e1 : (Int32.ofNat i).toInt = i := Int32.toInt_ofNat_of_lt (by omega)
  have e2 : (Int32.ofNat n).toInt = n := Int32.toInt_ofNat_of_lt (by omega)
  rw [Int32.lt_iff_toInt_lt, e1, e2]; omega
theorem not_lt_ofNat {i n : Nat} (h : n ≤ i) (hn : i ≤ 4000) : ¬ Int32.ofNat i < Int32.ofNat n := by
  have e1 : (Int32.ofNat i).toInt = i := Int32.toInt_ofNat_of_lt (by omega)
  have e2 : (Int32.ofNat n).toInt = n := Int32.toInt_ofNat_of_lt (by omega)
  rw [Int32.lt_iff_toInt_lt, e1, e2]; omega
theorem ofNat_succ (i : Nat) : Int32.ofNat i + 1 = Int32.ofNat (i + 1) := by rw [Int32.ofNat_add]; rfl
theorem ofNat_pred (i : Nat) : Int32.ofNat (i + 1) - 1 = Int32.ofNat i := by rw [← ofNat_succ, Int32.add_sub_cancel]
theorem ofNat_dec (i : Nat) : Int32.ofNat i + (-1) = Int32.ofNat i - 1 := by rw [Int32.sub_eq_add_neg]
theorem fix_none {c : Int32} {cs : List Int32} (h : ¬ (0 : Int32) < Int32.ofNat cs.length) (hn : cs.length ≤ 4000) : fix c cs 0 = -1 := by
  cases cs with
  | nil => rfl
  | cons d ds => exact absurd (lt_ofNat (i := 0) (n := (d :: ds).length) (by simp) hn) h

theorem e0_0 : decode jdk_42_method_149_code 0 = .ok (.aload_n 0, 1) := by decide +kernel
theorem e0_1 : decode jdk_42_method_149_code 1 = .ok (.invokespecial 1, 3) := by decide +kernel
theorem e0_4 : decode jdk_42_method_149_code 4 = .ok (.iload_n 3, 1) := by decide +kernel
theorem e0_5 : decode jdk_42_method_149_code 5 = .ok (.ifCond .ne 22, 3) := by decide +kernel
theorem e0_8 : decode jdk_42_method_149_code 8 = .ok (.aload_n 0, 1) := by decide +kernel
theorem e0_9 : decode jdk_42_method_149_code 9 = .ok (.ldc 7, 2) := by decide +kernel
theorem e0_11 : decode jdk_42_method_149_code 11 = .ok (.getfield 9, 3) := by decide +kernel
theorem e0_14 : decode jdk_42_method_149_code 14 = .ok (.putfield 9, 3) := by decide +kernel
theorem e0_17 : decode jdk_42_method_149_code 17 = .ok (.aload_n 0, 1) := by decide +kernel
theorem e0_18 : decode jdk_42_method_149_code 18 = .ok (.ldc 7, 2) := by decide +kernel
theorem e0_20 : decode jdk_42_method_149_code 20 = .ok (.getfield 15, 3) := by decide +kernel
theorem e0_23 : decode jdk_42_method_149_code 23 = .ok (.putfield 15, 3) := by decide +kernel
theorem e0_26 : decode jdk_42_method_149_code 26 = .ok (.return_, 1) := by decide +kernel
theorem e0_27 : decode jdk_42_method_149_code 27 = .ok (.getstatic 38, 3) := by decide +kernel
theorem e0_30 : decode jdk_42_method_149_code 30 = .ok (.ifCond .eq 28, 3) := by decide +kernel
theorem e0_33 : decode jdk_42_method_149_code 33 = .ok (.aload_n 1, 1) := by decide +kernel
theorem e0_34 : decode jdk_42_method_149_code 34 = .ok (.iload_n 2, 1) := by decide +kernel
theorem e0_35 : decode jdk_42_method_149_code 35 = .ok (.iload_n 3, 1) := by decide +kernel
theorem e0_36 : decode jdk_42_method_149_code 36 = .ok (.invokestatic 177, 3) := by decide +kernel
theorem e0_39 : decode jdk_42_method_149_code 39 = .ok (.astore 5, 2) := by decide +kernel
theorem e0_41 : decode jdk_42_method_149_code 41 = .ok (.aload_n 0, 1) := by decide +kernel
theorem e0_42 : decode jdk_42_method_149_code 42 = .ok (.aload 5, 2) := by decide +kernel
theorem e0_44 : decode jdk_42_method_149_code 44 = .ok (.iload_n 3, 1) := by decide +kernel
theorem e0_45 : decode jdk_42_method_149_code 45 = .ok (.invokestatic 47, 3) := by decide +kernel
theorem e0_48 : decode jdk_42_method_149_code 48 = .ok (.putfield 15, 3) := by decide +kernel
theorem e0_51 : decode jdk_42_method_149_code 51 = .ok (.aload_n 0, 1) := by decide +kernel
theorem e0_52 : decode jdk_42_method_149_code 52 = .ok (.aload 5, 2) := by decide +kernel
theorem e0_54 : decode jdk_42_method_149_code 54 = .ok (.putfield 9, 3) := by decide +kernel
theorem e0_57 : decode jdk_42_method_149_code 57 = .ok (.return_, 1) := by decide +kernel
theorem e0_58 : decode jdk_42_method_149_code 58 = .ok (.aload_n 0, 1) := by decide +kernel
theorem e0_59 : decode jdk_42_method_149_code 59 = .ok (.iconst 1, 1) := by decide +kernel
theorem e0_60 : decode jdk_42_method_149_code 60 = .ok (.putfield 15, 3) := by decide +kernel
theorem e0_63 : decode jdk_42_method_149_code 63 = .ok (.aload_n 0, 1) := by decide +kernel
theorem e0_64 : decode jdk_42_method_149_code 64 = .ok (.aload_n 1, 1) := by decide +kernel
theorem e0_65 : decode jdk_42_method_149_code 65 = .ok (.iload_n 2, 1) := by decide +kernel
theorem e0_66 : decode jdk_42_method_149_code 66 = .ok (.iload_n 3, 1) := by decide +kernel
theorem e0_67 : decode jdk_42_method_149_code 67 = .ok (.invokestatic 180, 3) := by decide +kernel
theorem e0_70 : decode jdk_42_method_149_code 70 = .ok (.putfield 9, 3) := by decide +kernel
theorem e0_73 : decode jdk_42_method_149_code 73 = .ok (.return_, 1) := by decide +kernel
theorem pn0 : plainName "java/lang/String" = true := by first | (simp [plainName, overriddenIn]; done) | decide +kernel
set_option maxRecDepth 65536 in
set_option maxHeartbeats 40000000 in
theorem con_new4E (l : Launch) (Z : State) (a0 : Array Value) (hw : ∀ d ∈ tables_1, d.before a0 Z = true) (x b : Addr) (h0 : Heap) (O0 : Ext Z.heap h0) (X_x : Exa Z h0 x "java/lang/String") (F_value_x : Fld Z h0 x "java/lang/String" "value" "[B" .null) (F_coder_x : Fld Z h0 x "java/lang/String" "coder" "B" (.int (0 : Int32))) (n_x : Z.heap.size ≤ x) :
    Con l Z consts_1 false (⟨"java/lang/String", "<init>", "([CIILjava/lang/Void;)V"⟩ : MethodName) jdk_42_method_149_code 6 none [] ({ frames := 1, cells := 4, slots := 8, locals := 12 } : Room) #[(.ref x), (.ref b), (.int (0 : Int32)), (.int (0 : Int32)), .null] [] h0 (fun v h => v = none ∧ Keep h0 h [x] ∧ Sg Z h x []) := by
  refine Con.intro (Ls := #[.val (.ref x), .val (.ref b), .val (.int (0 : Int32)), .val (.int (0 : Int32)), .val .null, .unset]) (plainFor_of_name pn0) (own_EL hw) O0 (fun m => by first | rfl | (simp [entryFrame, mkF, argsToLocals, Value.category]; done)) (fun p e s m below meth cc_ T w sf_ => ?_)
  have K0 := Keep.refl h0 [x]
  have s_x := safe_null (EL := consts_1) (vm := s.vm) w.wz.alike (hw _ (List.mem_of_getElem? (i := 10) rfl)) X_x F_value_x
  refine g_aloadN w e0_0 (q := 1) rfl rfl rfl ?_
  refine g_initO w e0_1 (q := 4) rfl rfl (hw _ (List.mem_of_getElem? (i := 19) rfl)) (hw _ (List.mem_of_getElem? (i := 20) rfl)) (hw _ (List.mem_of_getElem? (i := 21) rfl)) (W := 0) (Nat.le_of_eq rfl) (by decide) (by decide) (fun T w => ?_)
  refine g_iloadN w e0_4 (q := 5) rfl rfl ?_
  refine g_ifN w e0_5 (q := 8) rfl (by decide) ?_
  refine g_aloadN w e0_8 (q := 9) rfl rfl rfl ?_
  refine g_ldcS w e0_9 (q := 11) rfl rfl (hw _ (List.mem_of_getElem? (i := 22) rfl)) (own_wS hw) (by decide) (vs := []) (z := 0) ⟨by decide, by decide⟩ (by decide) (by decide) (nn := 0) (by decide) (by decide) (by decide) (by decide) (fun T vm h t2 b_t2 kb_t2 w E X_t2 Fc_t2 Fv_t2 Ab_t2 C Sf => ?_)
  replace s_x := C.safe X_x.lt s_x
  have nb_x_t2 := (Sf _ s_x).2
  have ne_x_t2 := (Sf _ s_x).1
  have ne_x_b_t2 := nb_x_t2
  replace K0 := K0.ext E
  replace X_x := X_x.ext E
  replace F_value_x := F_value_x.ext E
  replace F_coder_x := F_coder_x.ext E
  refine g_getF w e0_11 (q := 14) rfl (host := "") (Or.inl (hw _ (List.mem_of_getElem? (i := 28) rfl))) Via.refl Fv_t2 (fun T w => ?_)
  have g_ := w.chv
  refine g_putF w e0_14 (q := 17) rfl (hw _ (List.mem_of_getElem? (i := 28) rfl)) Via.refl F_value_x X_x (Or.inr ⟨(hw _ (List.mem_of_getElem? (i := 24) rfl)), rfl, rfl⟩) (hw _ (List.mem_of_getElem? (i := 10) rfl)) (ty := (.array .byte)) (by decide) (v' := (.ref b_t2)) rfl rfl n_x s_x (fun T h w W => ?_)
  replace K0 := K0.wr W (Or.inl (List.mem_singleton.mpr rfl))
  replace s_x := Safe.wr W s_x g_ s_x
  replace X_x := X_x.wr W
  replace F_value_x := F_value_x.same W
  replace F_coder_x := F_coder_x.other W (Or.inr (slot_ne (Or.inr (hw _ (List.mem_of_getElem? (i := 25) rfl))) (Or.inr (hw _ (List.mem_of_getElem? (i := 24) rfl))) (by decide) (t := .byte) (t' := (.array .byte)) (by decide) (by decide)))
  replace X_t2 := X_t2.wr W
  replace Fc_t2 := Fc_t2.other W (Or.inl ne_x_t2.symm)
  replace Fv_t2 := Fv_t2.other W (Or.inl ne_x_t2.symm)
  replace Ab_t2 := Ab_t2.other W ne_x_b_t2.symm
  refine g_aloadN w e0_17 (q := 18) rfl rfl rfl ?_
  refine g_ldcS w e0_18 (q := 20) rfl rfl (hw _ (List.mem_of_getElem? (i := 22) rfl)) (own_wS hw) (by decide) (vs := []) (z := 0) ⟨by decide, by decide⟩ (by decide) (by decide) (nn := 0) (by decide) (by decide) (by decide) (by decide) (fun T vm h t3 b_t3 kb_t3 w E X_t3 Fc_t3 Fv_t3 Ab_t3 C Sf => ?_)
  replace s_x := C.safe X_x.lt s_x
  have nb_x_t3 := (Sf _ s_x).2
  have ne_x_t3 := (Sf _ s_x).1
  have ne_x_b_t3 := nb_x_t3
  replace K0 := K0.ext E
  replace X_x := X_x.ext E
  replace F_value_x := F_value_x.ext E
  replace F_coder_x := F_coder_x.ext E
  replace X_t2 := X_t2.ext E
  replace Fc_t2 := Fc_t2.ext E
  replace Fv_t2 := Fv_t2.ext E
  replace Ab_t2 := Ab_t2.ext E
  refine g_getF w e0_20 (q := 23) rfl (host := "") (Or.inl (hw _ (List.mem_of_getElem? (i := 29) rfl))) Via.refl Fc_t3 (fun T w => ?_)
  have g_ := w.chv
  refine g_putF w e0_23 (q := 26) rfl (hw _ (List.mem_of_getElem? (i := 29) rfl)) Via.refl F_coder_x X_x (Or.inr ⟨(hw _ (List.mem_of_getElem? (i := 25) rfl)), rfl, rfl⟩) (hw _ (List.mem_of_getElem? (i := 10) rfl)) (ty := .byte) (by decide) (v' := (.int (0 : Int32))) rfl rfl n_x s_x (fun T h w W => ?_)
  replace K0 := K0.wr W (Or.inl (List.mem_singleton.mpr rfl))
  replace s_x := Safe.wr W s_x g_ s_x
  replace X_x := X_x.wr W
  replace F_value_x := F_value_x.other W (Or.inr (slot_ne (Or.inr (hw _ (List.mem_of_getElem? (i := 24) rfl))) (Or.inr (hw _ (List.mem_of_getElem? (i := 25) rfl))) (by decide) (t := (.array .byte)) (t' := .byte) (by decide) (by decide)))
  replace F_coder_x := F_coder_x.same W
  replace X_t2 := X_t2.wr W
  replace Fc_t2 := Fc_t2.other W (Or.inl ne_x_t2.symm)
  replace Fv_t2 := Fv_t2.other W (Or.inl ne_x_t2.symm)
  replace Ab_t2 := Ab_t2.other W ne_x_b_t2.symm
  replace X_t3 := X_t3.wr W
  replace Fc_t3 := Fc_t3.other W (Or.inl ne_x_t3.symm)
  replace Fv_t3 := Fv_t3.other W (Or.inl ne_x_t3.symm)
  replace Ab_t3 := Ab_t3.other W ne_x_b_t3.symm
  exact g_return w e0_26 rfl (by decide) (by decide) ⟨rfl, K0, ⟨Nat.le_of_ble_eq_true rfl, cs0, X_x, b_t2, kb_t2, F_value_x, F_coder_x, Ab_t2⟩⟩
theorem e1_0 : decode jdk_42_method_3_code 0 = .ok (.aload_n 0, 1) := by decide +kernel
theorem e1_1 : decode jdk_42_method_3_code 1 = .ok (.aload_n 1, 1) := by decide +kernel
theorem e1_2 : decode jdk_42_method_3_code 2 = .ok (.iconst 0, 1) := by decide +kernel
theorem e1_3 : decode jdk_42_method_3_code 3 = .ok (.aload_n 1, 1) := by decide +kernel
theorem e1_4 : decode jdk_42_method_3_code 4 = .ok (.arraylength, 1) := by decide +kernel
theorem e1_5 : decode jdk_42_method_3_code 5 = .ok (.aconst_null, 1) := by decide +kernel
theorem e1_6 : decode jdk_42_method_3_code 6 = .ok (.invokespecial 27, 3) := by decide +kernel
theorem e1_9 : decode jdk_42_method_3_code 9 = .ok (.return_, 1) := by decide +kernel
theorem pd0 : parseMethodDescriptor "([CIILjava/lang/Void;)V" = some ⟨[(.array .char), .int, .int, (.object "java/lang/Void")], none⟩ := by decide +kernel
set_option maxRecDepth 65536 in
set_option maxHeartbeats 40000000 in
theorem con_new1E (l : Launch) (Z : State) (a0 : Array Value) (hw : ∀ d ∈ tables_1, d.before a0 Z = true) (x b : Addr) (h0 : Heap) (O0 : Ext Z.heap h0) (X_x : Exa Z h0 x "java/lang/String") (F_value_x : Fld Z h0 x "java/lang/String" "value" "[B" .null) (F_coder_x : Fld Z h0 x "java/lang/String" "coder" "B" (.int (0 : Int32))) (n_x : Z.heap.size ≤ x) (A_b : Ar Z h0 b .char []) (ne_b_x : b ≠ x) :
    Con l Z consts_1 false (⟨"java/lang/String", "<init>", "([C)V"⟩ : MethodName) jdk_42_method_3_code 2 none [] ({ frames := 2, cells := 4, slots := 8, locals := 29 } : Room) #[(.ref x), (.ref b)] [] h0 (fun v h => v = none ∧ Keep h0 h [x] ∧ Sg Z h x []) := by
  refine Con.intro (Ls := #[.val (.ref x), .val (.ref b)]) (plainFor_of_name pn0) (own_EL hw) O0 (fun m => by first | rfl | (simp [entryFrame, mkF, argsToLocals, Value.category]; done)) (fun p e s m below meth cc_ T w sf_ => ?_)
  have K0 := Keep.refl h0 [x]
  refine g_aloadN w e1_0 (q := 1) rfl rfl rfl ?_
  refine g_aloadN w e1_1 (q := 2) rfl rfl rfl ?_
  refine g_iconst w e1_2 (q := 3) rfl (v := (0 : Int32)) (by decide) ?_
  refine g_aloadN w e1_3 (q := 4) rfl rfl rfl ?_
  refine g_alen w e1_4 (q := 5) rfl A_b ?_
  show Go p e below _ (State.setTop T (mkF m 5 #[.val (.ref x), .val (.ref b)] [(.int (0 : Int32)), (.int (0 : Int32)), (.ref b), (.ref x)]))
  refine g_anull w e1_5 (q := 6) rfl ?_
  refine g_special w (con_new4E l Z a0 hw x b _ w.old X_x F_value_x F_coder_x n_x) no0 e1_6 (q := 9) rfl rfl rfl (hw _ (List.mem_of_getElem? (i := 15) rfl)) (hw _ (List.mem_of_getElem? (i := 16) rfl)) (hw _ (List.mem_of_getElem? (i := 11) rfl)) (hw _ (List.mem_of_getElem? (i := 18) rfl)) (by decide) pd0 rfl rfl (W := 0) (Nat.le_of_eq rfl) (by decide) (by decide) (by decide) (by decide) (fun T h v w gs C q => ?_)
  obtain ⟨rfl, K, S_x⟩ := q
  replace K0 := keep_same K0 K
  have X0 := X_x
  replace X_x := X_x.keep K
  replace A_b := A_b.keep K (not1 ne_b_x)
  show Go p e below _ (State.setTop T (mkF m 9 #[.val (.ref x), .val (.ref b)] []))
  exact g_return w e1_9 rfl (by decide) (by decide) ⟨rfl, K0, S_x⟩
theorem shl1 : ∀ i < 64, Int32.ofNat i <<< ((1 : Int32) &&& 31) = Int32.ofNat (2 * i) := by decide +kernel
theorem nbl_lt : ∀ i < 64, Int32.ofNat i < 1073741823 := by decide +kernel
theorem cod0 : ∀ i < 64, (Jvm.Free.XT.ushr (Int32.ofNat i - Int32.ofNat i) 31).toInt8.toInt32 = 0 := by decide +kernel
theorem cod1 : ∀ i < 64, 0 < i → (Jvm.Free.XT.ushr (Int32.ofNat i - Int32.ofNat (2 * i)) 31).toInt8.toInt32 = 1 := by decide +kernel
theorem nar_b (x : Int32) : nar .byte x.toInt8.toInt32 = x.toInt8.toInt32 := by simp [nar]
theorem getch {c : Int32} (h : Lt16 c) : (((StrChars.lo8 c &&& 255) <<< ((0 : Int32) &&& 31)) ||| ((StrChars.hi8 c &&& 255) <<< ((8 : Int32) &&& 31))).toUInt32.toUInt16.toUInt32.toInt32 = c := StrChars.pair_says h.1 h.2
theorem ofNat_ne {i n : Nat} (h : i < n) (hn : n ≤ 4000) : ¬ Int32.ofNat i = Int32.ofNat n := fun q => by
  have e1 : (Int32.ofNat i).toInt = i := Int32.toInt_ofNat_of_lt (by omega)
  have e2 : (Int32.ofNat n).toInt = n := Int32.toInt_ofNat_of_lt (by omega)
  rw [q, e2] at e1; omega
/-- the bytes while compress runs: the first i chars' low bytes, then noughts -/
def midL : List Int32 → Nat → List Value
  | [], _ => []
  | _ :: cs, 0 => .int 0 :: midL cs 0
  | c :: cs, i + 1 => .int c.toInt8.toInt32 :: midL cs i
theorem midL_len : ∀ (cs : List Int32) (i : Nat), (midL cs i).length = cs.length
  | [], _ => rfl
  | _ :: cs, 0 => congrArg (· + 1) (midL_len cs 0)
  | _ :: cs, i + 1 => congrArg (· + 1) (midL_len cs i)
theorem midL_set : ∀ (cs : List Int32) (i : Nat), i < cs.length → (midL cs i).set i (.int (cs.getD i 0).toInt8.toInt32) = midL cs (i + 1)
  | [], _, h => absurd h (Nat.not_lt_zero _)
  | _ :: _, 0, _ => rfl
  | c :: cs, i + 1, h => congrArg (Value.int c.toInt8.toInt32 :: ·) (midL_set cs i (Nat.lt_of_succ_lt_succ h))
theorem midL_zero : ∀ (cs : List Int32), midL cs 0 = List.replicate cs.length (.int 0)
  | [] => rfl
  | _ :: cs => congrArg (Value.int 0 :: ·) (midL_zero cs)
theorem midL_full : ∀ (cs : List Int32), midL cs cs.length = (cs.map fun c => c.toInt8.toInt32).map Value.int
  | [] => rfl
  | c :: cs => congrArg (Value.int c.toInt8.toInt32 :: ·) (midL_full cs)
def midW : List Int32 → Nat → List Value
  | [], _ => []
  | _ :: cs, 0 => .int 0 :: .int 0 :: midW cs 0
  | c :: cs, i + 1 => .int (StrChars.lo8 c) :: .int (StrChars.hi8 c) :: midW cs i
theorem midW_len : ∀ (cs : List Int32) (i : Nat), (midW cs i).length = 2 * cs.length
  | [], _ => rfl
  | _ :: cs, 0 => by have := midW_len cs 0; simp only [midW, List.length_cons]; omega
  | _ :: cs, i + 1 => by have := midW_len cs i; simp only [midW, List.length_cons]; omega
theorem midW_set : ∀ (cs : List Int32) (i : Nat), i < cs.length → ((midW cs i).set (2 * i) (.int (StrChars.lo8 (cs.getD i 0)))).set (2 * i + 1) (.int (StrChars.hi8 (cs.getD i 0))) = midW cs (i + 1)
  | [], _, h => absurd h (Nat.not_lt_zero _)
  | _ :: _, 0, _ => rfl
  | c :: cs, i + 1, h => congrArg (fun t => Value.int (StrChars.lo8 c) :: Value.int (StrChars.hi8 c) :: t) (midW_set cs i (Nat.lt_of_succ_lt_succ h))
theorem midW_zero : ∀ (cs : List Int32), midW cs 0 = List.replicate (2 * cs.length) (.int 0)
  | [] => rfl
  | _ :: cs => congrArg (fun t => Value.int 0 :: Value.int 0 :: t) (midW_zero cs)
theorem midW_full : ∀ (cs : List Int32), midW cs cs.length = StrChars.Road.wideBytes cs
  | [] => rfl
  | c :: cs => congrArg (fun t => Value.int (StrChars.lo8 c) :: Value.int (StrChars.hi8 c) :: t) (midW_full cs)
theorem wide_len (cs : List Int32) : (StrChars.Road.wideBytes cs).length = 2 * cs.length := by rw [← midW_full, midW_len]
theorem wide_at : ∀ (cs : List Int32) (i : Nat), i < cs.length → (StrChars.Road.wideBytes cs)[2 * i]? = some (.int (StrChars.lo8 (cs.getD i 0))) ∧ (StrChars.Road.wideBytes cs)[2 * i + 1]? = some (.int (StrChars.hi8 (cs.getD i 0)))
  | [], _, h => absurd h (Nat.not_lt_zero _)
  | _ :: _, 0, _ => ⟨rfl, rfl⟩
  | _ :: cs, i + 1, h => wide_at cs i (Nat.lt_of_succ_lt_succ h)
theorem chr_at {cs : List Int32} {i : Nat} (h : i < cs.length) : (cs.map Value.int)[i]? = some (.int (cs.getD i 0)) := by simp [List.getD_eq_getElem?_getD, h]
theorem chr_all {cs : List Int32} (hl : ∀ c ∈ cs, Lt16 c) {i : Nat} (h : i < cs.length) : Lt16 (cs.getD i 0) := by
  have e : cs.getD i 0 = cs[i] := by simp [List.getD_eq_getElem?_getD, h]
  rw [e]; exact hl _ (List.getElem_mem h)
theorem lat_of {cs : List Int32} {i : Nat} (hi : i + 0 = cs.length) (hb : ∀ j, j < i → Lt8 (cs.getD j 0)) : ∀ c ∈ cs, Lt8 c := fun c hc => by
  obtain ⟨j, hj, rfl⟩ := List.getElem_of_mem hc
  have e : cs.getD j 0 = cs[j] := by simp [List.getD_eq_getElem?_getD, hj]
  rw [← e]; exact hb j (by omega)
theorem big_mem {cs : List Int32} {k : Nat} (hk : k < cs.length) (h : 255 < cs.getD k 0) : ∃ c ∈ cs, 255 < c := ⟨cs[k], List.getElem_mem hk, by have e : cs.getD k 0 = cs[k] := by simp [List.getD_eq_getElem?_getD, hk]
                                                                                                                                                rwa [e] at h⟩
/-- x is a String of these chars -/
def Su (Z : State) (h : Heap) (x : Addr) (cs : List Int32) : Prop := cs.length ≤ 4000 ∧ (∀ c ∈ cs, Lt16 c) ∧ Exa Z h x "java/lang/String" ∧ ∃ (t : Addr) (kb : ClassId) (cd N2 : Int32) (vs : List Value), Fld Z h x "java/lang/String" "value" "[B" (.ref t) ∧ Fld Z h x "java/lang/String" "coder" "B" (.int cd) ∧ Arv Z h t kb .byte N2 vs (.int 0) ∧ StrChars.Road.CodA cs cd N2 vs
theorem Su.ext {Z : State} {h h' : Heap} {x : Addr} {cs : List Int32} (F : Su Z h x cs) (E : Ext h h') : Su Z h' x cs := by obtain ⟨a, b, c, t, kb, cd, N2, vs, d, e, f, g⟩ := F; exact ⟨a, b, c.ext E, t, kb, cd, N2, vs, d.ext E, e.ext E, f.ext E, g⟩
theorem Su.lt {Z : State} {h : Heap} {x : Addr} {cs : List Int32} (F : Su Z h x cs) : x < h.size := F.2.2.1.lt
theorem Su.exa {Z : State} {h : Heap} {x : Addr} {cs : List Int32} (F : Su Z h x cs) : Exa Z h x "java/lang/String" := F.2.2.1
theorem Su.keepO {Z : State} {a0 : Array Value} {h h' : Heap} {x a : Addr} {cs : List Int32} {C : String} {kk : Nat} (F : Su Z h x cs) (K : Keep h h' [a]) (q : x ≠ a) (E : Exa Z h a C) (wi : (Cond.instantiable C kk).before a0 Z = true) : Su Z h' x cs := by
  obtain ⟨a, b, c, t, kb, cd, N2, vs, d, e, f, g⟩ := F
  exact ⟨a, b, c.keep K, t, kb, cd, N2, vs, d.keep K (not1 q), e.keep K (not1 q), f.keep K (not1 (Exa.neArv E f wi).symm), g⟩
theorem Sg.su {Z : State} {h : Heap} {x : Addr} {cs : List Int32} (F : Sg Z h x cs) : Su Z h x cs := by
  obtain ⟨a, b, c, t, kb, d, e, f⟩ := F
  exact ⟨a, fun c hc => (b c hc).chr, c, t, kb, 0, _, _, d, e, f, StrChars.Road.codOf rfl fun c hc => (b c hc).2⟩
theorem su_of {Z : State} {h : Heap} {x t : Addr} {cs : List Int32} (hn : cs.length ≤ 2000) (hl : ∀ c ∈ cs, Lt16 c) (X : Exa Z h x "java/lang/String") (V : Fld Z h x "java/lang/String" "value" "[B" (.ref t)) (C : Fld Z h x "java/lang/String" "coder" "B" (.int 1)) (A : Ar Z h t .byte (StrChars.Road.wideBytes cs)) (hb : ∃ c ∈ cs, 255 < c) : Su Z h x cs := by
  obtain ⟨kC, A⟩ := A.arv (.int 0)
  rw [wide_len] at A
  exact ⟨by omega, hl, X, t, kC, 1, _, _, V, C, A, Or.inr ⟨rfl, rfl, rfl, hb⟩⟩
theorem sg_of {Z : State} {h : Heap} {x t : Addr} {cs : List Int32} (hn : cs.length ≤ 2000) (hl : ∀ c ∈ cs, Lt8 c) (X : Exa Z h x "java/lang/String") (V : Fld Z h x "java/lang/String" "value" "[B" (.ref t)) (C : Fld Z h x "java/lang/String" "coder" "B" (.int 0)) (A : Ar Z h t .byte ((cs.map fun c => c.toInt8.toInt32).map Value.int)) : Sg Z h x cs := by
  obtain ⟨kC, A⟩ := A.arv (.int 0)
  rw [List.length_map, List.length_map] at A
  exact ⟨by omega, hl, X, t, kC, V, C, A⟩
theorem sta_eq {args : Array Value} {first s : State} {o : Option Outcome} {idx : List Nat} {t : Term} {k : Int32} (h : (Cond.eq t (Term.int k)).value args first o s idx = some true) : t.eval args first o idx s = some (.int k) := by
  obtain ⟨x, y, ex, ey, hk, -⟩ := cmp_v (Or.inl h)
  have e2 : y = .int k := Option.some.inj (ey.symm.trans (Term.int_eval k))
  subst e2
  cases x with
  | int z =>
    have q : (Cond.eq t (Term.int k)).value args first o s idx = some (decide (z = k)) := by simp [Cond.value, ex, ey]
    rw [ex, gotT q h]
  | _ => simp [Kin, Value.isRef] at hk
theorem e2_0 : decode jdk_52_method_21_code 0 = .ok (.iconst 0, 1) := by decide +kernel
theorem e2_1 : decode jdk_52_method_21_code 1 = .ok (.istore 5, 2) := by decide +kernel
theorem e2_3 : decode jdk_52_method_21_code 3 = .ok (.iload 5, 2) := by decide +kernel
theorem e2_5 : decode jdk_52_method_21_code 5 = .ok (.iload 4, 2) := by decide +kernel
theorem e2_7 : decode jdk_52_method_21_code 7 = .ok (.if_icmp .ge 37, 3) := by decide +kernel
theorem e2_10 : decode jdk_52_method_21_code 10 = .ok (.aload_n 0, 1) := by decide +kernel
theorem e2_11 : decode jdk_52_method_21_code 11 = .ok (.iload_n 1, 1) := by decide +kernel
theorem e2_12 : decode jdk_52_method_21_code 12 = .ok (.caload, 1) := by decide +kernel
theorem e2_13 : decode jdk_52_method_21_code 13 = .ok (.istore 6, 2) := by decide +kernel
theorem e2_15 : decode jdk_52_method_21_code 15 = .ok (.iload 6, 2) := by decide +kernel
theorem e2_17 : decode jdk_52_method_21_code 17 = .ok (.sipush 255, 3) := by decide +kernel
theorem e2_20 : decode jdk_52_method_21_code 20 = .ok (.if_icmp .le 6, 3) := by decide +kernel
theorem e2_23 : decode jdk_52_method_21_code 23 = .ok (.iload 5, 2) := by decide +kernel
theorem e2_25 : decode jdk_52_method_21_code 25 = .ok (.ireturn, 1) := by decide +kernel
theorem e2_26 : decode jdk_52_method_21_code 26 = .ok (.aload_n 2, 1) := by decide +kernel
theorem e2_27 : decode jdk_52_method_21_code 27 = .ok (.iload_n 3, 1) := by decide +kernel
theorem e2_28 : decode jdk_52_method_21_code 28 = .ok (.iload 6, 2) := by decide +kernel
theorem e2_30 : decode jdk_52_method_21_code 30 = .ok (.i2b, 1) := by decide +kernel
theorem e2_31 : decode jdk_52_method_21_code 31 = .ok (.bastore, 1) := by decide +kernel
theorem e2_32 : decode jdk_52_method_21_code 32 = .ok (.iinc 1 1, 3) := by decide +kernel
theorem e2_35 : decode jdk_52_method_21_code 35 = .ok (.iinc 3 1, 3) := by decide +kernel
theorem e2_38 : decode jdk_52_method_21_code 38 = .ok (.iinc 5 1, 3) := by decide +kernel
theorem e2_41 : decode jdk_52_method_21_code 41 = .ok (.goto (-38), 3) := by decide +kernel
theorem e2_44 : decode jdk_52_method_21_code 44 = .ok (.iload 4, 2) := by decide +kernel
theorem e2_46 : decode jdk_52_method_21_code 46 = .ok (.ireturn, 1) := by decide +kernel
theorem pn1 : plainName "java/lang/StringUTF16" = true := by first | (simp [plainName, overriddenIn]; done) | decide +kernel
set_option maxRecDepth 65536 in
set_option maxHeartbeats 40000000 in
theorem con_cmpI (l : Launch) (Z : State) (a0 : Array Value) (hw : ∀ d ∈ tables_1, d.before a0 Z = true) (a t : Addr) (cs : List Int32) (h0 : Heap) (O0 : Ext Z.heap h0) (A_a : Ar Z h0 a .char (cs.map Value.int)) (A_t : Ar Z h0 t .byte (List.replicate cs.length (.int 0))) (n_t : Z.heap.size ≤ t) (ne_a_t : a ≠ t) (hl : ∀ c ∈ cs, Lt16 c) (hn : cs.length ≤ 4) :
    Con l Z consts_1 false (⟨"java/lang/StringUTF16", "compress", "([CI[BII)I"⟩ : MethodName) jdk_52_method_21_code 7 (some .int) [] ({ frames := 0, cells := 0, slots := 0, locals := 0 } : Room) #[(.ref a), (.int (0 : Int32)), (.ref t), (.int (0 : Int32)), (.int (Int32.ofNat cs.length))] [t] h0 (fun v h => (v = some (.int (Int32.ofNat cs.length)) ∧ (∀ c ∈ cs, Lt8 c) ∧ Keep h0 h [t] ∧ Ar Z h t .byte ((cs.map fun c => c.toInt8.toInt32).map Value.int)) ∨ (∃ k, k < cs.length ∧ v = some (.int (Int32.ofNat k)) ∧ 255 < cs.getD k 0 ∧ Keep h0 h [t])) := by
  refine Con.intro (Ls := #[.val (.ref a), .val (.int (0 : Int32)), .val (.ref t), .val (.int (0 : Int32)), .val (.int (Int32.ofNat cs.length)), .unset, .unset]) (plainFor_of_name pn1) (own_EL hw) O0 (fun m => by first | rfl | (simp [entryFrame, mkF, argsToLocals, Value.category]; done)) (fun p e s m below meth cc_ T w sf_ => ?_)
  have K0 := Keep.refl h0 [t]
  have s_t := sf_ t (List.mem_singleton.mpr rfl)
  rw [← midL_zero] at A_t
  refine g_iconst w e2_0 (q := 1) rfl (v := (0 : Int32)) (by decide) ?_
  refine g_istore w e2_1 (q := 3) rfl (Ls' := #[.val (.ref a), .val (.int (0 : Int32)), .val (.ref t), .val (.int (0 : Int32)), .val (.int (Int32.ofNat cs.length)), .val (.int (0 : Int32)), .unset]) rfl ?_
  have LP : ∀ (r : Nat) (i : Nat) (l6 : Slot) (T : State) (vm : Vm) (h : Heap), (i + r = cs.length) → (l6 = .unset ∨ ∃ w, l6 = .val w ∧ w.category = 1) → (Keep h0 h [t]) → (Ar Z h a .char (cs.map Value.int)) → (Ar Z h t .byte (midL cs i)) → (Safe Z consts_1 vm h t) → (∀ j, j < i → Lt8 (cs.getD j 0)) → Wk p l e ({ frames := 0, cells := 0, slots := 0, locals := 0 } : Room) s m #[(.ref a), (.int (0 : Int32)), (.ref t), (.int (0 : Int32)), (.int (Int32.ofNat cs.length))] below meth cc_ Z a0 consts_1 false (⟨"java/lang/StringUTF16", "compress", "([CI[BII)I"⟩ : MethodName) jdk_52_method_21_code 7 (some .int) T vm h 0 0 → Go p e below (Fini Z consts_1 false ({ frames := 0, cells := 0, slots := 0, locals := 0 } : Room).cells ({ frames := 0, cells := 0, slots := 0, locals := 0 } : Room).slots (fun v h => (v = some (.int (Int32.ofNat cs.length)) ∧ (∀ c ∈ cs, Lt8 c) ∧ Keep h0 h [t] ∧ Ar Z h t .byte ((cs.map fun c => c.toInt8.toInt32).map Value.int)) ∨ (∃ k, k < cs.length ∧ v = some (.int (Int32.ofNat k)) ∧ 255 < cs.getD k 0 ∧ Keep h0 h [t])) s) (State.setTop T (mkF m 3 #[.val (.ref a), .val (.int (Int32.ofNat i)), .val (.ref t), .val (.int (Int32.ofNat i)), .val (.int (Int32.ofNat cs.length)), .val (.int (Int32.ofNat i)), l6] [])) := by
    intro r
    induction r with
    | zero =>
      intro i l6 T vm h hi hl6 K0 A_a A_t s_t hb  w
      refine g_iload w e2_3 (q := 5) rfl rfl ?_
      refine g_iload w e2_5 (q := 7) rfl rfl ?_
      refine g_icY w e2_7 (by decide) (q := 44) (by decide) (Jvm.Free.XT.ii_ge_t (not_lt_ofNat (by omega) (by omega))) ?_
      refine g_iload w e2_44 (q := 46) rfl rfl ?_
      exact g_reti w e2_46 rfl (by decide) (by decide) (Or.inl ⟨rfl, lat_of hi hb, K0, by rw [show i = cs.length from hi, midL_full] at A_t; exact A_t⟩)
    | succ r ih =>
      intro i l6 T vm h hi hl6 K0 A_a A_t s_t hb  w
      refine g_iload w e2_3 (q := 5) rfl rfl ?_
      refine g_iload w e2_5 (q := 7) rfl rfl ?_
      refine g_icN w e2_7 (q := 10) rfl (Jvm.Free.XT.ii_ge_f (lt_ofNat (by omega) (by omega))) ?_
      refine g_aloadN w e2_10 (q := 11) rfl rfl rfl ?_
      refine g_iloadN w e2_11 (q := 12) rfl rfl ?_
      refine g_caload w e2_12 (q := 13) rfl A_a (i := i) rfl (by simp; omega) (chr_at (by omega)) ?_
      refine g_istore w e2_13 (q := 15) rfl (Ls' := #[.val (.ref a), .val (.int (Int32.ofNat i)), .val (.ref t), .val (.int (Int32.ofNat i)), .val (.int (Int32.ofNat cs.length)), .val (.int (Int32.ofNat i)), .val (.int (cs.getD i 0))]) ((Jvm.Free.XS.store1 rfl hl6 rfl).trans rfl) ?_
      refine g_iload w e2_15 (q := 17) rfl rfl ?_
      refine g_sipush w e2_17 (q := 20) rfl (v := (255 : Int32)) (by decide) ?_
      refine g_ic_le w e2_20 (by decide) (q := 26) (by decide) (q' := 23) rfl (fun cd1 => ?_) (fun cd1 => ?_)
      · refine g_aloadN w e2_26 (q := 27) rfl rfl rfl ?_
        refine g_iloadN w e2_27 (q := 28) rfl rfl ?_
        refine g_iload w e2_28 (q := 30) rfl rfl ?_
        refine g_i2b w e2_30 (q := 31) rfl ?_
        have g_ := w.chv
        refine g_bastore w e2_31 (q := 32) rfl A_t (i := i) rfl (by rw [midL_len]; omega) (x' := (cs.getD i 0).toInt8.toInt32) (nar_b _) n_t s_t (fun T h w W V => ?_)
        replace K0 := K0.wr W (Or.inl (List.mem_singleton.mpr rfl))
        replace A_a := A_a.other W ne_a_t
        replace s_t := Safe.wr W s_t g_ s_t
        rw [midL_set _ _ (by omega)] at V
        replace A_t := V
        refine g_iinc w e2_32 (q := 35) rfl (v := (1 : Int32)) (by decide) rfl rfl ?_
        rw [ofNat_succ]
        show Go p e below _ (State.setTop T (mkF m 35 #[.val (.ref a), .val (.int (Int32.ofNat (i + 1))), .val (.ref t), .val (.int (Int32.ofNat i)), .val (.int (Int32.ofNat cs.length)), .val (.int (Int32.ofNat i)), .val (.int (cs.getD i 0))] []))
        refine g_iinc w e2_35 (q := 38) rfl (v := (1 : Int32)) (by decide) rfl rfl ?_
        rw [ofNat_succ]
        show Go p e below _ (State.setTop T (mkF m 38 #[.val (.ref a), .val (.int (Int32.ofNat (i + 1))), .val (.ref t), .val (.int (Int32.ofNat (i + 1))), .val (.int (Int32.ofNat cs.length)), .val (.int (Int32.ofNat i)), .val (.int (cs.getD i 0))] []))
        refine g_iinc w e2_38 (q := 41) rfl (v := (1 : Int32)) (by decide) rfl rfl ?_
        rw [ofNat_succ]
        show Go p e below _ (State.setTop T (mkF m 41 #[.val (.ref a), .val (.int (Int32.ofNat (i + 1))), .val (.ref t), .val (.int (Int32.ofNat (i + 1))), .val (.int (Int32.ofNat cs.length)), .val (.int (Int32.ofNat (i + 1))), .val (.int (cs.getD i 0))] []))
        refine g_goto w e2_41 (by decide) (q := 3) (by decide) ?_
        exact ih (i + 1) _ T _ _ (by omega) (Or.inr ⟨_, rfl, rfl⟩) K0 A_a A_t s_t (fun j q => by
            rcases Nat.lt_or_eq_of_le (Nat.le_of_lt_succ q) with q | q
            · exact hb j q
            · subst q; exact ⟨(chr_all hl (by omega)).1, cd1⟩) w
      · refine g_iload w e2_23 (q := 25) rfl rfl ?_
        exact g_reti w e2_25 rfl (by decide) (by decide) (Or.inr ⟨i, by omega, rfl, cd1, K0⟩)
  exact LP cs.length 0 _ T _ _ (by omega) (Or.inl rfl) K0 A_a A_t s_t (fun j q => absurd q (Nat.not_lt_zero j)) w
theorem e3_0 : decode jdk_52_method_3_code 0 = .ok (.iload_n 0, 1) := by decide +kernel
theorem e3_1 : decode jdk_52_method_3_code 1 = .ok (.ifCond .ge 11, 3) := by decide +kernel
theorem e3_4 : decode jdk_52_method_3_code 4 = .ok (.new 17, 3) := by decide +kernel
theorem e3_7 : decode jdk_52_method_3_code 7 = .ok (.dup, 1) := by decide +kernel
theorem e3_8 : decode jdk_52_method_3_code 8 = .ok (.invokespecial 19, 3) := by decide +kernel
theorem e3_11 : decode jdk_52_method_3_code 11 = .ok (.athrow, 1) := by decide +kernel
theorem e3_12 : decode jdk_52_method_3_code 12 = .ok (.iload_n 0, 1) := by decide +kernel
theorem e3_13 : decode jdk_52_method_3_code 13 = .ok (.ldc 20, 2) := by decide +kernel
theorem e3_15 : decode jdk_52_method_3_code 15 = .ok (.if_icmp .lt 40, 3) := by decide +kernel
theorem e3_18 : decode jdk_52_method_3_code 18 = .ok (.new 21, 3) := by decide +kernel
theorem e3_21 : decode jdk_52_method_3_code 21 = .ok (.dup, 1) := by decide +kernel
theorem e3_22 : decode jdk_52_method_3_code 22 = .ok (.new 23, 3) := by decide +kernel
theorem e3_25 : decode jdk_52_method_3_code 25 = .ok (.dup, 1) := by decide +kernel
theorem e3_26 : decode jdk_52_method_3_code 26 = .ok (.invokespecial 25, 3) := by decide +kernel
theorem e3_29 : decode jdk_52_method_3_code 29 = .ok (.ldc 26, 2) := by decide +kernel
theorem e3_31 : decode jdk_52_method_3_code 31 = .ok (.invokevirtual 28, 3) := by decide +kernel
theorem e3_34 : decode jdk_52_method_3_code 34 = .ok (.iload_n 0, 1) := by decide +kernel
theorem e3_35 : decode jdk_52_method_3_code 35 = .ok (.invokevirtual 32, 3) := by decide +kernel
theorem e3_38 : decode jdk_52_method_3_code 38 = .ok (.ldc 35, 2) := by decide +kernel
theorem e3_40 : decode jdk_52_method_3_code 40 = .ok (.invokevirtual 28, 3) := by decide +kernel
theorem e3_43 : decode jdk_52_method_3_code 43 = .ok (.ldc 20, 2) := by decide +kernel
theorem e3_45 : decode jdk_52_method_3_code 45 = .ok (.invokevirtual 32, 3) := by decide +kernel
theorem e3_48 : decode jdk_52_method_3_code 48 = .ok (.invokevirtual 37, 3) := by decide +kernel
theorem e3_51 : decode jdk_52_method_3_code 51 = .ok (.invokespecial 41, 3) := by decide +kernel
theorem e3_54 : decode jdk_52_method_3_code 54 = .ok (.athrow, 1) := by decide +kernel
theorem e3_55 : decode jdk_52_method_3_code 55 = .ok (.iload_n 0, 1) := by decide +kernel
theorem e3_56 : decode jdk_52_method_3_code 56 = .ok (.iconst 1, 1) := by decide +kernel
theorem e3_57 : decode jdk_52_method_3_code 57 = .ok (.ishl, 1) := by decide +kernel
theorem e3_58 : decode jdk_52_method_3_code 58 = .ok (.ireturn, 1) := by decide +kernel
set_option maxRecDepth 65536 in
set_option maxHeartbeats 40000000 in
theorem con_nbl (l : Launch) (Z : State) (a0 : Array Value) (hw : ∀ d ∈ tables_1, d.before a0 Z = true) (n_ : Nat) (h0 : Heap) (O0 : Ext Z.heap h0) (hn : n_ ≤ 4) :
    Con l Z consts_1 false (⟨"java/lang/StringUTF16", "newBytesLength", "(I)I"⟩ : MethodName) jdk_52_method_3_code 1 (some .int) [] ({ frames := 0, cells := 0, slots := 0, locals := 0 } : Room) #[(.int (Int32.ofNat n_))] [] h0 (fun v h => v = some (.int (Int32.ofNat (2 * n_))) ∧ h = h0) := by
  refine Con.intro (Ls := #[.val (.int (Int32.ofNat n_))]) (plainFor_of_name pn1) (own_EL hw) O0 (fun m => by first | rfl | (simp [entryFrame, mkF, argsToLocals, Value.category]; done)) (fun p e s m below meth cc_ T w sf_ => ?_)
  have E0 := ext_refl h0
  refine g_iloadN w e3_0 (q := 1) rfl rfl ?_
  refine g_ifY w e3_1 (by decide) (q := 12) (by decide) (Jvm.Free.XT.i0_ge_t (ofNat_nonneg (by omega))) ?_
  refine g_iloadN w e3_12 (q := 13) rfl rfl ?_
  refine g_ldcI w e3_13 (q := 15) rfl (v := (1073741823 : Int32)) (hw _ (List.mem_of_getElem? (i := 95) rfl)) ?_
  refine g_icY w e3_15 (by decide) (q := 55) (by decide) (Jvm.Free.XT.ii_lt_t (nbl_lt _ (by omega))) ?_
  refine g_iloadN w e3_55 (q := 56) rfl rfl ?_
  refine g_iconst w e3_56 (q := 57) rfl (v := (1 : Int32)) (by decide) ?_
  refine g_ishl w e3_57 (q := 58) rfl ?_
  rw [shl1 _ (by omega)]
  show Go p e below _ (State.setTop T (mkF m 58 #[.val (.int (Int32.ofNat n_))] [(.int (Int32.ofNat (2 * n_)))]))
  exact g_reti w e3_58 rfl (by decide) (by decide) ⟨rfl, rfl⟩
theorem e4_0 : decode jdk_52_method_2_code 0 = .ok (.iload_n 0, 1) := by decide +kernel
theorem e4_1 : decode jdk_52_method_2_code 1 = .ok (.invokestatic 11, 3) := by decide +kernel
theorem e4_4 : decode jdk_52_method_2_code 4 = .ok (.newarray .byte, 2) := by decide +kernel
theorem e4_6 : decode jdk_52_method_2_code 6 = .ok (.areturn, 1) := by decide +kernel
theorem pd1 : parseMethodDescriptor "(I)I" = some ⟨[.int], some .int⟩ := by decide +kernel
set_option maxRecDepth 65536 in
set_option maxHeartbeats 40000000 in
theorem con_nbf (l : Launch) (Z : State) (a0 : Array Value) (hw : ∀ d ∈ tables_1, d.before a0 Z = true) (n_ : Nat) (h0 : Heap) (O0 : Ext Z.heap h0) (hn : n_ ≤ 4) :
    ConS l Z consts_1 false (⟨"java/lang/StringUTF16", "newBytesFor", "(I)[B"⟩ : MethodName) jdk_52_method_2_code 1 (some (.array .byte)) [] ({ frames := 1, cells := 1, slots := 8, locals := 12 } : Room) #[(.int (Int32.ofNat n_))] [] h0 (fun v h => ∃ t, v = some (.ref t) ∧ Ext h0 h ∧ h0.size ≤ t ∧ Ar Z h t .byte (List.replicate (2 * n_) (.int 0))) := by
  refine ConS.intro (Ls := #[.val (.int (Int32.ofNat n_))]) (plainFor_of_name pn1) (own_EL hw) O0 (fun m => by first | rfl | (simp [entryFrame, mkF, argsToLocals, Value.category]; done)) (fun p e s m below meth cc_ T w sf_ => ?_)
  have E0 := ext_refl h0
  refine g_iloadN w e4_0 (q := 1) rfl rfl ?_
  refine g_staticP w (con_nbl l Z a0 hw n_ _ w.old hn) no0 e4_1 (q := 4) rfl rfl (hw _ (List.mem_of_getElem? (i := 92) rfl)) (hw _ (List.mem_of_getElem? (i := 93) rfl)) (hw _ (List.mem_of_getElem? (i := 72) rfl)) (hw _ (List.mem_of_getElem? (i := 94) rfl)) (by decide) pd1 rfl rfl (W := 0) (Nat.le_of_eq rfl) (by decide) (by decide) (by decide) (by decide) (fun T v w C q => ?_)
  obtain rfl := q
  show Go p e below _ (State.setTop T (mkF m 4 #[.val (.int (Int32.ofNat n_))] [(.int (Int32.ofNat (2 * n_)))]))
  refine g_newarr w e4_4 (q := 6) rfl (hw _ (List.mem_of_getElem? (i := 23) rfl)) (len := 2 * n_) (cap := 8) rfl (by omega) (by decide) (by decide) (by decide) (fun T h t w E g_t n_t A_t s_t => ?_)
  replace E0 := ext_trans E0 E
  exact g_retaS w e4_6 rfl rfl (by decide) (by decide) A_t.lt s_t ⟨t, rfl, E0, g_t, A_t⟩
theorem e5_0 : decode jdk_52_method_4_code 0 = .ok (.getstatic 44, 3) := by decide +kernel
theorem e5_3 : decode jdk_52_method_4_code 3 = .ok (.ifCond .ne 25, 3) := by decide +kernel
theorem e5_6 : decode jdk_52_method_4_code 6 = .ok (.iload_n 1, 1) := by decide +kernel
theorem e5_7 : decode jdk_52_method_4_code 7 = .ok (.ifCond .lt 11, 3) := by decide +kernel
theorem e5_10 : decode jdk_52_method_4_code 10 = .ok (.iload_n 1, 1) := by decide +kernel
theorem e5_11 : decode jdk_52_method_4_code 11 = .ok (.aload_n 0, 1) := by decide +kernel
theorem e5_12 : decode jdk_52_method_4_code 12 = .ok (.invokestatic 48, 3) := by decide +kernel
theorem e5_15 : decode jdk_52_method_4_code 15 = .ok (.if_icmp .lt 13, 3) := by decide +kernel
theorem e5_18 : decode jdk_52_method_4_code 18 = .ok (.new 52, 3) := by decide +kernel
theorem e5_21 : decode jdk_52_method_4_code 21 = .ok (.dup, 1) := by decide +kernel
theorem e5_22 : decode jdk_52_method_4_code 22 = .ok (.ldc 54, 2) := by decide +kernel
theorem e5_24 : decode jdk_52_method_4_code 24 = .ok (.invokespecial 56, 3) := by decide +kernel
theorem e5_27 : decode jdk_52_method_4_code 27 = .ok (.athrow, 1) := by decide +kernel
theorem e5_28 : decode jdk_52_method_4_code 28 = .ok (.iload_n 1, 1) := by decide +kernel
theorem e5_29 : decode jdk_52_method_4_code 29 = .ok (.iconst 1, 1) := by decide +kernel
theorem e5_30 : decode jdk_52_method_4_code 30 = .ok (.ishl, 1) := by decide +kernel
theorem e5_31 : decode jdk_52_method_4_code 31 = .ok (.istore_n 1, 1) := by decide +kernel
theorem e5_32 : decode jdk_52_method_4_code 32 = .ok (.aload_n 0, 1) := by decide +kernel
theorem e5_33 : decode jdk_52_method_4_code 33 = .ok (.iload_n 1, 1) := by decide +kernel
theorem e5_34 : decode jdk_52_method_4_code 34 = .ok (.iinc 1 1, 3) := by decide +kernel
theorem e5_37 : decode jdk_52_method_4_code 37 = .ok (.iload_n 2, 1) := by decide +kernel
theorem e5_38 : decode jdk_52_method_4_code 38 = .ok (.getstatic 59, 3) := by decide +kernel
theorem e5_41 : decode jdk_52_method_4_code 41 = .ok (.ishr, 1) := by decide +kernel
theorem e5_42 : decode jdk_52_method_4_code 42 = .ok (.i2b, 1) := by decide +kernel
theorem e5_43 : decode jdk_52_method_4_code 43 = .ok (.bastore, 1) := by decide +kernel
theorem e5_44 : decode jdk_52_method_4_code 44 = .ok (.aload_n 0, 1) := by decide +kernel
theorem e5_45 : decode jdk_52_method_4_code 45 = .ok (.iload_n 1, 1) := by decide +kernel
theorem e5_46 : decode jdk_52_method_4_code 46 = .ok (.iload_n 2, 1) := by decide +kernel
theorem e5_47 : decode jdk_52_method_4_code 47 = .ok (.getstatic 63, 3) := by decide +kernel
theorem e5_50 : decode jdk_52_method_4_code 50 = .ok (.ishr, 1) := by decide +kernel
theorem e5_51 : decode jdk_52_method_4_code 51 = .ok (.i2b, 1) := by decide +kernel
theorem e5_52 : decode jdk_52_method_4_code 52 = .ok (.bastore, 1) := by decide +kernel
theorem e5_53 : decode jdk_52_method_4_code 53 = .ok (.return_, 1) := by decide +kernel
set_option maxRecDepth 65536 in
set_option maxHeartbeats 40000000 in
theorem con_put (l : Launch) (Z : State) (a0 : Array Value) (hw : ∀ d ∈ tables_1, d.before a0 Z = true) (t : Addr) (i_ : Nat) (c : Int32) (vs : List Value) (h0 : Heap) (O0 : Ext Z.heap h0) (A_t : Ar Z h0 t .byte vs) (hi : 2 * i_ + 1 < vs.length) (hn : i_ < 4) (n_t : Z.heap.size ≤ t) (SA_ : Sta Z Z.heap "java/lang/StringUTF16" "$assertionsDisabled" "Z" (.int 1)) (SH_ : Sta Z Z.heap "java/lang/StringUTF16" "HI_BYTE_SHIFT" "I" (.int 0)) (SL_ : Sta Z Z.heap "java/lang/StringUTF16" "LO_BYTE_SHIFT" "I" (.int 8)) :
    Con l Z consts_1 false (⟨"java/lang/StringUTF16", "putChar", "([BII)V"⟩ : MethodName) jdk_52_method_4_code 3 none [] ({ frames := 0, cells := 0, slots := 0, locals := 0 } : Room) #[(.ref t), (.int (Int32.ofNat i_)), (.int c)] [t] h0 (fun v h => v = none ∧ Keep h0 h [t] ∧ Ar Z h t .byte ((vs.set (2 * i_) (.int (StrChars.lo8 c))).set (2 * i_ + 1) (.int (StrChars.hi8 c)))) := by
  refine Con.intro (Ls := #[.val (.ref t), .val (.int (Int32.ofNat i_)), .val (.int c)]) (plainFor_of_name pn1) (own_EL hw) O0 (fun m => by first | rfl | (simp [entryFrame, mkF, argsToLocals, Value.category]; done)) (fun p e s m below meth cc_ T w sf_ => ?_)
  have K0 := Keep.refl h0 [t]
  have s_t := sf_ t (List.mem_singleton.mpr rfl)
  refine g_getS w e5_0 (q := 3) rfl (hw _ (List.mem_of_getElem? (i := 99) rfl)) Via.refl SA_ (fun T w => ?_)
  refine g_ifY w e5_3 (by decide) (q := 28) (by decide) (by decide) ?_
  refine g_iloadN w e5_28 (q := 29) rfl rfl ?_
  refine g_iconst w e5_29 (q := 30) rfl (v := (1 : Int32)) (by decide) ?_
  refine g_ishl w e5_30 (q := 31) rfl ?_
  rw [shl1 _ (by omega)]
  show Go p e below _ (State.setTop T (mkF m 31 #[.val (.ref t), .val (.int (Int32.ofNat i_)), .val (.int c)] [(.int (Int32.ofNat (2 * i_)))]))
  refine g_istoreN w e5_31 (q := 32) rfl (Ls' := #[.val (.ref t), .val (.int (Int32.ofNat (2 * i_))), .val (.int c)]) rfl ?_
  refine g_aloadN w e5_32 (q := 33) rfl rfl rfl ?_
  refine g_iloadN w e5_33 (q := 34) rfl rfl ?_
  refine g_iinc w e5_34 (q := 37) rfl (v := (1 : Int32)) (by decide) rfl rfl ?_
  rw [ofNat_succ]
  show Go p e below _ (State.setTop T (mkF m 37 #[.val (.ref t), .val (.int (Int32.ofNat ((2 * i_) + 1))), .val (.int c)] [(.int (Int32.ofNat (2 * i_))), (.ref t)]))
  refine g_iloadN w e5_37 (q := 38) rfl rfl ?_
  refine g_getS w e5_38 (q := 41) rfl (hw _ (List.mem_of_getElem? (i := 100) rfl)) Via.refl SH_ (fun T w => ?_)
  refine g_ishr w e5_41 (q := 42) rfl ?_
  refine g_i2b w e5_42 (q := 43) rfl ?_
  have g_ := w.chv
  refine g_bastore w e5_43 (q := 44) rfl A_t (i := 2 * i_) rfl (by omega) (x' := (c >>> ((0 : Int32) &&& 31)).toInt8.toInt32) (nar_b _) n_t s_t (fun T h w W V => ?_)
  replace K0 := K0.wr W (Or.inl (List.mem_singleton.mpr rfl))
  replace s_t := Safe.wr W s_t g_ s_t
  rw [StrChars.shr0] at V
  replace A_t := V
  refine g_aloadN w e5_44 (q := 45) rfl rfl rfl ?_
  refine g_iloadN w e5_45 (q := 46) rfl rfl ?_
  refine g_iloadN w e5_46 (q := 47) rfl rfl ?_
  refine g_getS w e5_47 (q := 50) rfl (hw _ (List.mem_of_getElem? (i := 101) rfl)) Via.refl SL_ (fun T w => ?_)
  refine g_ishr w e5_50 (q := 51) rfl ?_
  refine g_i2b w e5_51 (q := 52) rfl ?_
  have g_ := w.chv
  refine g_bastore w e5_52 (q := 53) rfl A_t (i := 2 * i_ + 1) rfl (by rw [List.length_set]; omega) (x' := (c >>> ((8 : Int32) &&& 31)).toInt8.toInt32) (nar_b _) n_t s_t (fun T h w W V => ?_)
  replace K0 := K0.wr W (Or.inl (List.mem_singleton.mpr rfl))
  replace s_t := Safe.wr W s_t g_ s_t
  replace A_t := V
  exact g_return w e5_53 rfl (by decide) (by decide) ⟨rfl, K0, A_t⟩
theorem e6_0 : decode jdk_52_method_5_code 0 = .ok (.getstatic 44, 3) := by decide +kernel
theorem e6_3 : decode jdk_52_method_5_code 3 = .ok (.ifCond .ne 25, 3) := by decide +kernel
theorem e6_6 : decode jdk_52_method_5_code 6 = .ok (.iload_n 1, 1) := by decide +kernel
theorem e6_7 : decode jdk_52_method_5_code 7 = .ok (.ifCond .lt 11, 3) := by decide +kernel
theorem e6_10 : decode jdk_52_method_5_code 10 = .ok (.iload_n 1, 1) := by decide +kernel
theorem e6_11 : decode jdk_52_method_5_code 11 = .ok (.aload_n 0, 1) := by decide +kernel
theorem e6_12 : decode jdk_52_method_5_code 12 = .ok (.invokestatic 48, 3) := by decide +kernel
theorem e6_15 : decode jdk_52_method_5_code 15 = .ok (.if_icmp .lt 13, 3) := by decide +kernel
theorem e6_18 : decode jdk_52_method_5_code 18 = .ok (.new 52, 3) := by decide +kernel
theorem e6_21 : decode jdk_52_method_5_code 21 = .ok (.dup, 1) := by decide +kernel
theorem e6_22 : decode jdk_52_method_5_code 22 = .ok (.ldc 54, 2) := by decide +kernel
theorem e6_24 : decode jdk_52_method_5_code 24 = .ok (.invokespecial 56, 3) := by decide +kernel
theorem e6_27 : decode jdk_52_method_5_code 27 = .ok (.athrow, 1) := by decide +kernel
theorem e6_28 : decode jdk_52_method_5_code 28 = .ok (.iload_n 1, 1) := by decide +kernel
theorem e6_29 : decode jdk_52_method_5_code 29 = .ok (.iconst 1, 1) := by decide +kernel
theorem e6_30 : decode jdk_52_method_5_code 30 = .ok (.ishl, 1) := by decide +kernel
theorem e6_31 : decode jdk_52_method_5_code 31 = .ok (.istore_n 1, 1) := by decide +kernel
theorem e6_32 : decode jdk_52_method_5_code 32 = .ok (.aload_n 0, 1) := by decide +kernel
theorem e6_33 : decode jdk_52_method_5_code 33 = .ok (.iload_n 1, 1) := by decide +kernel
theorem e6_34 : decode jdk_52_method_5_code 34 = .ok (.iinc 1 1, 3) := by decide +kernel
theorem e6_37 : decode jdk_52_method_5_code 37 = .ok (.baload, 1) := by decide +kernel
theorem e6_38 : decode jdk_52_method_5_code 38 = .ok (.sipush 255, 3) := by decide +kernel
theorem e6_41 : decode jdk_52_method_5_code 41 = .ok (.iand, 1) := by decide +kernel
theorem e6_42 : decode jdk_52_method_5_code 42 = .ok (.getstatic 59, 3) := by decide +kernel
theorem e6_45 : decode jdk_52_method_5_code 45 = .ok (.ishl, 1) := by decide +kernel
theorem e6_46 : decode jdk_52_method_5_code 46 = .ok (.aload_n 0, 1) := by decide +kernel
theorem e6_47 : decode jdk_52_method_5_code 47 = .ok (.iload_n 1, 1) := by decide +kernel
theorem e6_48 : decode jdk_52_method_5_code 48 = .ok (.baload, 1) := by decide +kernel
theorem e6_49 : decode jdk_52_method_5_code 49 = .ok (.sipush 255, 3) := by decide +kernel
theorem e6_52 : decode jdk_52_method_5_code 52 = .ok (.iand, 1) := by decide +kernel
theorem e6_53 : decode jdk_52_method_5_code 53 = .ok (.getstatic 63, 3) := by decide +kernel
theorem e6_56 : decode jdk_52_method_5_code 56 = .ok (.ishl, 1) := by decide +kernel
theorem e6_57 : decode jdk_52_method_5_code 57 = .ok (.ior, 1) := by decide +kernel
theorem e6_58 : decode jdk_52_method_5_code 58 = .ok (.i2c, 1) := by decide +kernel
theorem e6_59 : decode jdk_52_method_5_code 59 = .ok (.ireturn, 1) := by decide +kernel
set_option maxRecDepth 65536 in
set_option maxHeartbeats 40000000 in
theorem con_get (l : Launch) (Z : State) (a0 : Array Value) (hw : ∀ d ∈ tables_1, d.before a0 Z = true) (t : Addr) (i_ : Nat) (cs : List Int32) (h0 : Heap) (O0 : Ext Z.heap h0) (A_t : Ar Z h0 t .byte (StrChars.Road.wideBytes cs)) (hi : i_ < cs.length) (hn : cs.length ≤ 4) (hl : ∀ c ∈ cs, Lt16 c) (SA_ : Sta Z Z.heap "java/lang/StringUTF16" "$assertionsDisabled" "Z" (.int 1)) (SH_ : Sta Z Z.heap "java/lang/StringUTF16" "HI_BYTE_SHIFT" "I" (.int 0)) (SL_ : Sta Z Z.heap "java/lang/StringUTF16" "LO_BYTE_SHIFT" "I" (.int 8)) :
    Con l Z consts_1 false (⟨"java/lang/StringUTF16", "getChar", "([BI)C"⟩ : MethodName) jdk_52_method_5_code 2 (some .char) [] ({ frames := 0, cells := 0, slots := 0, locals := 0 } : Room) #[(.ref t), (.int (Int32.ofNat i_))] [] h0 (fun v h => v = some (.int (cs.getD i_ 0)) ∧ h = h0) := by
  refine Con.intro (Ls := #[.val (.ref t), .val (.int (Int32.ofNat i_))]) (plainFor_of_name pn1) (own_EL hw) O0 (fun m => by first | rfl | (simp [entryFrame, mkF, argsToLocals, Value.category]; done)) (fun p e s m below meth cc_ T w sf_ => ?_)
  have E0 := ext_refl h0
  refine g_getS w e6_0 (q := 3) rfl (hw _ (List.mem_of_getElem? (i := 99) rfl)) Via.refl SA_ (fun T w => ?_)
  refine g_ifY w e6_3 (by decide) (q := 28) (by decide) (by decide) ?_
  refine g_iloadN w e6_28 (q := 29) rfl rfl ?_
  refine g_iconst w e6_29 (q := 30) rfl (v := (1 : Int32)) (by decide) ?_
  refine g_ishl w e6_30 (q := 31) rfl ?_
  rw [shl1 _ (by omega)]
  show Go p e below _ (State.setTop T (mkF m 31 #[.val (.ref t), .val (.int (Int32.ofNat i_))] [(.int (Int32.ofNat (2 * i_)))]))
  refine g_istoreN w e6_31 (q := 32) rfl (Ls' := #[.val (.ref t), .val (.int (Int32.ofNat (2 * i_)))]) rfl ?_
  refine g_aloadN w e6_32 (q := 33) rfl rfl rfl ?_
  refine g_iloadN w e6_33 (q := 34) rfl rfl ?_
  refine g_iinc w e6_34 (q := 37) rfl (v := (1 : Int32)) (by decide) rfl rfl ?_
  rw [ofNat_succ]
  show Go p e below _ (State.setTop T (mkF m 37 #[.val (.ref t), .val (.int (Int32.ofNat ((2 * i_) + 1)))] [(.int (Int32.ofNat (2 * i_))), (.ref t)]))
  refine g_baload w e6_37 (q := 38) rfl A_t (i := 2 * i_) rfl (by rw [wide_len]; omega) (wide_at _ _ hi).1 ?_
  refine g_sipush w e6_38 (q := 41) rfl (v := (255 : Int32)) (by decide) ?_
  refine g_iand w e6_41 (q := 42) rfl ?_
  refine g_getS w e6_42 (q := 45) rfl (hw _ (List.mem_of_getElem? (i := 100) rfl)) Via.refl SH_ (fun T w => ?_)
  refine g_ishl w e6_45 (q := 46) rfl ?_
  refine g_aloadN w e6_46 (q := 47) rfl rfl rfl ?_
  refine g_iloadN w e6_47 (q := 48) rfl rfl ?_
  refine g_baload w e6_48 (q := 49) rfl A_t (i := 2 * i_ + 1) rfl (by rw [wide_len]; omega) (wide_at _ _ hi).2 ?_
  refine g_sipush w e6_49 (q := 52) rfl (v := (255 : Int32)) (by decide) ?_
  refine g_iand w e6_52 (q := 53) rfl ?_
  refine g_getS w e6_53 (q := 56) rfl (hw _ (List.mem_of_getElem? (i := 101) rfl)) Via.refl SL_ (fun T w => ?_)
  refine g_ishl w e6_56 (q := 57) rfl ?_
  refine g_ior w e6_57 (q := 58) rfl ?_
  refine g_i2c w e6_58 (q := 59) rfl ?_
  rw [getch (chr_all hl hi)]
  show Go p e below _ (State.setTop T (mkF m 59 #[.val (.ref t), .val (.int (Int32.ofNat ((2 * i_) + 1)))] [(.int (cs.getD i_ 0))]))
  exact g_retn w e6_59 rfl (by simp) (nar_chr (chr_all hl hi)) (by decide) (by decide) ⟨rfl, rfl⟩
theorem e7_0 : decode jdk_52_method_14_code 0 = .ok (.iload_n 2, 1) := by decide +kernel
theorem e7_1 : decode jdk_52_method_14_code 1 = .ok (.invokestatic 107, 3) := by decide +kernel
theorem e7_4 : decode jdk_52_method_14_code 4 = .ok (.astore_n 3, 1) := by decide +kernel
theorem e7_5 : decode jdk_52_method_14_code 5 = .ok (.iconst 0, 1) := by decide +kernel
theorem e7_6 : decode jdk_52_method_14_code 6 = .ok (.istore 4, 2) := by decide +kernel
theorem e7_8 : decode jdk_52_method_14_code 8 = .ok (.iload 4, 2) := by decide +kernel
theorem e7_10 : decode jdk_52_method_14_code 10 = .ok (.iload_n 2, 1) := by decide +kernel
theorem e7_11 : decode jdk_52_method_14_code 11 = .ok (.if_icmp .ge 21, 3) := by decide +kernel
theorem e7_14 : decode jdk_52_method_14_code 14 = .ok (.aload_n 3, 1) := by decide +kernel
theorem e7_15 : decode jdk_52_method_14_code 15 = .ok (.iload 4, 2) := by decide +kernel
theorem e7_17 : decode jdk_52_method_14_code 17 = .ok (.aload_n 0, 1) := by decide +kernel
theorem e7_18 : decode jdk_52_method_14_code 18 = .ok (.iload_n 1, 1) := by decide +kernel
theorem e7_19 : decode jdk_52_method_14_code 19 = .ok (.caload, 1) := by decide +kernel
theorem e7_20 : decode jdk_52_method_14_code 20 = .ok (.invokestatic 111, 3) := by decide +kernel
theorem e7_23 : decode jdk_52_method_14_code 23 = .ok (.iinc 1 1, 3) := by decide +kernel
theorem e7_26 : decode jdk_52_method_14_code 26 = .ok (.iinc 4 1, 3) := by decide +kernel
theorem e7_29 : decode jdk_52_method_14_code 29 = .ok (.goto (-21), 3) := by decide +kernel
theorem e7_32 : decode jdk_52_method_14_code 32 = .ok (.aload_n 3, 1) := by decide +kernel
theorem e7_33 : decode jdk_52_method_14_code 33 = .ok (.areturn, 1) := by decide +kernel
theorem pd2 : parseMethodDescriptor "(I)[B" = some ⟨[.int], some (.array .byte)⟩ := by decide +kernel
theorem pd3 : parseMethodDescriptor "([BII)V" = some ⟨[(.array .byte), .int, .int], none⟩ := by decide +kernel
set_option maxRecDepth 65536 in
set_option maxHeartbeats 40000000 in
theorem con_tbs (l : Launch) (Z : State) (a0 : Array Value) (hw : ∀ d ∈ tables_1, d.before a0 Z = true) (a : Addr) (cs : List Int32) (h0 : Heap) (O0 : Ext Z.heap h0) (A_a : Ar Z h0 a .char (cs.map Value.int)) (hn : cs.length ≤ 4) (hl : ∀ c ∈ cs, Lt16 c) (SA_ : Sta Z Z.heap "java/lang/StringUTF16" "$assertionsDisabled" "Z" (.int 1)) (SH_ : Sta Z Z.heap "java/lang/StringUTF16" "HI_BYTE_SHIFT" "I" (.int 0)) (SL_ : Sta Z Z.heap "java/lang/StringUTF16" "LO_BYTE_SHIFT" "I" (.int 8)) :
    Con l Z consts_1 false (⟨"java/lang/StringUTF16", "toBytes", "([CII)[B"⟩ : MethodName) jdk_52_method_14_code 5 (some (.array .byte)) [] ({ frames := 2, cells := 1, slots := 8, locals := 24 } : Room) #[(.ref a), (.int (0 : Int32)), (.int (Int32.ofNat cs.length))] [] h0 (fun v h => ∃ t, v = some (.ref t) ∧ Ext h0 h ∧ h0.size ≤ t ∧ Ar Z h t .byte (StrChars.Road.wideBytes cs)) := by
  refine Con.intro (Ls := #[.val (.ref a), .val (.int (0 : Int32)), .val (.int (Int32.ofNat cs.length)), .unset, .unset]) (plainFor_of_name pn1) (own_EL hw) O0 (fun m => by first | rfl | (simp [entryFrame, mkF, argsToLocals, Value.category]; done)) (fun p e s m below meth cc_ T w sf_ => ?_)
  have E0 := ext_refl h0
  refine g_iloadN w e7_0 (q := 1) rfl rfl ?_
  refine g_staticS w (con_nbf l Z a0 hw cs.length _ w.old hn) no0 e7_1 (q := 4) rfl rfl (hw _ (List.mem_of_getElem? (i := 89) rfl)) (hw _ (List.mem_of_getElem? (i := 90) rfl)) (hw _ (List.mem_of_getElem? (i := 72) rfl)) (hw _ (List.mem_of_getElem? (i := 91) rfl)) (by decide) pd2 rfl rfl (W := 0) (Nat.le_of_eq rfl) (by decide) (by decide) (by decide) (by decide) (fun T h v w gs C q sq => ?_)
  obtain ⟨t, hv, E, g_t, A_t⟩ := q
  subst hv
  have s_t := sq _ rfl
  have z_t := Nat.le_trans E0.1 g_t
  have ne_a_t : a ≠ t := Nat.ne_of_lt (Nat.lt_of_lt_of_le A_a.lt g_t)
  replace E0 := ext_trans E0 E
  replace A_a := A_a.ext E
  show Go p e below _ (State.setTop T (mkF m 4 #[.val (.ref a), .val (.int (0 : Int32)), .val (.int (Int32.ofNat cs.length)), .unset, .unset] [(.ref t)]))
  have n_t : Z.heap.size ≤ t := Nat.le_trans O0.1 z_t
  rw [← midW_zero] at A_t
  refine g_astoreN w e7_4 (q := 5) rfl rfl (Ls' := #[.val (.ref a), .val (.int (0 : Int32)), .val (.int (Int32.ofNat cs.length)), .val (.ref t), .unset]) rfl ?_
  refine g_iconst w e7_5 (q := 6) rfl (v := (0 : Int32)) (by decide) ?_
  refine g_istore w e7_6 (q := 8) rfl (Ls' := #[.val (.ref a), .val (.int (0 : Int32)), .val (.int (Int32.ofNat cs.length)), .val (.ref t), .val (.int (0 : Int32))]) rfl ?_
  have LP : ∀ (r : Nat) (i : Nat) (T : State) (vm : Vm) (h : Heap), (i + r = cs.length) → (Ext h0 h) → (Ar Z h a .char (cs.map Value.int)) → (Ar Z h t .byte (midW cs i)) → (Safe Z consts_1 vm h t) → Wk p l e ({ frames := 2, cells := 1, slots := 8, locals := 24 } : Room) s m #[(.ref a), (.int (0 : Int32)), (.int (Int32.ofNat cs.length))] below meth cc_ Z a0 consts_1 false (⟨"java/lang/StringUTF16", "toBytes", "([CII)[B"⟩ : MethodName) jdk_52_method_14_code 5 (some (.array .byte)) T vm h 1 8 → Go p e below (Fini Z consts_1 false ({ frames := 2, cells := 1, slots := 8, locals := 24 } : Room).cells ({ frames := 2, cells := 1, slots := 8, locals := 24 } : Room).slots (fun v h => ∃ t, v = some (.ref t) ∧ Ext h0 h ∧ h0.size ≤ t ∧ Ar Z h t .byte (StrChars.Road.wideBytes cs)) s) (State.setTop T (mkF m 8 #[.val (.ref a), .val (.int (Int32.ofNat i)), .val (.int (Int32.ofNat cs.length)), .val (.ref t), .val (.int (Int32.ofNat i))] [])) := by
    intro r
    induction r with
    | zero =>
      intro i T vm h hi E0 A_a A_t s_t  w
      refine g_iload w e7_8 (q := 10) rfl rfl ?_
      refine g_iloadN w e7_10 (q := 11) rfl rfl ?_
      refine g_icY w e7_11 (by decide) (q := 32) (by decide) (Jvm.Free.XT.ii_ge_t (not_lt_ofNat (by omega) (by omega))) ?_
      refine g_aloadN w e7_32 (q := 33) rfl rfl rfl ?_
      exact g_reta w e7_33 rfl rfl rfl (by decide) (by decide) ⟨t, rfl, E0, z_t, by rw [show i = cs.length from hi, midW_full] at A_t; exact A_t⟩
    | succ r ih =>
      intro i T vm h hi E0 A_a A_t s_t  w
      refine g_iload w e7_8 (q := 10) rfl rfl ?_
      refine g_iloadN w e7_10 (q := 11) rfl rfl ?_
      refine g_icN w e7_11 (q := 14) rfl (Jvm.Free.XT.ii_ge_f (lt_ofNat (by omega) (by omega))) ?_
      refine g_aloadN w e7_14 (q := 15) rfl rfl rfl ?_
      refine g_iload w e7_15 (q := 17) rfl rfl ?_
      refine g_aloadN w e7_17 (q := 18) rfl rfl rfl ?_
      refine g_iloadN w e7_18 (q := 19) rfl rfl ?_
      refine g_caload w e7_19 (q := 20) rfl A_a (i := i) rfl (by simp; omega) (chr_at (by omega)) ?_
      refine g_static w (con_put l Z a0 hw t i (cs.getD i 0) _ _ w.old A_t (by rw [midW_len]; omega) (by omega) n_t SA_ SH_ SL_) (in1 ⟨A_t.lt, s_t⟩) e7_20 (q := 23) rfl rfl (hw _ (List.mem_of_getElem? (i := 96) rfl)) (hw _ (List.mem_of_getElem? (i := 97) rfl)) (hw _ (List.mem_of_getElem? (i := 72) rfl)) (hw _ (List.mem_of_getElem? (i := 98) rfl)) (by decide) pd3 rfl rfl (W := 0) (Nat.le_of_eq rfl) (by decide) (by decide) (by decide) (by decide) (fun T h v w gs C q => ?_)
      replace s_t := C.safe A_t.lt s_t
      obtain ⟨rfl, K, V⟩ := q
      replace E0 := ext_keep E0 K z_t
      replace A_a := A_a.keep K (not1 ne_a_t)
      rw [midW_set _ _ (by omega)] at V
      replace A_t := V
      show Go p e below _ (State.setTop T (mkF m 23 #[.val (.ref a), .val (.int (Int32.ofNat i)), .val (.int (Int32.ofNat cs.length)), .val (.ref t), .val (.int (Int32.ofNat i))] []))
      refine g_iinc w e7_23 (q := 26) rfl (v := (1 : Int32)) (by decide) rfl rfl ?_
      rw [ofNat_succ]
      show Go p e below _ (State.setTop T (mkF m 26 #[.val (.ref a), .val (.int (Int32.ofNat (i + 1))), .val (.int (Int32.ofNat cs.length)), .val (.ref t), .val (.int (Int32.ofNat i))] []))
      refine g_iinc w e7_26 (q := 29) rfl (v := (1 : Int32)) (by decide) rfl rfl ?_
      rw [ofNat_succ]
      show Go p e below _ (State.setTop T (mkF m 29 #[.val (.ref a), .val (.int (Int32.ofNat (i + 1))), .val (.int (Int32.ofNat cs.length)), .val (.ref t), .val (.int (Int32.ofNat (i + 1)))] []))
      refine g_goto w e7_29 (by decide) (q := 8) (by decide) ?_
      exact ih (i + 1) T _ _ (by omega) E0 A_a A_t s_t w
  exact LP cs.length 0 T _ _ (by omega) E0 A_a A_t s_t w
theorem e8_0 : decode jdk_52_method_16_code 0 = .ok (.iload_n 2, 1) := by decide +kernel
theorem e8_1 : decode jdk_52_method_16_code 1 = .ok (.newarray .byte, 2) := by decide +kernel
theorem e8_3 : decode jdk_52_method_16_code 3 = .ok (.astore_n 3, 1) := by decide +kernel
theorem e8_4 : decode jdk_52_method_16_code 4 = .ok (.aload_n 0, 1) := by decide +kernel
theorem e8_5 : decode jdk_52_method_16_code 5 = .ok (.iload_n 1, 1) := by decide +kernel
theorem e8_6 : decode jdk_52_method_16_code 6 = .ok (.aload_n 3, 1) := by decide +kernel
theorem e8_7 : decode jdk_52_method_16_code 7 = .ok (.iconst 0, 1) := by decide +kernel
theorem e8_8 : decode jdk_52_method_16_code 8 = .ok (.iload_n 2, 1) := by decide +kernel
theorem e8_9 : decode jdk_52_method_16_code 9 = .ok (.invokestatic 115, 3) := by decide +kernel
theorem e8_12 : decode jdk_52_method_16_code 12 = .ok (.istore 4, 2) := by decide +kernel
theorem e8_14 : decode jdk_52_method_16_code 14 = .ok (.iload 4, 2) := by decide +kernel
theorem e8_16 : decode jdk_52_method_16_code 16 = .ok (.iload_n 2, 1) := by decide +kernel
theorem e8_17 : decode jdk_52_method_16_code 17 = .ok (.if_icmp .eq 40, 3) := by decide +kernel
theorem e8_20 : decode jdk_52_method_16_code 20 = .ok (.aload_n 0, 1) := by decide +kernel
theorem e8_21 : decode jdk_52_method_16_code 21 = .ok (.iload_n 1, 1) := by decide +kernel
theorem e8_22 : decode jdk_52_method_16_code 22 = .ok (.iload_n 2, 1) := by decide +kernel
theorem e8_23 : decode jdk_52_method_16_code 23 = .ok (.invokestatic 119, 3) := by decide +kernel
theorem e8_26 : decode jdk_52_method_16_code 26 = .ok (.astore 5, 2) := by decide +kernel
theorem e8_28 : decode jdk_52_method_16_code 28 = .ok (.aload 5, 2) := by decide +kernel
theorem e8_30 : decode jdk_52_method_16_code 30 = .ok (.iload 4, 2) := by decide +kernel
theorem e8_32 : decode jdk_52_method_16_code 32 = .ok (.invokestatic 71, 3) := by decide +kernel
theorem e8_35 : decode jdk_52_method_16_code 35 = .ok (.sipush 255, 3) := by decide +kernel
theorem e8_38 : decode jdk_52_method_16_code 38 = .ok (.if_icmp .gt 16, 3) := by decide +kernel
theorem e8_41 : decode jdk_52_method_16_code 41 = .ok (.aload 5, 2) := by decide +kernel
theorem e8_43 : decode jdk_52_method_16_code 43 = .ok (.iconst 0, 1) := by decide +kernel
theorem e8_44 : decode jdk_52_method_16_code 44 = .ok (.aload_n 3, 1) := by decide +kernel
theorem e8_45 : decode jdk_52_method_16_code 45 = .ok (.iconst 0, 1) := by decide +kernel
theorem e8_46 : decode jdk_52_method_16_code 46 = .ok (.iload_n 2, 1) := by decide +kernel
theorem e8_47 : decode jdk_52_method_16_code 47 = .ok (.invokestatic 123, 3) := by decide +kernel
theorem e8_50 : decode jdk_52_method_16_code 50 = .ok (.iload_n 2, 1) := by decide +kernel
theorem e8_51 : decode jdk_52_method_16_code 51 = .ok (.if_icmp .eq 6, 3) := by decide +kernel
theorem e8_54 : decode jdk_52_method_16_code 54 = .ok (.aload 5, 2) := by decide +kernel
theorem e8_56 : decode jdk_52_method_16_code 56 = .ok (.areturn, 1) := by decide +kernel
theorem e8_57 : decode jdk_52_method_16_code 57 = .ok (.aload_n 3, 1) := by decide +kernel
theorem e8_58 : decode jdk_52_method_16_code 58 = .ok (.areturn, 1) := by decide +kernel
theorem pd4 : parseMethodDescriptor "([CI[BII)I" = some ⟨[(.array .char), .int, (.array .byte), .int, .int], some .int⟩ := by decide +kernel
theorem pd5 : parseMethodDescriptor "([CII)[B" = some ⟨[(.array .char), .int, .int], some (.array .byte)⟩ := by decide +kernel
theorem pd6 : parseMethodDescriptor "([BI)C" = some ⟨[(.array .byte), .int], some .char⟩ := by decide +kernel
set_option maxRecDepth 65536 in
set_option maxHeartbeats 40000000 in
theorem con_cmp (l : Launch) (Z : State) (a0 : Array Value) (hw : ∀ d ∈ tables_1, d.before a0 Z = true) (a : Addr) (cs : List Int32) (h0 : Heap) (O0 : Ext Z.heap h0) (A_a : Ar Z h0 a .char (cs.map Value.int)) (hn : cs.length ≤ 4) (hl : ∀ c ∈ cs, Lt16 c) (SA_ : Sta Z Z.heap "java/lang/StringUTF16" "$assertionsDisabled" "Z" (.int 1)) (SH_ : Sta Z Z.heap "java/lang/StringUTF16" "HI_BYTE_SHIFT" "I" (.int 0)) (SL_ : Sta Z Z.heap "java/lang/StringUTF16" "LO_BYTE_SHIFT" "I" (.int 8)) :
    Con l Z consts_1 false (⟨"java/lang/StringUTF16", "compress", "([CII)[B"⟩ : MethodName) jdk_52_method_16_code 6 (some (.array .byte)) [] ({ frames := 3, cells := 2, slots := 12, locals := 40 } : Room) #[(.ref a), (.int (0 : Int32)), (.int (Int32.ofNat cs.length))] [] h0 (fun v h => ∃ t, v = some (.ref t) ∧ Ext h0 h ∧ h0.size ≤ t ∧ (((∀ c ∈ cs, Lt8 c) ∧ Ar Z h t .byte ((cs.map fun c => c.toInt8.toInt32).map Value.int)) ∨ ((∃ c ∈ cs, 255 < c) ∧ Ar Z h t .byte (StrChars.Road.wideBytes cs)))) := by
  refine Con.intro (Ls := #[.val (.ref a), .val (.int (0 : Int32)), .val (.int (Int32.ofNat cs.length)), .unset, .unset, .unset]) (plainFor_of_name pn1) (own_EL hw) O0 (fun m => by first | rfl | (simp [entryFrame, mkF, argsToLocals, Value.category]; done)) (fun p e s m below meth cc_ T w sf_ => ?_)
  have E0 := ext_refl h0
  refine g_iloadN w e8_0 (q := 1) rfl rfl ?_
  refine g_newarr w e8_1 (q := 3) rfl (hw _ (List.mem_of_getElem? (i := 23) rfl)) (len := cs.length) (cap := 4) rfl (by omega) (by decide) (by decide) (by decide) (fun T h t w E g_t n_t A_t s_t => ?_)
  have z_t := Nat.le_trans E0.1 g_t
  have ne_a_t : a ≠ t := Nat.ne_of_lt (Nat.lt_of_lt_of_le A_a.lt g_t)
  replace E0 := ext_trans E0 E
  replace A_a := A_a.ext E
  replace A_t : Ar Z h t .byte (List.replicate cs.length (.int 0)) := A_t
  refine g_astoreN w e8_3 (q := 4) rfl rfl (Ls' := #[.val (.ref a), .val (.int (0 : Int32)), .val (.int (Int32.ofNat cs.length)), .val (.ref t), .unset, .unset]) rfl ?_
  refine g_aloadN w e8_4 (q := 5) rfl rfl rfl ?_
  refine g_iloadN w e8_5 (q := 6) rfl rfl ?_
  refine g_aloadN w e8_6 (q := 7) rfl rfl rfl ?_
  refine g_iconst w e8_7 (q := 8) rfl (v := (0 : Int32)) (by decide) ?_
  refine g_iloadN w e8_8 (q := 9) rfl rfl ?_
  refine g_static w (con_cmpI l Z a0 hw a t cs _ w.old A_a A_t n_t ne_a_t hl hn) (in1 ⟨A_t.lt, s_t⟩) e8_9 (q := 12) rfl rfl (hw _ (List.mem_of_getElem? (i := 74) rfl)) (hw _ (List.mem_of_getElem? (i := 75) rfl)) (hw _ (List.mem_of_getElem? (i := 72) rfl)) (hw _ (List.mem_of_getElem? (i := 76) rfl)) (by decide) pd4 rfl rfl (W := 0) (Nat.le_of_eq rfl) (by decide) (by decide) (by decide) (by decide) (fun T h v w gs C q => ?_)
  rcases q with ⟨rfl, hb, K, V⟩ | ⟨k_, hk, rfl, hk2, K⟩
  · replace E0 := ext_keep E0 K z_t
    replace A_a := A_a.keep K (not1 ne_a_t)
    replace A_t := V
    show Go p e below _ (State.setTop T (mkF m 12 #[.val (.ref a), .val (.int (0 : Int32)), .val (.int (Int32.ofNat cs.length)), .val (.ref t), .unset, .unset] [(.int (Int32.ofNat cs.length))]))
    refine g_istore w e8_12 (q := 14) rfl (Ls' := #[.val (.ref a), .val (.int (0 : Int32)), .val (.int (Int32.ofNat cs.length)), .val (.ref t), .val (.int (Int32.ofNat cs.length)), .unset]) rfl ?_
    refine g_iload w e8_14 (q := 16) rfl rfl ?_
    refine g_iloadN w e8_16 (q := 17) rfl rfl ?_
    refine g_icY w e8_17 (by decide) (q := 57) (by decide) (Jvm.Free.XT.ii_eq_t rfl) ?_
    refine g_aloadN w e8_57 (q := 58) rfl rfl rfl ?_
    exact g_reta w e8_58 rfl rfl rfl (by decide) (by decide) ⟨t, rfl, E0, z_t, Or.inl ⟨hb, A_t⟩⟩
  · replace E0 := ext_keep E0 K z_t
    replace A_a := A_a.keep K (not1 ne_a_t)
    show Go p e below _ (State.setTop T (mkF m 12 #[.val (.ref a), .val (.int (0 : Int32)), .val (.int (Int32.ofNat cs.length)), .val (.ref t), .unset, .unset] [(.int (Int32.ofNat k_))]))
    refine g_istore w e8_12 (q := 14) rfl (Ls' := #[.val (.ref a), .val (.int (0 : Int32)), .val (.int (Int32.ofNat cs.length)), .val (.ref t), .val (.int (Int32.ofNat k_)), .unset]) rfl ?_
    refine g_iload w e8_14 (q := 16) rfl rfl ?_
    refine g_iloadN w e8_16 (q := 17) rfl rfl ?_
    refine g_icN w e8_17 (q := 20) rfl (Jvm.Free.XT.ii_eq_f (ofNat_ne hk (by omega))) ?_
    refine g_aloadN w e8_20 (q := 21) rfl rfl rfl ?_
    refine g_iloadN w e8_21 (q := 22) rfl rfl ?_
    refine g_iloadN w e8_22 (q := 23) rfl rfl ?_
    refine g_static w (con_tbs l Z a0 hw a cs _ w.old A_a hn hl SA_ SH_ SL_) no0 e8_23 (q := 26) rfl rfl (hw _ (List.mem_of_getElem? (i := 86) rfl)) (hw _ (List.mem_of_getElem? (i := 87) rfl)) (hw _ (List.mem_of_getElem? (i := 72) rfl)) (hw _ (List.mem_of_getElem? (i := 88) rfl)) (by decide) pd5 rfl rfl (W := 0) (Nat.le_of_eq rfl) (by decide) (by decide) (by decide) (by decide) (fun T h v w gs C q => ?_)
    obtain ⟨u, rfl, E, g_u, A_u⟩ := q
    have z_u := Nat.le_trans E0.1 g_u
    have ne_a_u : a ≠ u := Nat.ne_of_lt (Nat.lt_of_lt_of_le A_a.lt g_u)
    replace E0 := ext_trans E0 E
    replace A_a := A_a.ext E
    show Go p e below _ (State.setTop T (mkF m 26 #[.val (.ref a), .val (.int (0 : Int32)), .val (.int (Int32.ofNat cs.length)), .val (.ref t), .val (.int (Int32.ofNat k_)), .unset] [(.ref u)]))
    refine g_astore w e8_26 (q := 28) rfl rfl (Ls' := #[.val (.ref a), .val (.int (0 : Int32)), .val (.int (Int32.ofNat cs.length)), .val (.ref t), .val (.int (Int32.ofNat k_)), .val (.ref u)]) rfl ?_
    refine g_aload w e8_28 (q := 30) rfl rfl rfl ?_
    refine g_iload w e8_30 (q := 32) rfl rfl ?_
    refine g_staticP w (con_get l Z a0 hw u k_ cs _ w.old A_u hk hn hl SA_ SH_ SL_) no0 e8_32 (q := 35) rfl rfl (hw _ (List.mem_of_getElem? (i := 102) rfl)) (hw _ (List.mem_of_getElem? (i := 103) rfl)) (hw _ (List.mem_of_getElem? (i := 72) rfl)) (hw _ (List.mem_of_getElem? (i := 104) rfl)) (by decide) pd6 rfl rfl (W := 0) (Nat.le_of_eq rfl) (by decide) (by decide) (by decide) (by decide) (fun T v w C q => ?_)
    obtain rfl := q
    show Go p e below _ (State.setTop T (mkF m 35 #[.val (.ref a), .val (.int (0 : Int32)), .val (.int (Int32.ofNat cs.length)), .val (.ref t), .val (.int (Int32.ofNat k_)), .val (.ref u)] [(.int (cs.getD k_ 0))]))
    refine g_sipush w e8_35 (q := 38) rfl (v := (255 : Int32)) (by decide) ?_
    refine g_icY w e8_38 (by decide) (q := 54) (by decide) (Jvm.Free.XT.ii_gt_t hk2) ?_
    refine g_aload w e8_54 (q := 56) rfl rfl rfl ?_
    exact g_reta w e8_56 rfl rfl rfl (by decide) (by decide) ⟨u, rfl, E0, z_u, Or.inr ⟨big_mem hk hk2, A_u⟩⟩
theorem e9_0 : decode jdk_52_method_15_code 0 = .ok (.iload_n 1, 1) := by decide +kernel
theorem e9_1 : decode jdk_52_method_15_code 1 = .ok (.aload_n 0, 1) := by decide +kernel
theorem e9_2 : decode jdk_52_method_15_code 2 = .ok (.arraylength, 1) := by decide +kernel
theorem e9_3 : decode jdk_52_method_15_code 3 = .ok (.isub, 1) := by decide +kernel
theorem e9_4 : decode jdk_52_method_15_code 4 = .ok (.bipush 31, 2) := by decide +kernel
theorem e9_6 : decode jdk_52_method_15_code 6 = .ok (.iushr, 1) := by decide +kernel
theorem e9_7 : decode jdk_52_method_15_code 7 = .ok (.i2b, 1) := by decide +kernel
theorem e9_8 : decode jdk_52_method_15_code 8 = .ok (.ireturn, 1) := by decide +kernel
set_option maxRecDepth 65536 in
set_option maxHeartbeats 40000000 in
theorem con_cfl (l : Launch) (Z : State) (a0 : Array Value) (hw : ∀ d ∈ tables_1, d.before a0 Z = true) (t : Addr) (n_ : Nat) (vs : List Value) (h0 : Heap) (O0 : Ext Z.heap h0) (A_t : Ar Z h0 t .byte vs) :
    Con l Z consts_1 false (⟨"java/lang/StringUTF16", "coderFromArrayLen", "([BI)B"⟩ : MethodName) jdk_52_method_15_code 2 (some .byte) [] ({ frames := 0, cells := 0, slots := 0, locals := 0 } : Room) #[(.ref t), (.int (Int32.ofNat n_))] [] h0 (fun v h => v = some (.int (Jvm.Free.XT.ushr (Int32.ofNat n_ - Int32.ofNat vs.length) 31).toInt8.toInt32) ∧ h = h0) := by
  refine Con.intro (Ls := #[.val (.ref t), .val (.int (Int32.ofNat n_))]) (plainFor_of_name pn1) (own_EL hw) O0 (fun m => by first | rfl | (simp [entryFrame, mkF, argsToLocals, Value.category]; done)) (fun p e s m below meth cc_ T w sf_ => ?_)
  have E0 := ext_refl h0
  refine g_iloadN w e9_0 (q := 1) rfl rfl ?_
  refine g_aloadN w e9_1 (q := 2) rfl rfl rfl ?_
  refine g_alen w e9_2 (q := 3) rfl A_t ?_
  refine g_isub w e9_3 (q := 4) rfl ?_
  refine g_bipush w e9_4 (q := 6) rfl (v := (31 : Int32)) (by decide) ?_
  refine g_iushr w e9_6 (q := 7) rfl ?_
  refine g_i2b w e9_7 (q := 8) rfl ?_
  exact g_retn w e9_8 rfl (by simp) (nar_b _) (by decide) (by decide) ⟨rfl, rfl⟩
theorem pd7 : parseMethodDescriptor "([BI)B" = some ⟨[(.array .byte), .int], some .byte⟩ := by decide +kernel
set_option maxRecDepth 65536 in
set_option maxHeartbeats 40000000 in
theorem con_new4U (l : Launch) (Z : State) (a0 : Array Value) (hw : ∀ d ∈ tables_1, d.before a0 Z = true) (x b : Addr) (cs : List Int32) (h0 : Heap) (O0 : Ext Z.heap h0) (X_x : Exa Z h0 x "java/lang/String") (F_value_x : Fld Z h0 x "java/lang/String" "value" "[B" .null) (F_coder_x : Fld Z h0 x "java/lang/String" "coder" "B" (.int (0 : Int32))) (n_x : Z.heap.size ≤ x) (A_b : Ar Z h0 b .char (cs.map Value.int)) (ne_b_x : b ≠ x) (hn : cs.length ≤ 4) (hl : ∀ c ∈ cs, Lt16 c) (hpos : 0 < cs.length) (hcm : Cpt Z) (SA_ : Sta Z Z.heap "java/lang/StringUTF16" "$assertionsDisabled" "Z" (.int 1)) (SH_ : Sta Z Z.heap "java/lang/StringUTF16" "HI_BYTE_SHIFT" "I" (.int 0)) (SL_ : Sta Z Z.heap "java/lang/StringUTF16" "LO_BYTE_SHIFT" "I" (.int 8)) :
    Con l Z consts_1 false (⟨"java/lang/String", "<init>", "([CIILjava/lang/Void;)V"⟩ : MethodName) jdk_42_method_149_code 6 none [] ({ frames := 4, cells := 2, slots := 12, locals := 57 } : Room) #[(.ref x), (.ref b), (.int (0 : Int32)), (.int (Int32.ofNat cs.length)), .null] [] h0 (fun v h => v = none ∧ Keep h0 h [x] ∧ Su Z h x cs) := by
  refine Con.intro (Ls := #[.val (.ref x), .val (.ref b), .val (.int (0 : Int32)), .val (.int (Int32.ofNat cs.length)), .val .null, .unset]) (plainFor_of_name pn0) (own_EL hw) O0 (fun m => by first | rfl | (simp [entryFrame, mkF, argsToLocals, Value.category]; done)) (fun p e s m below meth cc_ T w sf_ => ?_)
  have K0 := Keep.refl h0 [x]
  obtain ⟨z_, hz_, SC_⟩ := id hcm
  have s_x := safe_null (EL := consts_1) (vm := s.vm) w.wz.alike (hw _ (List.mem_of_getElem? (i := 10) rfl)) X_x F_value_x
  refine g_aloadN w e0_0 (q := 1) rfl rfl rfl ?_
  refine g_initO w e0_1 (q := 4) rfl rfl (hw _ (List.mem_of_getElem? (i := 19) rfl)) (hw _ (List.mem_of_getElem? (i := 20) rfl)) (hw _ (List.mem_of_getElem? (i := 21) rfl)) (W := 0) (Nat.le_of_eq rfl) (by decide) (by decide) (fun T w => ?_)
  refine g_iloadN w e0_4 (q := 5) rfl rfl ?_
  refine g_ifY w e0_5 (by decide) (q := 27) (by decide) (Jvm.Free.XT.i0_ne_t (fun q => ofNat_ne hpos (by omega) q.symm)) ?_
  refine g_getS w e0_27 (q := 30) rfl (hw _ (List.mem_of_getElem? (i := 50) rfl)) Via.refl SC_ (fun T w => ?_)
  refine g_ifN w e0_30 (q := 33) rfl (Jvm.Free.XT.i0_eq_f hz_) ?_
  refine g_aloadN w e0_33 (q := 34) rfl rfl rfl ?_
  refine g_iloadN w e0_34 (q := 35) rfl rfl ?_
  refine g_iloadN w e0_35 (q := 36) rfl rfl ?_
  refine g_static w (con_cmp l Z a0 hw b cs _ w.old A_b hn hl SA_ SH_ SL_) no0 e0_36 (q := 39) rfl rfl (hw _ (List.mem_of_getElem? (i := 70) rfl)) (hw _ (List.mem_of_getElem? (i := 71) rfl)) (hw _ (List.mem_of_getElem? (i := 72) rfl)) (hw _ (List.mem_of_getElem? (i := 73) rfl)) (by decide) pd5 rfl rfl (W := 0) (Nat.le_of_eq rfl) (by decide) (by decide) (by decide) (by decide) (fun T h v w gs C q => ?_)
  replace s_x := C.safe X_x.lt s_x
  obtain ⟨t, rfl, E, g_t, hq⟩ := q
  have z_t := Nat.le_trans K0.1 g_t
  have ne_x_t : x ≠ t := Nat.ne_of_lt (Nat.lt_of_lt_of_le X_x.lt g_t)
  have ne_b_t : b ≠ t := Nat.ne_of_lt (Nat.lt_of_lt_of_le A_b.lt g_t)
  replace K0 := K0.ext E
  replace X_x := X_x.ext E
  replace F_value_x := F_value_x.ext E
  replace F_coder_x := F_coder_x.ext E
  replace A_b := A_b.ext E
  rcases hq with ⟨hb, A_t⟩ | ⟨hb, A_t⟩
  · show Go p e below _ (State.setTop T (mkF m 39 #[.val (.ref x), .val (.ref b), .val (.int (0 : Int32)), .val (.int (Int32.ofNat cs.length)), .val .null, .unset] [(.ref t)]))
    refine g_astore w e0_39 (q := 41) rfl rfl (Ls' := #[.val (.ref x), .val (.ref b), .val (.int (0 : Int32)), .val (.int (Int32.ofNat cs.length)), .val .null, .val (.ref t)]) rfl ?_
    refine g_aloadN w e0_41 (q := 42) rfl rfl rfl ?_
    refine g_aload w e0_42 (q := 44) rfl rfl rfl ?_
    refine g_iloadN w e0_44 (q := 45) rfl rfl ?_
    refine g_staticP w (con_cfl l Z a0 hw t cs.length _ _ w.old A_t) no0 e0_45 (q := 48) rfl rfl (hw _ (List.mem_of_getElem? (i := 77) rfl)) (hw _ (List.mem_of_getElem? (i := 78) rfl)) (hw _ (List.mem_of_getElem? (i := 72) rfl)) (hw _ (List.mem_of_getElem? (i := 79) rfl)) (by decide) pd7 rfl rfl (W := 1) (Nat.le_of_eq rfl) (by decide) (by decide) (by decide) (by decide) (fun T v w C q => ?_)
    replace s_x := C.safe X_x.lt s_x
    rw [List.length_map, List.length_map, cod0 _ (by omega)] at q
    obtain rfl := q
    show Go p e below _ (State.setTop T (mkF m 48 #[.val (.ref x), .val (.ref b), .val (.int (0 : Int32)), .val (.int (Int32.ofNat cs.length)), .val .null, .val (.ref t)] [(.int (0 : Int32)), (.ref x)]))
    have g_ := w.chv
    refine g_putF w e0_48 (q := 51) rfl (hw _ (List.mem_of_getElem? (i := 29) rfl)) Via.refl F_coder_x X_x (Or.inr ⟨(hw _ (List.mem_of_getElem? (i := 25) rfl)), rfl, rfl⟩) (hw _ (List.mem_of_getElem? (i := 10) rfl)) (ty := .byte) (by decide) (v' := (.int (0 : Int32))) rfl rfl n_x s_x (fun T h w W => ?_)
    replace K0 := K0.wr W (Or.inl (List.mem_singleton.mpr rfl))
    replace s_x := Safe.wr W s_x g_ s_x
    replace X_x := X_x.wr W
    replace F_value_x := F_value_x.other W (Or.inr (slot_ne (Or.inr (hw _ (List.mem_of_getElem? (i := 24) rfl))) (Or.inr (hw _ (List.mem_of_getElem? (i := 25) rfl))) (by decide) (t := (.array .byte)) (t' := .byte) (by decide) (by decide)))
    replace F_coder_x := F_coder_x.same W
    replace A_b := A_b.other W ne_b_x
    replace A_t := A_t.other W ne_x_t.symm
    refine g_aloadN w e0_51 (q := 52) rfl rfl rfl ?_
    refine g_aload w e0_52 (q := 54) rfl rfl rfl ?_
    have g_ := w.chv
    refine g_putF w e0_54 (q := 57) rfl (hw _ (List.mem_of_getElem? (i := 28) rfl)) Via.refl F_value_x X_x (Or.inr ⟨(hw _ (List.mem_of_getElem? (i := 24) rfl)), rfl, rfl⟩) (hw _ (List.mem_of_getElem? (i := 10) rfl)) (ty := (.array .byte)) (by decide) (v' := (.ref t)) rfl rfl n_x s_x (fun T h w W => ?_)
    replace K0 := K0.wr W (Or.inl (List.mem_singleton.mpr rfl))
    replace s_x := Safe.wr W s_x g_ s_x
    replace X_x := X_x.wr W
    replace F_value_x := F_value_x.same W
    replace F_coder_x := F_coder_x.other W (Or.inr (slot_ne (Or.inr (hw _ (List.mem_of_getElem? (i := 25) rfl))) (Or.inr (hw _ (List.mem_of_getElem? (i := 24) rfl))) (by decide) (t := .byte) (t' := (.array .byte)) (by decide) (by decide)))
    replace A_b := A_b.other W ne_b_x
    replace A_t := A_t.other W ne_x_t.symm
    exact g_return w e0_57 rfl (by decide) (by decide) ⟨rfl, K0, Sg.su (sg_of (by omega) hb X_x F_value_x F_coder_x A_t)⟩
  · show Go p e below _ (State.setTop T (mkF m 39 #[.val (.ref x), .val (.ref b), .val (.int (0 : Int32)), .val (.int (Int32.ofNat cs.length)), .val .null, .unset] [(.ref t)]))
    refine g_astore w e0_39 (q := 41) rfl rfl (Ls' := #[.val (.ref x), .val (.ref b), .val (.int (0 : Int32)), .val (.int (Int32.ofNat cs.length)), .val .null, .val (.ref t)]) rfl ?_
    refine g_aloadN w e0_41 (q := 42) rfl rfl rfl ?_
    refine g_aload w e0_42 (q := 44) rfl rfl rfl ?_
    refine g_iloadN w e0_44 (q := 45) rfl rfl ?_
    refine g_staticP w (con_cfl l Z a0 hw t cs.length _ _ w.old A_t) no0 e0_45 (q := 48) rfl rfl (hw _ (List.mem_of_getElem? (i := 77) rfl)) (hw _ (List.mem_of_getElem? (i := 78) rfl)) (hw _ (List.mem_of_getElem? (i := 72) rfl)) (hw _ (List.mem_of_getElem? (i := 79) rfl)) (by decide) pd7 rfl rfl (W := 1) (Nat.le_of_eq rfl) (by decide) (by decide) (by decide) (by decide) (fun T v w C q => ?_)
    replace s_x := C.safe X_x.lt s_x
    rw [wide_len, cod1 _ (by omega) hpos] at q
    obtain rfl := q
    show Go p e below _ (State.setTop T (mkF m 48 #[.val (.ref x), .val (.ref b), .val (.int (0 : Int32)), .val (.int (Int32.ofNat cs.length)), .val .null, .val (.ref t)] [(.int (1 : Int32)), (.ref x)]))
    have g_ := w.chv
    refine g_putF w e0_48 (q := 51) rfl (hw _ (List.mem_of_getElem? (i := 29) rfl)) Via.refl F_coder_x X_x (Or.inr ⟨(hw _ (List.mem_of_getElem? (i := 25) rfl)), rfl, rfl⟩) (hw _ (List.mem_of_getElem? (i := 10) rfl)) (ty := .byte) (by decide) (v' := (.int (1 : Int32))) rfl rfl n_x s_x (fun T h w W => ?_)
    replace K0 := K0.wr W (Or.inl (List.mem_singleton.mpr rfl))
    replace s_x := Safe.wr W s_x g_ s_x
    replace X_x := X_x.wr W
    replace F_value_x := F_value_x.other W (Or.inr (slot_ne (Or.inr (hw _ (List.mem_of_getElem? (i := 24) rfl))) (Or.inr (hw _ (List.mem_of_getElem? (i := 25) rfl))) (by decide) (t := (.array .byte)) (t' := .byte) (by decide) (by decide)))
    replace F_coder_x := F_coder_x.same W
    replace A_b := A_b.other W ne_b_x
    replace A_t := A_t.other W ne_x_t.symm
    refine g_aloadN w e0_51 (q := 52) rfl rfl rfl ?_
    refine g_aload w e0_52 (q := 54) rfl rfl rfl ?_
    have g_ := w.chv
    refine g_putF w e0_54 (q := 57) rfl (hw _ (List.mem_of_getElem? (i := 28) rfl)) Via.refl F_value_x X_x (Or.inr ⟨(hw _ (List.mem_of_getElem? (i := 24) rfl)), rfl, rfl⟩) (hw _ (List.mem_of_getElem? (i := 10) rfl)) (ty := (.array .byte)) (by decide) (v' := (.ref t)) rfl rfl n_x s_x (fun T h w W => ?_)
    replace K0 := K0.wr W (Or.inl (List.mem_singleton.mpr rfl))
    replace s_x := Safe.wr W s_x g_ s_x
    replace X_x := X_x.wr W
    replace F_value_x := F_value_x.same W
    replace F_coder_x := F_coder_x.other W (Or.inr (slot_ne (Or.inr (hw _ (List.mem_of_getElem? (i := 25) rfl))) (Or.inr (hw _ (List.mem_of_getElem? (i := 24) rfl))) (by decide) (t := .byte) (t' := (.array .byte)) (by decide) (by decide)))
    replace A_b := A_b.other W ne_b_x
    replace A_t := A_t.other W ne_x_t.symm
    exact g_return w e0_57 rfl (by decide) (by decide) ⟨rfl, K0, su_of (by omega) hl X_x F_value_x F_coder_x A_t hb⟩
set_option maxRecDepth 65536 in
set_option maxHeartbeats 40000000 in
theorem con_new1U (l : Launch) (Z : State) (a0 : Array Value) (hw : ∀ d ∈ tables_1, d.before a0 Z = true) (x b : Addr) (cs : List Int32) (h0 : Heap) (O0 : Ext Z.heap h0) (X_x : Exa Z h0 x "java/lang/String") (F_value_x : Fld Z h0 x "java/lang/String" "value" "[B" .null) (F_coder_x : Fld Z h0 x "java/lang/String" "coder" "B" (.int (0 : Int32))) (n_x : Z.heap.size ≤ x) (A_b : Ar Z h0 b .char (cs.map Value.int)) (ne_b_x : b ≠ x) (hn : cs.length ≤ 4) (hl : ∀ c ∈ cs, Lt16 c) (hpos : 0 < cs.length) (hcm : Cpt Z) (SA_ : Sta Z Z.heap "java/lang/StringUTF16" "$assertionsDisabled" "Z" (.int 1)) (SH_ : Sta Z Z.heap "java/lang/StringUTF16" "HI_BYTE_SHIFT" "I" (.int 0)) (SL_ : Sta Z Z.heap "java/lang/StringUTF16" "LO_BYTE_SHIFT" "I" (.int 8)) :
    Con l Z consts_1 false (⟨"java/lang/String", "<init>", "([C)V"⟩ : MethodName) jdk_42_method_3_code 2 none [] ({ frames := 5, cells := 2, slots := 12, locals := 74 } : Room) #[(.ref x), (.ref b)] [] h0 (fun v h => v = none ∧ Keep h0 h [x] ∧ Su Z h x cs) := by
  refine Con.intro (Ls := #[.val (.ref x), .val (.ref b)]) (plainFor_of_name pn0) (own_EL hw) O0 (fun m => by first | rfl | (simp [entryFrame, mkF, argsToLocals, Value.category]; done)) (fun p e s m below meth cc_ T w sf_ => ?_)
  have K0 := Keep.refl h0 [x]
  refine g_aloadN w e1_0 (q := 1) rfl rfl rfl ?_
  refine g_aloadN w e1_1 (q := 2) rfl rfl rfl ?_
  refine g_iconst w e1_2 (q := 3) rfl (v := (0 : Int32)) (by decide) ?_
  refine g_aloadN w e1_3 (q := 4) rfl rfl rfl ?_
  refine g_alen w e1_4 (q := 5) rfl A_b ?_
  rw [List.length_map]
  show Go p e below _ (State.setTop T (mkF m 5 #[.val (.ref x), .val (.ref b)] [(.int (Int32.ofNat cs.length)), (.int (0 : Int32)), (.ref b), (.ref x)]))
  refine g_anull w e1_5 (q := 6) rfl ?_
  refine g_special w (con_new4U l Z a0 hw x b cs _ w.old X_x F_value_x F_coder_x n_x A_b ne_b_x hn hl hpos hcm SA_ SH_ SL_) no0 e1_6 (q := 9) rfl rfl rfl (hw _ (List.mem_of_getElem? (i := 15) rfl)) (hw _ (List.mem_of_getElem? (i := 16) rfl)) (hw _ (List.mem_of_getElem? (i := 11) rfl)) (hw _ (List.mem_of_getElem? (i := 18) rfl)) (by decide) pd0 rfl rfl (W := 0) (Nat.le_of_eq rfl) (by decide) (by decide) (by decide) (by decide) (fun T h v w gs C q => ?_)
  obtain ⟨rfl, K, S_x⟩ := q
  replace K0 := keep_same K0 K
  have X0 := X_x
  replace X_x := X_x.keep K
  replace A_b := A_b.keep K (not1 ne_b_x)
  show Go p e below _ (State.setTop T (mkF m 9 #[.val (.ref x), .val (.ref b)] []))
  exact g_return w e1_9 rfl (by decide) (by decide) ⟨rfl, K0, S_x⟩
def PR (c d : Int32) : Prop := ¬ c < 55296 ∧ ¬ 56319 < c ∧ ¬ d < 56320 ∧ ¬ 57343 < d
def HS (c : Int32) : Prop := ¬ c < 55296 ∧ c < 56320
def LS (c : Int32) : Prop := ¬ c < 56320 ∧ c < 57344
def cpn : List Int32 → Nat
  | c :: d :: r => if ¬ c < 55296 ∧ ¬ 56319 < c ∧ ¬ d < 56320 ∧ ¬ 57343 < d then 1 + cpn r else cpn (d :: r)
  | _ => 0
theorem cpn_y {c d : Int32} {r : List Int32} (h : PR c d) : cpn (c :: d :: r) = 1 + cpn r := by rw [cpn]; exact if_pos h
theorem cpn_n {c d : Int32} {r : List Int32} (h : ¬ PR c d) : cpn (c :: d :: r) = cpn (d :: r) := by rw [cpn]; exact if_neg h
theorem lt_succ32 {c : Int32} : ¬ 56319 < c ↔ c < 56320 := by
  rw [Int32.lt_iff_toInt_lt, Int32.lt_iff_toInt_lt, show (56319 : Int32).toInt = 56319 from rfl, show (56320 : Int32).toInt = 56320 from rfl]; omega
theorem lt_succ32' {c : Int32} : ¬ 57343 < c ↔ c < 57344 := by
  rw [Int32.lt_iff_toInt_lt, Int32.lt_iff_toInt_lt, show (57343 : Int32).toInt = 57343 from rfl, show (57344 : Int32).toInt = 57344 from rfl]; omega
theorem pr_iff {c d : Int32} : PR c d ↔ HS c ∧ LS d := by
  unfold PR HS LS; rw [lt_succ32, lt_succ32']
  exact ⟨fun ⟨a, b, c, d⟩ => ⟨⟨a, b⟩, c, d⟩, fun ⟨⟨a, b⟩, c, d⟩ => ⟨a, b, c, d⟩⟩
theorem pr_not {c d e : Int32} (h : PR c d) : ¬ PR d e := fun g => absurd (pr_iff.mp h).2.1 (fun q => q (pr_iff.mp g).1.2)
theorem cpn_le : ∀ (cs : List Int32), cpn cs ≤ cs.length
  | [] => Nat.le_refl _
  | [_] => Nat.zero_le _
  | c :: d :: r => by
    by_cases h : PR c d
    · rw [cpn_y h]; have := cpn_le r; simp only [List.length_cons]; omega
    · rw [cpn_n h]; have := cpn_le (d :: r); simp only [List.length_cons] at this ⊢; omega
theorem cpn_lat : ∀ (cs : List Int32), (∀ c ∈ cs, ¬ 255 < c) → cpn cs = 0
  | [], _ => rfl
  | [_], _ => rfl
  | c :: d :: r, hb => by
    have h : ¬ PR c d := fun q => by
      have a := hb c (List.mem_cons_self ..)
      have b := q.1
      rw [Int32.lt_iff_toInt_lt] at a b
      have e1 : (255 : Int32).toInt = 255 := rfl
      have e2 : (55296 : Int32).toInt = 55296 := rfl
      omega
    rw [cpn_n h]; exact cpn_lat (d :: r) fun c hc => hb c (List.mem_cons_of_mem _ hc)
theorem cpn_drop {cs : List Int32} {i : Nat} (h : i + 1 < cs.length) : cs.drop i = cs.getD i 0 :: cs.getD (i + 1) 0 :: cs.drop (i + 2) := by
  rw [drop_at (by omega), drop_at h]
theorem cpn_end {cs : List Int32} {i : Nat} (h : ¬ i + 1 < cs.length) : cpn (cs.drop i) = 0 := by
  have : (cs.drop i).length ≤ 1 := by rw [List.length_drop]; omega
  match cs.drop i, this with
  | [], _ => rfl
  | [_], _ => rfl
theorem cpn_N {cs : List Int32} {i : Nat} (h : i + 1 < cs.length) (q : ¬ (HS (cs.getD i 0) ∧ LS (cs.getD (i + 1) 0))) : cpn (cs.drop i) = cpn (cs.drop (i + 1)) := by
  rw [cpn_drop h, cpn_n (fun g => q (pr_iff.mp g)), drop_at h]
theorem cpn_Y {cs : List Int32} {i : Nat} (h : i + 1 < cs.length) (q1 : HS (cs.getD i 0)) (q2 : LS (cs.getD (i + 1) 0)) : cpn (cs.drop i) = 1 + cpn (cs.drop (i + 2)) := by
  rw [cpn_drop h, cpn_y (pr_iff.mpr ⟨q1, q2⟩)]
theorem ofNat_dec1 {n p : Nat} (h : p + 1 ≤ n) : Int32.ofNat (n - p) + (-1) = Int32.ofNat (n - (p + 1)) := by
  rw [ofNat_dec, show n - p = (n - (p + 1)) + 1 from by omega, ofNat_pred]
theorem ofNat_sub1 {n : Nat} (h : 0 < n) : Int32.ofNat n - 1 = Int32.ofNat (n - 1) := by
  rw [show n = (n - 1) + 1 from by omega, ofNat_pred]; rfl
theorem max_ge (a b : Int32) : ¬ (if a < b then b else a) < a := by
  split
  · rename_i h; rw [Int32.lt_iff_toInt_lt] at h ⊢; omega
  · exact Int32.lt_irrefl
theorem i2c16 (x : Int32) : Lt16 x.toUInt32.toUInt16.toUInt32.toInt32 := by
  have h1 : (x.toUInt32.toUInt16.toUInt32.toInt32).toBitVec.toNat < 65536 := x.toUInt32.toUInt16.toNat_lt
  have h3 : (x.toUInt32.toUInt16.toUInt32.toInt32).toInt = (x.toUInt32.toUInt16.toUInt32.toInt32).toBitVec.toInt := rfl
  have e : (x.toUInt32.toUInt16.toUInt32.toInt32).toInt = ((x.toUInt32.toUInt16.toUInt32.toInt32).toBitVec.toNat : Int) := by rw [h3, BitVec.toInt_eq_toNat_cond, if_pos (by omega)]
  exact Lt16.of (by omega) (by omega)
def pf (n a b c d : Int32) : List Int32 := if n = 0 then [] else if n = 1 then [a] else if n = 2 then [a, b] else if n = 3 then [a, b, c] else [a, b, c, d]
def In5 (n : Int32) : Prop := n = 0 ∨ n = 1 ∨ n = 2 ∨ n = 3 ∨ n = 4
theorem mod5 {x : Int32} (hx : ¬ x < 0) : In5 (x % 5) := by
  have h := rem_int (z := 5) hx (by decide)
  rw [show (5 : Int32).toInt = 5 from rfl] at h
  have h2 : (x % 5).toInt = 0 ∨ (x % 5).toInt = 1 ∨ (x % 5).toInt = 2 ∨ (x % 5).toInt = 3 ∨ (x % 5).toInt = 4 := by omega
  unfold In5
  rcases h2 with h2 | h2 | h2 | h2 | h2
  · exact Or.inl (Int32.toInt_inj.mp h2)
  · exact Or.inr (Or.inl (Int32.toInt_inj.mp h2))
  · exact Or.inr (Or.inr (Or.inl (Int32.toInt_inj.mp h2)))
  · exact Or.inr (Or.inr (Or.inr (Or.inl (Int32.toInt_inj.mp h2))))
  · exact Or.inr (Or.inr (Or.inr (Or.inr ((Int32.toInt_inj.mp h2)))))
theorem e10_0 : decode method_2_code 0 = .ok (.iload_n 0, 1) := by decide +kernel
theorem e10_1 : decode method_2_code 1 = .ok (.bipush 16, 2) := by decide +kernel
theorem e10_3 : decode method_2_code 3 = .ok (.iushr, 1) := by decide +kernel
theorem e10_4 : decode method_2_code 4 = .ok (.iconst 3, 1) := by decide +kernel
theorem e10_5 : decode method_2_code 5 = .ok (.iand, 1) := by decide +kernel
theorem e10_6 : decode method_2_code 6 = .ok (.istore_n 1, 1) := by decide +kernel
theorem e10_7 : decode method_2_code 7 = .ok (.iload_n 0, 1) := by decide +kernel
theorem e10_8 : decode method_2_code 8 = .ok (.sipush 1023, 3) := by decide +kernel
theorem e10_11 : decode method_2_code 11 = .ok (.iand, 1) := by decide +kernel
theorem e10_12 : decode method_2_code 12 = .ok (.istore_n 2, 1) := by decide +kernel
theorem e10_13 : decode method_2_code 13 = .ok (.iload_n 1, 1) := by decide +kernel
theorem e10_14 : decode method_2_code 14 = .ok (.ifCond .ne 10, 3) := by decide +kernel
theorem e10_17 : decode method_2_code 17 = .ok (.iload_n 0, 1) := by decide +kernel
theorem e10_18 : decode method_2_code 18 = .ok (.sipush 255, 3) := by decide +kernel
theorem e10_21 : decode method_2_code 21 = .ok (.iand, 1) := by decide +kernel
theorem e10_22 : decode method_2_code 22 = .ok (.i2c, 1) := by decide +kernel
theorem e10_23 : decode method_2_code 23 = .ok (.ireturn, 1) := by decide +kernel
theorem e10_24 : decode method_2_code 24 = .ok (.iload_n 1, 1) := by decide +kernel
theorem e10_25 : decode method_2_code 25 = .ok (.iconst 1, 1) := by decide +kernel
theorem e10_26 : decode method_2_code 26 = .ok (.if_icmp .ne 9, 3) := by decide +kernel
theorem e10_29 : decode method_2_code 29 = .ok (.ldc 7, 2) := by decide +kernel
theorem e10_31 : decode method_2_code 31 = .ok (.iload_n 2, 1) := by decide +kernel
theorem e10_32 : decode method_2_code 32 = .ok (.iadd, 1) := by decide +kernel
theorem e10_33 : decode method_2_code 33 = .ok (.i2c, 1) := by decide +kernel
theorem e10_34 : decode method_2_code 34 = .ok (.ireturn, 1) := by decide +kernel
theorem e10_35 : decode method_2_code 35 = .ok (.iload_n 1, 1) := by decide +kernel
theorem e10_36 : decode method_2_code 36 = .ok (.iconst 2, 1) := by decide +kernel
theorem e10_37 : decode method_2_code 37 = .ok (.if_icmp .ne 9, 3) := by decide +kernel
theorem e10_40 : decode method_2_code 40 = .ok (.ldc 8, 2) := by decide +kernel
theorem e10_42 : decode method_2_code 42 = .ok (.iload_n 2, 1) := by decide +kernel
theorem e10_43 : decode method_2_code 43 = .ok (.iadd, 1) := by decide +kernel
theorem e10_44 : decode method_2_code 44 = .ok (.i2c, 1) := by decide +kernel
theorem e10_45 : decode method_2_code 45 = .ok (.ireturn, 1) := by decide +kernel
theorem e10_46 : decode method_2_code 46 = .ok (.iload_n 0, 1) := by decide +kernel
theorem e10_47 : decode method_2_code 47 = .ok (.ldc 9, 2) := by decide +kernel
theorem e10_49 : decode method_2_code 49 = .ok (.iand, 1) := by decide +kernel
theorem e10_50 : decode method_2_code 50 = .ok (.i2c, 1) := by decide +kernel
theorem e10_51 : decode method_2_code 51 = .ok (.ireturn, 1) := by decide +kernel
theorem pn2 : plainName "com/example/deepquery/deepquery/ApiExceptionRefuseLongerPinLaw" = true := by first | (simp [plainName, overriddenIn]; done) | decide +kernel
set_option maxRecDepth 65536 in
set_option maxHeartbeats 40000000 in
theorem con_ch (l : Launch) (Z : State) (a0 : Array Value) (hw : ∀ d ∈ tables_1, d.before a0 Z = true) (i_ : Int32) (h0 : Heap) (O0 : Ext Z.heap h0) :
    Con l Z consts_1 false (⟨"com/example/deepquery/deepquery/ApiExceptionRefuseLongerPinLaw", "ch", "(I)C"⟩ : MethodName) method_2_code 3 (some .char) [] ({ frames := 0, cells := 0, slots := 0, locals := 0 } : Room) #[(.int i_)] [] h0 (fun v h => (∃ c, v = some (.int c) ∧ Lt16 c) ∧ h = h0) := by
  refine Con.intro (Ls := #[.val (.int i_), .unset, .unset]) (plainFor_of_name pn2) (own_EL hw) O0 (fun m => by first | rfl | (simp [entryFrame, mkF, argsToLocals, Value.category]; done)) (fun p e s m below meth cc_ T w sf_ => ?_)
  have E0 := ext_refl h0
  refine g_iloadN w e10_0 (q := 1) rfl rfl ?_
  refine g_bipush w e10_1 (q := 3) rfl (v := (16 : Int32)) (by decide) ?_
  refine g_iushr w e10_3 (q := 4) rfl ?_
  refine g_iconst w e10_4 (q := 5) rfl (v := (3 : Int32)) (by decide) ?_
  refine g_iand w e10_5 (q := 6) rfl ?_
  refine g_istoreN w e10_6 (q := 7) rfl (Ls' := #[.val (.int i_), .val (.int ((Jvm.Free.XT.ushr i_ (16 : Int32)) &&& (3 : Int32))), .unset]) rfl ?_
  refine g_iloadN w e10_7 (q := 8) rfl rfl ?_
  refine g_sipush w e10_8 (q := 11) rfl (v := (1023 : Int32)) (by decide) ?_
  refine g_iand w e10_11 (q := 12) rfl ?_
  refine g_istoreN w e10_12 (q := 13) rfl (Ls' := #[.val (.int i_), .val (.int ((Jvm.Free.XT.ushr i_ (16 : Int32)) &&& (3 : Int32))), .val (.int (i_ &&& (1023 : Int32)))]) rfl ?_
  refine g_iloadN w e10_13 (q := 14) rfl rfl ?_
  refine g_if_ne w e10_14 (by decide) (q := 24) (by decide) (q' := 17) rfl (fun cd1 => ?_) (fun cd1 => ?_)
  · refine g_iloadN w e10_24 (q := 25) rfl rfl ?_
    refine g_iconst w e10_25 (q := 26) rfl (v := (1 : Int32)) (by decide) ?_
    refine g_ic_ne w e10_26 (by decide) (q := 35) (by decide) (q' := 29) rfl (fun cd2 => ?_) (fun cd2 => ?_)
    · refine g_iloadN w e10_35 (q := 36) rfl rfl ?_
      refine g_iconst w e10_36 (q := 37) rfl (v := (2 : Int32)) (by decide) ?_
      refine g_ic_ne w e10_37 (by decide) (q := 46) (by decide) (q' := 40) rfl (fun cd3 => ?_) (fun cd3 => ?_)
      · refine g_iloadN w e10_46 (q := 47) rfl rfl ?_
        refine g_ldcI w e10_47 (q := 49) rfl (v := (65535 : Int32)) (hw _ (List.mem_of_getElem? (i := 84) rfl)) ?_
        refine g_iand w e10_49 (q := 50) rfl ?_
        refine g_i2c w e10_50 (q := 51) rfl ?_
        exact g_retn w e10_51 rfl (by simp) (nar_chr (i2c16 _)) (by decide) (by decide) ⟨⟨_, rfl, i2c16 _⟩, rfl⟩
      · refine g_ldcI w e10_40 (q := 42) rfl (v := (56320 : Int32)) (hw _ (List.mem_of_getElem? (i := 85) rfl)) ?_
        refine g_iloadN w e10_42 (q := 43) rfl rfl ?_
        refine g_iadd w e10_43 (q := 44) rfl ?_
        refine g_i2c w e10_44 (q := 45) rfl ?_
        exact g_retn w e10_45 rfl (by simp) (nar_chr (i2c16 _)) (by decide) (by decide) ⟨⟨_, rfl, i2c16 _⟩, rfl⟩
    · refine g_ldcI w e10_29 (q := 31) rfl (v := (55296 : Int32)) (hw _ (List.mem_of_getElem? (i := 83) rfl)) ?_
      refine g_iloadN w e10_31 (q := 32) rfl rfl ?_
      refine g_iadd w e10_32 (q := 33) rfl ?_
      refine g_i2c w e10_33 (q := 34) rfl ?_
      exact g_retn w e10_34 rfl (by simp) (nar_chr (i2c16 _)) (by decide) (by decide) ⟨⟨_, rfl, i2c16 _⟩, rfl⟩
  · refine g_iloadN w e10_17 (q := 18) rfl rfl ?_
    refine g_sipush w e10_18 (q := 21) rfl (v := (255 : Int32)) (by decide) ?_
    refine g_iand w e10_21 (q := 22) rfl ?_
    refine g_i2cM w e10_22 (q := 23) rfl ?_
    exact g_retn w e10_23 rfl (by simp) (nar_chr (mask255 _).chr) (by decide) (by decide) ⟨⟨_, rfl, (mask255 _).chr⟩, rfl⟩
theorem e11_0 : decode method_4_code 0 = .ok (.iload 4, 2) := by decide +kernel
theorem e11_2 : decode method_4_code 2 = .ok (.ifCond .ne 7, 3) := by decide +kernel
theorem e11_5 : decode method_4_code 5 = .ok (.iconst 0, 1) := by decide +kernel
theorem e11_6 : decode method_4_code 6 = .ok (.newarray .char, 2) := by decide +kernel
theorem e11_8 : decode method_4_code 8 = .ok (.areturn, 1) := by decide +kernel
theorem e11_9 : decode method_4_code 9 = .ok (.iload 4, 2) := by decide +kernel
theorem e11_11 : decode method_4_code 11 = .ok (.iconst 1, 1) := by decide +kernel
theorem e11_12 : decode method_4_code 12 = .ok (.if_icmp .ne 11, 3) := by decide +kernel
theorem e11_15 : decode method_4_code 15 = .ok (.iconst 1, 1) := by decide +kernel
theorem e11_16 : decode method_4_code 16 = .ok (.newarray .char, 2) := by decide +kernel
theorem e11_18 : decode method_4_code 18 = .ok (.dup, 1) := by decide +kernel
theorem e11_19 : decode method_4_code 19 = .ok (.iconst 0, 1) := by decide +kernel
theorem e11_20 : decode method_4_code 20 = .ok (.iload_n 0, 1) := by decide +kernel
theorem e11_21 : decode method_4_code 21 = .ok (.castore, 1) := by decide +kernel
theorem e11_22 : decode method_4_code 22 = .ok (.areturn, 1) := by decide +kernel
theorem e11_23 : decode method_4_code 23 = .ok (.iload 4, 2) := by decide +kernel
theorem e11_25 : decode method_4_code 25 = .ok (.iconst 2, 1) := by decide +kernel
theorem e11_26 : decode method_4_code 26 = .ok (.if_icmp .ne 15, 3) := by decide +kernel
theorem e11_29 : decode method_4_code 29 = .ok (.iconst 2, 1) := by decide +kernel
theorem e11_30 : decode method_4_code 30 = .ok (.newarray .char, 2) := by decide +kernel
theorem e11_32 : decode method_4_code 32 = .ok (.dup, 1) := by decide +kernel
theorem e11_33 : decode method_4_code 33 = .ok (.iconst 0, 1) := by decide +kernel
theorem e11_34 : decode method_4_code 34 = .ok (.iload_n 0, 1) := by decide +kernel
theorem e11_35 : decode method_4_code 35 = .ok (.castore, 1) := by decide +kernel
theorem e11_36 : decode method_4_code 36 = .ok (.dup, 1) := by decide +kernel
theorem e11_37 : decode method_4_code 37 = .ok (.iconst 1, 1) := by decide +kernel
theorem e11_38 : decode method_4_code 38 = .ok (.iload_n 1, 1) := by decide +kernel
theorem e11_39 : decode method_4_code 39 = .ok (.castore, 1) := by decide +kernel
theorem e11_40 : decode method_4_code 40 = .ok (.areturn, 1) := by decide +kernel
theorem e11_41 : decode method_4_code 41 = .ok (.iload 4, 2) := by decide +kernel
theorem e11_43 : decode method_4_code 43 = .ok (.iconst 3, 1) := by decide +kernel
theorem e11_44 : decode method_4_code 44 = .ok (.if_icmp .ne 19, 3) := by decide +kernel
theorem e11_47 : decode method_4_code 47 = .ok (.iconst 3, 1) := by decide +kernel
theorem e11_48 : decode method_4_code 48 = .ok (.newarray .char, 2) := by decide +kernel
theorem e11_50 : decode method_4_code 50 = .ok (.dup, 1) := by decide +kernel
theorem e11_51 : decode method_4_code 51 = .ok (.iconst 0, 1) := by decide +kernel
theorem e11_52 : decode method_4_code 52 = .ok (.iload_n 0, 1) := by decide +kernel
theorem e11_53 : decode method_4_code 53 = .ok (.castore, 1) := by decide +kernel
theorem e11_54 : decode method_4_code 54 = .ok (.dup, 1) := by decide +kernel
theorem e11_55 : decode method_4_code 55 = .ok (.iconst 1, 1) := by decide +kernel
theorem e11_56 : decode method_4_code 56 = .ok (.iload_n 1, 1) := by decide +kernel
theorem e11_57 : decode method_4_code 57 = .ok (.castore, 1) := by decide +kernel
theorem e11_58 : decode method_4_code 58 = .ok (.dup, 1) := by decide +kernel
theorem e11_59 : decode method_4_code 59 = .ok (.iconst 2, 1) := by decide +kernel
theorem e11_60 : decode method_4_code 60 = .ok (.iload_n 2, 1) := by decide +kernel
theorem e11_61 : decode method_4_code 61 = .ok (.castore, 1) := by decide +kernel
theorem e11_62 : decode method_4_code 62 = .ok (.areturn, 1) := by decide +kernel
theorem e11_63 : decode method_4_code 63 = .ok (.iconst 4, 1) := by decide +kernel
theorem e11_64 : decode method_4_code 64 = .ok (.newarray .char, 2) := by decide +kernel
theorem e11_66 : decode method_4_code 66 = .ok (.dup, 1) := by decide +kernel
theorem e11_67 : decode method_4_code 67 = .ok (.iconst 0, 1) := by decide +kernel
theorem e11_68 : decode method_4_code 68 = .ok (.iload_n 0, 1) := by decide +kernel
theorem e11_69 : decode method_4_code 69 = .ok (.castore, 1) := by decide +kernel
theorem e11_70 : decode method_4_code 70 = .ok (.dup, 1) := by decide +kernel
theorem e11_71 : decode method_4_code 71 = .ok (.iconst 1, 1) := by decide +kernel
theorem e11_72 : decode method_4_code 72 = .ok (.iload_n 1, 1) := by decide +kernel
theorem e11_73 : decode method_4_code 73 = .ok (.castore, 1) := by decide +kernel
theorem e11_74 : decode method_4_code 74 = .ok (.dup, 1) := by decide +kernel
theorem e11_75 : decode method_4_code 75 = .ok (.iconst 2, 1) := by decide +kernel
theorem e11_76 : decode method_4_code 76 = .ok (.iload_n 2, 1) := by decide +kernel
theorem e11_77 : decode method_4_code 77 = .ok (.castore, 1) := by decide +kernel
theorem e11_78 : decode method_4_code 78 = .ok (.dup, 1) := by decide +kernel
theorem e11_79 : decode method_4_code 79 = .ok (.iconst 3, 1) := by decide +kernel
theorem e11_80 : decode method_4_code 80 = .ok (.iload_n 3, 1) := by decide +kernel
theorem e11_81 : decode method_4_code 81 = .ok (.castore, 1) := by decide +kernel
theorem e11_82 : decode method_4_code 82 = .ok (.areturn, 1) := by decide +kernel
set_option maxRecDepth 65536 in
set_option maxHeartbeats 40000000 in
theorem con_pre (l : Launch) (Z : State) (a0 : Array Value) (hw : ∀ d ∈ tables_1, d.before a0 Z = true) (c0 c1 c2 c3 n_ : Int32) (h0 : Heap) (O0 : Ext Z.heap h0) (l0 : Lt16 c0) (l1 : Lt16 c1) (l2 : Lt16 c2) (l3 : Lt16 c3) :
    Con l Z consts_1 false (⟨"com/example/deepquery/deepquery/ApiExceptionRefuseLongerPinLaw", "prefix", "(CCCCI)[C"⟩ : MethodName) method_4_code 5 (some (.array .char)) [] ({ frames := 0, cells := 1, slots := 4, locals := 0 } : Room) #[(.int c0), (.int c1), (.int c2), (.int c3), (.int n_)] [] h0 (fun v h => ∃ t, v = some (.ref t) ∧ Ext h0 h ∧ h0.size ≤ t ∧ Ar Z h t .char ((pf n_ c0 c1 c2 c3).map Value.int)) := by
  refine Con.intro (Ls := #[.val (.int c0), .val (.int c1), .val (.int c2), .val (.int c3), .val (.int n_)]) (plainFor_of_name pn2) (own_EL hw) O0 (fun m => by first | rfl | (simp [entryFrame, mkF, argsToLocals, Value.category]; done)) (fun p e s m below meth cc_ T w sf_ => ?_)
  have E0 := ext_refl h0
  refine g_iload w e11_0 (q := 2) rfl rfl ?_
  refine g_if_ne w e11_2 (by decide) (q := 9) (by decide) (q' := 5) rfl (fun cd1 => ?_) (fun cd1 => ?_)
  · refine g_iload w e11_9 (q := 11) rfl rfl ?_
    refine g_iconst w e11_11 (q := 12) rfl (v := (1 : Int32)) (by decide) ?_
    refine g_ic_ne w e11_12 (by decide) (q := 23) (by decide) (q' := 15) rfl (fun cd2 => ?_) (fun cd2 => ?_)
    · refine g_iload w e11_23 (q := 25) rfl rfl ?_
      refine g_iconst w e11_25 (q := 26) rfl (v := (2 : Int32)) (by decide) ?_
      refine g_ic_ne w e11_26 (by decide) (q := 41) (by decide) (q' := 29) rfl (fun cd3 => ?_) (fun cd3 => ?_)
      · refine g_iload w e11_41 (q := 43) rfl rfl ?_
        refine g_iconst w e11_43 (q := 44) rfl (v := (3 : Int32)) (by decide) ?_
        refine g_ic_ne w e11_44 (by decide) (q := 63) (by decide) (q' := 47) rfl (fun cd4 => ?_) (fun cd4 => ?_)
        · refine g_iconst w e11_63 (q := 64) rfl (v := (4 : Int32)) (by decide) ?_
          refine g_newarr w e11_64 (q := 66) rfl (hw _ (List.mem_of_getElem? (i := 8) rfl)) (len := 4) (cap := 4) (by decide) (by decide) (by decide) (by decide) (by decide) (fun T h a5 w E g_a5 n_a5 A_a5 s_a5 => ?_)
          have z_a5 := Nat.le_trans E0.1 g_a5
          replace E0 := ext_trans E0 E
          replace A_a5 : Ar Z h a5 .char [(.int (0 : Int32)), (.int (0 : Int32)), (.int (0 : Int32)), (.int (0 : Int32))] := A_a5
          refine g_dup w e11_66 (q := 67) rfl rfl ?_
          refine g_iconst w e11_67 (q := 68) rfl (v := (0 : Int32)) (by decide) ?_
          refine g_iloadN w e11_68 (q := 69) rfl rfl ?_
          refine g_castore w e11_69 (q := 70) rfl A_a5 (i := 0) (by decide) (Nat.le_of_ble_eq_true rfl) (x' := c0) (nar_chr l0) n_a5 (w.safeAr A_a5 (by decide)) (fun T h w W V => ?_)
          replace E0 := ext_wr E0 W z_a5
          replace A_a5 : Ar Z h a5 .char [(.int c0), (.int (0 : Int32)), (.int (0 : Int32)), (.int (0 : Int32))] := V
          refine g_dup w e11_70 (q := 71) rfl rfl ?_
          refine g_iconst w e11_71 (q := 72) rfl (v := (1 : Int32)) (by decide) ?_
          refine g_iloadN w e11_72 (q := 73) rfl rfl ?_
          refine g_castore w e11_73 (q := 74) rfl A_a5 (i := 1) (by decide) (Nat.le_of_ble_eq_true rfl) (x' := c1) (nar_chr l1) n_a5 (w.safeAr A_a5 (by decide)) (fun T h w W V => ?_)
          replace E0 := ext_wr E0 W z_a5
          replace A_a5 : Ar Z h a5 .char [(.int c0), (.int c1), (.int (0 : Int32)), (.int (0 : Int32))] := V
          refine g_dup w e11_74 (q := 75) rfl rfl ?_
          refine g_iconst w e11_75 (q := 76) rfl (v := (2 : Int32)) (by decide) ?_
          refine g_iloadN w e11_76 (q := 77) rfl rfl ?_
          refine g_castore w e11_77 (q := 78) rfl A_a5 (i := 2) (by decide) (Nat.le_of_ble_eq_true rfl) (x' := c2) (nar_chr l2) n_a5 (w.safeAr A_a5 (by decide)) (fun T h w W V => ?_)
          replace E0 := ext_wr E0 W z_a5
          replace A_a5 : Ar Z h a5 .char [(.int c0), (.int c1), (.int c2), (.int (0 : Int32))] := V
          refine g_dup w e11_78 (q := 79) rfl rfl ?_
          refine g_iconst w e11_79 (q := 80) rfl (v := (3 : Int32)) (by decide) ?_
          refine g_iloadN w e11_80 (q := 81) rfl rfl ?_
          refine g_castore w e11_81 (q := 82) rfl A_a5 (i := 3) (by decide) (Nat.le_of_ble_eq_true rfl) (x' := c3) (nar_chr l3) n_a5 (w.safeAr A_a5 (by decide)) (fun T h w W V => ?_)
          replace E0 := ext_wr E0 W z_a5
          replace A_a5 : Ar Z h a5 .char [(.int c0), (.int c1), (.int c2), (.int c3)] := V
          exact g_reta w e11_82 rfl rfl rfl (by decide) (by decide) ⟨_, rfl, E0, z_a5, by rw [show pf n_ c0 c1 c2 c3 = [c0, c1, c2, c3] from by simp [pf, cd1, cd2, cd3, cd4]]; exact A_a5⟩
        · refine g_iconst w e11_47 (q := 48) rfl (v := (3 : Int32)) (by decide) ?_
          refine g_newarr w e11_48 (q := 50) rfl (hw _ (List.mem_of_getElem? (i := 8) rfl)) (len := 3) (cap := 3) (by decide) (by decide) (by decide) (by decide) (by decide) (fun T h a6 w E g_a6 n_a6 A_a6 s_a6 => ?_)
          have z_a6 := Nat.le_trans E0.1 g_a6
          replace E0 := ext_trans E0 E
          replace A_a6 : Ar Z h a6 .char [(.int (0 : Int32)), (.int (0 : Int32)), (.int (0 : Int32))] := A_a6
          refine g_dup w e11_50 (q := 51) rfl rfl ?_
          refine g_iconst w e11_51 (q := 52) rfl (v := (0 : Int32)) (by decide) ?_
          refine g_iloadN w e11_52 (q := 53) rfl rfl ?_
          refine g_castore w e11_53 (q := 54) rfl A_a6 (i := 0) (by decide) (Nat.le_of_ble_eq_true rfl) (x' := c0) (nar_chr l0) n_a6 (w.safeAr A_a6 (by decide)) (fun T h w W V => ?_)
          replace E0 := ext_wr E0 W z_a6
          replace A_a6 : Ar Z h a6 .char [(.int c0), (.int (0 : Int32)), (.int (0 : Int32))] := V
          refine g_dup w e11_54 (q := 55) rfl rfl ?_
          refine g_iconst w e11_55 (q := 56) rfl (v := (1 : Int32)) (by decide) ?_
          refine g_iloadN w e11_56 (q := 57) rfl rfl ?_
          refine g_castore w e11_57 (q := 58) rfl A_a6 (i := 1) (by decide) (Nat.le_of_ble_eq_true rfl) (x' := c1) (nar_chr l1) n_a6 (w.safeAr A_a6 (by decide)) (fun T h w W V => ?_)
          replace E0 := ext_wr E0 W z_a6
          replace A_a6 : Ar Z h a6 .char [(.int c0), (.int c1), (.int (0 : Int32))] := V
          refine g_dup w e11_58 (q := 59) rfl rfl ?_
          refine g_iconst w e11_59 (q := 60) rfl (v := (2 : Int32)) (by decide) ?_
          refine g_iloadN w e11_60 (q := 61) rfl rfl ?_
          refine g_castore w e11_61 (q := 62) rfl A_a6 (i := 2) (by decide) (Nat.le_of_ble_eq_true rfl) (x' := c2) (nar_chr l2) n_a6 (w.safeAr A_a6 (by decide)) (fun T h w W V => ?_)
          replace E0 := ext_wr E0 W z_a6
          replace A_a6 : Ar Z h a6 .char [(.int c0), (.int c1), (.int c2)] := V
          exact g_reta w e11_62 rfl rfl rfl (by decide) (by decide) ⟨_, rfl, E0, z_a6, by rw [show pf n_ c0 c1 c2 c3 = [c0, c1, c2] from by simp [pf, cd1, cd2, cd3, cd4]]; exact A_a6⟩
      · refine g_iconst w e11_29 (q := 30) rfl (v := (2 : Int32)) (by decide) ?_
        refine g_newarr w e11_30 (q := 32) rfl (hw _ (List.mem_of_getElem? (i := 8) rfl)) (len := 2) (cap := 2) (by decide) (by decide) (by decide) (by decide) (by decide) (fun T h a7 w E g_a7 n_a7 A_a7 s_a7 => ?_)
        have z_a7 := Nat.le_trans E0.1 g_a7
        replace E0 := ext_trans E0 E
        replace A_a7 : Ar Z h a7 .char [(.int (0 : Int32)), (.int (0 : Int32))] := A_a7
        refine g_dup w e11_32 (q := 33) rfl rfl ?_
        refine g_iconst w e11_33 (q := 34) rfl (v := (0 : Int32)) (by decide) ?_
        refine g_iloadN w e11_34 (q := 35) rfl rfl ?_
        refine g_castore w e11_35 (q := 36) rfl A_a7 (i := 0) (by decide) (Nat.le_of_ble_eq_true rfl) (x' := c0) (nar_chr l0) n_a7 (w.safeAr A_a7 (by decide)) (fun T h w W V => ?_)
        replace E0 := ext_wr E0 W z_a7
        replace A_a7 : Ar Z h a7 .char [(.int c0), (.int (0 : Int32))] := V
        refine g_dup w e11_36 (q := 37) rfl rfl ?_
        refine g_iconst w e11_37 (q := 38) rfl (v := (1 : Int32)) (by decide) ?_
        refine g_iloadN w e11_38 (q := 39) rfl rfl ?_
        refine g_castore w e11_39 (q := 40) rfl A_a7 (i := 1) (by decide) (Nat.le_of_ble_eq_true rfl) (x' := c1) (nar_chr l1) n_a7 (w.safeAr A_a7 (by decide)) (fun T h w W V => ?_)
        replace E0 := ext_wr E0 W z_a7
        replace A_a7 : Ar Z h a7 .char [(.int c0), (.int c1)] := V
        exact g_reta w e11_40 rfl rfl rfl (by decide) (by decide) ⟨_, rfl, E0, z_a7, by rw [show pf n_ c0 c1 c2 c3 = [c0, c1] from by simp [pf, cd1, cd2, cd3]]; exact A_a7⟩
    · refine g_iconst w e11_15 (q := 16) rfl (v := (1 : Int32)) (by decide) ?_
      refine g_newarr w e11_16 (q := 18) rfl (hw _ (List.mem_of_getElem? (i := 8) rfl)) (len := 1) (cap := 1) (by decide) (by decide) (by decide) (by decide) (by decide) (fun T h a8 w E g_a8 n_a8 A_a8 s_a8 => ?_)
      have z_a8 := Nat.le_trans E0.1 g_a8
      replace E0 := ext_trans E0 E
      replace A_a8 : Ar Z h a8 .char [(.int (0 : Int32))] := A_a8
      refine g_dup w e11_18 (q := 19) rfl rfl ?_
      refine g_iconst w e11_19 (q := 20) rfl (v := (0 : Int32)) (by decide) ?_
      refine g_iloadN w e11_20 (q := 21) rfl rfl ?_
      refine g_castore w e11_21 (q := 22) rfl A_a8 (i := 0) (by decide) (Nat.le_of_ble_eq_true rfl) (x' := c0) (nar_chr l0) n_a8 (w.safeAr A_a8 (by decide)) (fun T h w W V => ?_)
      replace E0 := ext_wr E0 W z_a8
      replace A_a8 : Ar Z h a8 .char [(.int c0)] := V
      exact g_reta w e11_22 rfl rfl rfl (by decide) (by decide) ⟨_, rfl, E0, z_a8, by rw [show pf n_ c0 c1 c2 c3 = [c0] from by simp [pf, cd1, cd2]]; exact A_a8⟩
  · refine g_iconst w e11_5 (q := 6) rfl (v := (0 : Int32)) (by decide) ?_
    refine g_newarr w e11_6 (q := 8) rfl (hw _ (List.mem_of_getElem? (i := 8) rfl)) (len := 0) (cap := 0) (by decide) (by decide) (by decide) (by decide) (by decide) (fun T h a9 w E g_a9 n_a9 A_a9 s_a9 => ?_)
    have z_a9 := Nat.le_trans E0.1 g_a9
    replace E0 := ext_trans E0 E
    replace A_a9 : Ar Z h a9 .char [] := A_a9
    exact g_reta w e11_8 rfl rfl rfl (by decide) (by decide) ⟨_, rfl, E0, z_a9, by rw [show pf n_ c0 c1 c2 c3 = [] from by simp [pf, cd1]]; exact A_a9⟩
theorem e12_0 : decode method_3_code 0 = .ok (.iload_n 0, 1) := by decide +kernel
theorem e12_1 : decode method_3_code 1 = .ok (.ldc 7, 2) := by decide +kernel
theorem e12_3 : decode method_3_code 3 = .ok (.if_icmp .lt 25, 3) := by decide +kernel
theorem e12_6 : decode method_3_code 6 = .ok (.iload_n 0, 1) := by decide +kernel
theorem e12_7 : decode method_3_code 7 = .ok (.ldc 10, 2) := by decide +kernel
theorem e12_9 : decode method_3_code 9 = .ok (.if_icmp .gt 19, 3) := by decide +kernel
theorem e12_12 : decode method_3_code 12 = .ok (.iload_n 1, 1) := by decide +kernel
theorem e12_13 : decode method_3_code 13 = .ok (.ldc 8, 2) := by decide +kernel
theorem e12_15 : decode method_3_code 15 = .ok (.if_icmp .lt 13, 3) := by decide +kernel
theorem e12_18 : decode method_3_code 18 = .ok (.iload_n 1, 1) := by decide +kernel
theorem e12_19 : decode method_3_code 19 = .ok (.ldc 11, 2) := by decide +kernel
theorem e12_21 : decode method_3_code 21 = .ok (.if_icmp .gt 7, 3) := by decide +kernel
theorem e12_24 : decode method_3_code 24 = .ok (.iconst 1, 1) := by decide +kernel
theorem e12_25 : decode method_3_code 25 = .ok (.goto 4, 3) := by decide +kernel
theorem e12_28 : decode method_3_code 28 = .ok (.iconst 0, 1) := by decide +kernel
theorem e12_29 : decode method_3_code 29 = .ok (.ireturn, 1) := by decide +kernel
set_option maxRecDepth 65536 in
set_option maxHeartbeats 40000000 in
theorem con_pair (l : Launch) (Z : State) (a0 : Array Value) (hw : ∀ d ∈ tables_1, d.before a0 Z = true) (c d : Int32) (h0 : Heap) (O0 : Ext Z.heap h0) :
    Con l Z consts_1 false (⟨"com/example/deepquery/deepquery/ApiExceptionRefuseLongerPinLaw", "pair", "(CC)Z"⟩ : MethodName) method_3_code 2 (some .boolean) [] ({ frames := 0, cells := 0, slots := 0, locals := 0 } : Room) #[(.int c), (.int d)] [] h0 (fun v h => ((v = some (.int 1) ∧ PR c d) ∨ (v = some (.int 0) ∧ ¬ PR c d)) ∧ h = h0) := by
  refine Con.intro (Ls := #[.val (.int c), .val (.int d)]) (plainFor_of_name pn2) (own_EL hw) O0 (fun m => by first | rfl | (simp [entryFrame, mkF, argsToLocals, Value.category]; done)) (fun p e s m below meth cc_ T w sf_ => ?_)
  have E0 := ext_refl h0
  refine g_iloadN w e12_0 (q := 1) rfl rfl ?_
  refine g_ldcI w e12_1 (q := 3) rfl (v := (55296 : Int32)) (hw _ (List.mem_of_getElem? (i := 83) rfl)) ?_
  refine g_ic_lt w e12_3 (by decide) (q := 28) (by decide) (q' := 6) rfl (fun cd1 => ?_) (fun cd1 => ?_)
  · refine g_iconst w e12_28 (q := 29) rfl (v := (0 : Int32)) (by decide) ?_
    exact g_retn w e12_29 rfl (by simp) rfl (by decide) (by decide) ⟨Or.inr ⟨rfl, by simp [PR, cd1]⟩, rfl⟩
  · refine g_iloadN w e12_6 (q := 7) rfl rfl ?_
    refine g_ldcI w e12_7 (q := 9) rfl (v := (56319 : Int32)) (hw _ (List.mem_of_getElem? (i := 105) rfl)) ?_
    refine g_ic_gt w e12_9 (by decide) (q := 28) (by decide) (q' := 12) rfl (fun cd2 => ?_) (fun cd2 => ?_)
    · refine g_iconst w e12_28 (q := 29) rfl (v := (0 : Int32)) (by decide) ?_
      exact g_retn w e12_29 rfl (by simp) rfl (by decide) (by decide) ⟨Or.inr ⟨rfl, by simp [PR, cd1, cd2]⟩, rfl⟩
    · refine g_iloadN w e12_12 (q := 13) rfl rfl ?_
      refine g_ldcI w e12_13 (q := 15) rfl (v := (56320 : Int32)) (hw _ (List.mem_of_getElem? (i := 85) rfl)) ?_
      refine g_ic_lt w e12_15 (by decide) (q := 28) (by decide) (q' := 18) rfl (fun cd3 => ?_) (fun cd3 => ?_)
      · refine g_iconst w e12_28 (q := 29) rfl (v := (0 : Int32)) (by decide) ?_
        exact g_retn w e12_29 rfl (by simp) rfl (by decide) (by decide) ⟨Or.inr ⟨rfl, by simp [PR, cd1, cd2, cd3]⟩, rfl⟩
      · refine g_iloadN w e12_18 (q := 19) rfl rfl ?_
        refine g_ldcI w e12_19 (q := 21) rfl (v := (57343 : Int32)) (hw _ (List.mem_of_getElem? (i := 121) rfl)) ?_
        refine g_ic_gt w e12_21 (by decide) (q := 28) (by decide) (q' := 24) rfl (fun cd4 => ?_) (fun cd4 => ?_)
        · refine g_iconst w e12_28 (q := 29) rfl (v := (0 : Int32)) (by decide) ?_
          exact g_retn w e12_29 rfl (by simp) rfl (by decide) (by decide) ⟨Or.inr ⟨rfl, by simp [PR, cd1, cd2, cd3, cd4]⟩, rfl⟩
        · refine g_iconst w e12_24 (q := 25) rfl (v := (1 : Int32)) (by decide) ?_
          refine g_goto w e12_25 (by decide) (q := 29) (by decide) ?_
          exact g_retn w e12_29 rfl (by simp) rfl (by decide) (by decide) ⟨Or.inl ⟨rfl, by simp [PR, cd1, cd2, cd3, cd4]⟩, rfl⟩
theorem e13_0 : decode jdk_89_method_14_code 0 = .ok (.iload_n 0, 1) := by decide +kernel
theorem e13_1 : decode jdk_89_method_14_code 1 = .ok (.ldc 75, 2) := by decide +kernel
theorem e13_3 : decode jdk_89_method_14_code 3 = .ok (.if_icmp .lt 13, 3) := by decide +kernel
theorem e13_6 : decode jdk_89_method_14_code 6 = .ok (.iload_n 0, 1) := by decide +kernel
theorem e13_7 : decode jdk_89_method_14_code 7 = .ok (.ldc 76, 2) := by decide +kernel
theorem e13_9 : decode jdk_89_method_14_code 9 = .ok (.if_icmp .ge 7, 3) := by decide +kernel
theorem e13_12 : decode jdk_89_method_14_code 12 = .ok (.iconst 1, 1) := by decide +kernel
theorem e13_13 : decode jdk_89_method_14_code 13 = .ok (.goto 4, 3) := by decide +kernel
theorem e13_16 : decode jdk_89_method_14_code 16 = .ok (.iconst 0, 1) := by decide +kernel
theorem e13_17 : decode jdk_89_method_14_code 17 = .ok (.ireturn, 1) := by decide +kernel
theorem pn3 : plainName "java/lang/Character" = true := by first | (simp [plainName, overriddenIn]; done) | decide +kernel
set_option maxRecDepth 65536 in
set_option maxHeartbeats 40000000 in
theorem con_hs (l : Launch) (Z : State) (a0 : Array Value) (hw : ∀ d ∈ tables_1, d.before a0 Z = true) (c : Int32) (h0 : Heap) (O0 : Ext Z.heap h0) :
    Con l Z consts_1 false (⟨"java/lang/Character", "isHighSurrogate", "(C)Z"⟩ : MethodName) jdk_89_method_14_code 1 (some .boolean) [] ({ frames := 0, cells := 0, slots := 0, locals := 0 } : Room) #[(.int c)] [] h0 (fun v h => ((v = some (.int 1) ∧ HS c) ∨ (v = some (.int 0) ∧ ¬ HS c)) ∧ h = h0) := by
  refine Con.intro (Ls := #[.val (.int c)]) (plainFor_of_name pn3) (own_EL hw) O0 (fun m => by first | rfl | (simp [entryFrame, mkF, argsToLocals, Value.category]; done)) (fun p e s m below meth cc_ T w sf_ => ?_)
  have E0 := ext_refl h0
  refine g_iloadN w e13_0 (q := 1) rfl rfl ?_
  refine g_ldcI w e13_1 (q := 3) rfl (v := (55296 : Int32)) (hw _ (List.mem_of_getElem? (i := 116) rfl)) ?_
  refine g_ic_lt w e13_3 (by decide) (q := 16) (by decide) (q' := 6) rfl (fun cd1 => ?_) (fun cd1 => ?_)
  · refine g_iconst w e13_16 (q := 17) rfl (v := (0 : Int32)) (by decide) ?_
    exact g_retn w e13_17 rfl (by simp) rfl (by decide) (by decide) ⟨Or.inr ⟨rfl, by simp [HS, cd1]⟩, rfl⟩
  · refine g_iloadN w e13_6 (q := 7) rfl rfl ?_
    refine g_ldcI w e13_7 (q := 9) rfl (v := (56320 : Int32)) (hw _ (List.mem_of_getElem? (i := 117) rfl)) ?_
    refine g_ic_ge w e13_9 (by decide) (q := 16) (by decide) (q' := 12) rfl (fun cd2 => ?_) (fun cd2 => ?_)
    · refine g_iconst w e13_16 (q := 17) rfl (v := (0 : Int32)) (by decide) ?_
      exact g_retn w e13_17 rfl (by simp) rfl (by decide) (by decide) ⟨Or.inr ⟨rfl, by simp [HS, cd1, cd2]⟩, rfl⟩
    · refine g_iconst w e13_12 (q := 13) rfl (v := (1 : Int32)) (by decide) ?_
      refine g_goto w e13_13 (by decide) (q := 17) (by decide) ?_
      exact g_retn w e13_17 rfl (by simp) rfl (by decide) (by decide) ⟨Or.inl ⟨rfl, by simp [HS, cd1, cd2]⟩, rfl⟩
theorem e14_0 : decode jdk_89_method_15_code 0 = .ok (.iload_n 0, 1) := by decide +kernel
theorem e14_1 : decode jdk_89_method_15_code 1 = .ok (.ldc 76, 2) := by decide +kernel
theorem e14_3 : decode jdk_89_method_15_code 3 = .ok (.if_icmp .lt 13, 3) := by decide +kernel
theorem e14_6 : decode jdk_89_method_15_code 6 = .ok (.iload_n 0, 1) := by decide +kernel
theorem e14_7 : decode jdk_89_method_15_code 7 = .ok (.ldc 77, 2) := by decide +kernel
theorem e14_9 : decode jdk_89_method_15_code 9 = .ok (.if_icmp .ge 7, 3) := by decide +kernel
theorem e14_12 : decode jdk_89_method_15_code 12 = .ok (.iconst 1, 1) := by decide +kernel
theorem e14_13 : decode jdk_89_method_15_code 13 = .ok (.goto 4, 3) := by decide +kernel
theorem e14_16 : decode jdk_89_method_15_code 16 = .ok (.iconst 0, 1) := by decide +kernel
theorem e14_17 : decode jdk_89_method_15_code 17 = .ok (.ireturn, 1) := by decide +kernel
set_option maxRecDepth 65536 in
set_option maxHeartbeats 40000000 in
theorem con_ls (l : Launch) (Z : State) (a0 : Array Value) (hw : ∀ d ∈ tables_1, d.before a0 Z = true) (c : Int32) (h0 : Heap) (O0 : Ext Z.heap h0) :
    Con l Z consts_1 false (⟨"java/lang/Character", "isLowSurrogate", "(C)Z"⟩ : MethodName) jdk_89_method_15_code 1 (some .boolean) [] ({ frames := 0, cells := 0, slots := 0, locals := 0 } : Room) #[(.int c)] [] h0 (fun v h => ((v = some (.int 1) ∧ LS c) ∨ (v = some (.int 0) ∧ ¬ LS c)) ∧ h = h0) := by
  refine Con.intro (Ls := #[.val (.int c)]) (plainFor_of_name pn3) (own_EL hw) O0 (fun m => by first | rfl | (simp [entryFrame, mkF, argsToLocals, Value.category]; done)) (fun p e s m below meth cc_ T w sf_ => ?_)
  have E0 := ext_refl h0
  refine g_iloadN w e14_0 (q := 1) rfl rfl ?_
  refine g_ldcI w e14_1 (q := 3) rfl (v := (56320 : Int32)) (hw _ (List.mem_of_getElem? (i := 117) rfl)) ?_
  refine g_ic_lt w e14_3 (by decide) (q := 16) (by decide) (q' := 6) rfl (fun cd1 => ?_) (fun cd1 => ?_)
  · refine g_iconst w e14_16 (q := 17) rfl (v := (0 : Int32)) (by decide) ?_
    exact g_retn w e14_17 rfl (by simp) rfl (by decide) (by decide) ⟨Or.inr ⟨rfl, by simp [LS, cd1]⟩, rfl⟩
  · refine g_iloadN w e14_6 (q := 7) rfl rfl ?_
    refine g_ldcI w e14_7 (q := 9) rfl (v := (57344 : Int32)) (hw _ (List.mem_of_getElem? (i := 122) rfl)) ?_
    refine g_ic_ge w e14_9 (by decide) (q := 16) (by decide) (q' := 12) rfl (fun cd2 => ?_) (fun cd2 => ?_)
    · refine g_iconst w e14_16 (q := 17) rfl (v := (0 : Int32)) (by decide) ?_
      exact g_retn w e14_17 rfl (by simp) rfl (by decide) (by decide) ⟨Or.inr ⟨rfl, by simp [LS, cd1, cd2]⟩, rfl⟩
    · refine g_iconst w e14_12 (q := 13) rfl (v := (1 : Int32)) (by decide) ?_
      refine g_goto w e14_13 (by decide) (q := 17) (by decide) ?_
      exact g_retn w e14_17 rfl (by simp) rfl (by decide) (by decide) ⟨Or.inl ⟨rfl, by simp [LS, cd1, cd2]⟩, rfl⟩
theorem e15_0 : decode jdk_29_method_65_code 0 = .ok (.iload_n 0, 1) := by decide +kernel
theorem e15_1 : decode jdk_29_method_65_code 1 = .ok (.iload_n 1, 1) := by decide +kernel
theorem e15_2 : decode jdk_29_method_65_code 2 = .ok (.if_icmp .lt 7, 3) := by decide +kernel
theorem e15_5 : decode jdk_29_method_65_code 5 = .ok (.iload_n 0, 1) := by decide +kernel
theorem e15_6 : decode jdk_29_method_65_code 6 = .ok (.goto 4, 3) := by decide +kernel
theorem e15_9 : decode jdk_29_method_65_code 9 = .ok (.iload_n 1, 1) := by decide +kernel
theorem e15_10 : decode jdk_29_method_65_code 10 = .ok (.ireturn, 1) := by decide +kernel
set_option maxRecDepth 65536 in
set_option maxHeartbeats 40000000 in
theorem con_max (l : Launch) (Z : State) (a0 : Array Value) (hw : ∀ d ∈ tables_1, d.before a0 Z = true) (a b : Int32) (h0 : Heap) (O0 : Ext Z.heap h0) :
    Con l Z consts_1 false (⟨"java/lang/Math", "max", "(II)I"⟩ : MethodName) jdk_29_method_65_code 2 (some .int) [] ({ frames := 0, cells := 0, slots := 0, locals := 0 } : Room) #[(.int a), (.int b)] [] h0 (fun v h => v = some (.int (if a < b then b else a)) ∧ h = h0) := by
  refine Con.intro (Ls := #[.val (.int a), .val (.int b)]) (Jvm.Free.JP.mathPlain rfl (by decide +kernel)) (own_EL hw) O0 (fun m => by first | rfl | (simp [entryFrame, mkF, argsToLocals, Value.category]; done)) (fun p e s m below meth cc_ T w sf_ => ?_)
  have E0 := ext_refl h0
  refine g_iloadN w e15_0 (q := 1) rfl rfl ?_
  refine g_iloadN w e15_1 (q := 2) rfl rfl ?_
  refine g_ic_lt w e15_2 (by decide) (q := 9) (by decide) (q' := 5) rfl (fun cd1 => ?_) (fun cd1 => ?_)
  · refine g_iloadN w e15_9 (q := 10) rfl rfl ?_
    exact g_reti w e15_10 rfl (by decide) (by decide) ⟨by rw [if_pos cd1], rfl⟩
  · refine g_iloadN w e15_5 (q := 6) rfl rfl ?_
    refine g_goto w e15_6 (by decide) (q := 10) (by decide) ?_
    exact g_reti w e15_10 rfl (by decide) (by decide) ⟨by rw [if_neg cd1], rfl⟩
theorem e16_0 : decode jdk_52_method_11_code 0 = .ok (.getstatic 44, 3) := by decide +kernel
theorem e16_3 : decode jdk_52_method_11_code 3 = .ok (.ifCond .ne 16, 3) := by decide +kernel
theorem e16_6 : decode jdk_52_method_11_code 6 = .ok (.iload_n 1, 1) := by decide +kernel
theorem e16_7 : decode jdk_52_method_11_code 7 = .ok (.iload_n 2, 1) := by decide +kernel
theorem e16_8 : decode jdk_52_method_11_code 8 = .ok (.if_icmp .le 11, 3) := by decide +kernel
theorem e16_11 : decode jdk_52_method_11_code 11 = .ok (.new 52, 3) := by decide +kernel
theorem e16_14 : decode jdk_52_method_11_code 14 = .ok (.dup, 1) := by decide +kernel
theorem e16_15 : decode jdk_52_method_11_code 15 = .ok (.invokespecial 66, 3) := by decide +kernel
theorem e16_18 : decode jdk_52_method_11_code 18 = .ok (.athrow, 1) := by decide +kernel
theorem e16_19 : decode jdk_52_method_11_code 19 = .ok (.iload_n 2, 1) := by decide +kernel
theorem e16_20 : decode jdk_52_method_11_code 20 = .ok (.iload_n 1, 1) := by decide +kernel
theorem e16_21 : decode jdk_52_method_11_code 21 = .ok (.isub, 1) := by decide +kernel
theorem e16_22 : decode jdk_52_method_11_code 22 = .ok (.istore 4, 2) := by decide +kernel
theorem e16_24 : decode jdk_52_method_11_code 24 = .ok (.iload_n 1, 1) := by decide +kernel
theorem e16_25 : decode jdk_52_method_11_code 25 = .ok (.istore 5, 2) := by decide +kernel
theorem e16_27 : decode jdk_52_method_11_code 27 = .ok (.iload_n 3, 1) := by decide +kernel
theorem e16_28 : decode jdk_52_method_11_code 28 = .ok (.ifCond .eq 16, 3) := by decide +kernel
theorem e16_31 : decode jdk_52_method_11_code 31 = .ok (.iload 5, 2) := by decide +kernel
theorem e16_33 : decode jdk_52_method_11_code 33 = .ok (.iload_n 2, 1) := by decide +kernel
theorem e16_34 : decode jdk_52_method_11_code 34 = .ok (.if_icmp .ge 10, 3) := by decide +kernel
theorem e16_37 : decode jdk_52_method_11_code 37 = .ok (.iload 5, 2) := by decide +kernel
theorem e16_39 : decode jdk_52_method_11_code 39 = .ok (.iload_n 2, 1) := by decide +kernel
theorem e16_40 : decode jdk_52_method_11_code 40 = .ok (.aload_n 0, 1) := by decide +kernel
theorem e16_41 : decode jdk_52_method_11_code 41 = .ok (.invokestatic 96, 3) := by decide +kernel
theorem e16_44 : decode jdk_52_method_11_code 44 = .ok (.iload 5, 2) := by decide +kernel
theorem e16_46 : decode jdk_52_method_11_code 46 = .ok (.iload_n 2, 1) := by decide +kernel
theorem e16_47 : decode jdk_52_method_11_code 47 = .ok (.iconst 1, 1) := by decide +kernel
theorem e16_48 : decode jdk_52_method_11_code 48 = .ok (.isub, 1) := by decide +kernel
theorem e16_49 : decode jdk_52_method_11_code 49 = .ok (.if_icmp .ge 39, 3) := by decide +kernel
theorem e16_52 : decode jdk_52_method_11_code 52 = .ok (.aload_n 0, 1) := by decide +kernel
theorem e16_53 : decode jdk_52_method_11_code 53 = .ok (.iload 5, 2) := by decide +kernel
theorem e16_55 : decode jdk_52_method_11_code 55 = .ok (.iinc 5 1, 3) := by decide +kernel
theorem e16_58 : decode jdk_52_method_11_code 58 = .ok (.invokestatic 71, 3) := by decide +kernel
theorem e16_61 : decode jdk_52_method_11_code 61 = .ok (.invokestatic 75, 3) := by decide +kernel
theorem e16_64 : decode jdk_52_method_11_code 64 = .ok (.ifCond .eq (-20), 3) := by decide +kernel
theorem e16_67 : decode jdk_52_method_11_code 67 = .ok (.aload_n 0, 1) := by decide +kernel
theorem e16_68 : decode jdk_52_method_11_code 68 = .ok (.iload 5, 2) := by decide +kernel
theorem e16_70 : decode jdk_52_method_11_code 70 = .ok (.invokestatic 71, 3) := by decide +kernel
theorem e16_73 : decode jdk_52_method_11_code 73 = .ok (.invokestatic 81, 3) := by decide +kernel
theorem e16_76 : decode jdk_52_method_11_code 76 = .ok (.ifCond .eq (-32), 3) := by decide +kernel
theorem e16_79 : decode jdk_52_method_11_code 79 = .ok (.iinc 4 (-1), 3) := by decide +kernel
theorem e16_82 : decode jdk_52_method_11_code 82 = .ok (.iinc 5 1, 3) := by decide +kernel
theorem e16_85 : decode jdk_52_method_11_code 85 = .ok (.goto (-41), 3) := by decide +kernel
theorem e16_88 : decode jdk_52_method_11_code 88 = .ok (.iload 4, 2) := by decide +kernel
theorem e16_90 : decode jdk_52_method_11_code 90 = .ok (.ireturn, 1) := by decide +kernel
theorem pd8 : parseMethodDescriptor "(C)Z" = some ⟨[.char], some .boolean⟩ := by decide +kernel
set_option maxRecDepth 65536 in
set_option maxHeartbeats 40000000 in
theorem con_cp4 (l : Launch) (Z : State) (a0 : Array Value) (hw : ∀ d ∈ tables_1, d.before a0 Z = true) (t : Addr) (cs : List Int32) (h0 : Heap) (O0 : Ext Z.heap h0) (A_t : Ar Z h0 t .byte (StrChars.Road.wideBytes cs)) (hpos : 0 < cs.length) (hn : cs.length ≤ 4) (hl : ∀ c ∈ cs, Lt16 c) (SA_ : Sta Z Z.heap "java/lang/StringUTF16" "$assertionsDisabled" "Z" (.int 1)) (SH_ : Sta Z Z.heap "java/lang/StringUTF16" "HI_BYTE_SHIFT" "I" (.int 0)) (SL_ : Sta Z Z.heap "java/lang/StringUTF16" "LO_BYTE_SHIFT" "I" (.int 8)) :
    Con l Z consts_1 false (⟨"java/lang/StringUTF16", "codePointCount", "([BIIZ)I"⟩ : MethodName) jdk_52_method_11_code 6 (some .int) [] ({ frames := 1, cells := 0, slots := 0, locals := 13 } : Room) #[(.ref t), (.int (0 : Int32)), (.int (Int32.ofNat cs.length)), (.int (0 : Int32))] [] h0 (fun v h => v = some (.int (Int32.ofNat (cs.length - cpn cs))) ∧ h = h0) := by
  refine Con.intro (Ls := #[.val (.ref t), .val (.int (0 : Int32)), .val (.int (Int32.ofNat cs.length)), .val (.int (0 : Int32)), .unset, .unset]) (plainFor_of_name pn1) (own_EL hw) O0 (fun m => by first | rfl | (simp [entryFrame, mkF, argsToLocals, Value.category]; done)) (fun p e s m below meth cc_ T w sf_ => ?_)
  have E0 := ext_refl h0
  refine g_getS w e16_0 (q := 3) rfl (hw _ (List.mem_of_getElem? (i := 99) rfl)) Via.refl SA_ (fun T w => ?_)
  refine g_ifY w e16_3 (by decide) (q := 19) (by decide) (by decide) ?_
  refine g_iloadN w e16_19 (q := 20) rfl rfl ?_
  refine g_iloadN w e16_20 (q := 21) rfl rfl ?_
  refine g_isub w e16_21 (q := 22) rfl ?_
  rw [Int32.sub_zero]
  show Go p e below _ (State.setTop T (mkF m 22 #[.val (.ref t), .val (.int (0 : Int32)), .val (.int (Int32.ofNat cs.length)), .val (.int (0 : Int32)), .unset, .unset] [(.int (Int32.ofNat cs.length))]))
  refine g_istore w e16_22 (q := 24) rfl (Ls' := #[.val (.ref t), .val (.int (0 : Int32)), .val (.int (Int32.ofNat cs.length)), .val (.int (0 : Int32)), .val (.int (Int32.ofNat cs.length)), .unset]) rfl ?_
  refine g_iloadN w e16_24 (q := 25) rfl rfl ?_
  refine g_istore w e16_25 (q := 27) rfl (Ls' := #[.val (.ref t), .val (.int (0 : Int32)), .val (.int (Int32.ofNat cs.length)), .val (.int (0 : Int32)), .val (.int (Int32.ofNat cs.length)), .val (.int (0 : Int32))]) rfl ?_
  refine g_iloadN w e16_27 (q := 28) rfl rfl ?_
  refine g_ifY w e16_28 (by decide) (q := 44) (by decide) (by decide) ?_
  have LP : ∀ (r : Nat) (i : Nat) (np : Nat) (T : State) (vm : Vm), (cs.length ≤ i + r) → (i ≤ cs.length) → (np + cpn (cs.drop i) = cpn cs) → Wk p l e ({ frames := 1, cells := 0, slots := 0, locals := 13 } : Room) s m #[(.ref t), (.int (0 : Int32)), (.int (Int32.ofNat cs.length)), (.int (0 : Int32))] below meth cc_ Z a0 consts_1 false (⟨"java/lang/StringUTF16", "codePointCount", "([BIIZ)I"⟩ : MethodName) jdk_52_method_11_code 6 (some .int) T vm h0 0 0 → Go p e below (Fini Z consts_1 false ({ frames := 1, cells := 0, slots := 0, locals := 13 } : Room).cells ({ frames := 1, cells := 0, slots := 0, locals := 13 } : Room).slots (fun v h => v = some (.int (Int32.ofNat (cs.length - cpn cs))) ∧ h = h0) s) (State.setTop T (mkF m 44 #[.val (.ref t), .val (.int (0 : Int32)), .val (.int (Int32.ofNat cs.length)), .val (.int (0 : Int32)), .val (.int (Int32.ofNat (cs.length - np))), .val (.int (Int32.ofNat i))] [])) := by
    intro r
    induction r with
    | zero =>
      intro i np T vm hi hj hp  w
      refine g_iload w e16_44 (q := 46) rfl rfl ?_
      refine g_iloadN w e16_46 (q := 47) rfl rfl ?_
      refine g_iconst w e16_47 (q := 48) rfl (v := (1 : Int32)) (by decide) ?_
      refine g_isub w e16_48 (q := 49) rfl ?_
      rw [ofNat_sub1 hpos]
      show Go p e below _ (State.setTop T (mkF m 49 #[.val (.ref t), .val (.int (0 : Int32)), .val (.int (Int32.ofNat cs.length)), .val (.int (0 : Int32)), .val (.int (Int32.ofNat (cs.length - np))), .val (.int (Int32.ofNat i))] [(.int (Int32.ofNat (cs.length - 1))), (.int (Int32.ofNat i))]))
      refine g_icY w e16_49 (by decide) (q := 88) (by decide) (Jvm.Free.XT.ii_ge_t (not_lt_ofNat (by omega) (by omega))) ?_
      refine g_iload w e16_88 (q := 90) rfl rfl ?_
      exact g_reti w e16_90 rfl (by decide) (by decide) ⟨by rw [show np = cpn cs from by have q := cpn_end (cs := cs) (i := i) (by omega); omega], rfl⟩
    | succ r ih =>
      intro i np T vm hi hj hp  w
      refine g_iload w e16_44 (q := 46) rfl rfl ?_
      refine g_iloadN w e16_46 (q := 47) rfl rfl ?_
      refine g_iconst w e16_47 (q := 48) rfl (v := (1 : Int32)) (by decide) ?_
      refine g_isub w e16_48 (q := 49) rfl ?_
      rw [ofNat_sub1 hpos]
      show Go p e below _ (State.setTop T (mkF m 49 #[.val (.ref t), .val (.int (0 : Int32)), .val (.int (Int32.ofNat cs.length)), .val (.int (0 : Int32)), .val (.int (Int32.ofNat (cs.length - np))), .val (.int (Int32.ofNat i))] [(.int (Int32.ofNat (cs.length - 1))), (.int (Int32.ofNat i))]))
      rcases Decidable.em (i + 1 < cs.length) with hlt | hlt
      · refine g_icN w e16_49 (q := 52) rfl (Jvm.Free.XT.ii_ge_f (lt_ofNat (by omega) (by omega))) ?_
        refine g_aloadN w e16_52 (q := 53) rfl rfl rfl ?_
        refine g_iload w e16_53 (q := 55) rfl rfl ?_
        refine g_iinc w e16_55 (q := 58) rfl (v := (1 : Int32)) (by decide) rfl rfl ?_
        rw [ofNat_succ]
        show Go p e below _ (State.setTop T (mkF m 58 #[.val (.ref t), .val (.int (0 : Int32)), .val (.int (Int32.ofNat cs.length)), .val (.int (0 : Int32)), .val (.int (Int32.ofNat (cs.length - np))), .val (.int (Int32.ofNat (i + 1)))] [(.int (Int32.ofNat i)), (.ref t)]))
        refine g_staticP w (con_get l Z a0 hw t i cs _ w.old A_t (by omega) hn hl SA_ SH_ SL_) no0 e16_58 (q := 61) rfl rfl (hw _ (List.mem_of_getElem? (i := 102) rfl)) (hw _ (List.mem_of_getElem? (i := 103) rfl)) (hw _ (List.mem_of_getElem? (i := 72) rfl)) (hw _ (List.mem_of_getElem? (i := 104) rfl)) (by decide) pd6 rfl rfl (W := 0) (Nat.le_of_eq rfl) (by decide) (by decide) (by decide) (by decide) (fun T v w C q => ?_)
        obtain rfl := q
        show Go p e below _ (State.setTop T (mkF m 61 #[.val (.ref t), .val (.int (0 : Int32)), .val (.int (Int32.ofNat cs.length)), .val (.int (0 : Int32)), .val (.int (Int32.ofNat (cs.length - np))), .val (.int (Int32.ofNat (i + 1)))] [(.int (cs.getD i 0))]))
        refine g_staticP w (con_hs l Z a0 hw (cs.getD i 0) _ w.old) no0 e16_61 (q := 64) rfl rfl (hw _ (List.mem_of_getElem? (i := 112) rfl)) (hw _ (List.mem_of_getElem? (i := 113) rfl)) (hw _ (List.mem_of_getElem? (i := 114) rfl)) (hw _ (List.mem_of_getElem? (i := 115) rfl)) (by decide) pd8 rfl rfl (W := 0) (Nat.le_of_eq rfl) (by decide) (by decide) (by decide) (by decide) (fun T v w C q => ?_)
        rcases q with ⟨rfl, t3⟩ | ⟨rfl, t3⟩
        · show Go p e below _ (State.setTop T (mkF m 64 #[.val (.ref t), .val (.int (0 : Int32)), .val (.int (Int32.ofNat cs.length)), .val (.int (0 : Int32)), .val (.int (Int32.ofNat (cs.length - np))), .val (.int (Int32.ofNat (i + 1)))] [(.int (1 : Int32))]))
          refine g_ifN w e16_64 (q := 67) rfl (by decide) ?_
          refine g_aloadN w e16_67 (q := 68) rfl rfl rfl ?_
          refine g_iload w e16_68 (q := 70) rfl rfl ?_
          refine g_staticP w (con_get l Z a0 hw t (i + 1) cs _ w.old A_t (by omega) hn hl SA_ SH_ SL_) no0 e16_70 (q := 73) rfl rfl (hw _ (List.mem_of_getElem? (i := 102) rfl)) (hw _ (List.mem_of_getElem? (i := 103) rfl)) (hw _ (List.mem_of_getElem? (i := 72) rfl)) (hw _ (List.mem_of_getElem? (i := 104) rfl)) (by decide) pd6 rfl rfl (W := 0) (Nat.le_of_eq rfl) (by decide) (by decide) (by decide) (by decide) (fun T v w C q => ?_)
          obtain rfl := q
          show Go p e below _ (State.setTop T (mkF m 73 #[.val (.ref t), .val (.int (0 : Int32)), .val (.int (Int32.ofNat cs.length)), .val (.int (0 : Int32)), .val (.int (Int32.ofNat (cs.length - np))), .val (.int (Int32.ofNat (i + 1)))] [(.int (cs.getD (i + 1) 0))]))
          refine g_staticP w (con_ls l Z a0 hw (cs.getD (i + 1) 0) _ w.old) no0 e16_73 (q := 76) rfl rfl (hw _ (List.mem_of_getElem? (i := 118) rfl)) (hw _ (List.mem_of_getElem? (i := 119) rfl)) (hw _ (List.mem_of_getElem? (i := 114) rfl)) (hw _ (List.mem_of_getElem? (i := 120) rfl)) (by decide) pd8 rfl rfl (W := 0) (Nat.le_of_eq rfl) (by decide) (by decide) (by decide) (by decide) (fun T v w C q => ?_)
          rcases q with ⟨rfl, t5⟩ | ⟨rfl, t5⟩
          · show Go p e below _ (State.setTop T (mkF m 76 #[.val (.ref t), .val (.int (0 : Int32)), .val (.int (Int32.ofNat cs.length)), .val (.int (0 : Int32)), .val (.int (Int32.ofNat (cs.length - np))), .val (.int (Int32.ofNat (i + 1)))] [(.int (1 : Int32))]))
            refine g_ifN w e16_76 (q := 79) rfl (by decide) ?_
            have hY := cpn_Y hlt t3 t5
            have hle := cpn_le cs
            refine g_iinc w e16_79 (q := 82) rfl (v := (-1 : Int32)) (by decide) rfl rfl ?_
            rw [ofNat_dec1 (by omega)]
            show Go p e below _ (State.setTop T (mkF m 82 #[.val (.ref t), .val (.int (0 : Int32)), .val (.int (Int32.ofNat cs.length)), .val (.int (0 : Int32)), .val (.int (Int32.ofNat (cs.length - (np + 1)))), .val (.int (Int32.ofNat (i + 1)))] []))
            refine g_iinc w e16_82 (q := 85) rfl (v := (1 : Int32)) (by decide) rfl rfl ?_
            rw [ofNat_succ]
            show Go p e below _ (State.setTop T (mkF m 85 #[.val (.ref t), .val (.int (0 : Int32)), .val (.int (Int32.ofNat cs.length)), .val (.int (0 : Int32)), .val (.int (Int32.ofNat (cs.length - (np + 1)))), .val (.int (Int32.ofNat ((i + 1) + 1)))] []))
            refine g_goto w e16_85 (by decide) (q := 44) (by decide) ?_
            exact ih (i + 2) (np + 1) T _ (by omega) (by omega) (by omega) w
          · show Go p e below _ (State.setTop T (mkF m 76 #[.val (.ref t), .val (.int (0 : Int32)), .val (.int (Int32.ofNat cs.length)), .val (.int (0 : Int32)), .val (.int (Int32.ofNat (cs.length - np))), .val (.int (Int32.ofNat (i + 1)))] [(.int (0 : Int32))]))
            refine g_ifY w e16_76 (by decide) (q := 44) (by decide) (by decide) ?_
            exact ih (i + 1) np T _ (by omega) (by omega) (by rw [← cpn_N hlt (fun q => t5 q.2)]; exact hp) w
        · show Go p e below _ (State.setTop T (mkF m 64 #[.val (.ref t), .val (.int (0 : Int32)), .val (.int (Int32.ofNat cs.length)), .val (.int (0 : Int32)), .val (.int (Int32.ofNat (cs.length - np))), .val (.int (Int32.ofNat (i + 1)))] [(.int (0 : Int32))]))
          refine g_ifY w e16_64 (by decide) (q := 44) (by decide) (by decide) ?_
          exact ih (i + 1) np T _ (by omega) (by omega) (by rw [← cpn_N hlt (fun q => t3 q.1)]; exact hp) w
      · refine g_icY w e16_49 (by decide) (q := 88) (by decide) (Jvm.Free.XT.ii_ge_t (not_lt_ofNat (by omega) (by omega))) ?_
        refine g_iload w e16_88 (q := 90) rfl rfl ?_
        exact g_reti w e16_90 rfl (by decide) (by decide) ⟨by rw [show np = cpn cs from by have q := cpn_end hlt; omega], rfl⟩
  exact LP cs.length 0 0 T _ (by omega) (by omega) (by simp) w
theorem e17_0 : decode jdk_52_method_12_code 0 = .ok (.aload_n 0, 1) := by decide +kernel
theorem e17_1 : decode jdk_52_method_12_code 1 = .ok (.iload_n 1, 1) := by decide +kernel
theorem e17_2 : decode jdk_52_method_12_code 2 = .ok (.iload_n 2, 1) := by decide +kernel
theorem e17_3 : decode jdk_52_method_12_code 3 = .ok (.iconst 0, 1) := by decide +kernel
theorem e17_4 : decode jdk_52_method_12_code 4 = .ok (.invokestatic 100, 3) := by decide +kernel
theorem e17_7 : decode jdk_52_method_12_code 7 = .ok (.ireturn, 1) := by decide +kernel
theorem pd9 : parseMethodDescriptor "([BIIZ)I" = some ⟨[(.array .byte), .int, .int, .boolean], some .int⟩ := by decide +kernel
set_option maxRecDepth 65536 in
set_option maxHeartbeats 40000000 in
theorem con_cp3 (l : Launch) (Z : State) (a0 : Array Value) (hw : ∀ d ∈ tables_1, d.before a0 Z = true) (t : Addr) (cs : List Int32) (h0 : Heap) (O0 : Ext Z.heap h0) (A_t : Ar Z h0 t .byte (StrChars.Road.wideBytes cs)) (hpos : 0 < cs.length) (hn : cs.length ≤ 4) (hl : ∀ c ∈ cs, Lt16 c) (SA_ : Sta Z Z.heap "java/lang/StringUTF16" "$assertionsDisabled" "Z" (.int 1)) (SH_ : Sta Z Z.heap "java/lang/StringUTF16" "HI_BYTE_SHIFT" "I" (.int 0)) (SL_ : Sta Z Z.heap "java/lang/StringUTF16" "LO_BYTE_SHIFT" "I" (.int 8)) :
    Con l Z consts_1 false (⟨"java/lang/StringUTF16", "codePointCount", "([BII)I"⟩ : MethodName) jdk_52_method_12_code 3 (some .int) [] ({ frames := 2, cells := 0, slots := 0, locals := 30 } : Room) #[(.ref t), (.int (0 : Int32)), (.int (Int32.ofNat cs.length))] [] h0 (fun v h => v = some (.int (Int32.ofNat (cs.length - cpn cs))) ∧ h = h0) := by
  refine Con.intro (Ls := #[.val (.ref t), .val (.int (0 : Int32)), .val (.int (Int32.ofNat cs.length))]) (plainFor_of_name pn1) (own_EL hw) O0 (fun m => by first | rfl | (simp [entryFrame, mkF, argsToLocals, Value.category]; done)) (fun p e s m below meth cc_ T w sf_ => ?_)
  have E0 := ext_refl h0
  refine g_aloadN w e17_0 (q := 1) rfl rfl rfl ?_
  refine g_iloadN w e17_1 (q := 2) rfl rfl ?_
  refine g_iloadN w e17_2 (q := 3) rfl rfl ?_
  refine g_iconst w e17_3 (q := 4) rfl (v := (0 : Int32)) (by decide) ?_
  refine g_staticP w (con_cp4 l Z a0 hw t cs _ w.old A_t hpos hn hl SA_ SH_ SL_) no0 e17_4 (q := 7) rfl rfl (hw _ (List.mem_of_getElem? (i := 109) rfl)) (hw _ (List.mem_of_getElem? (i := 110) rfl)) (hw _ (List.mem_of_getElem? (i := 72) rfl)) (hw _ (List.mem_of_getElem? (i := 111) rfl)) (by decide) pd9 rfl rfl (W := 0) (Nat.le_of_eq rfl) (by decide) (by decide) (by decide) (by decide) (fun T v w C q => ?_)
  obtain rfl := q
  show Go p e below _ (State.setTop T (mkF m 7 #[.val (.ref t), .val (.int (0 : Int32)), .val (.int (Int32.ofNat cs.length))] [(.int (Int32.ofNat (cs.length - cpn cs)))]))
  exact g_reti w e17_7 rfl (by decide) (by decide) ⟨rfl, rfl⟩
theorem own_lenU {p : Program} {l : Launch} {e : Env} {R : Room} {args : Array Value} {below : List Frame} {W : Nat} {Z : State} {a0 : Array Value} {h : Heap} (hw : ∀ d ∈ tables_1, d.before a0 Z = true) {x : Addr} {cs : List Int32} {z : Int32} (S1 : Su Z h x cs) (S : Sta Z h "java/lang/String" "COMPACT_STRINGS" "Z" (.int z)) (hz : ¬ z = 0) (hfr : 2 ≤ R.frames) (hlo : W + 25 ≤ R.locals) (s' : State) (hZ' : Z.Warmed39 s'.vm) :
    Back l R p e below s' args (⟨"java/lang/String", "length", "()I"⟩ : MethodName) 3 W (fun P a' => a' = #[.ref x] ∧ P.U.heap = h ∧ P.cells + 0 ≤ R.cells ∧ P.slots + 0 ≤ R.slots) (fun P _ v B => ∃ L, (v = some (.int (Int32.ofNat cs.length)) ∧ L = [] ∧ B.U.heap = h) ∧ B.locs = P.locs ++ L ∧ B.cells = P.cells + 0 ∧ B.slots = P.slots + 0) := by
  obtain ⟨l1, b1, E1, t1, k1, cd, N2, vs, V1, C1, A1, hc⟩ := S1
  exact StrChars.Road.lenW hZ' (own_hLen hw) (kI := 4) (hw _ (List.mem_of_getElem? (i := 10) rfl)) E1 V1 C1 A1 hc b1 S hz l1 hfr hlo
theorem e18_0 : decode jdk_41_method_12_code 0 = .ok (.iload_n 0, 1) := by decide +kernel
theorem e18_1 : decode jdk_41_method_12_code 1 = .ok (.ifCond .lt 13, 3) := by decide +kernel
theorem e18_4 : decode jdk_41_method_12_code 4 = .ok (.iload_n 0, 1) := by decide +kernel
theorem e18_5 : decode jdk_41_method_12_code 5 = .ok (.iload_n 1, 1) := by decide +kernel
theorem e18_6 : decode jdk_41_method_12_code 6 = .ok (.if_icmp .gt 8, 3) := by decide +kernel
theorem e18_9 : decode jdk_41_method_12_code 9 = .ok (.iload_n 1, 1) := by decide +kernel
theorem e18_10 : decode jdk_41_method_12_code 10 = .ok (.iload_n 2, 1) := by decide +kernel
theorem e18_11 : decode jdk_41_method_12_code 11 = .ok (.if_icmp .le 11, 3) := by decide +kernel
theorem e18_14 : decode jdk_41_method_12_code 14 = .ok (.aload_n 3, 1) := by decide +kernel
theorem e18_15 : decode jdk_41_method_12_code 15 = .ok (.iload_n 0, 1) := by decide +kernel
theorem e18_16 : decode jdk_41_method_12_code 16 = .ok (.iload_n 1, 1) := by decide +kernel
theorem e18_17 : decode jdk_41_method_12_code 17 = .ok (.iload_n 2, 1) := by decide +kernel
theorem e18_18 : decode jdk_41_method_12_code 18 = .ok (.invokestatic 99, 3) := by decide +kernel
theorem e18_21 : decode jdk_41_method_12_code 21 = .ok (.athrow, 1) := by decide +kernel
theorem e18_22 : decode jdk_41_method_12_code 22 = .ok (.iload_n 0, 1) := by decide +kernel
theorem e18_23 : decode jdk_41_method_12_code 23 = .ok (.ireturn, 1) := by decide +kernel
theorem pn4 : plainName "jdk/internal/util/Preconditions" = true := by first | (simp [plainName, overriddenIn]; done) | decide +kernel
set_option maxRecDepth 65536 in
set_option maxHeartbeats 40000000 in
theorem con_pcf (l : Launch) (Z : State) (a0 : Array Value) (hw : ∀ d ∈ tables_1, d.before a0 Z = true) (cs : List Int32) (h0 : Heap) (O0 : Ext Z.heap h0) (hn : cs.length ≤ 4) :
    Con l Z consts_1 false (⟨"jdk/internal/util/Preconditions", "checkFromToIndex", "(IIILjava/util/function/BiFunction;)I"⟩ : MethodName) jdk_41_method_12_code 4 (some .int) [] ({ frames := 0, cells := 0, slots := 0, locals := 0 } : Room) #[(.int (0 : Int32)), (.int (Int32.ofNat cs.length)), (.int (Int32.ofNat cs.length)), .null] [] h0 (fun v h => v = some (.int 0) ∧ h = h0) := by
  refine Con.intro (Ls := #[.val (.int (0 : Int32)), .val (.int (Int32.ofNat cs.length)), .val (.int (Int32.ofNat cs.length)), .val .null]) (plainFor_of_name pn4) (own_EL hw) O0 (fun m => by first | rfl | (simp [entryFrame, mkF, argsToLocals, Value.category]; done)) (fun p e s m below meth cc_ T w sf_ => ?_)
  have E0 := ext_refl h0
  refine g_iloadN w e18_0 (q := 1) rfl rfl ?_
  refine g_ifN w e18_1 (q := 4) rfl (by decide) ?_
  refine g_iloadN w e18_4 (q := 5) rfl rfl ?_
  refine g_iloadN w e18_5 (q := 6) rfl rfl ?_
  refine g_icN w e18_6 (q := 9) rfl (Jvm.Free.XT.ii_gt_f (ofNat_nonneg (by omega))) ?_
  refine g_iloadN w e18_9 (q := 10) rfl rfl ?_
  refine g_iloadN w e18_10 (q := 11) rfl rfl ?_
  refine g_icY w e18_11 (by decide) (q := 22) (by decide) (Jvm.Free.XT.ii_le_t Int32.lt_irrefl) ?_
  refine g_iloadN w e18_22 (q := 23) rfl rfl ?_
  exact g_reti w e18_23 rfl (by decide) (by decide) ⟨rfl, rfl⟩
theorem e19_0 : decode jdk_31_method_18_code 0 = .ok (.iload_n 0, 1) := by decide +kernel
theorem e19_1 : decode jdk_31_method_18_code 1 = .ok (.iload_n 1, 1) := by decide +kernel
theorem e19_2 : decode jdk_31_method_18_code 2 = .ok (.iload_n 2, 1) := by decide +kernel
theorem e19_3 : decode jdk_31_method_18_code 3 = .ok (.aconst_null, 1) := by decide +kernel
theorem e19_4 : decode jdk_31_method_18_code 4 = .ok (.invokestatic 111, 3) := by decide +kernel
theorem e19_7 : decode jdk_31_method_18_code 7 = .ok (.ireturn, 1) := by decide +kernel
theorem pd10 : parseMethodDescriptor "(IIILjava/util/function/BiFunction;)I" = some ⟨[.int, .int, .int, (.object "java/util/function/BiFunction")], some .int⟩ := by decide +kernel
theorem pn5 : plainName "java/util/Objects" = true := by first | (simp [plainName, overriddenIn]; done) | decide +kernel
set_option maxRecDepth 65536 in
set_option maxHeartbeats 40000000 in
theorem con_ocf (l : Launch) (Z : State) (a0 : Array Value) (hw : ∀ d ∈ tables_1, d.before a0 Z = true) (cs : List Int32) (h0 : Heap) (O0 : Ext Z.heap h0) (hn : cs.length ≤ 4) :
    Con l Z consts_1 false (⟨"java/util/Objects", "checkFromToIndex", "(III)I"⟩ : MethodName) jdk_31_method_18_code 3 (some .int) [] ({ frames := 1, cells := 0, slots := 0, locals := 15 } : Room) #[(.int (0 : Int32)), (.int (Int32.ofNat cs.length)), (.int (Int32.ofNat cs.length))] [] h0 (fun v h => v = some (.int 0) ∧ h = h0) := by
  refine Con.intro (Ls := #[.val (.int (0 : Int32)), .val (.int (Int32.ofNat cs.length)), .val (.int (Int32.ofNat cs.length))]) (plainFor_of_name pn5) (own_EL hw) O0 (fun m => by first | rfl | (simp [entryFrame, mkF, argsToLocals, Value.category]; done)) (fun p e s m below meth cc_ T w sf_ => ?_)
  have E0 := ext_refl h0
  refine g_iloadN w e19_0 (q := 1) rfl rfl ?_
  refine g_iloadN w e19_1 (q := 2) rfl rfl ?_
  refine g_iloadN w e19_2 (q := 3) rfl rfl ?_
  refine g_anull w e19_3 (q := 4) rfl ?_
  refine g_staticP w (con_pcf l Z a0 hw cs _ w.old hn) no0 e19_4 (q := 7) rfl rfl (hw _ (List.mem_of_getElem? (i := 61) rfl)) (hw _ (List.mem_of_getElem? (i := 62) rfl)) (hw _ (List.mem_of_getElem? (i := 63) rfl)) (hw _ (List.mem_of_getElem? (i := 64) rfl)) (by decide) pd10 rfl rfl (W := 0) (Nat.le_of_eq rfl) (by decide) (by decide) (by decide) (by decide) (fun T v w C q => ?_)
  obtain rfl := q
  show Go p e below _ (State.setTop T (mkF m 7 #[.val (.int (0 : Int32)), .val (.int (Int32.ofNat cs.length)), .val (.int (Int32.ofNat cs.length))] [(.int (0 : Int32))]))
  exact g_reti w e19_7 rfl (by decide) (by decide) ⟨rfl, rfl⟩
theorem e20_0 : decode jdk_42_method_154_code 0 = .ok (.getstatic 38, 3) := by decide +kernel
theorem e20_3 : decode jdk_42_method_154_code 3 = .ok (.ifCond .eq 14, 3) := by decide +kernel
theorem e20_6 : decode jdk_42_method_154_code 6 = .ok (.aload_n 0, 1) := by decide +kernel
theorem e20_7 : decode jdk_42_method_154_code 7 = .ok (.getfield 15, 3) := by decide +kernel
theorem e20_10 : decode jdk_42_method_154_code 10 = .ok (.ifCond .ne 7, 3) := by decide +kernel
theorem e20_13 : decode jdk_42_method_154_code 13 = .ok (.iconst 1, 1) := by decide +kernel
theorem e20_14 : decode jdk_42_method_154_code 14 = .ok (.goto 4, 3) := by decide +kernel
theorem e20_17 : decode jdk_42_method_154_code 17 = .ok (.iconst 0, 1) := by decide +kernel
theorem e20_18 : decode jdk_42_method_154_code 18 = .ok (.ireturn, 1) := by decide +kernel
set_option maxRecDepth 65536 in
set_option maxHeartbeats 40000000 in
theorem con_il2 (l : Launch) (Z : State) (a0 : Array Value) (hw : ∀ d ∈ tables_1, d.before a0 Z = true) (x : Addr) (cd : Int32) (h0 : Heap) (O0 : Ext Z.heap h0) (F_c : Fld Z h0 x "java/lang/String" "coder" "B" (.int cd)) (hcm : Cpt Z) :
    Con l Z consts_1 false (⟨"java/lang/String", "isLatin1", "()Z"⟩ : MethodName) jdk_42_method_154_code 1 (some .boolean) [] ({ frames := 0, cells := 0, slots := 0, locals := 0 } : Room) #[(.ref x)] [] h0 (fun v h => ((v = some (.int 1) ∧ cd = 0) ∨ (v = some (.int 0) ∧ ¬ cd = 0)) ∧ h = h0) := by
  refine Con.intro (Ls := #[.val (.ref x)]) (plainFor_of_name pn0) (own_EL hw) O0 (fun m => by first | rfl | (simp [entryFrame, mkF, argsToLocals, Value.category]; done)) (fun p e s m below meth cc_ T w sf_ => ?_)
  have E0 := ext_refl h0
  obtain ⟨z_, hz_, SC_⟩ := id hcm
  refine g_getS w e20_0 (q := 3) rfl (hw _ (List.mem_of_getElem? (i := 50) rfl)) Via.refl SC_ (fun T w => ?_)
  refine g_ifN w e20_3 (q := 6) rfl (Jvm.Free.XT.i0_eq_f hz_) ?_
  refine g_aloadN w e20_6 (q := 7) rfl rfl rfl ?_
  refine g_getF w e20_7 (q := 10) rfl (host := "") (Or.inl (hw _ (List.mem_of_getElem? (i := 29) rfl))) Via.refl F_c (fun T w => ?_)
  refine g_if_ne w e20_10 (by decide) (q := 17) (by decide) (q' := 13) rfl (fun cd1 => ?_) (fun cd1 => ?_)
  · refine g_iconst w e20_17 (q := 18) rfl (v := (0 : Int32)) (by decide) ?_
    exact g_retn w e20_18 rfl (by simp) rfl (by decide) (by decide) ⟨Or.inr ⟨rfl, cd1⟩, rfl⟩
  · refine g_iconst w e20_13 (q := 14) rfl (v := (1 : Int32)) (by decide) ?_
    refine g_goto w e20_14 (by decide) (q := 18) (by decide) ?_
    exact g_retn w e20_18 rfl (by simp) rfl (by decide) (by decide) ⟨Or.inl ⟨rfl, cd1⟩, rfl⟩
theorem e21_0 : decode jdk_42_method_59_code 0 = .ok (.iload_n 1, 1) := by decide +kernel
theorem e21_1 : decode jdk_42_method_59_code 1 = .ok (.iload_n 2, 1) := by decide +kernel
theorem e21_2 : decode jdk_42_method_59_code 2 = .ok (.aload_n 0, 1) := by decide +kernel
theorem e21_3 : decode jdk_42_method_59_code 3 = .ok (.invokevirtual 505, 3) := by decide +kernel
theorem e21_6 : decode jdk_42_method_59_code 6 = .ok (.invokestatic 511, 3) := by decide +kernel
theorem e21_9 : decode jdk_42_method_59_code 9 = .ok (.pop, 1) := by decide +kernel
theorem e21_10 : decode jdk_42_method_59_code 10 = .ok (.aload_n 0, 1) := by decide +kernel
theorem e21_11 : decode jdk_42_method_59_code 11 = .ok (.invokevirtual 492, 3) := by decide +kernel
theorem e21_14 : decode jdk_42_method_59_code 14 = .ok (.ifCond .eq 7, 3) := by decide +kernel
theorem e21_17 : decode jdk_42_method_59_code 17 = .ok (.iload_n 2, 1) := by decide +kernel
theorem e21_18 : decode jdk_42_method_59_code 18 = .ok (.iload_n 1, 1) := by decide +kernel
theorem e21_19 : decode jdk_42_method_59_code 19 = .ok (.isub, 1) := by decide +kernel
theorem e21_20 : decode jdk_42_method_59_code 20 = .ok (.ireturn, 1) := by decide +kernel
theorem e21_21 : decode jdk_42_method_59_code 21 = .ok (.aload_n 0, 1) := by decide +kernel
theorem e21_22 : decode jdk_42_method_59_code 22 = .ok (.getfield 9, 3) := by decide +kernel
theorem e21_25 : decode jdk_42_method_59_code 25 = .ok (.iload_n 1, 1) := by decide +kernel
theorem e21_26 : decode jdk_42_method_59_code 26 = .ok (.iload_n 2, 1) := by decide +kernel
theorem e21_27 : decode jdk_42_method_59_code 27 = .ok (.invokestatic 514, 3) := by decide +kernel
theorem e21_30 : decode jdk_42_method_59_code 30 = .ok (.ireturn, 1) := by decide +kernel
theorem pd11 : parseMethodDescriptor "()I" = some ⟨[], some .int⟩ := by decide +kernel
theorem pd12 : parseMethodDescriptor "(III)I" = some ⟨[.int, .int, .int], some .int⟩ := by decide +kernel
theorem pd13 : parseMethodDescriptor "()Z" = some ⟨[], some .boolean⟩ := by decide +kernel
theorem pd14 : parseMethodDescriptor "([BII)I" = some ⟨[(.array .byte), .int, .int], some .int⟩ := by decide +kernel
set_option maxRecDepth 65536 in
set_option maxHeartbeats 40000000 in
theorem con_scp (l : Launch) (Z : State) (a0 : Array Value) (hw : ∀ d ∈ tables_1, d.before a0 Z = true) (x : Addr) (cs : List Int32) (h0 : Heap) (O0 : Ext Z.heap h0) (U_x : Su Z h0 x cs) (hn : cs.length ≤ 4) (hcm : Cpt Z) (SA_ : Sta Z Z.heap "java/lang/StringUTF16" "$assertionsDisabled" "Z" (.int 1)) (SH_ : Sta Z Z.heap "java/lang/StringUTF16" "HI_BYTE_SHIFT" "I" (.int 0)) (SL_ : Sta Z Z.heap "java/lang/StringUTF16" "LO_BYTE_SHIFT" "I" (.int 8)) :
    Con l Z consts_1 false (⟨"java/lang/String", "codePointCount", "(II)I"⟩ : MethodName) jdk_42_method_59_code 3 (some .int) [] ({ frames := 3, cells := 0, slots := 0, locals := 44 } : Room) #[(.ref x), (.int (0 : Int32)), (.int (Int32.ofNat cs.length))] [] h0 (fun v h => v = some (.int (Int32.ofNat (cs.length - cpn cs))) ∧ h = h0) := by
  refine Con.intro (Ls := #[.val (.ref x), .val (.int (0 : Int32)), .val (.int (Int32.ofNat cs.length))]) (plainFor_of_name pn0) (own_EL hw) O0 (fun m => by first | rfl | (simp [entryFrame, mkF, argsToLocals, Value.category]; done)) (fun p e s m below meth cc_ T w sf_ => ?_)
  have E0 := ext_refl h0
  obtain ⟨z_, hz_, SC_⟩ := id hcm
  obtain ⟨-, hl, -, t, kb, cd, N2, vs, F_v, F_c, K_t, hc⟩ := id U_x
  refine g_iloadN w e21_0 (q := 1) rfl rfl ?_
  refine g_iloadN w e21_1 (q := 2) rfl rfl ?_
  refine g_aloadN w e21_2 (q := 3) rfl rfl rfl ?_
  refine g_virtualB w (a := x) (argsL := []) (own_lenU hw U_x (w.sta SC_) hz_ (by decide) (by decide)) U_x.exa e21_3 (q := 6) rfl rfl (hw _ (List.mem_of_getElem? (i := 56) rfl)) (hw _ (List.mem_of_getElem? (i := 41) rfl)) (hw _ (List.mem_of_getElem? (i := 43) rfl)) (hw _ (List.mem_of_getElem? (i := 42) rfl)) (by decide) (nf (hw _ (List.mem_of_getElem? (i := 43) rfl))) pd11 rfl rfl (W := 2) (Nat.le_of_eq rfl) (by decide) (by decide) (fun T v w hq => ?_)
  obtain rfl := hq
  show Go p e below _ (State.setTop T (mkF m 6 #[.val (.ref x), .val (.int (0 : Int32)), .val (.int (Int32.ofNat cs.length))] [(.int (Int32.ofNat cs.length)), (.int (Int32.ofNat cs.length)), (.int (0 : Int32))]))
  refine g_staticP w (con_ocf l Z a0 hw cs _ w.old hn) no0 e21_6 (q := 9) rfl rfl (hw _ (List.mem_of_getElem? (i := 57) rfl)) (hw _ (List.mem_of_getElem? (i := 58) rfl)) (hw _ (List.mem_of_getElem? (i := 59) rfl)) (hw _ (List.mem_of_getElem? (i := 60) rfl)) (by decide) pd12 rfl rfl (W := 0) (Nat.le_of_eq rfl) (by decide) (by decide) (by decide) (by decide) (fun T v w C q => ?_)
  obtain rfl := q
  show Go p e below _ (State.setTop T (mkF m 9 #[.val (.ref x), .val (.int (0 : Int32)), .val (.int (Int32.ofNat cs.length))] [(.int (0 : Int32))]))
  refine g_pop w e21_9 (q := 10) rfl rfl ?_
  refine g_aloadN w e21_10 (q := 11) rfl rfl rfl ?_
  refine g_virtualP w (con_il2 l Z a0 hw x cd _ w.old F_c hcm) no0 U_x.exa e21_11 (q := 14) rfl rfl (hw _ (List.mem_of_getElem? (i := 65) rfl)) (hw _ (List.mem_of_getElem? (i := 66) rfl)) (hw _ (List.mem_of_getElem? (i := 68) rfl)) (hw _ (List.mem_of_getElem? (i := 67) rfl)) (hw _ (List.mem_of_getElem? (i := 11) rfl)) (hw _ (List.mem_of_getElem? (i := 69) rfl)) (by decide) (nf (hw _ (List.mem_of_getElem? (i := 68) rfl))) pd13 rfl rfl (W := 0) (Nat.le_of_eq rfl) (by decide) (by decide) (by decide) (by decide) (fun T v w C q => ?_)
  rcases q with ⟨rfl, hcd⟩ | ⟨rfl, hcd⟩
  · have hcp : cpn cs = 0 := by
      rcases hc with ⟨-, -, -, e⟩ | ⟨e, -⟩
      · exact cpn_lat cs e
      · exact absurd (hcd.symm.trans e) (by decide)
    show Go p e below _ (State.setTop T (mkF m 14 #[.val (.ref x), .val (.int (0 : Int32)), .val (.int (Int32.ofNat cs.length))] [(.int (1 : Int32))]))
    refine g_ifN w e21_14 (q := 17) rfl (by decide) ?_
    refine g_iloadN w e21_17 (q := 18) rfl rfl ?_
    refine g_iloadN w e21_18 (q := 19) rfl rfl ?_
    refine g_isub w e21_19 (q := 20) rfl ?_
    rw [Int32.sub_zero]
    show Go p e below _ (State.setTop T (mkF m 20 #[.val (.ref x), .val (.int (0 : Int32)), .val (.int (Int32.ofNat cs.length))] [(.int (Int32.ofNat cs.length))]))
    exact g_reti w e21_20 rfl (by decide) (by decide) ⟨by rw [hcp]; rfl, rfl⟩
  · rcases hc with ⟨e, -⟩ | ⟨-, e2, e3, hb⟩
    · exact absurd e hcd
    subst e2 e3
    have hpos : 0 < cs.length := by obtain ⟨c0, q0, -⟩ := hb; exact List.length_pos_of_mem q0
    have A_t : Ar Z h0 t .byte (StrChars.Road.wideBytes cs) := ⟨by rw [wide_len]; omega, kb, .int 0, by rw [wide_len]; exact K_t⟩
    show Go p e below _ (State.setTop T (mkF m 14 #[.val (.ref x), .val (.int (0 : Int32)), .val (.int (Int32.ofNat cs.length))] [(.int (0 : Int32))]))
    refine g_ifY w e21_14 (by decide) (q := 21) (by decide) (by decide) ?_
    refine g_aloadN w e21_21 (q := 22) rfl rfl rfl ?_
    refine g_getF w e21_22 (q := 25) rfl (host := "") (Or.inl (hw _ (List.mem_of_getElem? (i := 28) rfl))) Via.refl F_v (fun T w => ?_)
    refine g_iloadN w e21_25 (q := 26) rfl rfl ?_
    refine g_iloadN w e21_26 (q := 27) rfl rfl ?_
    refine g_staticP w (con_cp3 l Z a0 hw t cs _ w.old A_t hpos hn hl SA_ SH_ SL_) no0 e21_27 (q := 30) rfl rfl (hw _ (List.mem_of_getElem? (i := 106) rfl)) (hw _ (List.mem_of_getElem? (i := 107) rfl)) (hw _ (List.mem_of_getElem? (i := 72) rfl)) (hw _ (List.mem_of_getElem? (i := 108) rfl)) (by decide) pd14 rfl rfl (W := 0) (Nat.le_of_eq rfl) (by decide) (by decide) (by decide) (by decide) (fun T v w C q => ?_)
    obtain rfl := q
    show Go p e below _ (State.setTop T (mkF m 30 #[.val (.ref x), .val (.int (0 : Int32)), .val (.int (Int32.ofNat cs.length))] [(.int (Int32.ofNat (cs.length - cpn cs)))]))
    exact g_reti w e21_30 rfl (by decide) (by decide) ⟨rfl, rfl⟩
theorem e22_0 : decode prog_1_method_6_code 0 = .ok (.aload_n 0, 1) := by decide +kernel
theorem e22_1 : decode prog_1_method_6_code 1 = .ok (.iconst 0, 1) := by decide +kernel
theorem e22_2 : decode prog_1_method_6_code 2 = .ok (.aload_n 0, 1) := by decide +kernel
theorem e22_3 : decode prog_1_method_6_code 3 = .ok (.invokevirtual 39, 3) := by decide +kernel
theorem e22_6 : decode prog_1_method_6_code 6 = .ok (.invokevirtual 45, 3) := by decide +kernel
theorem e22_9 : decode prog_1_method_6_code 9 = .ok (.istore 4, 2) := by decide +kernel
theorem e22_11 : decode prog_1_method_6_code 11 = .ok (.iload 4, 2) := by decide +kernel
theorem e22_13 : decode prog_1_method_6_code 13 = .ok (.iload_n 1, 1) := by decide +kernel
theorem e22_14 : decode prog_1_method_6_code 14 = .ok (.if_icmp .le 24, 3) := by decide +kernel
theorem e22_17 : decode prog_1_method_6_code 17 = .ok (.new 2, 3) := by decide +kernel
theorem e22_20 : decode prog_1_method_6_code 20 = .ok (.dup, 1) := by decide +kernel
theorem e22_21 : decode prog_1_method_6_code 21 = .ok (.sipush 400, 3) := by decide +kernel
theorem e22_24 : decode prog_1_method_6_code 24 = .ok (.aload_n 3, 1) := by decide +kernel
theorem e22_25 : decode prog_1_method_6_code 25 = .ok (.aload_n 2, 1) := by decide +kernel
theorem e22_26 : decode prog_1_method_6_code 26 = .ok (.iload 4, 2) := by decide +kernel
theorem e22_28 : decode prog_1_method_6_code 28 = .ok (.iload_n 1, 1) := by decide +kernel
theorem e22_29 : decode prog_1_method_6_code 29 = .ok (.invokedynamic 49, 5) := by decide +kernel
theorem e22_34 : decode prog_1_method_6_code 34 = .ok (.invokespecial 28, 3) := by decide +kernel
theorem e22_37 : decode prog_1_method_6_code 37 = .ok (.athrow, 1) := by decide +kernel
theorem e22_38 : decode prog_1_method_6_code 38 = .ok (.return_, 1) := by decide +kernel
theorem pd15 : parseMethodDescriptor "(II)I" = some ⟨[.int, .int], some .int⟩ := by decide +kernel
theorem pn6 : plainName "com/example/deepquery/deepquery/ApiException" = true := by first | (simp [plainName, overriddenIn]; done) | decide +kernel
set_option maxRecDepth 65536 in
set_option maxHeartbeats 40000000 in
theorem con_ref (l : Launch) (Z : State) (a0 : Array Value) (hw : ∀ d ∈ tables_1, d.before a0 Z = true) (x t1 t2 : Addr) (M_ : Int32) (cs : List Int32) (h0 : Heap) (O0 : Ext Z.heap h0) (U_x : Su Z h0 x cs) (hn : cs.length ≤ 4) (hcm : Cpt Z) (SA_ : Sta Z Z.heap "java/lang/StringUTF16" "$assertionsDisabled" "Z" (.int 1)) (SH_ : Sta Z Z.heap "java/lang/StringUTF16" "HI_BYTE_SHIFT" "I" (.int 0)) (SL_ : Sta Z Z.heap "java/lang/StringUTF16" "LO_BYTE_SHIFT" "I" (.int 8)) (hm : ¬ M_ < Int32.ofNat (cs.length - cpn cs)) :
    Con l Z consts_1 false (⟨"com/example/deepquery/deepquery/ApiException", "refuseLonger", "(Ljava/lang/String;ILjava/lang/String;Ljava/lang/String;)V"⟩ : MethodName) prog_1_method_6_code 5 none [] ({ frames := 4, cells := 0, slots := 0, locals := 58 } : Room) #[(.ref x), (.int M_), (.ref t1), (.ref t2)] [] h0 (fun v h => v = none ∧ h = h0) := by
  refine Con.intro (Ls := #[.val (.ref x), .val (.int M_), .val (.ref t1), .val (.ref t2), .unset]) (plainFor_of_name pn6) (own_EL hw) O0 (fun m => by first | rfl | (simp [entryFrame, mkF, argsToLocals, Value.category]; done)) (fun p e s m below meth cc_ T w sf_ => ?_)
  have E0 := ext_refl h0
  obtain ⟨z_, hz_, SC_⟩ := id hcm
  refine g_aloadN w e22_0 (q := 1) rfl rfl rfl ?_
  refine g_iconst w e22_1 (q := 2) rfl (v := (0 : Int32)) (by decide) ?_
  refine g_aloadN w e22_2 (q := 3) rfl rfl rfl ?_
  refine g_virtualB w (a := x) (argsL := []) (own_lenU hw U_x (w.sta SC_) hz_ (by decide) (by decide)) U_x.exa e22_3 (q := 6) rfl rfl (hw _ (List.mem_of_getElem? (i := 40) rfl)) (hw _ (List.mem_of_getElem? (i := 41) rfl)) (hw _ (List.mem_of_getElem? (i := 43) rfl)) (hw _ (List.mem_of_getElem? (i := 42) rfl)) (by decide) (nf (hw _ (List.mem_of_getElem? (i := 43) rfl))) pd11 rfl rfl (W := 2) (Nat.le_of_eq rfl) (by decide) (by decide) (fun T v w hq => ?_)
  obtain rfl := hq
  show Go p e below _ (State.setTop T (mkF m 6 #[.val (.ref x), .val (.int M_), .val (.ref t1), .val (.ref t2), .unset] [(.int (Int32.ofNat cs.length)), (.int (0 : Int32)), (.ref x)]))
  refine g_virtualP w (con_scp l Z a0 hw x cs _ w.old U_x hn hcm SA_ SH_ SL_) no0 U_x.exa e22_6 (q := 9) rfl rfl (hw _ (List.mem_of_getElem? (i := 51) rfl)) (hw _ (List.mem_of_getElem? (i := 52) rfl)) (hw _ (List.mem_of_getElem? (i := 54) rfl)) (hw _ (List.mem_of_getElem? (i := 53) rfl)) (hw _ (List.mem_of_getElem? (i := 11) rfl)) (hw _ (List.mem_of_getElem? (i := 55) rfl)) (by decide) (nf (hw _ (List.mem_of_getElem? (i := 54) rfl))) pd15 rfl rfl (W := 0) (Nat.le_of_eq rfl) (by decide) (by decide) (by decide) (by decide) (fun T v w C q => ?_)
  obtain rfl := q
  show Go p e below _ (State.setTop T (mkF m 9 #[.val (.ref x), .val (.int M_), .val (.ref t1), .val (.ref t2), .unset] [(.int (Int32.ofNat (cs.length - cpn cs)))]))
  refine g_istore w e22_9 (q := 11) rfl (Ls' := #[.val (.ref x), .val (.int M_), .val (.ref t1), .val (.ref t2), .val (.int (Int32.ofNat (cs.length - cpn cs)))]) rfl ?_
  refine g_iload w e22_11 (q := 13) rfl rfl ?_
  refine g_iloadN w e22_13 (q := 14) rfl rfl ?_
  refine g_icY w e22_14 (by decide) (q := 38) (by decide) (Jvm.Free.XT.ii_le_t hm) ?_
  exact g_return w e22_38 rfl (by decide) (by decide) ⟨rfl, rfl⟩
theorem pd16 : parseMethodDescriptor "(I)C" = some ⟨[.int], some .char⟩ := by decide +kernel
theorem pd17 : parseMethodDescriptor "(CCCCI)[C" = some ⟨[.char, .char, .char, .char, .int], some (.array .char)⟩ := by decide +kernel
theorem pd18 : parseMethodDescriptor "([C)V" = some ⟨[(.array .char)], none⟩ := by decide +kernel
theorem pd19 : parseMethodDescriptor "(Ljava/lang/String;ILjava/lang/String;Ljava/lang/String;)V" = some ⟨[(.object "java/lang/String"), .int, (.object "java/lang/String"), (.object "java/lang/String")], none⟩ := by decide +kernel
theorem pd20 : parseMethodDescriptor "(CC)Z" = some ⟨[.char, .char], some .boolean⟩ := by decide +kernel
set_option maxRecDepth 65536 in
set_option maxHeartbeats 40000000 in
theorem con_law (l : Launch) (Z : State) (a0 : Array Value) (hw : ∀ d ∈ tables_1, d.before a0 Z = true) (j0 : Int32) (j1 : Int32) (j2 : Int32) (j3 : Int32) (j4 : Int32) (j5 : Int32) (h0 : Heap) (O0 : Ext Z.heap h0) (hcm : Cpt Z) (SA_ : Sta Z Z.heap "java/lang/StringUTF16" "$assertionsDisabled" "Z" (.int 1)) (SH_ : Sta Z Z.heap "java/lang/StringUTF16" "HI_BYTE_SHIFT" "I" (.int 0)) (SL_ : Sta Z Z.heap "java/lang/StringUTF16" "LO_BYTE_SHIFT" "I" (.int 8)) :
    Con l Z consts_1 false x code maxLocals ret tables_1 room_1 #[(.int j0), (.int j1), (.int j2), (.int j3), (.int j4), (.int j5)] [] h0 (fun v h => v = some (.int 1)) := by
  refine Con.intro (Ls := #[.val (.int j0), .val (.int j1), .val (.int j2), .val (.int j3), .val (.int j4), .val (.int j5), .unset, .unset, .unset, .unset, .unset, .unset, .unset, .unset, .unset]) (plainFor_of_name pn2) (own_EL hw) O0 (fun m => by first | rfl | (simp [entryFrame, mkF, argsToLocals, Value.category, maxLocals]; done)) (fun p e s m below meth cc_ T w sf_ => ?_)
  have E0 := ext_refl h0
  obtain ⟨z_, hz_, SC_⟩ := id hcm
  refine g_iloadN w at_0 (q := 1) rfl rfl ?_
  refine g_staticP w (con_ch l Z a0 hw j0 _ w.old) no0 at_1 (q := 4) rfl rfl (hw _ (List.mem_of_getElem? (i := 0) rfl)) (hw _ (List.mem_of_getElem? (i := 1) rfl)) (hw _ (List.mem_of_getElem? (i := 2) rfl)) (hw _ (List.mem_of_getElem? (i := 3) rfl)) (by decide) pd16 rfl rfl (W := 0) (Nat.le_of_eq rfl) (by decide) (by decide) (by decide) (by decide) (fun T v w C q => ?_)
  obtain ⟨p1, rfl, l_p1⟩ := q
  show Go p e below _ (State.setTop T (mkF m 4 #[.val (.int j0), .val (.int j1), .val (.int j2), .val (.int j3), .val (.int j4), .val (.int j5), .unset, .unset, .unset, .unset, .unset, .unset, .unset, .unset, .unset] [(.int p1)]))
  refine g_istore w at_4 (q := 6) rfl (Ls' := #[.val (.int j0), .val (.int j1), .val (.int j2), .val (.int j3), .val (.int j4), .val (.int j5), .val (.int p1), .unset, .unset, .unset, .unset, .unset, .unset, .unset, .unset]) rfl ?_
  refine g_iloadN w at_6 (q := 7) rfl rfl ?_
  refine g_staticP w (con_ch l Z a0 hw j1 _ w.old) no0 at_7 (q := 10) rfl rfl (hw _ (List.mem_of_getElem? (i := 0) rfl)) (hw _ (List.mem_of_getElem? (i := 1) rfl)) (hw _ (List.mem_of_getElem? (i := 2) rfl)) (hw _ (List.mem_of_getElem? (i := 3) rfl)) (by decide) pd16 rfl rfl (W := 0) (Nat.le_of_eq rfl) (by decide) (by decide) (by decide) (by decide) (fun T v w C q => ?_)
  obtain ⟨p2, rfl, l_p2⟩ := q
  show Go p e below _ (State.setTop T (mkF m 10 #[.val (.int j0), .val (.int j1), .val (.int j2), .val (.int j3), .val (.int j4), .val (.int j5), .val (.int p1), .unset, .unset, .unset, .unset, .unset, .unset, .unset, .unset] [(.int p2)]))
  refine g_istore w at_10 (q := 12) rfl (Ls' := #[.val (.int j0), .val (.int j1), .val (.int j2), .val (.int j3), .val (.int j4), .val (.int j5), .val (.int p1), .val (.int p2), .unset, .unset, .unset, .unset, .unset, .unset, .unset]) rfl ?_
  refine g_iloadN w at_12 (q := 13) rfl rfl ?_
  refine g_staticP w (con_ch l Z a0 hw j2 _ w.old) no0 at_13 (q := 16) rfl rfl (hw _ (List.mem_of_getElem? (i := 0) rfl)) (hw _ (List.mem_of_getElem? (i := 1) rfl)) (hw _ (List.mem_of_getElem? (i := 2) rfl)) (hw _ (List.mem_of_getElem? (i := 3) rfl)) (by decide) pd16 rfl rfl (W := 0) (Nat.le_of_eq rfl) (by decide) (by decide) (by decide) (by decide) (fun T v w C q => ?_)
  obtain ⟨p3, rfl, l_p3⟩ := q
  show Go p e below _ (State.setTop T (mkF m 16 #[.val (.int j0), .val (.int j1), .val (.int j2), .val (.int j3), .val (.int j4), .val (.int j5), .val (.int p1), .val (.int p2), .unset, .unset, .unset, .unset, .unset, .unset, .unset] [(.int p3)]))
  refine g_istore w at_16 (q := 18) rfl (Ls' := #[.val (.int j0), .val (.int j1), .val (.int j2), .val (.int j3), .val (.int j4), .val (.int j5), .val (.int p1), .val (.int p2), .val (.int p3), .unset, .unset, .unset, .unset, .unset, .unset]) rfl ?_
  refine g_iloadN w at_18 (q := 19) rfl rfl ?_
  refine g_staticP w (con_ch l Z a0 hw j3 _ w.old) no0 at_19 (q := 22) rfl rfl (hw _ (List.mem_of_getElem? (i := 0) rfl)) (hw _ (List.mem_of_getElem? (i := 1) rfl)) (hw _ (List.mem_of_getElem? (i := 2) rfl)) (hw _ (List.mem_of_getElem? (i := 3) rfl)) (by decide) pd16 rfl rfl (W := 0) (Nat.le_of_eq rfl) (by decide) (by decide) (by decide) (by decide) (fun T v w C q => ?_)
  obtain ⟨p4, rfl, l_p4⟩ := q
  show Go p e below _ (State.setTop T (mkF m 22 #[.val (.int j0), .val (.int j1), .val (.int j2), .val (.int j3), .val (.int j4), .val (.int j5), .val (.int p1), .val (.int p2), .val (.int p3), .unset, .unset, .unset, .unset, .unset, .unset] [(.int p4)]))
  refine g_istore w at_22 (q := 24) rfl (Ls' := #[.val (.int j0), .val (.int j1), .val (.int j2), .val (.int j3), .val (.int j4), .val (.int j5), .val (.int p1), .val (.int p2), .val (.int p3), .val (.int p4), .unset, .unset, .unset, .unset, .unset]) rfl ?_
  refine g_iload w at_24 (q := 26) rfl rfl ?_
  refine g_ldcI w at_26 (q := 28) rfl (v := (2147483647 : Int32)) (hw _ (List.mem_of_getElem? (i := 4) rfl)) ?_
  refine g_iand w at_28 (q := 29) rfl ?_
  refine g_iconst w at_29 (q := 30) rfl (v := (5 : Int32)) (by decide) ?_
  refine g_irem w at_30 (q := 31) rfl (by decide) ?_
  refine g_istore w at_31 (q := 33) rfl (Ls' := #[.val (.int j0), .val (.int j1), .val (.int j2), .val (.int j3), .val (.int j4), .val (.int j5), .val (.int p1), .val (.int p2), .val (.int p3), .val (.int p4), .val (.int ((j4 &&& (2147483647 : Int32)) % (5 : Int32))), .unset, .unset, .unset, .unset]) rfl ?_
  have hn5 := mod5 (mask31 j4)
  generalize ((j4 &&& (2147483647 : Int32)) % (5 : Int32)) = n5 at hn5 ⊢
  rcases hn5 with rfl | rfl | rfl | rfl | rfl
  · show Go p e below _ (State.setTop T (mkF m 33 #[.val (.int j0), .val (.int j1), .val (.int j2), .val (.int j3), .val (.int j4), .val (.int j5), .val (.int p1), .val (.int p2), .val (.int p3), .val (.int p4), .val (.int (0 : Int32)), .unset, .unset, .unset, .unset] []))
    refine g_iload w at_33 (q := 35) rfl rfl ?_
    refine g_iload w at_35 (q := 37) rfl rfl ?_
    refine g_iload w at_37 (q := 39) rfl rfl ?_
    refine g_iload w at_39 (q := 41) rfl rfl ?_
    refine g_iload w at_41 (q := 43) rfl rfl ?_
    refine g_static w (con_pre l Z a0 hw p1 p2 p3 p4 (0 : Int32) _ w.old l_p1 l_p2 l_p3 l_p4) no0 at_43 (q := 46) rfl rfl (hw _ (List.mem_of_getElem? (i := 5) rfl)) (hw _ (List.mem_of_getElem? (i := 6) rfl)) (hw _ (List.mem_of_getElem? (i := 2) rfl)) (hw _ (List.mem_of_getElem? (i := 7) rfl)) (by decide) pd17 rfl rfl (W := 0) (Nat.le_of_eq rfl) (by decide) (by decide) (by decide) (by decide) (fun T h v w gs C q => ?_)
    obtain ⟨t, rfl, E, g_t, A_t⟩ := q
    replace A_t : Ar Z h t .char (([] : List Int32).map Value.int) := A_t
    have z_t := Nat.le_trans E0.1 g_t
    replace E0 := ext_trans E0 E
    show Go p e below _ (State.setTop T (mkF m 46 #[.val (.int j0), .val (.int j1), .val (.int j2), .val (.int j3), .val (.int j4), .val (.int j5), .val (.int p1), .val (.int p2), .val (.int p3), .val (.int p4), .val (.int (0 : Int32)), .unset, .unset, .unset, .unset] [(.ref t)]))
    refine g_astore w at_46 (q := 48) rfl rfl (Ls' := #[.val (.int j0), .val (.int j1), .val (.int j2), .val (.int j3), .val (.int j4), .val (.int j5), .val (.int p1), .val (.int p2), .val (.int p3), .val (.int p4), .val (.int (0 : Int32)), .val (.ref t), .unset, .unset, .unset]) rfl ?_
    refine g_new w at_48 (q := 51) rfl (hw _ (List.mem_of_getElem? (i := 9) rfl)) (hw _ (List.mem_of_getElem? (i := 10) rfl)) (hw _ (List.mem_of_getElem? (i := 11) rfl)) (by decide) (by decide) (fun T h a5 w E g_a5 n_a5 X_a5 D_a5 s_a5 => ?_)
    have z_a5 := Nat.le_trans E0.1 g_a5
    have ne_t_a5 : t ≠ a5 := Nat.ne_of_lt (Nat.lt_of_lt_of_le A_t.lt g_a5)
    replace E0 := ext_trans E0 E
    replace A_t := A_t.ext E
    have F_value_a5 := D_a5 (Or.inr (hw _ (List.mem_of_getElem? (i := 24) rfl))) (ty := (.array .byte)) (by decide)
    replace F_value_a5 : Fld Z h a5 "java/lang/String" "value" "[B" .null := F_value_a5
    have F_coder_a5 := D_a5 (Or.inr (hw _ (List.mem_of_getElem? (i := 25) rfl))) (ty := .byte) (by decide)
    replace F_coder_a5 : Fld Z h a5 "java/lang/String" "coder" "B" (.int (0 : Int32)) := F_coder_a5
    refine g_dup w at_51 (q := 52) rfl rfl ?_
    refine g_aload w at_52 (q := 54) rfl rfl rfl ?_
    refine g_special w (con_new1E l Z a0 hw a5 t _ w.old X_a5 F_value_a5 F_coder_a5 n_a5 A_t ne_t_a5) no0 at_54 (q := 57) rfl rfl rfl (hw _ (List.mem_of_getElem? (i := 12) rfl)) (hw _ (List.mem_of_getElem? (i := 13) rfl)) (hw _ (List.mem_of_getElem? (i := 11) rfl)) (hw _ (List.mem_of_getElem? (i := 14) rfl)) (by decide) pd18 rfl rfl (W := 1) (Nat.le_of_eq rfl) (by decide) (by decide) (by decide) (by decide) (fun T h v w gs C q => ?_)
    obtain ⟨rfl, K, S_a5⟩ := q
    have U_a5 := Sg.su S_a5
    replace E0 := ext_keep E0 K z_a5
    have X0 := X_a5
    replace A_t := A_t.keep K (not1 ne_t_a5)
    replace X_a5 := X_a5.keep K
    show Go p e below _ (State.setTop T (mkF m 57 #[.val (.int j0), .val (.int j1), .val (.int j2), .val (.int j3), .val (.int j4), .val (.int j5), .val (.int p1), .val (.int p2), .val (.int p3), .val (.int p4), .val (.int (0 : Int32)), .val (.ref t), .unset, .unset, .unset] [(.ref a5)]))
    refine g_astore w at_57 (q := 59) rfl rfl (Ls' := #[.val (.int j0), .val (.int j1), .val (.int j2), .val (.int j3), .val (.int j4), .val (.int j5), .val (.int p1), .val (.int p2), .val (.int p3), .val (.int p4), .val (.int (0 : Int32)), .val (.ref t), .val (.ref a5), .unset, .unset]) rfl ?_
    refine g_iload w at_59 (q := 61) rfl rfl ?_
    refine g_istore w at_61 (q := 63) rfl (Ls' := #[.val (.int j0), .val (.int j1), .val (.int j2), .val (.int j3), .val (.int j4), .val (.int j5), .val (.int p1), .val (.int p2), .val (.int p3), .val (.int p4), .val (.int (0 : Int32)), .val (.ref t), .val (.ref a5), .val (.int (0 : Int32)), .unset]) rfl ?_
    refine g_iload w at_63 (q := 65) rfl rfl ?_
    refine g_iconst w at_65 (q := 66) rfl (v := (2 : Int32)) (by decide) ?_
    refine g_icY w at_66 (by decide) (q := 85) (by decide) (by decide) ?_
    refine g_iload w at_85 (q := 87) rfl rfl ?_
    refine g_iconst w at_87 (q := 88) rfl (v := (3 : Int32)) (by decide) ?_
    refine g_icY w at_88 (by decide) (q := 107) (by decide) (by decide) ?_
    refine g_iload w at_107 (q := 109) rfl rfl ?_
    refine g_iconst w at_109 (q := 110) rfl (v := (4 : Int32)) (by decide) ?_
    refine g_icY w at_110 (by decide) (q := 129) (by decide) (by decide) ?_
    refine g_iload w at_129 (q := 131) rfl rfl ?_
    refine g_iload w at_131 (q := 133) rfl rfl ?_
    refine g_staticP w (con_max l Z a0 hw (0 : Int32) j5 _ w.old) no0 at_133 (q := 136) rfl rfl (hw _ (List.mem_of_getElem? (i := 30) rfl)) (hw _ (List.mem_of_getElem? (i := 31) rfl)) (hw _ (List.mem_of_getElem? (i := 32) rfl)) (hw _ (List.mem_of_getElem? (i := 33) rfl)) (by decide) pd15 rfl rfl (W := 0) (Nat.le_of_eq rfl) (by decide) (by decide) (by decide) (by decide) (fun T v w C q => ?_)
    obtain rfl := q
    show Go p e below _ (State.setTop T (mkF m 136 #[.val (.int j0), .val (.int j1), .val (.int j2), .val (.int j3), .val (.int j4), .val (.int j5), .val (.int p1), .val (.int p2), .val (.int p3), .val (.int p4), .val (.int (0 : Int32)), .val (.ref t), .val (.ref a5), .val (.int (0 : Int32)), .unset] [(.int (if (0 : Int32) < j5 then j5 else (0 : Int32)))]))
    refine g_istore w at_136 (q := 138) rfl (Ls' := #[.val (.int j0), .val (.int j1), .val (.int j2), .val (.int j3), .val (.int j4), .val (.int j5), .val (.int p1), .val (.int p2), .val (.int p3), .val (.int p4), .val (.int (0 : Int32)), .val (.ref t), .val (.ref a5), .val (.int (0 : Int32)), .val (.int (if (0 : Int32) < j5 then j5 else (0 : Int32)))]) rfl ?_
    refine g_aload w at_138 (q := 140) rfl rfl rfl ?_
    refine g_iload w at_140 (q := 142) rfl rfl ?_
    refine g_ldcO w at_142 (q := 144) rfl rfl (hw _ (List.mem_of_getElem? (i := 34) rfl)) (own_wS hw) (nn := 36) (by decide) (by decide) (by decide) (by decide) (fun T vm h t9 w E C => ?_)
    replace E0 := ext_trans E0 E
    replace U_a5 := U_a5.ext E
    refine g_ldcO w at_144 (q := 146) rfl rfl (hw _ (List.mem_of_getElem? (i := 35) rfl)) (own_wS hw) (nn := 56) (by decide) (by decide) (by decide) (by decide) (fun T vm h t10 w E C => ?_)
    replace E0 := ext_trans E0 E
    replace U_a5 := U_a5.ext E
    have hcn : cpn ([] : List Int32) = 0 := rfl
    have hm : ¬ (if (0 : Int32) < j5 then j5 else (0 : Int32)) < Int32.ofNat ((([] : List Int32)).length - cpn ([] : List Int32)) := by
      rw [hcn, show Int32.ofNat ((([] : List Int32)).length - 0) = (0 : Int32) from (by decide : Int32.ofNat (0 - 0) = (0 : Int32))]
      exact max_ge _ _
    refine g_staticP w (con_ref l Z a0 hw a5 t9 t10 (if (0 : Int32) < j5 then j5 else (0 : Int32)) _ _ w.old U_a5 (Nat.le_of_ble_eq_true rfl) hcm SA_ SH_ SL_ hm) no0 at_146 (q := 149) rfl rfl (hw _ (List.mem_of_getElem? (i := 36) rfl)) (hw _ (List.mem_of_getElem? (i := 37) rfl)) (hw _ (List.mem_of_getElem? (i := 38) rfl)) (hw _ (List.mem_of_getElem? (i := 39) rfl)) (by decide) pd19 rfl rfl (W := 0) (Nat.le_of_eq rfl) (by decide) (by decide) (by decide) (by decide) (fun T v w C q => ?_)
    obtain rfl := q
    show Go p e below _ (State.setTop T (mkF m 149 #[.val (.int j0), .val (.int j1), .val (.int j2), .val (.int j3), .val (.int j4), .val (.int j5), .val (.int p1), .val (.int p2), .val (.int p3), .val (.int p4), .val (.int (0 : Int32)), .val (.ref t), .val (.ref a5), .val (.int (0 : Int32)), .val (.int (if (0 : Int32) < j5 then j5 else (0 : Int32)))] []))
    refine g_iconst w at_149 (q := 150) rfl (v := (1 : Int32)) (by decide) ?_
    exact g_retn w at_150 rfl (by simp) rfl (by decide) (by decide) rfl
  · show Go p e below _ (State.setTop T (mkF m 33 #[.val (.int j0), .val (.int j1), .val (.int j2), .val (.int j3), .val (.int j4), .val (.int j5), .val (.int p1), .val (.int p2), .val (.int p3), .val (.int p4), .val (.int (1 : Int32)), .unset, .unset, .unset, .unset] []))
    refine g_iload w at_33 (q := 35) rfl rfl ?_
    refine g_iload w at_35 (q := 37) rfl rfl ?_
    refine g_iload w at_37 (q := 39) rfl rfl ?_
    refine g_iload w at_39 (q := 41) rfl rfl ?_
    refine g_iload w at_41 (q := 43) rfl rfl ?_
    refine g_static w (con_pre l Z a0 hw p1 p2 p3 p4 (1 : Int32) _ w.old l_p1 l_p2 l_p3 l_p4) no0 at_43 (q := 46) rfl rfl (hw _ (List.mem_of_getElem? (i := 5) rfl)) (hw _ (List.mem_of_getElem? (i := 6) rfl)) (hw _ (List.mem_of_getElem? (i := 2) rfl)) (hw _ (List.mem_of_getElem? (i := 7) rfl)) (by decide) pd17 rfl rfl (W := 0) (Nat.le_of_eq rfl) (by decide) (by decide) (by decide) (by decide) (fun T h v w gs C q => ?_)
    obtain ⟨t, rfl, E, g_t, A_t⟩ := q
    replace A_t : Ar Z h t .char ([p1].map Value.int) := A_t
    have z_t := Nat.le_trans E0.1 g_t
    replace E0 := ext_trans E0 E
    show Go p e below _ (State.setTop T (mkF m 46 #[.val (.int j0), .val (.int j1), .val (.int j2), .val (.int j3), .val (.int j4), .val (.int j5), .val (.int p1), .val (.int p2), .val (.int p3), .val (.int p4), .val (.int (1 : Int32)), .unset, .unset, .unset, .unset] [(.ref t)]))
    refine g_astore w at_46 (q := 48) rfl rfl (Ls' := #[.val (.int j0), .val (.int j1), .val (.int j2), .val (.int j3), .val (.int j4), .val (.int j5), .val (.int p1), .val (.int p2), .val (.int p3), .val (.int p4), .val (.int (1 : Int32)), .val (.ref t), .unset, .unset, .unset]) rfl ?_
    refine g_new w at_48 (q := 51) rfl (hw _ (List.mem_of_getElem? (i := 9) rfl)) (hw _ (List.mem_of_getElem? (i := 10) rfl)) (hw _ (List.mem_of_getElem? (i := 11) rfl)) (by decide) (by decide) (fun T h a11 w E g_a11 n_a11 X_a11 D_a11 s_a11 => ?_)
    have z_a11 := Nat.le_trans E0.1 g_a11
    have ne_t_a11 : t ≠ a11 := Nat.ne_of_lt (Nat.lt_of_lt_of_le A_t.lt g_a11)
    replace E0 := ext_trans E0 E
    replace A_t := A_t.ext E
    have F_value_a11 := D_a11 (Or.inr (hw _ (List.mem_of_getElem? (i := 24) rfl))) (ty := (.array .byte)) (by decide)
    replace F_value_a11 : Fld Z h a11 "java/lang/String" "value" "[B" .null := F_value_a11
    have F_coder_a11 := D_a11 (Or.inr (hw _ (List.mem_of_getElem? (i := 25) rfl))) (ty := .byte) (by decide)
    replace F_coder_a11 : Fld Z h a11 "java/lang/String" "coder" "B" (.int (0 : Int32)) := F_coder_a11
    refine g_dup w at_51 (q := 52) rfl rfl ?_
    refine g_aload w at_52 (q := 54) rfl rfl rfl ?_
    refine g_special w (con_new1U l Z a0 hw a11 t [p1] _ w.old X_a11 F_value_a11 F_coder_a11 n_a11 A_t ne_t_a11 (Nat.le_of_ble_eq_true rfl) (csS l_p1 cs0) (Nat.zero_lt_succ _) hcm SA_ SH_ SL_) no0 at_54 (q := 57) rfl rfl rfl (hw _ (List.mem_of_getElem? (i := 12) rfl)) (hw _ (List.mem_of_getElem? (i := 13) rfl)) (hw _ (List.mem_of_getElem? (i := 11) rfl)) (hw _ (List.mem_of_getElem? (i := 14) rfl)) (by decide) pd18 rfl rfl (W := 1) (Nat.le_of_eq rfl) (by decide) (by decide) (by decide) (by decide) (fun T h v w gs C q => ?_)
    obtain ⟨rfl, K, U_a11⟩ := q
    replace E0 := ext_keep E0 K z_a11
    have X0 := X_a11
    replace A_t := A_t.keep K (not1 ne_t_a11)
    replace X_a11 := X_a11.keep K
    show Go p e below _ (State.setTop T (mkF m 57 #[.val (.int j0), .val (.int j1), .val (.int j2), .val (.int j3), .val (.int j4), .val (.int j5), .val (.int p1), .val (.int p2), .val (.int p3), .val (.int p4), .val (.int (1 : Int32)), .val (.ref t), .unset, .unset, .unset] [(.ref a11)]))
    refine g_astore w at_57 (q := 59) rfl rfl (Ls' := #[.val (.int j0), .val (.int j1), .val (.int j2), .val (.int j3), .val (.int j4), .val (.int j5), .val (.int p1), .val (.int p2), .val (.int p3), .val (.int p4), .val (.int (1 : Int32)), .val (.ref t), .val (.ref a11), .unset, .unset]) rfl ?_
    refine g_iload w at_59 (q := 61) rfl rfl ?_
    refine g_istore w at_61 (q := 63) rfl (Ls' := #[.val (.int j0), .val (.int j1), .val (.int j2), .val (.int j3), .val (.int j4), .val (.int j5), .val (.int p1), .val (.int p2), .val (.int p3), .val (.int p4), .val (.int (1 : Int32)), .val (.ref t), .val (.ref a11), .val (.int (1 : Int32)), .unset]) rfl ?_
    refine g_iload w at_63 (q := 65) rfl rfl ?_
    refine g_iconst w at_65 (q := 66) rfl (v := (2 : Int32)) (by decide) ?_
    refine g_icY w at_66 (by decide) (q := 85) (by decide) (by decide) ?_
    refine g_iload w at_85 (q := 87) rfl rfl ?_
    refine g_iconst w at_87 (q := 88) rfl (v := (3 : Int32)) (by decide) ?_
    refine g_icY w at_88 (by decide) (q := 107) (by decide) (by decide) ?_
    refine g_iload w at_107 (q := 109) rfl rfl ?_
    refine g_iconst w at_109 (q := 110) rfl (v := (4 : Int32)) (by decide) ?_
    refine g_icY w at_110 (by decide) (q := 129) (by decide) (by decide) ?_
    refine g_iload w at_129 (q := 131) rfl rfl ?_
    refine g_iload w at_131 (q := 133) rfl rfl ?_
    refine g_staticP w (con_max l Z a0 hw (1 : Int32) j5 _ w.old) no0 at_133 (q := 136) rfl rfl (hw _ (List.mem_of_getElem? (i := 30) rfl)) (hw _ (List.mem_of_getElem? (i := 31) rfl)) (hw _ (List.mem_of_getElem? (i := 32) rfl)) (hw _ (List.mem_of_getElem? (i := 33) rfl)) (by decide) pd15 rfl rfl (W := 0) (Nat.le_of_eq rfl) (by decide) (by decide) (by decide) (by decide) (fun T v w C q => ?_)
    obtain rfl := q
    show Go p e below _ (State.setTop T (mkF m 136 #[.val (.int j0), .val (.int j1), .val (.int j2), .val (.int j3), .val (.int j4), .val (.int j5), .val (.int p1), .val (.int p2), .val (.int p3), .val (.int p4), .val (.int (1 : Int32)), .val (.ref t), .val (.ref a11), .val (.int (1 : Int32)), .unset] [(.int (if (1 : Int32) < j5 then j5 else (1 : Int32)))]))
    refine g_istore w at_136 (q := 138) rfl (Ls' := #[.val (.int j0), .val (.int j1), .val (.int j2), .val (.int j3), .val (.int j4), .val (.int j5), .val (.int p1), .val (.int p2), .val (.int p3), .val (.int p4), .val (.int (1 : Int32)), .val (.ref t), .val (.ref a11), .val (.int (1 : Int32)), .val (.int (if (1 : Int32) < j5 then j5 else (1 : Int32)))]) rfl ?_
    refine g_aload w at_138 (q := 140) rfl rfl rfl ?_
    refine g_iload w at_140 (q := 142) rfl rfl ?_
    refine g_ldcO w at_142 (q := 144) rfl rfl (hw _ (List.mem_of_getElem? (i := 34) rfl)) (own_wS hw) (nn := 36) (by decide) (by decide) (by decide) (by decide) (fun T vm h t15 w E C => ?_)
    replace E0 := ext_trans E0 E
    replace U_a11 := U_a11.ext E
    refine g_ldcO w at_144 (q := 146) rfl rfl (hw _ (List.mem_of_getElem? (i := 35) rfl)) (own_wS hw) (nn := 56) (by decide) (by decide) (by decide) (by decide) (fun T vm h t16 w E C => ?_)
    replace E0 := ext_trans E0 E
    replace U_a11 := U_a11.ext E
    have hcn : cpn [p1] = 0 := rfl
    have hm : ¬ (if (1 : Int32) < j5 then j5 else (1 : Int32)) < Int32.ofNat (([p1]).length - cpn [p1]) := by
      rw [hcn, show Int32.ofNat (([p1]).length - 0) = (1 : Int32) from (by decide : Int32.ofNat (1 - 0) = (1 : Int32))]
      exact max_ge _ _
    refine g_staticP w (con_ref l Z a0 hw a11 t15 t16 (if (1 : Int32) < j5 then j5 else (1 : Int32)) _ _ w.old U_a11 (Nat.le_of_ble_eq_true rfl) hcm SA_ SH_ SL_ hm) no0 at_146 (q := 149) rfl rfl (hw _ (List.mem_of_getElem? (i := 36) rfl)) (hw _ (List.mem_of_getElem? (i := 37) rfl)) (hw _ (List.mem_of_getElem? (i := 38) rfl)) (hw _ (List.mem_of_getElem? (i := 39) rfl)) (by decide) pd19 rfl rfl (W := 0) (Nat.le_of_eq rfl) (by decide) (by decide) (by decide) (by decide) (fun T v w C q => ?_)
    obtain rfl := q
    show Go p e below _ (State.setTop T (mkF m 149 #[.val (.int j0), .val (.int j1), .val (.int j2), .val (.int j3), .val (.int j4), .val (.int j5), .val (.int p1), .val (.int p2), .val (.int p3), .val (.int p4), .val (.int (1 : Int32)), .val (.ref t), .val (.ref a11), .val (.int (1 : Int32)), .val (.int (if (1 : Int32) < j5 then j5 else (1 : Int32)))] []))
    refine g_iconst w at_149 (q := 150) rfl (v := (1 : Int32)) (by decide) ?_
    exact g_retn w at_150 rfl (by simp) rfl (by decide) (by decide) rfl
  · show Go p e below _ (State.setTop T (mkF m 33 #[.val (.int j0), .val (.int j1), .val (.int j2), .val (.int j3), .val (.int j4), .val (.int j5), .val (.int p1), .val (.int p2), .val (.int p3), .val (.int p4), .val (.int (2 : Int32)), .unset, .unset, .unset, .unset] []))
    refine g_iload w at_33 (q := 35) rfl rfl ?_
    refine g_iload w at_35 (q := 37) rfl rfl ?_
    refine g_iload w at_37 (q := 39) rfl rfl ?_
    refine g_iload w at_39 (q := 41) rfl rfl ?_
    refine g_iload w at_41 (q := 43) rfl rfl ?_
    refine g_static w (con_pre l Z a0 hw p1 p2 p3 p4 (2 : Int32) _ w.old l_p1 l_p2 l_p3 l_p4) no0 at_43 (q := 46) rfl rfl (hw _ (List.mem_of_getElem? (i := 5) rfl)) (hw _ (List.mem_of_getElem? (i := 6) rfl)) (hw _ (List.mem_of_getElem? (i := 2) rfl)) (hw _ (List.mem_of_getElem? (i := 7) rfl)) (by decide) pd17 rfl rfl (W := 0) (Nat.le_of_eq rfl) (by decide) (by decide) (by decide) (by decide) (fun T h v w gs C q => ?_)
    obtain ⟨t, rfl, E, g_t, A_t⟩ := q
    replace A_t : Ar Z h t .char ([p1, p2].map Value.int) := A_t
    have z_t := Nat.le_trans E0.1 g_t
    replace E0 := ext_trans E0 E
    show Go p e below _ (State.setTop T (mkF m 46 #[.val (.int j0), .val (.int j1), .val (.int j2), .val (.int j3), .val (.int j4), .val (.int j5), .val (.int p1), .val (.int p2), .val (.int p3), .val (.int p4), .val (.int (2 : Int32)), .unset, .unset, .unset, .unset] [(.ref t)]))
    refine g_astore w at_46 (q := 48) rfl rfl (Ls' := #[.val (.int j0), .val (.int j1), .val (.int j2), .val (.int j3), .val (.int j4), .val (.int j5), .val (.int p1), .val (.int p2), .val (.int p3), .val (.int p4), .val (.int (2 : Int32)), .val (.ref t), .unset, .unset, .unset]) rfl ?_
    refine g_new w at_48 (q := 51) rfl (hw _ (List.mem_of_getElem? (i := 9) rfl)) (hw _ (List.mem_of_getElem? (i := 10) rfl)) (hw _ (List.mem_of_getElem? (i := 11) rfl)) (by decide) (by decide) (fun T h a17 w E g_a17 n_a17 X_a17 D_a17 s_a17 => ?_)
    have z_a17 := Nat.le_trans E0.1 g_a17
    have ne_t_a17 : t ≠ a17 := Nat.ne_of_lt (Nat.lt_of_lt_of_le A_t.lt g_a17)
    replace E0 := ext_trans E0 E
    replace A_t := A_t.ext E
    have F_value_a17 := D_a17 (Or.inr (hw _ (List.mem_of_getElem? (i := 24) rfl))) (ty := (.array .byte)) (by decide)
    replace F_value_a17 : Fld Z h a17 "java/lang/String" "value" "[B" .null := F_value_a17
    have F_coder_a17 := D_a17 (Or.inr (hw _ (List.mem_of_getElem? (i := 25) rfl))) (ty := .byte) (by decide)
    replace F_coder_a17 : Fld Z h a17 "java/lang/String" "coder" "B" (.int (0 : Int32)) := F_coder_a17
    refine g_dup w at_51 (q := 52) rfl rfl ?_
    refine g_aload w at_52 (q := 54) rfl rfl rfl ?_
    refine g_special w (con_new1U l Z a0 hw a17 t [p1, p2] _ w.old X_a17 F_value_a17 F_coder_a17 n_a17 A_t ne_t_a17 (Nat.le_of_ble_eq_true rfl) (csS l_p1 (csS l_p2 cs0)) (Nat.zero_lt_succ _) hcm SA_ SH_ SL_) no0 at_54 (q := 57) rfl rfl rfl (hw _ (List.mem_of_getElem? (i := 12) rfl)) (hw _ (List.mem_of_getElem? (i := 13) rfl)) (hw _ (List.mem_of_getElem? (i := 11) rfl)) (hw _ (List.mem_of_getElem? (i := 14) rfl)) (by decide) pd18 rfl rfl (W := 1) (Nat.le_of_eq rfl) (by decide) (by decide) (by decide) (by decide) (fun T h v w gs C q => ?_)
    obtain ⟨rfl, K, U_a17⟩ := q
    replace E0 := ext_keep E0 K z_a17
    have X0 := X_a17
    replace A_t := A_t.keep K (not1 ne_t_a17)
    replace X_a17 := X_a17.keep K
    show Go p e below _ (State.setTop T (mkF m 57 #[.val (.int j0), .val (.int j1), .val (.int j2), .val (.int j3), .val (.int j4), .val (.int j5), .val (.int p1), .val (.int p2), .val (.int p3), .val (.int p4), .val (.int (2 : Int32)), .val (.ref t), .unset, .unset, .unset] [(.ref a17)]))
    refine g_astore w at_57 (q := 59) rfl rfl (Ls' := #[.val (.int j0), .val (.int j1), .val (.int j2), .val (.int j3), .val (.int j4), .val (.int j5), .val (.int p1), .val (.int p2), .val (.int p3), .val (.int p4), .val (.int (2 : Int32)), .val (.ref t), .val (.ref a17), .unset, .unset]) rfl ?_
    refine g_iload w at_59 (q := 61) rfl rfl ?_
    refine g_istore w at_61 (q := 63) rfl (Ls' := #[.val (.int j0), .val (.int j1), .val (.int j2), .val (.int j3), .val (.int j4), .val (.int j5), .val (.int p1), .val (.int p2), .val (.int p3), .val (.int p4), .val (.int (2 : Int32)), .val (.ref t), .val (.ref a17), .val (.int (2 : Int32)), .unset]) rfl ?_
    refine g_iload w at_63 (q := 65) rfl rfl ?_
    refine g_iconst w at_65 (q := 66) rfl (v := (2 : Int32)) (by decide) ?_
    refine g_icN w at_66 (q := 69) rfl (Jvm.Free.XT.ii_lt_f Int32.lt_irrefl) ?_
    refine g_iload w at_69 (q := 71) rfl rfl ?_
    refine g_iload w at_71 (q := 73) rfl rfl ?_
    refine g_staticP w (con_pair l Z a0 hw p1 p2 _ w.old) no0 at_73 (q := 76) rfl rfl (hw _ (List.mem_of_getElem? (i := 80) rfl)) (hw _ (List.mem_of_getElem? (i := 81) rfl)) (hw _ (List.mem_of_getElem? (i := 2) rfl)) (hw _ (List.mem_of_getElem? (i := 82) rfl)) (by decide) pd20 rfl rfl (W := 0) (Nat.le_of_eq rfl) (by decide) (by decide) (by decide) (by decide) (fun T v w C q => ?_)
    rcases q with ⟨rfl, t19⟩ | ⟨rfl, t19⟩
    · show Go p e below _ (State.setTop T (mkF m 76 #[.val (.int j0), .val (.int j1), .val (.int j2), .val (.int j3), .val (.int j4), .val (.int j5), .val (.int p1), .val (.int p2), .val (.int p3), .val (.int p4), .val (.int (2 : Int32)), .val (.ref t), .val (.ref a17), .val (.int (2 : Int32)), .unset] [(.int (1 : Int32))]))
      refine g_ifN w at_76 (q := 79) rfl (by decide) ?_
      refine g_iload w at_79 (q := 81) rfl rfl ?_
      refine g_iconst w at_81 (q := 82) rfl (v := (1 : Int32)) (by decide) ?_
      refine g_isub w at_82 (q := 83) rfl ?_
      refine g_istore w at_83 (q := 85) rfl (Ls' := #[.val (.int j0), .val (.int j1), .val (.int j2), .val (.int j3), .val (.int j4), .val (.int j5), .val (.int p1), .val (.int p2), .val (.int p3), .val (.int p4), .val (.int (2 : Int32)), .val (.ref t), .val (.ref a17), .val (.int ((2 : Int32) - (1 : Int32))), .unset]) rfl ?_
      refine g_iload w at_85 (q := 87) rfl rfl ?_
      refine g_iconst w at_87 (q := 88) rfl (v := (3 : Int32)) (by decide) ?_
      refine g_icY w at_88 (by decide) (q := 107) (by decide) (by decide) ?_
      refine g_iload w at_107 (q := 109) rfl rfl ?_
      refine g_iconst w at_109 (q := 110) rfl (v := (4 : Int32)) (by decide) ?_
      refine g_icY w at_110 (by decide) (q := 129) (by decide) (by decide) ?_
      refine g_iload w at_129 (q := 131) rfl rfl ?_
      refine g_iload w at_131 (q := 133) rfl rfl ?_
      refine g_staticP w (con_max l Z a0 hw ((2 : Int32) - (1 : Int32)) j5 _ w.old) no0 at_133 (q := 136) rfl rfl (hw _ (List.mem_of_getElem? (i := 30) rfl)) (hw _ (List.mem_of_getElem? (i := 31) rfl)) (hw _ (List.mem_of_getElem? (i := 32) rfl)) (hw _ (List.mem_of_getElem? (i := 33) rfl)) (by decide) pd15 rfl rfl (W := 0) (Nat.le_of_eq rfl) (by decide) (by decide) (by decide) (by decide) (fun T v w C q => ?_)
      obtain rfl := q
      show Go p e below _ (State.setTop T (mkF m 136 #[.val (.int j0), .val (.int j1), .val (.int j2), .val (.int j3), .val (.int j4), .val (.int j5), .val (.int p1), .val (.int p2), .val (.int p3), .val (.int p4), .val (.int (2 : Int32)), .val (.ref t), .val (.ref a17), .val (.int ((2 : Int32) - (1 : Int32))), .unset] [(.int (if ((2 : Int32) - (1 : Int32)) < j5 then j5 else ((2 : Int32) - (1 : Int32))))]))
      refine g_istore w at_136 (q := 138) rfl (Ls' := #[.val (.int j0), .val (.int j1), .val (.int j2), .val (.int j3), .val (.int j4), .val (.int j5), .val (.int p1), .val (.int p2), .val (.int p3), .val (.int p4), .val (.int (2 : Int32)), .val (.ref t), .val (.ref a17), .val (.int ((2 : Int32) - (1 : Int32))), .val (.int (if ((2 : Int32) - (1 : Int32)) < j5 then j5 else ((2 : Int32) - (1 : Int32))))]) rfl ?_
      refine g_aload w at_138 (q := 140) rfl rfl rfl ?_
      refine g_iload w at_140 (q := 142) rfl rfl ?_
      refine g_ldcO w at_142 (q := 144) rfl rfl (hw _ (List.mem_of_getElem? (i := 34) rfl)) (own_wS hw) (nn := 36) (by decide) (by decide) (by decide) (by decide) (fun T vm h t23 w E C => ?_)
      replace E0 := ext_trans E0 E
      replace U_a17 := U_a17.ext E
      refine g_ldcO w at_144 (q := 146) rfl rfl (hw _ (List.mem_of_getElem? (i := 35) rfl)) (own_wS hw) (nn := 56) (by decide) (by decide) (by decide) (by decide) (fun T vm h t24 w E C => ?_)
      replace E0 := ext_trans E0 E
      replace U_a17 := U_a17.ext E
      have hcn : cpn [p1, p2] = 1 := (cpn_y t19).trans (congrArg (1 + ·) (rfl))
      have hm : ¬ (if ((2 : Int32) - (1 : Int32)) < j5 then j5 else ((2 : Int32) - (1 : Int32))) < Int32.ofNat (([p1, p2]).length - cpn [p1, p2]) := by
        rw [hcn, show Int32.ofNat (([p1, p2]).length - 1) = ((2 : Int32) - (1 : Int32)) from (by decide : Int32.ofNat (2 - 1) = ((2 : Int32) - (1 : Int32)))]
        exact max_ge _ _
      refine g_staticP w (con_ref l Z a0 hw a17 t23 t24 (if ((2 : Int32) - (1 : Int32)) < j5 then j5 else ((2 : Int32) - (1 : Int32))) _ _ w.old U_a17 (Nat.le_of_ble_eq_true rfl) hcm SA_ SH_ SL_ hm) no0 at_146 (q := 149) rfl rfl (hw _ (List.mem_of_getElem? (i := 36) rfl)) (hw _ (List.mem_of_getElem? (i := 37) rfl)) (hw _ (List.mem_of_getElem? (i := 38) rfl)) (hw _ (List.mem_of_getElem? (i := 39) rfl)) (by decide) pd19 rfl rfl (W := 0) (Nat.le_of_eq rfl) (by decide) (by decide) (by decide) (by decide) (fun T v w C q => ?_)
      obtain rfl := q
      show Go p e below _ (State.setTop T (mkF m 149 #[.val (.int j0), .val (.int j1), .val (.int j2), .val (.int j3), .val (.int j4), .val (.int j5), .val (.int p1), .val (.int p2), .val (.int p3), .val (.int p4), .val (.int (2 : Int32)), .val (.ref t), .val (.ref a17), .val (.int ((2 : Int32) - (1 : Int32))), .val (.int (if ((2 : Int32) - (1 : Int32)) < j5 then j5 else ((2 : Int32) - (1 : Int32))))] []))
      refine g_iconst w at_149 (q := 150) rfl (v := (1 : Int32)) (by decide) ?_
      exact g_retn w at_150 rfl (by simp) rfl (by decide) (by decide) rfl
    · show Go p e below _ (State.setTop T (mkF m 76 #[.val (.int j0), .val (.int j1), .val (.int j2), .val (.int j3), .val (.int j4), .val (.int j5), .val (.int p1), .val (.int p2), .val (.int p3), .val (.int p4), .val (.int (2 : Int32)), .val (.ref t), .val (.ref a17), .val (.int (2 : Int32)), .unset] [(.int (0 : Int32))]))
      refine g_ifY w at_76 (by decide) (q := 85) (by decide) (by decide) ?_
      refine g_iload w at_85 (q := 87) rfl rfl ?_
      refine g_iconst w at_87 (q := 88) rfl (v := (3 : Int32)) (by decide) ?_
      refine g_icY w at_88 (by decide) (q := 107) (by decide) (by decide) ?_
      refine g_iload w at_107 (q := 109) rfl rfl ?_
      refine g_iconst w at_109 (q := 110) rfl (v := (4 : Int32)) (by decide) ?_
      refine g_icY w at_110 (by decide) (q := 129) (by decide) (by decide) ?_
      refine g_iload w at_129 (q := 131) rfl rfl ?_
      refine g_iload w at_131 (q := 133) rfl rfl ?_
      refine g_staticP w (con_max l Z a0 hw (2 : Int32) j5 _ w.old) no0 at_133 (q := 136) rfl rfl (hw _ (List.mem_of_getElem? (i := 30) rfl)) (hw _ (List.mem_of_getElem? (i := 31) rfl)) (hw _ (List.mem_of_getElem? (i := 32) rfl)) (hw _ (List.mem_of_getElem? (i := 33) rfl)) (by decide) pd15 rfl rfl (W := 0) (Nat.le_of_eq rfl) (by decide) (by decide) (by decide) (by decide) (fun T v w C q => ?_)
      obtain rfl := q
      show Go p e below _ (State.setTop T (mkF m 136 #[.val (.int j0), .val (.int j1), .val (.int j2), .val (.int j3), .val (.int j4), .val (.int j5), .val (.int p1), .val (.int p2), .val (.int p3), .val (.int p4), .val (.int (2 : Int32)), .val (.ref t), .val (.ref a17), .val (.int (2 : Int32)), .unset] [(.int (if (2 : Int32) < j5 then j5 else (2 : Int32)))]))
      refine g_istore w at_136 (q := 138) rfl (Ls' := #[.val (.int j0), .val (.int j1), .val (.int j2), .val (.int j3), .val (.int j4), .val (.int j5), .val (.int p1), .val (.int p2), .val (.int p3), .val (.int p4), .val (.int (2 : Int32)), .val (.ref t), .val (.ref a17), .val (.int (2 : Int32)), .val (.int (if (2 : Int32) < j5 then j5 else (2 : Int32)))]) rfl ?_
      refine g_aload w at_138 (q := 140) rfl rfl rfl ?_
      refine g_iload w at_140 (q := 142) rfl rfl ?_
      refine g_ldcO w at_142 (q := 144) rfl rfl (hw _ (List.mem_of_getElem? (i := 34) rfl)) (own_wS hw) (nn := 36) (by decide) (by decide) (by decide) (by decide) (fun T vm h t28 w E C => ?_)
      replace E0 := ext_trans E0 E
      replace U_a17 := U_a17.ext E
      refine g_ldcO w at_144 (q := 146) rfl rfl (hw _ (List.mem_of_getElem? (i := 35) rfl)) (own_wS hw) (nn := 56) (by decide) (by decide) (by decide) (by decide) (fun T vm h t29 w E C => ?_)
      replace E0 := ext_trans E0 E
      replace U_a17 := U_a17.ext E
      have hcn : cpn [p1, p2] = 0 := (cpn_n t19).trans (rfl)
      have hm : ¬ (if (2 : Int32) < j5 then j5 else (2 : Int32)) < Int32.ofNat (([p1, p2]).length - cpn [p1, p2]) := by
        rw [hcn, show Int32.ofNat (([p1, p2]).length - 0) = (2 : Int32) from (by decide : Int32.ofNat (2 - 0) = (2 : Int32))]
        exact max_ge _ _
      refine g_staticP w (con_ref l Z a0 hw a17 t28 t29 (if (2 : Int32) < j5 then j5 else (2 : Int32)) _ _ w.old U_a17 (Nat.le_of_ble_eq_true rfl) hcm SA_ SH_ SL_ hm) no0 at_146 (q := 149) rfl rfl (hw _ (List.mem_of_getElem? (i := 36) rfl)) (hw _ (List.mem_of_getElem? (i := 37) rfl)) (hw _ (List.mem_of_getElem? (i := 38) rfl)) (hw _ (List.mem_of_getElem? (i := 39) rfl)) (by decide) pd19 rfl rfl (W := 0) (Nat.le_of_eq rfl) (by decide) (by decide) (by decide) (by decide) (fun T v w C q => ?_)
      obtain rfl := q
      show Go p e below _ (State.setTop T (mkF m 149 #[.val (.int j0), .val (.int j1), .val (.int j2), .val (.int j3), .val (.int j4), .val (.int j5), .val (.int p1), .val (.int p2), .val (.int p3), .val (.int p4), .val (.int (2 : Int32)), .val (.ref t), .val (.ref a17), .val (.int (2 : Int32)), .val (.int (if (2 : Int32) < j5 then j5 else (2 : Int32)))] []))
      refine g_iconst w at_149 (q := 150) rfl (v := (1 : Int32)) (by decide) ?_
      exact g_retn w at_150 rfl (by simp) rfl (by decide) (by decide) rfl
  · show Go p e below _ (State.setTop T (mkF m 33 #[.val (.int j0), .val (.int j1), .val (.int j2), .val (.int j3), .val (.int j4), .val (.int j5), .val (.int p1), .val (.int p2), .val (.int p3), .val (.int p4), .val (.int (3 : Int32)), .unset, .unset, .unset, .unset] []))
    refine g_iload w at_33 (q := 35) rfl rfl ?_
    refine g_iload w at_35 (q := 37) rfl rfl ?_
    refine g_iload w at_37 (q := 39) rfl rfl ?_
    refine g_iload w at_39 (q := 41) rfl rfl ?_
    refine g_iload w at_41 (q := 43) rfl rfl ?_
    refine g_static w (con_pre l Z a0 hw p1 p2 p3 p4 (3 : Int32) _ w.old l_p1 l_p2 l_p3 l_p4) no0 at_43 (q := 46) rfl rfl (hw _ (List.mem_of_getElem? (i := 5) rfl)) (hw _ (List.mem_of_getElem? (i := 6) rfl)) (hw _ (List.mem_of_getElem? (i := 2) rfl)) (hw _ (List.mem_of_getElem? (i := 7) rfl)) (by decide) pd17 rfl rfl (W := 0) (Nat.le_of_eq rfl) (by decide) (by decide) (by decide) (by decide) (fun T h v w gs C q => ?_)
    obtain ⟨t, rfl, E, g_t, A_t⟩ := q
    replace A_t : Ar Z h t .char ([p1, p2, p3].map Value.int) := A_t
    have z_t := Nat.le_trans E0.1 g_t
    replace E0 := ext_trans E0 E
    show Go p e below _ (State.setTop T (mkF m 46 #[.val (.int j0), .val (.int j1), .val (.int j2), .val (.int j3), .val (.int j4), .val (.int j5), .val (.int p1), .val (.int p2), .val (.int p3), .val (.int p4), .val (.int (3 : Int32)), .unset, .unset, .unset, .unset] [(.ref t)]))
    refine g_astore w at_46 (q := 48) rfl rfl (Ls' := #[.val (.int j0), .val (.int j1), .val (.int j2), .val (.int j3), .val (.int j4), .val (.int j5), .val (.int p1), .val (.int p2), .val (.int p3), .val (.int p4), .val (.int (3 : Int32)), .val (.ref t), .unset, .unset, .unset]) rfl ?_
    refine g_new w at_48 (q := 51) rfl (hw _ (List.mem_of_getElem? (i := 9) rfl)) (hw _ (List.mem_of_getElem? (i := 10) rfl)) (hw _ (List.mem_of_getElem? (i := 11) rfl)) (by decide) (by decide) (fun T h a30 w E g_a30 n_a30 X_a30 D_a30 s_a30 => ?_)
    have z_a30 := Nat.le_trans E0.1 g_a30
    have ne_t_a30 : t ≠ a30 := Nat.ne_of_lt (Nat.lt_of_lt_of_le A_t.lt g_a30)
    replace E0 := ext_trans E0 E
    replace A_t := A_t.ext E
    have F_value_a30 := D_a30 (Or.inr (hw _ (List.mem_of_getElem? (i := 24) rfl))) (ty := (.array .byte)) (by decide)
    replace F_value_a30 : Fld Z h a30 "java/lang/String" "value" "[B" .null := F_value_a30
    have F_coder_a30 := D_a30 (Or.inr (hw _ (List.mem_of_getElem? (i := 25) rfl))) (ty := .byte) (by decide)
    replace F_coder_a30 : Fld Z h a30 "java/lang/String" "coder" "B" (.int (0 : Int32)) := F_coder_a30
    refine g_dup w at_51 (q := 52) rfl rfl ?_
    refine g_aload w at_52 (q := 54) rfl rfl rfl ?_
    refine g_special w (con_new1U l Z a0 hw a30 t [p1, p2, p3] _ w.old X_a30 F_value_a30 F_coder_a30 n_a30 A_t ne_t_a30 (Nat.le_of_ble_eq_true rfl) (csS l_p1 (csS l_p2 (csS l_p3 cs0))) (Nat.zero_lt_succ _) hcm SA_ SH_ SL_) no0 at_54 (q := 57) rfl rfl rfl (hw _ (List.mem_of_getElem? (i := 12) rfl)) (hw _ (List.mem_of_getElem? (i := 13) rfl)) (hw _ (List.mem_of_getElem? (i := 11) rfl)) (hw _ (List.mem_of_getElem? (i := 14) rfl)) (by decide) pd18 rfl rfl (W := 1) (Nat.le_of_eq rfl) (by decide) (by decide) (by decide) (by decide) (fun T h v w gs C q => ?_)
    obtain ⟨rfl, K, U_a30⟩ := q
    replace E0 := ext_keep E0 K z_a30
    have X0 := X_a30
    replace A_t := A_t.keep K (not1 ne_t_a30)
    replace X_a30 := X_a30.keep K
    show Go p e below _ (State.setTop T (mkF m 57 #[.val (.int j0), .val (.int j1), .val (.int j2), .val (.int j3), .val (.int j4), .val (.int j5), .val (.int p1), .val (.int p2), .val (.int p3), .val (.int p4), .val (.int (3 : Int32)), .val (.ref t), .unset, .unset, .unset] [(.ref a30)]))
    refine g_astore w at_57 (q := 59) rfl rfl (Ls' := #[.val (.int j0), .val (.int j1), .val (.int j2), .val (.int j3), .val (.int j4), .val (.int j5), .val (.int p1), .val (.int p2), .val (.int p3), .val (.int p4), .val (.int (3 : Int32)), .val (.ref t), .val (.ref a30), .unset, .unset]) rfl ?_
    refine g_iload w at_59 (q := 61) rfl rfl ?_
    refine g_istore w at_61 (q := 63) rfl (Ls' := #[.val (.int j0), .val (.int j1), .val (.int j2), .val (.int j3), .val (.int j4), .val (.int j5), .val (.int p1), .val (.int p2), .val (.int p3), .val (.int p4), .val (.int (3 : Int32)), .val (.ref t), .val (.ref a30), .val (.int (3 : Int32)), .unset]) rfl ?_
    refine g_iload w at_63 (q := 65) rfl rfl ?_
    refine g_iconst w at_65 (q := 66) rfl (v := (2 : Int32)) (by decide) ?_
    refine g_icN w at_66 (q := 69) rfl (by decide) ?_
    refine g_iload w at_69 (q := 71) rfl rfl ?_
    refine g_iload w at_71 (q := 73) rfl rfl ?_
    refine g_staticP w (con_pair l Z a0 hw p1 p2 _ w.old) no0 at_73 (q := 76) rfl rfl (hw _ (List.mem_of_getElem? (i := 80) rfl)) (hw _ (List.mem_of_getElem? (i := 81) rfl)) (hw _ (List.mem_of_getElem? (i := 2) rfl)) (hw _ (List.mem_of_getElem? (i := 82) rfl)) (by decide) pd20 rfl rfl (W := 0) (Nat.le_of_eq rfl) (by decide) (by decide) (by decide) (by decide) (fun T v w C q => ?_)
    rcases q with ⟨rfl, t32⟩ | ⟨rfl, t32⟩
    · show Go p e below _ (State.setTop T (mkF m 76 #[.val (.int j0), .val (.int j1), .val (.int j2), .val (.int j3), .val (.int j4), .val (.int j5), .val (.int p1), .val (.int p2), .val (.int p3), .val (.int p4), .val (.int (3 : Int32)), .val (.ref t), .val (.ref a30), .val (.int (3 : Int32)), .unset] [(.int (1 : Int32))]))
      refine g_ifN w at_76 (q := 79) rfl (by decide) ?_
      refine g_iload w at_79 (q := 81) rfl rfl ?_
      refine g_iconst w at_81 (q := 82) rfl (v := (1 : Int32)) (by decide) ?_
      refine g_isub w at_82 (q := 83) rfl ?_
      refine g_istore w at_83 (q := 85) rfl (Ls' := #[.val (.int j0), .val (.int j1), .val (.int j2), .val (.int j3), .val (.int j4), .val (.int j5), .val (.int p1), .val (.int p2), .val (.int p3), .val (.int p4), .val (.int (3 : Int32)), .val (.ref t), .val (.ref a30), .val (.int ((3 : Int32) - (1 : Int32))), .unset]) rfl ?_
      refine g_iload w at_85 (q := 87) rfl rfl ?_
      refine g_iconst w at_87 (q := 88) rfl (v := (3 : Int32)) (by decide) ?_
      refine g_icN w at_88 (q := 91) rfl (Jvm.Free.XT.ii_lt_f Int32.lt_irrefl) ?_
      refine g_iload w at_91 (q := 93) rfl rfl ?_
      refine g_iload w at_93 (q := 95) rfl rfl ?_
      refine g_staticP w (con_pair l Z a0 hw p2 p3 _ w.old) no0 at_95 (q := 98) rfl rfl (hw _ (List.mem_of_getElem? (i := 80) rfl)) (hw _ (List.mem_of_getElem? (i := 81) rfl)) (hw _ (List.mem_of_getElem? (i := 2) rfl)) (hw _ (List.mem_of_getElem? (i := 82) rfl)) (by decide) pd20 rfl rfl (W := 0) (Nat.le_of_eq rfl) (by decide) (by decide) (by decide) (by decide) (fun T v w C q => ?_)
      rcases q with ⟨rfl, t35⟩ | ⟨rfl, t35⟩
      · show Go p e below _ (State.setTop T (mkF m 98 #[.val (.int j0), .val (.int j1), .val (.int j2), .val (.int j3), .val (.int j4), .val (.int j5), .val (.int p1), .val (.int p2), .val (.int p3), .val (.int p4), .val (.int (3 : Int32)), .val (.ref t), .val (.ref a30), .val (.int ((3 : Int32) - (1 : Int32))), .unset] [(.int (1 : Int32))]))
        exact absurd t35 (pr_not t32)
      · show Go p e below _ (State.setTop T (mkF m 98 #[.val (.int j0), .val (.int j1), .val (.int j2), .val (.int j3), .val (.int j4), .val (.int j5), .val (.int p1), .val (.int p2), .val (.int p3), .val (.int p4), .val (.int (3 : Int32)), .val (.ref t), .val (.ref a30), .val (.int ((3 : Int32) - (1 : Int32))), .unset] [(.int (0 : Int32))]))
        refine g_ifY w at_98 (by decide) (q := 107) (by decide) (by decide) ?_
        refine g_iload w at_107 (q := 109) rfl rfl ?_
        refine g_iconst w at_109 (q := 110) rfl (v := (4 : Int32)) (by decide) ?_
        refine g_icY w at_110 (by decide) (q := 129) (by decide) (by decide) ?_
        refine g_iload w at_129 (q := 131) rfl rfl ?_
        refine g_iload w at_131 (q := 133) rfl rfl ?_
        refine g_staticP w (con_max l Z a0 hw ((3 : Int32) - (1 : Int32)) j5 _ w.old) no0 at_133 (q := 136) rfl rfl (hw _ (List.mem_of_getElem? (i := 30) rfl)) (hw _ (List.mem_of_getElem? (i := 31) rfl)) (hw _ (List.mem_of_getElem? (i := 32) rfl)) (hw _ (List.mem_of_getElem? (i := 33) rfl)) (by decide) pd15 rfl rfl (W := 0) (Nat.le_of_eq rfl) (by decide) (by decide) (by decide) (by decide) (fun T v w C q => ?_)
        obtain rfl := q
        show Go p e below _ (State.setTop T (mkF m 136 #[.val (.int j0), .val (.int j1), .val (.int j2), .val (.int j3), .val (.int j4), .val (.int j5), .val (.int p1), .val (.int p2), .val (.int p3), .val (.int p4), .val (.int (3 : Int32)), .val (.ref t), .val (.ref a30), .val (.int ((3 : Int32) - (1 : Int32))), .unset] [(.int (if ((3 : Int32) - (1 : Int32)) < j5 then j5 else ((3 : Int32) - (1 : Int32))))]))
        refine g_istore w at_136 (q := 138) rfl (Ls' := #[.val (.int j0), .val (.int j1), .val (.int j2), .val (.int j3), .val (.int j4), .val (.int j5), .val (.int p1), .val (.int p2), .val (.int p3), .val (.int p4), .val (.int (3 : Int32)), .val (.ref t), .val (.ref a30), .val (.int ((3 : Int32) - (1 : Int32))), .val (.int (if ((3 : Int32) - (1 : Int32)) < j5 then j5 else ((3 : Int32) - (1 : Int32))))]) rfl ?_
        refine g_aload w at_138 (q := 140) rfl rfl rfl ?_
        refine g_iload w at_140 (q := 142) rfl rfl ?_
        refine g_ldcO w at_142 (q := 144) rfl rfl (hw _ (List.mem_of_getElem? (i := 34) rfl)) (own_wS hw) (nn := 36) (by decide) (by decide) (by decide) (by decide) (fun T vm h t38 w E C => ?_)
        replace E0 := ext_trans E0 E
        replace U_a30 := U_a30.ext E
        refine g_ldcO w at_144 (q := 146) rfl rfl (hw _ (List.mem_of_getElem? (i := 35) rfl)) (own_wS hw) (nn := 56) (by decide) (by decide) (by decide) (by decide) (fun T vm h t39 w E C => ?_)
        replace E0 := ext_trans E0 E
        replace U_a30 := U_a30.ext E
        have hcn : cpn [p1, p2, p3] = 1 := (cpn_y t32).trans (congrArg (1 + ·) (rfl))
        have hm : ¬ (if ((3 : Int32) - (1 : Int32)) < j5 then j5 else ((3 : Int32) - (1 : Int32))) < Int32.ofNat (([p1, p2, p3]).length - cpn [p1, p2, p3]) := by
          rw [hcn, show Int32.ofNat (([p1, p2, p3]).length - 1) = ((3 : Int32) - (1 : Int32)) from (by decide : Int32.ofNat (3 - 1) = ((3 : Int32) - (1 : Int32)))]
          exact max_ge _ _
        refine g_staticP w (con_ref l Z a0 hw a30 t38 t39 (if ((3 : Int32) - (1 : Int32)) < j5 then j5 else ((3 : Int32) - (1 : Int32))) _ _ w.old U_a30 (Nat.le_of_ble_eq_true rfl) hcm SA_ SH_ SL_ hm) no0 at_146 (q := 149) rfl rfl (hw _ (List.mem_of_getElem? (i := 36) rfl)) (hw _ (List.mem_of_getElem? (i := 37) rfl)) (hw _ (List.mem_of_getElem? (i := 38) rfl)) (hw _ (List.mem_of_getElem? (i := 39) rfl)) (by decide) pd19 rfl rfl (W := 0) (Nat.le_of_eq rfl) (by decide) (by decide) (by decide) (by decide) (fun T v w C q => ?_)
        obtain rfl := q
        show Go p e below _ (State.setTop T (mkF m 149 #[.val (.int j0), .val (.int j1), .val (.int j2), .val (.int j3), .val (.int j4), .val (.int j5), .val (.int p1), .val (.int p2), .val (.int p3), .val (.int p4), .val (.int (3 : Int32)), .val (.ref t), .val (.ref a30), .val (.int ((3 : Int32) - (1 : Int32))), .val (.int (if ((3 : Int32) - (1 : Int32)) < j5 then j5 else ((3 : Int32) - (1 : Int32))))] []))
        refine g_iconst w at_149 (q := 150) rfl (v := (1 : Int32)) (by decide) ?_
        exact g_retn w at_150 rfl (by simp) rfl (by decide) (by decide) rfl
    · show Go p e below _ (State.setTop T (mkF m 76 #[.val (.int j0), .val (.int j1), .val (.int j2), .val (.int j3), .val (.int j4), .val (.int j5), .val (.int p1), .val (.int p2), .val (.int p3), .val (.int p4), .val (.int (3 : Int32)), .val (.ref t), .val (.ref a30), .val (.int (3 : Int32)), .unset] [(.int (0 : Int32))]))
      refine g_ifY w at_76 (by decide) (q := 85) (by decide) (by decide) ?_
      refine g_iload w at_85 (q := 87) rfl rfl ?_
      refine g_iconst w at_87 (q := 88) rfl (v := (3 : Int32)) (by decide) ?_
      refine g_icN w at_88 (q := 91) rfl (Jvm.Free.XT.ii_lt_f Int32.lt_irrefl) ?_
      refine g_iload w at_91 (q := 93) rfl rfl ?_
      refine g_iload w at_93 (q := 95) rfl rfl ?_
      refine g_staticP w (con_pair l Z a0 hw p2 p3 _ w.old) no0 at_95 (q := 98) rfl rfl (hw _ (List.mem_of_getElem? (i := 80) rfl)) (hw _ (List.mem_of_getElem? (i := 81) rfl)) (hw _ (List.mem_of_getElem? (i := 2) rfl)) (hw _ (List.mem_of_getElem? (i := 82) rfl)) (by decide) pd20 rfl rfl (W := 0) (Nat.le_of_eq rfl) (by decide) (by decide) (by decide) (by decide) (fun T v w C q => ?_)
      rcases q with ⟨rfl, t42⟩ | ⟨rfl, t42⟩
      · show Go p e below _ (State.setTop T (mkF m 98 #[.val (.int j0), .val (.int j1), .val (.int j2), .val (.int j3), .val (.int j4), .val (.int j5), .val (.int p1), .val (.int p2), .val (.int p3), .val (.int p4), .val (.int (3 : Int32)), .val (.ref t), .val (.ref a30), .val (.int (3 : Int32)), .unset] [(.int (1 : Int32))]))
        refine g_ifN w at_98 (q := 101) rfl (by decide) ?_
        refine g_iload w at_101 (q := 103) rfl rfl ?_
        refine g_iconst w at_103 (q := 104) rfl (v := (1 : Int32)) (by decide) ?_
        refine g_isub w at_104 (q := 105) rfl ?_
        refine g_istore w at_105 (q := 107) rfl (Ls' := #[.val (.int j0), .val (.int j1), .val (.int j2), .val (.int j3), .val (.int j4), .val (.int j5), .val (.int p1), .val (.int p2), .val (.int p3), .val (.int p4), .val (.int (3 : Int32)), .val (.ref t), .val (.ref a30), .val (.int ((3 : Int32) - (1 : Int32))), .unset]) rfl ?_
        refine g_iload w at_107 (q := 109) rfl rfl ?_
        refine g_iconst w at_109 (q := 110) rfl (v := (4 : Int32)) (by decide) ?_
        refine g_icY w at_110 (by decide) (q := 129) (by decide) (by decide) ?_
        refine g_iload w at_129 (q := 131) rfl rfl ?_
        refine g_iload w at_131 (q := 133) rfl rfl ?_
        refine g_staticP w (con_max l Z a0 hw ((3 : Int32) - (1 : Int32)) j5 _ w.old) no0 at_133 (q := 136) rfl rfl (hw _ (List.mem_of_getElem? (i := 30) rfl)) (hw _ (List.mem_of_getElem? (i := 31) rfl)) (hw _ (List.mem_of_getElem? (i := 32) rfl)) (hw _ (List.mem_of_getElem? (i := 33) rfl)) (by decide) pd15 rfl rfl (W := 0) (Nat.le_of_eq rfl) (by decide) (by decide) (by decide) (by decide) (fun T v w C q => ?_)
        obtain rfl := q
        show Go p e below _ (State.setTop T (mkF m 136 #[.val (.int j0), .val (.int j1), .val (.int j2), .val (.int j3), .val (.int j4), .val (.int j5), .val (.int p1), .val (.int p2), .val (.int p3), .val (.int p4), .val (.int (3 : Int32)), .val (.ref t), .val (.ref a30), .val (.int ((3 : Int32) - (1 : Int32))), .unset] [(.int (if ((3 : Int32) - (1 : Int32)) < j5 then j5 else ((3 : Int32) - (1 : Int32))))]))
        refine g_istore w at_136 (q := 138) rfl (Ls' := #[.val (.int j0), .val (.int j1), .val (.int j2), .val (.int j3), .val (.int j4), .val (.int j5), .val (.int p1), .val (.int p2), .val (.int p3), .val (.int p4), .val (.int (3 : Int32)), .val (.ref t), .val (.ref a30), .val (.int ((3 : Int32) - (1 : Int32))), .val (.int (if ((3 : Int32) - (1 : Int32)) < j5 then j5 else ((3 : Int32) - (1 : Int32))))]) rfl ?_
        refine g_aload w at_138 (q := 140) rfl rfl rfl ?_
        refine g_iload w at_140 (q := 142) rfl rfl ?_
        refine g_ldcO w at_142 (q := 144) rfl rfl (hw _ (List.mem_of_getElem? (i := 34) rfl)) (own_wS hw) (nn := 36) (by decide) (by decide) (by decide) (by decide) (fun T vm h t45 w E C => ?_)
        replace E0 := ext_trans E0 E
        replace U_a30 := U_a30.ext E
        refine g_ldcO w at_144 (q := 146) rfl rfl (hw _ (List.mem_of_getElem? (i := 35) rfl)) (own_wS hw) (nn := 56) (by decide) (by decide) (by decide) (by decide) (fun T vm h t46 w E C => ?_)
        replace E0 := ext_trans E0 E
        replace U_a30 := U_a30.ext E
        have hcn : cpn [p1, p2, p3] = 1 := (cpn_n t32).trans ((cpn_y t42).trans (congrArg (1 + ·) (rfl)))
        have hm : ¬ (if ((3 : Int32) - (1 : Int32)) < j5 then j5 else ((3 : Int32) - (1 : Int32))) < Int32.ofNat (([p1, p2, p3]).length - cpn [p1, p2, p3]) := by
          rw [hcn, show Int32.ofNat (([p1, p2, p3]).length - 1) = ((3 : Int32) - (1 : Int32)) from (by decide : Int32.ofNat (3 - 1) = ((3 : Int32) - (1 : Int32)))]
          exact max_ge _ _
        refine g_staticP w (con_ref l Z a0 hw a30 t45 t46 (if ((3 : Int32) - (1 : Int32)) < j5 then j5 else ((3 : Int32) - (1 : Int32))) _ _ w.old U_a30 (Nat.le_of_ble_eq_true rfl) hcm SA_ SH_ SL_ hm) no0 at_146 (q := 149) rfl rfl (hw _ (List.mem_of_getElem? (i := 36) rfl)) (hw _ (List.mem_of_getElem? (i := 37) rfl)) (hw _ (List.mem_of_getElem? (i := 38) rfl)) (hw _ (List.mem_of_getElem? (i := 39) rfl)) (by decide) pd19 rfl rfl (W := 0) (Nat.le_of_eq rfl) (by decide) (by decide) (by decide) (by decide) (fun T v w C q => ?_)
        obtain rfl := q
        show Go p e below _ (State.setTop T (mkF m 149 #[.val (.int j0), .val (.int j1), .val (.int j2), .val (.int j3), .val (.int j4), .val (.int j5), .val (.int p1), .val (.int p2), .val (.int p3), .val (.int p4), .val (.int (3 : Int32)), .val (.ref t), .val (.ref a30), .val (.int ((3 : Int32) - (1 : Int32))), .val (.int (if ((3 : Int32) - (1 : Int32)) < j5 then j5 else ((3 : Int32) - (1 : Int32))))] []))
        refine g_iconst w at_149 (q := 150) rfl (v := (1 : Int32)) (by decide) ?_
        exact g_retn w at_150 rfl (by simp) rfl (by decide) (by decide) rfl
      · show Go p e below _ (State.setTop T (mkF m 98 #[.val (.int j0), .val (.int j1), .val (.int j2), .val (.int j3), .val (.int j4), .val (.int j5), .val (.int p1), .val (.int p2), .val (.int p3), .val (.int p4), .val (.int (3 : Int32)), .val (.ref t), .val (.ref a30), .val (.int (3 : Int32)), .unset] [(.int (0 : Int32))]))
        refine g_ifY w at_98 (by decide) (q := 107) (by decide) (by decide) ?_
        refine g_iload w at_107 (q := 109) rfl rfl ?_
        refine g_iconst w at_109 (q := 110) rfl (v := (4 : Int32)) (by decide) ?_
        refine g_icY w at_110 (by decide) (q := 129) (by decide) (by decide) ?_
        refine g_iload w at_129 (q := 131) rfl rfl ?_
        refine g_iload w at_131 (q := 133) rfl rfl ?_
        refine g_staticP w (con_max l Z a0 hw (3 : Int32) j5 _ w.old) no0 at_133 (q := 136) rfl rfl (hw _ (List.mem_of_getElem? (i := 30) rfl)) (hw _ (List.mem_of_getElem? (i := 31) rfl)) (hw _ (List.mem_of_getElem? (i := 32) rfl)) (hw _ (List.mem_of_getElem? (i := 33) rfl)) (by decide) pd15 rfl rfl (W := 0) (Nat.le_of_eq rfl) (by decide) (by decide) (by decide) (by decide) (fun T v w C q => ?_)
        obtain rfl := q
        show Go p e below _ (State.setTop T (mkF m 136 #[.val (.int j0), .val (.int j1), .val (.int j2), .val (.int j3), .val (.int j4), .val (.int j5), .val (.int p1), .val (.int p2), .val (.int p3), .val (.int p4), .val (.int (3 : Int32)), .val (.ref t), .val (.ref a30), .val (.int (3 : Int32)), .unset] [(.int (if (3 : Int32) < j5 then j5 else (3 : Int32)))]))
        refine g_istore w at_136 (q := 138) rfl (Ls' := #[.val (.int j0), .val (.int j1), .val (.int j2), .val (.int j3), .val (.int j4), .val (.int j5), .val (.int p1), .val (.int p2), .val (.int p3), .val (.int p4), .val (.int (3 : Int32)), .val (.ref t), .val (.ref a30), .val (.int (3 : Int32)), .val (.int (if (3 : Int32) < j5 then j5 else (3 : Int32)))]) rfl ?_
        refine g_aload w at_138 (q := 140) rfl rfl rfl ?_
        refine g_iload w at_140 (q := 142) rfl rfl ?_
        refine g_ldcO w at_142 (q := 144) rfl rfl (hw _ (List.mem_of_getElem? (i := 34) rfl)) (own_wS hw) (nn := 36) (by decide) (by decide) (by decide) (by decide) (fun T vm h t49 w E C => ?_)
        replace E0 := ext_trans E0 E
        replace U_a30 := U_a30.ext E
        refine g_ldcO w at_144 (q := 146) rfl rfl (hw _ (List.mem_of_getElem? (i := 35) rfl)) (own_wS hw) (nn := 56) (by decide) (by decide) (by decide) (by decide) (fun T vm h t50 w E C => ?_)
        replace E0 := ext_trans E0 E
        replace U_a30 := U_a30.ext E
        have hcn : cpn [p1, p2, p3] = 0 := (cpn_n t32).trans ((cpn_n t42).trans (rfl))
        have hm : ¬ (if (3 : Int32) < j5 then j5 else (3 : Int32)) < Int32.ofNat (([p1, p2, p3]).length - cpn [p1, p2, p3]) := by
          rw [hcn, show Int32.ofNat (([p1, p2, p3]).length - 0) = (3 : Int32) from (by decide : Int32.ofNat (3 - 0) = (3 : Int32))]
          exact max_ge _ _
        refine g_staticP w (con_ref l Z a0 hw a30 t49 t50 (if (3 : Int32) < j5 then j5 else (3 : Int32)) _ _ w.old U_a30 (Nat.le_of_ble_eq_true rfl) hcm SA_ SH_ SL_ hm) no0 at_146 (q := 149) rfl rfl (hw _ (List.mem_of_getElem? (i := 36) rfl)) (hw _ (List.mem_of_getElem? (i := 37) rfl)) (hw _ (List.mem_of_getElem? (i := 38) rfl)) (hw _ (List.mem_of_getElem? (i := 39) rfl)) (by decide) pd19 rfl rfl (W := 0) (Nat.le_of_eq rfl) (by decide) (by decide) (by decide) (by decide) (fun T v w C q => ?_)
        obtain rfl := q
        show Go p e below _ (State.setTop T (mkF m 149 #[.val (.int j0), .val (.int j1), .val (.int j2), .val (.int j3), .val (.int j4), .val (.int j5), .val (.int p1), .val (.int p2), .val (.int p3), .val (.int p4), .val (.int (3 : Int32)), .val (.ref t), .val (.ref a30), .val (.int (3 : Int32)), .val (.int (if (3 : Int32) < j5 then j5 else (3 : Int32)))] []))
        refine g_iconst w at_149 (q := 150) rfl (v := (1 : Int32)) (by decide) ?_
        exact g_retn w at_150 rfl (by simp) rfl (by decide) (by decide) rfl
  · show Go p e below _ (State.setTop T (mkF m 33 #[.val (.int j0), .val (.int j1), .val (.int j2), .val (.int j3), .val (.int j4), .val (.int j5), .val (.int p1), .val (.int p2), .val (.int p3), .val (.int p4), .val (.int (4 : Int32)), .unset, .unset, .unset, .unset] []))
    refine g_iload w at_33 (q := 35) rfl rfl ?_
    refine g_iload w at_35 (q := 37) rfl rfl ?_
    refine g_iload w at_37 (q := 39) rfl rfl ?_
    refine g_iload w at_39 (q := 41) rfl rfl ?_
    refine g_iload w at_41 (q := 43) rfl rfl ?_
    refine g_static w (con_pre l Z a0 hw p1 p2 p3 p4 (4 : Int32) _ w.old l_p1 l_p2 l_p3 l_p4) no0 at_43 (q := 46) rfl rfl (hw _ (List.mem_of_getElem? (i := 5) rfl)) (hw _ (List.mem_of_getElem? (i := 6) rfl)) (hw _ (List.mem_of_getElem? (i := 2) rfl)) (hw _ (List.mem_of_getElem? (i := 7) rfl)) (by decide) pd17 rfl rfl (W := 0) (Nat.le_of_eq rfl) (by decide) (by decide) (by decide) (by decide) (fun T h v w gs C q => ?_)
    obtain ⟨t, rfl, E, g_t, A_t⟩ := q
    replace A_t : Ar Z h t .char ([p1, p2, p3, p4].map Value.int) := A_t
    have z_t := Nat.le_trans E0.1 g_t
    replace E0 := ext_trans E0 E
    show Go p e below _ (State.setTop T (mkF m 46 #[.val (.int j0), .val (.int j1), .val (.int j2), .val (.int j3), .val (.int j4), .val (.int j5), .val (.int p1), .val (.int p2), .val (.int p3), .val (.int p4), .val (.int (4 : Int32)), .unset, .unset, .unset, .unset] [(.ref t)]))
    refine g_astore w at_46 (q := 48) rfl rfl (Ls' := #[.val (.int j0), .val (.int j1), .val (.int j2), .val (.int j3), .val (.int j4), .val (.int j5), .val (.int p1), .val (.int p2), .val (.int p3), .val (.int p4), .val (.int (4 : Int32)), .val (.ref t), .unset, .unset, .unset]) rfl ?_
    refine g_new w at_48 (q := 51) rfl (hw _ (List.mem_of_getElem? (i := 9) rfl)) (hw _ (List.mem_of_getElem? (i := 10) rfl)) (hw _ (List.mem_of_getElem? (i := 11) rfl)) (by decide) (by decide) (fun T h a51 w E g_a51 n_a51 X_a51 D_a51 s_a51 => ?_)
    have z_a51 := Nat.le_trans E0.1 g_a51
    have ne_t_a51 : t ≠ a51 := Nat.ne_of_lt (Nat.lt_of_lt_of_le A_t.lt g_a51)
    replace E0 := ext_trans E0 E
    replace A_t := A_t.ext E
    have F_value_a51 := D_a51 (Or.inr (hw _ (List.mem_of_getElem? (i := 24) rfl))) (ty := (.array .byte)) (by decide)
    replace F_value_a51 : Fld Z h a51 "java/lang/String" "value" "[B" .null := F_value_a51
    have F_coder_a51 := D_a51 (Or.inr (hw _ (List.mem_of_getElem? (i := 25) rfl))) (ty := .byte) (by decide)
    replace F_coder_a51 : Fld Z h a51 "java/lang/String" "coder" "B" (.int (0 : Int32)) := F_coder_a51
    refine g_dup w at_51 (q := 52) rfl rfl ?_
    refine g_aload w at_52 (q := 54) rfl rfl rfl ?_
    refine g_special w (con_new1U l Z a0 hw a51 t [p1, p2, p3, p4] _ w.old X_a51 F_value_a51 F_coder_a51 n_a51 A_t ne_t_a51 (Nat.le_of_ble_eq_true rfl) (csS l_p1 (csS l_p2 (csS l_p3 (csS l_p4 cs0)))) (Nat.zero_lt_succ _) hcm SA_ SH_ SL_) no0 at_54 (q := 57) rfl rfl rfl (hw _ (List.mem_of_getElem? (i := 12) rfl)) (hw _ (List.mem_of_getElem? (i := 13) rfl)) (hw _ (List.mem_of_getElem? (i := 11) rfl)) (hw _ (List.mem_of_getElem? (i := 14) rfl)) (by decide) pd18 rfl rfl (W := 1) (Nat.le_of_eq rfl) (by decide) (by decide) (by decide) (by decide) (fun T h v w gs C q => ?_)
    obtain ⟨rfl, K, U_a51⟩ := q
    replace E0 := ext_keep E0 K z_a51
    have X0 := X_a51
    replace A_t := A_t.keep K (not1 ne_t_a51)
    replace X_a51 := X_a51.keep K
    show Go p e below _ (State.setTop T (mkF m 57 #[.val (.int j0), .val (.int j1), .val (.int j2), .val (.int j3), .val (.int j4), .val (.int j5), .val (.int p1), .val (.int p2), .val (.int p3), .val (.int p4), .val (.int (4 : Int32)), .val (.ref t), .unset, .unset, .unset] [(.ref a51)]))
    refine g_astore w at_57 (q := 59) rfl rfl (Ls' := #[.val (.int j0), .val (.int j1), .val (.int j2), .val (.int j3), .val (.int j4), .val (.int j5), .val (.int p1), .val (.int p2), .val (.int p3), .val (.int p4), .val (.int (4 : Int32)), .val (.ref t), .val (.ref a51), .unset, .unset]) rfl ?_
    refine g_iload w at_59 (q := 61) rfl rfl ?_
    refine g_istore w at_61 (q := 63) rfl (Ls' := #[.val (.int j0), .val (.int j1), .val (.int j2), .val (.int j3), .val (.int j4), .val (.int j5), .val (.int p1), .val (.int p2), .val (.int p3), .val (.int p4), .val (.int (4 : Int32)), .val (.ref t), .val (.ref a51), .val (.int (4 : Int32)), .unset]) rfl ?_
    refine g_iload w at_63 (q := 65) rfl rfl ?_
    refine g_iconst w at_65 (q := 66) rfl (v := (2 : Int32)) (by decide) ?_
    refine g_icN w at_66 (q := 69) rfl (by decide) ?_
    refine g_iload w at_69 (q := 71) rfl rfl ?_
    refine g_iload w at_71 (q := 73) rfl rfl ?_
    refine g_staticP w (con_pair l Z a0 hw p1 p2 _ w.old) no0 at_73 (q := 76) rfl rfl (hw _ (List.mem_of_getElem? (i := 80) rfl)) (hw _ (List.mem_of_getElem? (i := 81) rfl)) (hw _ (List.mem_of_getElem? (i := 2) rfl)) (hw _ (List.mem_of_getElem? (i := 82) rfl)) (by decide) pd20 rfl rfl (W := 0) (Nat.le_of_eq rfl) (by decide) (by decide) (by decide) (by decide) (fun T v w C q => ?_)
    rcases q with ⟨rfl, t53⟩ | ⟨rfl, t53⟩
    · show Go p e below _ (State.setTop T (mkF m 76 #[.val (.int j0), .val (.int j1), .val (.int j2), .val (.int j3), .val (.int j4), .val (.int j5), .val (.int p1), .val (.int p2), .val (.int p3), .val (.int p4), .val (.int (4 : Int32)), .val (.ref t), .val (.ref a51), .val (.int (4 : Int32)), .unset] [(.int (1 : Int32))]))
      refine g_ifN w at_76 (q := 79) rfl (by decide) ?_
      refine g_iload w at_79 (q := 81) rfl rfl ?_
      refine g_iconst w at_81 (q := 82) rfl (v := (1 : Int32)) (by decide) ?_
      refine g_isub w at_82 (q := 83) rfl ?_
      refine g_istore w at_83 (q := 85) rfl (Ls' := #[.val (.int j0), .val (.int j1), .val (.int j2), .val (.int j3), .val (.int j4), .val (.int j5), .val (.int p1), .val (.int p2), .val (.int p3), .val (.int p4), .val (.int (4 : Int32)), .val (.ref t), .val (.ref a51), .val (.int ((4 : Int32) - (1 : Int32))), .unset]) rfl ?_
      refine g_iload w at_85 (q := 87) rfl rfl ?_
      refine g_iconst w at_87 (q := 88) rfl (v := (3 : Int32)) (by decide) ?_
      refine g_icN w at_88 (q := 91) rfl (by decide) ?_
      refine g_iload w at_91 (q := 93) rfl rfl ?_
      refine g_iload w at_93 (q := 95) rfl rfl ?_
      refine g_staticP w (con_pair l Z a0 hw p2 p3 _ w.old) no0 at_95 (q := 98) rfl rfl (hw _ (List.mem_of_getElem? (i := 80) rfl)) (hw _ (List.mem_of_getElem? (i := 81) rfl)) (hw _ (List.mem_of_getElem? (i := 2) rfl)) (hw _ (List.mem_of_getElem? (i := 82) rfl)) (by decide) pd20 rfl rfl (W := 0) (Nat.le_of_eq rfl) (by decide) (by decide) (by decide) (by decide) (fun T v w C q => ?_)
      rcases q with ⟨rfl, t56⟩ | ⟨rfl, t56⟩
      · show Go p e below _ (State.setTop T (mkF m 98 #[.val (.int j0), .val (.int j1), .val (.int j2), .val (.int j3), .val (.int j4), .val (.int j5), .val (.int p1), .val (.int p2), .val (.int p3), .val (.int p4), .val (.int (4 : Int32)), .val (.ref t), .val (.ref a51), .val (.int ((4 : Int32) - (1 : Int32))), .unset] [(.int (1 : Int32))]))
        exact absurd t56 (pr_not t53)
      · show Go p e below _ (State.setTop T (mkF m 98 #[.val (.int j0), .val (.int j1), .val (.int j2), .val (.int j3), .val (.int j4), .val (.int j5), .val (.int p1), .val (.int p2), .val (.int p3), .val (.int p4), .val (.int (4 : Int32)), .val (.ref t), .val (.ref a51), .val (.int ((4 : Int32) - (1 : Int32))), .unset] [(.int (0 : Int32))]))
        refine g_ifY w at_98 (by decide) (q := 107) (by decide) (by decide) ?_
        refine g_iload w at_107 (q := 109) rfl rfl ?_
        refine g_iconst w at_109 (q := 110) rfl (v := (4 : Int32)) (by decide) ?_
        refine g_icN w at_110 (q := 113) rfl (Jvm.Free.XT.ii_lt_f Int32.lt_irrefl) ?_
        refine g_iload w at_113 (q := 115) rfl rfl ?_
        refine g_iload w at_115 (q := 117) rfl rfl ?_
        refine g_staticP w (con_pair l Z a0 hw p3 p4 _ w.old) no0 at_117 (q := 120) rfl rfl (hw _ (List.mem_of_getElem? (i := 80) rfl)) (hw _ (List.mem_of_getElem? (i := 81) rfl)) (hw _ (List.mem_of_getElem? (i := 2) rfl)) (hw _ (List.mem_of_getElem? (i := 82) rfl)) (by decide) pd20 rfl rfl (W := 0) (Nat.le_of_eq rfl) (by decide) (by decide) (by decide) (by decide) (fun T v w C q => ?_)
        rcases q with ⟨rfl, t59⟩ | ⟨rfl, t59⟩
        · show Go p e below _ (State.setTop T (mkF m 120 #[.val (.int j0), .val (.int j1), .val (.int j2), .val (.int j3), .val (.int j4), .val (.int j5), .val (.int p1), .val (.int p2), .val (.int p3), .val (.int p4), .val (.int (4 : Int32)), .val (.ref t), .val (.ref a51), .val (.int ((4 : Int32) - (1 : Int32))), .unset] [(.int (1 : Int32))]))
          refine g_ifN w at_120 (q := 123) rfl (by decide) ?_
          refine g_iload w at_123 (q := 125) rfl rfl ?_
          refine g_iconst w at_125 (q := 126) rfl (v := (1 : Int32)) (by decide) ?_
          refine g_isub w at_126 (q := 127) rfl ?_
          refine g_istore w at_127 (q := 129) rfl (Ls' := #[.val (.int j0), .val (.int j1), .val (.int j2), .val (.int j3), .val (.int j4), .val (.int j5), .val (.int p1), .val (.int p2), .val (.int p3), .val (.int p4), .val (.int (4 : Int32)), .val (.ref t), .val (.ref a51), .val (.int (((4 : Int32) - (1 : Int32)) - (1 : Int32))), .unset]) rfl ?_
          refine g_iload w at_129 (q := 131) rfl rfl ?_
          refine g_iload w at_131 (q := 133) rfl rfl ?_
          refine g_staticP w (con_max l Z a0 hw (((4 : Int32) - (1 : Int32)) - (1 : Int32)) j5 _ w.old) no0 at_133 (q := 136) rfl rfl (hw _ (List.mem_of_getElem? (i := 30) rfl)) (hw _ (List.mem_of_getElem? (i := 31) rfl)) (hw _ (List.mem_of_getElem? (i := 32) rfl)) (hw _ (List.mem_of_getElem? (i := 33) rfl)) (by decide) pd15 rfl rfl (W := 0) (Nat.le_of_eq rfl) (by decide) (by decide) (by decide) (by decide) (fun T v w C q => ?_)
          obtain rfl := q
          show Go p e below _ (State.setTop T (mkF m 136 #[.val (.int j0), .val (.int j1), .val (.int j2), .val (.int j3), .val (.int j4), .val (.int j5), .val (.int p1), .val (.int p2), .val (.int p3), .val (.int p4), .val (.int (4 : Int32)), .val (.ref t), .val (.ref a51), .val (.int (((4 : Int32) - (1 : Int32)) - (1 : Int32))), .unset] [(.int (if (((4 : Int32) - (1 : Int32)) - (1 : Int32)) < j5 then j5 else (((4 : Int32) - (1 : Int32)) - (1 : Int32))))]))
          refine g_istore w at_136 (q := 138) rfl (Ls' := #[.val (.int j0), .val (.int j1), .val (.int j2), .val (.int j3), .val (.int j4), .val (.int j5), .val (.int p1), .val (.int p2), .val (.int p3), .val (.int p4), .val (.int (4 : Int32)), .val (.ref t), .val (.ref a51), .val (.int (((4 : Int32) - (1 : Int32)) - (1 : Int32))), .val (.int (if (((4 : Int32) - (1 : Int32)) - (1 : Int32)) < j5 then j5 else (((4 : Int32) - (1 : Int32)) - (1 : Int32))))]) rfl ?_
          refine g_aload w at_138 (q := 140) rfl rfl rfl ?_
          refine g_iload w at_140 (q := 142) rfl rfl ?_
          refine g_ldcO w at_142 (q := 144) rfl rfl (hw _ (List.mem_of_getElem? (i := 34) rfl)) (own_wS hw) (nn := 36) (by decide) (by decide) (by decide) (by decide) (fun T vm h t61 w E C => ?_)
          replace E0 := ext_trans E0 E
          replace U_a51 := U_a51.ext E
          refine g_ldcO w at_144 (q := 146) rfl rfl (hw _ (List.mem_of_getElem? (i := 35) rfl)) (own_wS hw) (nn := 56) (by decide) (by decide) (by decide) (by decide) (fun T vm h t62 w E C => ?_)
          replace E0 := ext_trans E0 E
          replace U_a51 := U_a51.ext E
          have hcn : cpn [p1, p2, p3, p4] = 2 := (cpn_y t53).trans (congrArg (1 + ·) ((cpn_y t59).trans (congrArg (1 + ·) (rfl))))
          have hm : ¬ (if (((4 : Int32) - (1 : Int32)) - (1 : Int32)) < j5 then j5 else (((4 : Int32) - (1 : Int32)) - (1 : Int32))) < Int32.ofNat (([p1, p2, p3, p4]).length - cpn [p1, p2, p3, p4]) := by
            rw [hcn, show Int32.ofNat (([p1, p2, p3, p4]).length - 2) = (((4 : Int32) - (1 : Int32)) - (1 : Int32)) from (by decide : Int32.ofNat (4 - 2) = (((4 : Int32) - (1 : Int32)) - (1 : Int32)))]
            exact max_ge _ _
          refine g_staticP w (con_ref l Z a0 hw a51 t61 t62 (if (((4 : Int32) - (1 : Int32)) - (1 : Int32)) < j5 then j5 else (((4 : Int32) - (1 : Int32)) - (1 : Int32))) _ _ w.old U_a51 (Nat.le_of_ble_eq_true rfl) hcm SA_ SH_ SL_ hm) no0 at_146 (q := 149) rfl rfl (hw _ (List.mem_of_getElem? (i := 36) rfl)) (hw _ (List.mem_of_getElem? (i := 37) rfl)) (hw _ (List.mem_of_getElem? (i := 38) rfl)) (hw _ (List.mem_of_getElem? (i := 39) rfl)) (by decide) pd19 rfl rfl (W := 0) (Nat.le_of_eq rfl) (by decide) (by decide) (by decide) (by decide) (fun T v w C q => ?_)
          obtain rfl := q
          show Go p e below _ (State.setTop T (mkF m 149 #[.val (.int j0), .val (.int j1), .val (.int j2), .val (.int j3), .val (.int j4), .val (.int j5), .val (.int p1), .val (.int p2), .val (.int p3), .val (.int p4), .val (.int (4 : Int32)), .val (.ref t), .val (.ref a51), .val (.int (((4 : Int32) - (1 : Int32)) - (1 : Int32))), .val (.int (if (((4 : Int32) - (1 : Int32)) - (1 : Int32)) < j5 then j5 else (((4 : Int32) - (1 : Int32)) - (1 : Int32))))] []))
          refine g_iconst w at_149 (q := 150) rfl (v := (1 : Int32)) (by decide) ?_
          exact g_retn w at_150 rfl (by simp) rfl (by decide) (by decide) rfl
        · show Go p e below _ (State.setTop T (mkF m 120 #[.val (.int j0), .val (.int j1), .val (.int j2), .val (.int j3), .val (.int j4), .val (.int j5), .val (.int p1), .val (.int p2), .val (.int p3), .val (.int p4), .val (.int (4 : Int32)), .val (.ref t), .val (.ref a51), .val (.int ((4 : Int32) - (1 : Int32))), .unset] [(.int (0 : Int32))]))
          refine g_ifY w at_120 (by decide) (q := 129) (by decide) (by decide) ?_
          refine g_iload w at_129 (q := 131) rfl rfl ?_
          refine g_iload w at_131 (q := 133) rfl rfl ?_
          refine g_staticP w (con_max l Z a0 hw ((4 : Int32) - (1 : Int32)) j5 _ w.old) no0 at_133 (q := 136) rfl rfl (hw _ (List.mem_of_getElem? (i := 30) rfl)) (hw _ (List.mem_of_getElem? (i := 31) rfl)) (hw _ (List.mem_of_getElem? (i := 32) rfl)) (hw _ (List.mem_of_getElem? (i := 33) rfl)) (by decide) pd15 rfl rfl (W := 0) (Nat.le_of_eq rfl) (by decide) (by decide) (by decide) (by decide) (fun T v w C q => ?_)
          obtain rfl := q
          show Go p e below _ (State.setTop T (mkF m 136 #[.val (.int j0), .val (.int j1), .val (.int j2), .val (.int j3), .val (.int j4), .val (.int j5), .val (.int p1), .val (.int p2), .val (.int p3), .val (.int p4), .val (.int (4 : Int32)), .val (.ref t), .val (.ref a51), .val (.int ((4 : Int32) - (1 : Int32))), .unset] [(.int (if ((4 : Int32) - (1 : Int32)) < j5 then j5 else ((4 : Int32) - (1 : Int32))))]))
          refine g_istore w at_136 (q := 138) rfl (Ls' := #[.val (.int j0), .val (.int j1), .val (.int j2), .val (.int j3), .val (.int j4), .val (.int j5), .val (.int p1), .val (.int p2), .val (.int p3), .val (.int p4), .val (.int (4 : Int32)), .val (.ref t), .val (.ref a51), .val (.int ((4 : Int32) - (1 : Int32))), .val (.int (if ((4 : Int32) - (1 : Int32)) < j5 then j5 else ((4 : Int32) - (1 : Int32))))]) rfl ?_
          refine g_aload w at_138 (q := 140) rfl rfl rfl ?_
          refine g_iload w at_140 (q := 142) rfl rfl ?_
          refine g_ldcO w at_142 (q := 144) rfl rfl (hw _ (List.mem_of_getElem? (i := 34) rfl)) (own_wS hw) (nn := 36) (by decide) (by decide) (by decide) (by decide) (fun T vm h t64 w E C => ?_)
          replace E0 := ext_trans E0 E
          replace U_a51 := U_a51.ext E
          refine g_ldcO w at_144 (q := 146) rfl rfl (hw _ (List.mem_of_getElem? (i := 35) rfl)) (own_wS hw) (nn := 56) (by decide) (by decide) (by decide) (by decide) (fun T vm h t65 w E C => ?_)
          replace E0 := ext_trans E0 E
          replace U_a51 := U_a51.ext E
          have hcn : cpn [p1, p2, p3, p4] = 1 := (cpn_y t53).trans (congrArg (1 + ·) ((cpn_n t59).trans (rfl)))
          have hm : ¬ (if ((4 : Int32) - (1 : Int32)) < j5 then j5 else ((4 : Int32) - (1 : Int32))) < Int32.ofNat (([p1, p2, p3, p4]).length - cpn [p1, p2, p3, p4]) := by
            rw [hcn, show Int32.ofNat (([p1, p2, p3, p4]).length - 1) = ((4 : Int32) - (1 : Int32)) from (by decide : Int32.ofNat (4 - 1) = ((4 : Int32) - (1 : Int32)))]
            exact max_ge _ _
          refine g_staticP w (con_ref l Z a0 hw a51 t64 t65 (if ((4 : Int32) - (1 : Int32)) < j5 then j5 else ((4 : Int32) - (1 : Int32))) _ _ w.old U_a51 (Nat.le_of_ble_eq_true rfl) hcm SA_ SH_ SL_ hm) no0 at_146 (q := 149) rfl rfl (hw _ (List.mem_of_getElem? (i := 36) rfl)) (hw _ (List.mem_of_getElem? (i := 37) rfl)) (hw _ (List.mem_of_getElem? (i := 38) rfl)) (hw _ (List.mem_of_getElem? (i := 39) rfl)) (by decide) pd19 rfl rfl (W := 0) (Nat.le_of_eq rfl) (by decide) (by decide) (by decide) (by decide) (fun T v w C q => ?_)
          obtain rfl := q
          show Go p e below _ (State.setTop T (mkF m 149 #[.val (.int j0), .val (.int j1), .val (.int j2), .val (.int j3), .val (.int j4), .val (.int j5), .val (.int p1), .val (.int p2), .val (.int p3), .val (.int p4), .val (.int (4 : Int32)), .val (.ref t), .val (.ref a51), .val (.int ((4 : Int32) - (1 : Int32))), .val (.int (if ((4 : Int32) - (1 : Int32)) < j5 then j5 else ((4 : Int32) - (1 : Int32))))] []))
          refine g_iconst w at_149 (q := 150) rfl (v := (1 : Int32)) (by decide) ?_
          exact g_retn w at_150 rfl (by simp) rfl (by decide) (by decide) rfl
    · show Go p e below _ (State.setTop T (mkF m 76 #[.val (.int j0), .val (.int j1), .val (.int j2), .val (.int j3), .val (.int j4), .val (.int j5), .val (.int p1), .val (.int p2), .val (.int p3), .val (.int p4), .val (.int (4 : Int32)), .val (.ref t), .val (.ref a51), .val (.int (4 : Int32)), .unset] [(.int (0 : Int32))]))
      refine g_ifY w at_76 (by decide) (q := 85) (by decide) (by decide) ?_
      refine g_iload w at_85 (q := 87) rfl rfl ?_
      refine g_iconst w at_87 (q := 88) rfl (v := (3 : Int32)) (by decide) ?_
      refine g_icN w at_88 (q := 91) rfl (by decide) ?_
      refine g_iload w at_91 (q := 93) rfl rfl ?_
      refine g_iload w at_93 (q := 95) rfl rfl ?_
      refine g_staticP w (con_pair l Z a0 hw p2 p3 _ w.old) no0 at_95 (q := 98) rfl rfl (hw _ (List.mem_of_getElem? (i := 80) rfl)) (hw _ (List.mem_of_getElem? (i := 81) rfl)) (hw _ (List.mem_of_getElem? (i := 2) rfl)) (hw _ (List.mem_of_getElem? (i := 82) rfl)) (by decide) pd20 rfl rfl (W := 0) (Nat.le_of_eq rfl) (by decide) (by decide) (by decide) (by decide) (fun T v w C q => ?_)
      rcases q with ⟨rfl, t68⟩ | ⟨rfl, t68⟩
      · show Go p e below _ (State.setTop T (mkF m 98 #[.val (.int j0), .val (.int j1), .val (.int j2), .val (.int j3), .val (.int j4), .val (.int j5), .val (.int p1), .val (.int p2), .val (.int p3), .val (.int p4), .val (.int (4 : Int32)), .val (.ref t), .val (.ref a51), .val (.int (4 : Int32)), .unset] [(.int (1 : Int32))]))
        refine g_ifN w at_98 (q := 101) rfl (by decide) ?_
        refine g_iload w at_101 (q := 103) rfl rfl ?_
        refine g_iconst w at_103 (q := 104) rfl (v := (1 : Int32)) (by decide) ?_
        refine g_isub w at_104 (q := 105) rfl ?_
        refine g_istore w at_105 (q := 107) rfl (Ls' := #[.val (.int j0), .val (.int j1), .val (.int j2), .val (.int j3), .val (.int j4), .val (.int j5), .val (.int p1), .val (.int p2), .val (.int p3), .val (.int p4), .val (.int (4 : Int32)), .val (.ref t), .val (.ref a51), .val (.int ((4 : Int32) - (1 : Int32))), .unset]) rfl ?_
        refine g_iload w at_107 (q := 109) rfl rfl ?_
        refine g_iconst w at_109 (q := 110) rfl (v := (4 : Int32)) (by decide) ?_
        refine g_icN w at_110 (q := 113) rfl (Jvm.Free.XT.ii_lt_f Int32.lt_irrefl) ?_
        refine g_iload w at_113 (q := 115) rfl rfl ?_
        refine g_iload w at_115 (q := 117) rfl rfl ?_
        refine g_staticP w (con_pair l Z a0 hw p3 p4 _ w.old) no0 at_117 (q := 120) rfl rfl (hw _ (List.mem_of_getElem? (i := 80) rfl)) (hw _ (List.mem_of_getElem? (i := 81) rfl)) (hw _ (List.mem_of_getElem? (i := 2) rfl)) (hw _ (List.mem_of_getElem? (i := 82) rfl)) (by decide) pd20 rfl rfl (W := 0) (Nat.le_of_eq rfl) (by decide) (by decide) (by decide) (by decide) (fun T v w C q => ?_)
        rcases q with ⟨rfl, t71⟩ | ⟨rfl, t71⟩
        · show Go p e below _ (State.setTop T (mkF m 120 #[.val (.int j0), .val (.int j1), .val (.int j2), .val (.int j3), .val (.int j4), .val (.int j5), .val (.int p1), .val (.int p2), .val (.int p3), .val (.int p4), .val (.int (4 : Int32)), .val (.ref t), .val (.ref a51), .val (.int ((4 : Int32) - (1 : Int32))), .unset] [(.int (1 : Int32))]))
          exact absurd t71 (pr_not t68)
        · show Go p e below _ (State.setTop T (mkF m 120 #[.val (.int j0), .val (.int j1), .val (.int j2), .val (.int j3), .val (.int j4), .val (.int j5), .val (.int p1), .val (.int p2), .val (.int p3), .val (.int p4), .val (.int (4 : Int32)), .val (.ref t), .val (.ref a51), .val (.int ((4 : Int32) - (1 : Int32))), .unset] [(.int (0 : Int32))]))
          refine g_ifY w at_120 (by decide) (q := 129) (by decide) (by decide) ?_
          refine g_iload w at_129 (q := 131) rfl rfl ?_
          refine g_iload w at_131 (q := 133) rfl rfl ?_
          refine g_staticP w (con_max l Z a0 hw ((4 : Int32) - (1 : Int32)) j5 _ w.old) no0 at_133 (q := 136) rfl rfl (hw _ (List.mem_of_getElem? (i := 30) rfl)) (hw _ (List.mem_of_getElem? (i := 31) rfl)) (hw _ (List.mem_of_getElem? (i := 32) rfl)) (hw _ (List.mem_of_getElem? (i := 33) rfl)) (by decide) pd15 rfl rfl (W := 0) (Nat.le_of_eq rfl) (by decide) (by decide) (by decide) (by decide) (fun T v w C q => ?_)
          obtain rfl := q
          show Go p e below _ (State.setTop T (mkF m 136 #[.val (.int j0), .val (.int j1), .val (.int j2), .val (.int j3), .val (.int j4), .val (.int j5), .val (.int p1), .val (.int p2), .val (.int p3), .val (.int p4), .val (.int (4 : Int32)), .val (.ref t), .val (.ref a51), .val (.int ((4 : Int32) - (1 : Int32))), .unset] [(.int (if ((4 : Int32) - (1 : Int32)) < j5 then j5 else ((4 : Int32) - (1 : Int32))))]))
          refine g_istore w at_136 (q := 138) rfl (Ls' := #[.val (.int j0), .val (.int j1), .val (.int j2), .val (.int j3), .val (.int j4), .val (.int j5), .val (.int p1), .val (.int p2), .val (.int p3), .val (.int p4), .val (.int (4 : Int32)), .val (.ref t), .val (.ref a51), .val (.int ((4 : Int32) - (1 : Int32))), .val (.int (if ((4 : Int32) - (1 : Int32)) < j5 then j5 else ((4 : Int32) - (1 : Int32))))]) rfl ?_
          refine g_aload w at_138 (q := 140) rfl rfl rfl ?_
          refine g_iload w at_140 (q := 142) rfl rfl ?_
          refine g_ldcO w at_142 (q := 144) rfl rfl (hw _ (List.mem_of_getElem? (i := 34) rfl)) (own_wS hw) (nn := 36) (by decide) (by decide) (by decide) (by decide) (fun T vm h t73 w E C => ?_)
          replace E0 := ext_trans E0 E
          replace U_a51 := U_a51.ext E
          refine g_ldcO w at_144 (q := 146) rfl rfl (hw _ (List.mem_of_getElem? (i := 35) rfl)) (own_wS hw) (nn := 56) (by decide) (by decide) (by decide) (by decide) (fun T vm h t74 w E C => ?_)
          replace E0 := ext_trans E0 E
          replace U_a51 := U_a51.ext E
          have hcn : cpn [p1, p2, p3, p4] = 1 := (cpn_n t53).trans ((cpn_y t68).trans (congrArg (1 + ·) (rfl)))
          have hm : ¬ (if ((4 : Int32) - (1 : Int32)) < j5 then j5 else ((4 : Int32) - (1 : Int32))) < Int32.ofNat (([p1, p2, p3, p4]).length - cpn [p1, p2, p3, p4]) := by
            rw [hcn, show Int32.ofNat (([p1, p2, p3, p4]).length - 1) = ((4 : Int32) - (1 : Int32)) from (by decide : Int32.ofNat (4 - 1) = ((4 : Int32) - (1 : Int32)))]
            exact max_ge _ _
          refine g_staticP w (con_ref l Z a0 hw a51 t73 t74 (if ((4 : Int32) - (1 : Int32)) < j5 then j5 else ((4 : Int32) - (1 : Int32))) _ _ w.old U_a51 (Nat.le_of_ble_eq_true rfl) hcm SA_ SH_ SL_ hm) no0 at_146 (q := 149) rfl rfl (hw _ (List.mem_of_getElem? (i := 36) rfl)) (hw _ (List.mem_of_getElem? (i := 37) rfl)) (hw _ (List.mem_of_getElem? (i := 38) rfl)) (hw _ (List.mem_of_getElem? (i := 39) rfl)) (by decide) pd19 rfl rfl (W := 0) (Nat.le_of_eq rfl) (by decide) (by decide) (by decide) (by decide) (fun T v w C q => ?_)
          obtain rfl := q
          show Go p e below _ (State.setTop T (mkF m 149 #[.val (.int j0), .val (.int j1), .val (.int j2), .val (.int j3), .val (.int j4), .val (.int j5), .val (.int p1), .val (.int p2), .val (.int p3), .val (.int p4), .val (.int (4 : Int32)), .val (.ref t), .val (.ref a51), .val (.int ((4 : Int32) - (1 : Int32))), .val (.int (if ((4 : Int32) - (1 : Int32)) < j5 then j5 else ((4 : Int32) - (1 : Int32))))] []))
          refine g_iconst w at_149 (q := 150) rfl (v := (1 : Int32)) (by decide) ?_
          exact g_retn w at_150 rfl (by simp) rfl (by decide) (by decide) rfl
      · show Go p e below _ (State.setTop T (mkF m 98 #[.val (.int j0), .val (.int j1), .val (.int j2), .val (.int j3), .val (.int j4), .val (.int j5), .val (.int p1), .val (.int p2), .val (.int p3), .val (.int p4), .val (.int (4 : Int32)), .val (.ref t), .val (.ref a51), .val (.int (4 : Int32)), .unset] [(.int (0 : Int32))]))
        refine g_ifY w at_98 (by decide) (q := 107) (by decide) (by decide) ?_
        refine g_iload w at_107 (q := 109) rfl rfl ?_
        refine g_iconst w at_109 (q := 110) rfl (v := (4 : Int32)) (by decide) ?_
        refine g_icN w at_110 (q := 113) rfl (Jvm.Free.XT.ii_lt_f Int32.lt_irrefl) ?_
        refine g_iload w at_113 (q := 115) rfl rfl ?_
        refine g_iload w at_115 (q := 117) rfl rfl ?_
        refine g_staticP w (con_pair l Z a0 hw p3 p4 _ w.old) no0 at_117 (q := 120) rfl rfl (hw _ (List.mem_of_getElem? (i := 80) rfl)) (hw _ (List.mem_of_getElem? (i := 81) rfl)) (hw _ (List.mem_of_getElem? (i := 2) rfl)) (hw _ (List.mem_of_getElem? (i := 82) rfl)) (by decide) pd20 rfl rfl (W := 0) (Nat.le_of_eq rfl) (by decide) (by decide) (by decide) (by decide) (fun T v w C q => ?_)
        rcases q with ⟨rfl, t77⟩ | ⟨rfl, t77⟩
        · show Go p e below _ (State.setTop T (mkF m 120 #[.val (.int j0), .val (.int j1), .val (.int j2), .val (.int j3), .val (.int j4), .val (.int j5), .val (.int p1), .val (.int p2), .val (.int p3), .val (.int p4), .val (.int (4 : Int32)), .val (.ref t), .val (.ref a51), .val (.int (4 : Int32)), .unset] [(.int (1 : Int32))]))
          refine g_ifN w at_120 (q := 123) rfl (by decide) ?_
          refine g_iload w at_123 (q := 125) rfl rfl ?_
          refine g_iconst w at_125 (q := 126) rfl (v := (1 : Int32)) (by decide) ?_
          refine g_isub w at_126 (q := 127) rfl ?_
          refine g_istore w at_127 (q := 129) rfl (Ls' := #[.val (.int j0), .val (.int j1), .val (.int j2), .val (.int j3), .val (.int j4), .val (.int j5), .val (.int p1), .val (.int p2), .val (.int p3), .val (.int p4), .val (.int (4 : Int32)), .val (.ref t), .val (.ref a51), .val (.int ((4 : Int32) - (1 : Int32))), .unset]) rfl ?_
          refine g_iload w at_129 (q := 131) rfl rfl ?_
          refine g_iload w at_131 (q := 133) rfl rfl ?_
          refine g_staticP w (con_max l Z a0 hw ((4 : Int32) - (1 : Int32)) j5 _ w.old) no0 at_133 (q := 136) rfl rfl (hw _ (List.mem_of_getElem? (i := 30) rfl)) (hw _ (List.mem_of_getElem? (i := 31) rfl)) (hw _ (List.mem_of_getElem? (i := 32) rfl)) (hw _ (List.mem_of_getElem? (i := 33) rfl)) (by decide) pd15 rfl rfl (W := 0) (Nat.le_of_eq rfl) (by decide) (by decide) (by decide) (by decide) (fun T v w C q => ?_)
          obtain rfl := q
          show Go p e below _ (State.setTop T (mkF m 136 #[.val (.int j0), .val (.int j1), .val (.int j2), .val (.int j3), .val (.int j4), .val (.int j5), .val (.int p1), .val (.int p2), .val (.int p3), .val (.int p4), .val (.int (4 : Int32)), .val (.ref t), .val (.ref a51), .val (.int ((4 : Int32) - (1 : Int32))), .unset] [(.int (if ((4 : Int32) - (1 : Int32)) < j5 then j5 else ((4 : Int32) - (1 : Int32))))]))
          refine g_istore w at_136 (q := 138) rfl (Ls' := #[.val (.int j0), .val (.int j1), .val (.int j2), .val (.int j3), .val (.int j4), .val (.int j5), .val (.int p1), .val (.int p2), .val (.int p3), .val (.int p4), .val (.int (4 : Int32)), .val (.ref t), .val (.ref a51), .val (.int ((4 : Int32) - (1 : Int32))), .val (.int (if ((4 : Int32) - (1 : Int32)) < j5 then j5 else ((4 : Int32) - (1 : Int32))))]) rfl ?_
          refine g_aload w at_138 (q := 140) rfl rfl rfl ?_
          refine g_iload w at_140 (q := 142) rfl rfl ?_
          refine g_ldcO w at_142 (q := 144) rfl rfl (hw _ (List.mem_of_getElem? (i := 34) rfl)) (own_wS hw) (nn := 36) (by decide) (by decide) (by decide) (by decide) (fun T vm h t79 w E C => ?_)
          replace E0 := ext_trans E0 E
          replace U_a51 := U_a51.ext E
          refine g_ldcO w at_144 (q := 146) rfl rfl (hw _ (List.mem_of_getElem? (i := 35) rfl)) (own_wS hw) (nn := 56) (by decide) (by decide) (by decide) (by decide) (fun T vm h t80 w E C => ?_)
          replace E0 := ext_trans E0 E
          replace U_a51 := U_a51.ext E
          have hcn : cpn [p1, p2, p3, p4] = 1 := (cpn_n t53).trans ((cpn_n t68).trans ((cpn_y t77).trans (congrArg (1 + ·) (rfl))))
          have hm : ¬ (if ((4 : Int32) - (1 : Int32)) < j5 then j5 else ((4 : Int32) - (1 : Int32))) < Int32.ofNat (([p1, p2, p3, p4]).length - cpn [p1, p2, p3, p4]) := by
            rw [hcn, show Int32.ofNat (([p1, p2, p3, p4]).length - 1) = ((4 : Int32) - (1 : Int32)) from (by decide : Int32.ofNat (4 - 1) = ((4 : Int32) - (1 : Int32)))]
            exact max_ge _ _
          refine g_staticP w (con_ref l Z a0 hw a51 t79 t80 (if ((4 : Int32) - (1 : Int32)) < j5 then j5 else ((4 : Int32) - (1 : Int32))) _ _ w.old U_a51 (Nat.le_of_ble_eq_true rfl) hcm SA_ SH_ SL_ hm) no0 at_146 (q := 149) rfl rfl (hw _ (List.mem_of_getElem? (i := 36) rfl)) (hw _ (List.mem_of_getElem? (i := 37) rfl)) (hw _ (List.mem_of_getElem? (i := 38) rfl)) (hw _ (List.mem_of_getElem? (i := 39) rfl)) (by decide) pd19 rfl rfl (W := 0) (Nat.le_of_eq rfl) (by decide) (by decide) (by decide) (by decide) (fun T v w C q => ?_)
          obtain rfl := q
          show Go p e below _ (State.setTop T (mkF m 149 #[.val (.int j0), .val (.int j1), .val (.int j2), .val (.int j3), .val (.int j4), .val (.int j5), .val (.int p1), .val (.int p2), .val (.int p3), .val (.int p4), .val (.int (4 : Int32)), .val (.ref t), .val (.ref a51), .val (.int ((4 : Int32) - (1 : Int32))), .val (.int (if ((4 : Int32) - (1 : Int32)) < j5 then j5 else ((4 : Int32) - (1 : Int32))))] []))
          refine g_iconst w at_149 (q := 150) rfl (v := (1 : Int32)) (by decide) ?_
          exact g_retn w at_150 rfl (by simp) rfl (by decide) (by decide) rfl
        · show Go p e below _ (State.setTop T (mkF m 120 #[.val (.int j0), .val (.int j1), .val (.int j2), .val (.int j3), .val (.int j4), .val (.int j5), .val (.int p1), .val (.int p2), .val (.int p3), .val (.int p4), .val (.int (4 : Int32)), .val (.ref t), .val (.ref a51), .val (.int (4 : Int32)), .unset] [(.int (0 : Int32))]))
          refine g_ifY w at_120 (by decide) (q := 129) (by decide) (by decide) ?_
          refine g_iload w at_129 (q := 131) rfl rfl ?_
          refine g_iload w at_131 (q := 133) rfl rfl ?_
          refine g_staticP w (con_max l Z a0 hw (4 : Int32) j5 _ w.old) no0 at_133 (q := 136) rfl rfl (hw _ (List.mem_of_getElem? (i := 30) rfl)) (hw _ (List.mem_of_getElem? (i := 31) rfl)) (hw _ (List.mem_of_getElem? (i := 32) rfl)) (hw _ (List.mem_of_getElem? (i := 33) rfl)) (by decide) pd15 rfl rfl (W := 0) (Nat.le_of_eq rfl) (by decide) (by decide) (by decide) (by decide) (fun T v w C q => ?_)
          obtain rfl := q
          show Go p e below _ (State.setTop T (mkF m 136 #[.val (.int j0), .val (.int j1), .val (.int j2), .val (.int j3), .val (.int j4), .val (.int j5), .val (.int p1), .val (.int p2), .val (.int p3), .val (.int p4), .val (.int (4 : Int32)), .val (.ref t), .val (.ref a51), .val (.int (4 : Int32)), .unset] [(.int (if (4 : Int32) < j5 then j5 else (4 : Int32)))]))
          refine g_istore w at_136 (q := 138) rfl (Ls' := #[.val (.int j0), .val (.int j1), .val (.int j2), .val (.int j3), .val (.int j4), .val (.int j5), .val (.int p1), .val (.int p2), .val (.int p3), .val (.int p4), .val (.int (4 : Int32)), .val (.ref t), .val (.ref a51), .val (.int (4 : Int32)), .val (.int (if (4 : Int32) < j5 then j5 else (4 : Int32)))]) rfl ?_
          refine g_aload w at_138 (q := 140) rfl rfl rfl ?_
          refine g_iload w at_140 (q := 142) rfl rfl ?_
          refine g_ldcO w at_142 (q := 144) rfl rfl (hw _ (List.mem_of_getElem? (i := 34) rfl)) (own_wS hw) (nn := 36) (by decide) (by decide) (by decide) (by decide) (fun T vm h t82 w E C => ?_)
          replace E0 := ext_trans E0 E
          replace U_a51 := U_a51.ext E
          refine g_ldcO w at_144 (q := 146) rfl rfl (hw _ (List.mem_of_getElem? (i := 35) rfl)) (own_wS hw) (nn := 56) (by decide) (by decide) (by decide) (by decide) (fun T vm h t83 w E C => ?_)
          replace E0 := ext_trans E0 E
          replace U_a51 := U_a51.ext E
          have hcn : cpn [p1, p2, p3, p4] = 0 := (cpn_n t53).trans ((cpn_n t68).trans ((cpn_n t77).trans (rfl)))
          have hm : ¬ (if (4 : Int32) < j5 then j5 else (4 : Int32)) < Int32.ofNat (([p1, p2, p3, p4]).length - cpn [p1, p2, p3, p4]) := by
            rw [hcn, show Int32.ofNat (([p1, p2, p3, p4]).length - 0) = (4 : Int32) from (by decide : Int32.ofNat (4 - 0) = (4 : Int32))]
            exact max_ge _ _
          refine g_staticP w (con_ref l Z a0 hw a51 t82 t83 (if (4 : Int32) < j5 then j5 else (4 : Int32)) _ _ w.old U_a51 (Nat.le_of_ble_eq_true rfl) hcm SA_ SH_ SL_ hm) no0 at_146 (q := 149) rfl rfl (hw _ (List.mem_of_getElem? (i := 36) rfl)) (hw _ (List.mem_of_getElem? (i := 37) rfl)) (hw _ (List.mem_of_getElem? (i := 38) rfl)) (hw _ (List.mem_of_getElem? (i := 39) rfl)) (by decide) pd19 rfl rfl (W := 0) (Nat.le_of_eq rfl) (by decide) (by decide) (by decide) (by decide) (fun T v w C q => ?_)
          obtain rfl := q
          show Go p e below _ (State.setTop T (mkF m 149 #[.val (.int j0), .val (.int j1), .val (.int j2), .val (.int j3), .val (.int j4), .val (.int j5), .val (.int p1), .val (.int p2), .val (.int p3), .val (.int p4), .val (.int (4 : Int32)), .val (.ref t), .val (.ref a51), .val (.int (4 : Int32)), .val (.int (if (4 : Int32) < j5 then j5 else (4 : Int32)))] []))
          refine g_iconst w at_149 (q := 150) rfl (v := (1 : Int32)) (by decide) ?_
          exact g_retn w at_150 rfl (by simp) rfl (by decide) (by decide) rfl
set_option maxRecDepth 65536 in
set_option maxHeartbeats 40000000 in
theorem comes_1 {Post : Tables → Env → Array Value → State → Outcome → State → Prop} (hpost : ∀ tb e args s v u, (limb_1_1.after args s (.returned v) u = true ∧ limb_1_2.after args s (.returned v) u = true ∧ True) → ReturnedEndW s (.returned v) u (Jvm.fieldLocs frame_1_writes args s ++ Jvm.arrayLocs frame_1_arrays args s ++ Jvm.staticLocs frame_1_statics s) 24 3200 → Post tb e args s (.returned v) u) :
    ArmFor flags0 classFile x code maxLocals ret World_1 tables_1 room_1 Calls_1 rest_1 Pre_1 Post := by
  intro l hfl _ _ p e ha hc hk s m args below hf hA hF happ hP
  obtain ⟨hcalls, hrest, hpre⟩ := hP
  obtain ⟨-, -, -, hnamed, -, -, -, hat⟩ := (Spec.applies_iff hf).mp happ
  obtain ⟨hg, hn⟩ := and_e (Cond.before_iff.mp (show (Jvm.Cond.and given_1 narrow_1).before args s = true from hpre))
  obtain ⟨h1, hr0⟩ := and_e hg
  obtain ⟨w0, w1, w2, w3, w4, w5, rfl⟩ : ∃ w0 w1 w2 w3 w4 w5 : Value, args = #[w0, w1, w2, w3, w4, w5] := by
    have hs : args.size = 6 := by simpa [Cond.value, given_1] using h1
    obtain ⟨L⟩ := args
    match L, hs with
    | [w0, w1, w2, w3, w4, w5], _ => exact ⟨w0, w1, w2, w3, w4, w5, rfl⟩
  obtain ⟨q0, hr1⟩ := and_e hr0
  obtain ⟨i0, ei0⟩ := is_v q0
  obtain rfl : w0 = (.int i0) := Option.some.inj ei0
  obtain ⟨q1, hr2⟩ := and_e hr1
  obtain ⟨i1, ei1⟩ := is_v q1
  obtain rfl : w1 = (.int i1) := Option.some.inj ei1
  obtain ⟨q2, hr3⟩ := and_e hr2
  obtain ⟨i2, ei2⟩ := is_v q2
  obtain rfl : w2 = (.int i2) := Option.some.inj ei2
  obtain ⟨q3, hr4⟩ := and_e hr3
  obtain ⟨i3, ei3⟩ := is_v q3
  obtain rfl : w3 = (.int i3) := Option.some.inj ei3
  obtain ⟨q4, hr5⟩ := and_e hr4
  obtain ⟨i4, ei4⟩ := is_v q4
  obtain rfl : w4 = (.int i4) := Option.some.inj ei4
  obtain ⟨i5, ei5⟩ := is_v hr5
  obtain rfl : w5 = (.int i5) := Option.some.inj ei5
  have hw := fun d (hd : d ∈ tables_1) => atoms_spec (ws := Jvm.Cond.code x code maxLocals ret :: tables_1) hat d (List.mem_cons_of_mem _ hd)
  have hfit : Fit s := fun {y c} hc i hi => by
    obtain ⟨ha, rfl⟩ := Array.getElem?_eq_some_iff.mp hc
    have q := List.all_eq_true.mp ((Array.all_eq_true_iff_forall_mem.mp hF) _ (Array.getElem_mem ha)) i (List.mem_range.mpr hi)
    simpa [Array.getElem?_eq_getElem hi] using q
  obtain ⟨hsets, hown0⟩ := atoms_of _ (rest_1_c_eq ▸ (show rest_1_c.before _ s = true from hrest))
  have hcm : Cpt s := by
    obtain ⟨z, ez⟩ := is_v (Cond.before_iff.mp (hsets _ (List.mem_of_getElem? (i := 1) rfl)))
    refine ⟨z, ?_, Sta.start ez (Or.inl (hsets _ (List.mem_of_getElem? (i := 0) rfl)))⟩
    intro hz; subst hz
    have q := not_v (Cond.before_iff.mp (hsets _ (List.mem_of_getElem? (i := 2) rfl)))
    rw [eq_i ez (Term.int_eval (0)) rfl] at q; cases q
  have SA_ := Sta.start (sta_eq (k := 1) (Cond.before_iff.mp (hsets _ (List.mem_of_getElem? (i := 12) rfl)))) (Or.inl (hsets _ (List.mem_of_getElem? (i := 11) rfl)))
  have SH_ := Sta.start (sta_eq (k := 0) (Cond.before_iff.mp (hsets _ (List.mem_of_getElem? (i := 15) rfl)))) (Or.inl (hsets _ (List.mem_of_getElem? (i := 14) rfl)))
  have SL_ := Sta.start (sta_eq (k := 8) (Cond.before_iff.mp (hsets _ (List.mem_of_getElem? (i := 18) rfl)))) (Or.inl (hsets _ (List.mem_of_getElem? (i := 17) rfl)))
  have hch : CHv s consts_1 s.vm s.heap := CHv.start (own_EL hw) (fun p hp => hcalls.1 p hp) (hsets _ (List.mem_of_getElem? (i := 2) rfl)) (hw _ (List.mem_of_getElem? (i := 23) rfl)) (hw _ (List.mem_of_getElem? (i := 10) rfl))
  obtain ⟨n, o, h1, h2, h3, _, L, rfl, rfl, O, N, C, W, hq⟩ := con_law l s _ hw i0 i1 i2 i3 i4 i5 s.heap (ext_refl _) hcm SA_ SH_ SL_ p e ha hc hk s m _ below hf ((Spec.applies_iff_loose hf).mp happ).1 ⟨rfl, State.Warmed39.refl s, rfl, hch, no0⟩ trivial
  refine ⟨n, _, h1, h2, h3, hpost _ _ _ _ _ _ ⟨Cond.after_iff.mpr rfl, Cond.after_iff.mpr (eq_i res_at (Term.int_eval (1)) rfl), trivial⟩ ⟨hq.1, hq.2.1, hq.2.2.1, (hq.2.2.2.sift fun y hy => Or.inr (N y hy)).mono (by decide) (by decide)⟩⟩
theorem main_1_1 : Claimed_1_1 := comes_1 fun _ _ _ _ _ _ h hF => ⟨h.1, hF⟩
theorem main_1_2 : Claimed_1_2 := comes_1 fun _ _ _ _ _ _ h hF => ⟨h.2.1, hF⟩
end Jvm.Pilot.@@N@@
namespace Jvm.Pilot.@@N@@
open Jvm Jvm.ClassFile Sem Op Lib Jvm.Free Jvm.Stand Jvm.Pilot.@@N@@.Jvm.D
/-! MADE BY PROGRAM (witnessworld.py) out of the Statement's table words and the real class files: 25 classes; the members and pool entries that the words name. The judged class is class 1, her method 4. -/
namespace start1
open Jvm.ClassFile
def u (s : String) : CpInfo := .utf8 (stringToUtf16 s)
/-- a pool by its gaps: so many unusable entries, then the entry; so many at the end -/
def gap : Nat → List CpInfo → List CpInfo
  | 0, r => r
  | n + 1, r => .unusable :: gap n r
def poolList (es : List (Nat × CpInfo)) (last : Nat) : List CpInfo := es.foldr (fun e r => gap e.1 (e.2 :: r)) (gap last [])
def pool (es : List (Nat × CpInfo)) (last : Nat) : Array CpInfo := ⟨poolList es last⟩
def fileOf (pool : Array CpInfo) (this : Nat) (attrs : Array Attribute := #[]) (ms : Array MethodInfo := #[]) (fl : Nat := 33) (sup : Nat := 0) (ifs : Array Nat := #[]) (fds : Array FieldInfo := #[]) : ClassFile where
  minorVersion := 0
  majorVersion := 65
  constantPool := pool
  accessFlags := fl
  thisClass := this
  superClass := sup
  interfaces := ifs
  fields := fds
  methods := ms
  attributes := attrs
def plain (name : String) (sup : Option ClassId) : Class where
  name := name
  kind := .ordinary
  loader := none
  accessFlags := 33
  super := sup
  interfaces := #[]
  cf := none
  fields := #[]
  methods := #[]
  instanceTypes := #[]
  staticTypes := #[]
  resolved := #[]
  callSites := []
  init := .initialized
  statics := none
  mirror := none

def pool0 : Array CpInfo := pool [(5, u "<init>"), (0, u "()V"), (1, .class_ 10), (1, u "java/lang/Object")] 113

def k0c0 : Code := { maxStack := 0, maxLocals := 1, code := object_method_1_code, exceptionTable := #[], attributes := #[] }
def k0m0 : Method := { name := "<init>", desc := "()V", sig := { parameters := [], returnType := none }, accessFlags := 1, code := some k0c0 }
/-- java/lang/Object -/
def k0 : Class := { plain "java/lang/Object" none with
  accessFlags := 33
  interfaces := #[]
  cf := some (fileOf pool0 8 #[] #[{ accessFlags := 1, nameIndex := 5, descriptorIndex := 6, attributes := #[] }] 33 0 #[] #[])
  fields := #[]
  methods := #[k0m0]
  instanceTypes := #[]
  staticTypes := #[]
  resolved := Array.replicate 124 none
  statics := none }

def pool1 : Array CpInfo := pool [(2, .class_ 4), (1, u "java/lang/Object"), (0, u "<init>"), (0, u "()V"), (0, .integer 55296), (0, .integer 56320), (0, .integer 65535), (0, .integer 56319), (0, .integer 57343), (0, .methodref 13 14), (0, .class_ 15), (0, .nameAndType 16 17), (0, u "com/example/deepquery/deepquery/ApiExceptionRefuseLongerPinLaw"), (0, u "ch"), (0, u "(I)C"), (0, .integer 2147483647), (0, .methodref 13 20), (0, .nameAndType 21 22), (0, u "prefix"), (0, u "(CCCCI)[C"), (0, .class_ 24), (0, u "java/lang/String"), (0, .methodref 23 26), (0, .nameAndType 5 27), (0, u "([C)V"), (0, .methodref 13 29), (0, .nameAndType 30 31), (0, u "pair"), (0, u "(CC)Z"), (0, .methodref 33 34), (0, .class_ 35), (0, .nameAndType 36 37), (0, u "java/lang/Math"), (0, u "max"), (0, u "(II)I"), (0, .string 39), (0, u "the query"), (0, .string 41), (0, u "query-too-long"), (0, .methodref 43 44), (0, .class_ 45), (0, .nameAndType 46 47), (0, u "com/example/deepquery/deepquery/ApiException"), (0, u "refuseLonger"), (0, u "(Ljava/lang/String;ILjava/lang/String;Ljava/lang/String;)V"), (3, u "law"), (0, u "(IIIIII)Z")] 7

def k1m0 : Method := { name := "<init>", desc := "()V", sig := { parameters := [], returnType := none }, accessFlags := 2, code := none }
def k1c1 : Code := { maxStack := 2, maxLocals := 3, code := method_2_code, exceptionTable := #[], attributes := #[] }
def k1m1 : Method := { name := "ch", desc := "(I)C", sig := { parameters := [.int], returnType := some .char }, accessFlags := 10, code := some k1c1 }
def k1c2 : Code := { maxStack := 2, maxLocals := 2, code := method_3_code, exceptionTable := #[], attributes := #[] }
def k1m2 : Method := { name := "pair", desc := "(CC)Z", sig := { parameters := [.char, .char], returnType := some .boolean }, accessFlags := 10, code := some k1c2 }
def k1c3 : Code := { maxStack := 4, maxLocals := 5, code := method_4_code, exceptionTable := #[], attributes := #[] }
def k1m3 : Method := { name := "prefix", desc := "(CCCCI)[C", sig := { parameters := [.char, .char, .char, .char, .int], returnType := some (.array .char) }, accessFlags := 10, code := some k1c3 }
def k1c4 : Code := { maxStack := 5, maxLocals := 15, code := code, exceptionTable := #[], attributes := #[] }
def k1m4 : Method := { name := "law", desc := "(IIIIII)Z", sig := { parameters := [.int, .int, .int, .int, .int, .int], returnType := some .boolean }, accessFlags := 9, code := some k1c4 }
/-- com/example/deepquery/deepquery/ApiExceptionRefuseLongerPinLaw -/
def k1 : Class := { plain "com/example/deepquery/deepquery/ApiExceptionRefuseLongerPinLaw" (some 0) with
  accessFlags := 49
  interfaces := #[]
  cf := some (fileOf pool1 13 #[] #[{ accessFlags := 2, nameIndex := 5, descriptorIndex := 6, attributes := #[] }, { accessFlags := 10, nameIndex := 16, descriptorIndex := 17, attributes := #[] }, { accessFlags := 10, nameIndex := 30, descriptorIndex := 31, attributes := #[] }, { accessFlags := 10, nameIndex := 21, descriptorIndex := 22, attributes := #[] }, { accessFlags := 9, nameIndex := 51, descriptorIndex := 52, attributes := #[] }] 49 2 #[] #[])
  fields := #[]
  methods := #[k1m0, k1m1, k1m2, k1m3, k1m4]
  instanceTypes := #[]
  staticTypes := #[]
  resolved := Array.replicate 60 none
  statics := none }

def pool2 : Array CpInfo := pool [(1, .class_ 2), (0, u "java/io/Serializable"), (0, .class_ 4), (0, u "java/lang/Object")] 2

/-- java/io/Serializable -/
def k2 : Class := { plain "java/io/Serializable" (some 0) with
  accessFlags := 1537
  interfaces := #[]
  cf := some (fileOf pool2 1 #[] #[] 1537 3 #[] #[])
  fields := #[]
  methods := #[]
  instanceTypes := #[]
  staticTypes := #[]
  resolved := Array.replicate 7 none
  statics := none }

def pool3 : Array CpInfo := pool [(1, .class_ 2), (0, u "java/lang/Comparable"), (0, .class_ 4), (0, u "java/lang/Object")] 7

/-- java/lang/Comparable -/
def k3 : Class := { plain "java/lang/Comparable" (some 0) with
  accessFlags := 1537
  interfaces := #[]
  cf := some (fileOf pool3 1 #[] #[] 1537 3 #[] #[])
  fields := #[]
  methods := #[]
  instanceTypes := #[]
  staticTypes := #[]
  resolved := Array.replicate 12 none
  statics := none }

def pool4 : Array CpInfo := pool [(2, .class_ 4), (1, u "java/lang/CharSequence"), (42, .class_ 48), (0, u "java/lang/CharSequence$1CodePointIterator"), (10, .class_ 60), (0, u "java/lang/CharSequence$1CharIterator"), (5, .class_ 67), (0, u "java/lang/Object")] 63

/-- java/lang/CharSequence -/
def k4 : Class := { plain "java/lang/CharSequence" (some 0) with
  accessFlags := 1537
  interfaces := #[]
  cf := some (fileOf pool4 2 #[.nestMembers #[47, 59]] #[] 1537 66 #[] #[])
  fields := #[]
  methods := #[]
  instanceTypes := #[]
  staticTypes := #[]
  resolved := Array.replicate 131 none
  statics := none }

def pool5 : Array CpInfo := pool [(1, .class_ 2), (0, u "java/lang/constant/Constable"), (0, .class_ 4), (0, u "java/lang/Object")] 6

/-- java/lang/constant/Constable -/
def k5 : Class := { plain "java/lang/constant/Constable" (some 0) with
  accessFlags := 1537
  interfaces := #[]
  cf := some (fileOf pool5 1 #[] #[] 1537 3 #[] #[])
  fields := #[]
  methods := #[]
  instanceTypes := #[]
  staticTypes := #[]
  resolved := Array.replicate 11 none
  statics := none }

def pool6 : Array CpInfo := pool [(1, .class_ 2), (0, u "java/lang/constant/ConstantDesc"), (0, .class_ 4), (0, u "java/lang/Object")] 32

/-- java/lang/constant/ConstantDesc -/
def k6 : Class := { plain "java/lang/constant/ConstantDesc" (some 0) with
  accessFlags := 1537
  interfaces := #[]
  cf := some (fileOf pool6 1 #[] #[] 1537 3 #[] #[])
  fields := #[]
  methods := #[]
  instanceTypes := #[]
  staticTypes := #[]
  resolved := Array.replicate 37 none
  statics := none }

def pool7 : Array CpInfo := pool [(1, .methodref 2 3), (0, .class_ 4), (0, .nameAndType 5 6), (0, u "java/lang/Object"), (0, u "<init>"), (0, u "()V"), (0, .string 8), (0, u ""), (0, .fieldref 10 11), (0, .class_ 12), (0, .nameAndType 13 14), (0, u "java/lang/String"), (0, u "value"), (0, u "[B"), (0, .fieldref 10 16), (0, .nameAndType 17 18), (0, u "coder"), (0, u "B"), (2, u "hash"), (0, u "I"), (2, u "hashIsZero"), (0, u "Z"), (0, .methodref 10 28), (0, .nameAndType 5 29), (0, u "([CIILjava/lang/Void;)V"), (7, u "(III)I"), (0, .fieldref 10 39), (0, .nameAndType 40 26), (0, u "COMPACT_STRINGS"), (1, .class_ 44), (1, u "java/lang/StringUTF16"), (0, u "compress"), (1, .methodref 42 48), (0, .nameAndType 49 50), (0, u "coderFromArrayLen"), (0, u "([BI)B"), (28, .class_ 81), (1, u "java/util/Objects"), (15, u "([BII)I"), (44, u "()Z"), (34, .methodref 42 178), (0, .nameAndType 45 179), (0, u "([CII)[B"), (154, u "()I"), (0, .methodref 10 336), (0, .nameAndType 17 337), (0, u "()B"), (154, .methodref 10 493), (0, .nameAndType 494 142), (0, u "isLatin1"), (10, .methodref 10 506), (0, .nameAndType 507 334), (0, u "length"), (3, .methodref 79 512), (0, .nameAndType 513 37), (0, u "checkFromToIndex"), (0, .methodref 42 515), (0, .nameAndType 516 97), (0, u "codePointCount"), (58, .class_ 576), (0, u "java/lang/CharSequence"), (22, u "CASE_INSENSITIVE_ORDER"), (0, u "Ljava/util/Comparator;"), (35, u "(II)I"), (373, u "([C)V"), (90, u "serialPersistentFields"), (0, u "[Ljava/io/ObjectStreamField;"), (0, .class_ 1104), (0, u "java/lang/String$CaseInsensitiveComparator"), (1, .class_ 1107), (0, u "java/io/Serializable"), (0, .class_ 1109), (0, u "java/lang/Comparable"), (0, .class_ 1111), (0, u "java/lang/constant/Constable"), (0, .class_ 1113), (0, u "java/lang/constant/ConstantDesc"), (2, u "serialVersionUID"), (0, u "J"), (3, u "REPL"), (0, u "C"), (2, u "LATIN1"), (1, u "UTF16")] 323

def k7m0 : Method := { name := "<init>", desc := "()V", sig := { parameters := [], returnType := none }, accessFlags := 1, code := none }
def k7c1 : Code := { maxStack := 5, maxLocals := 2, code := jdk_42_method_3_code, exceptionTable := #[], attributes := #[] }
def k7m1 : Method := { name := "<init>", desc := "([C)V", sig := { parameters := [(.array .char)], returnType := none }, accessFlags := 1, code := some k7c1 }
def k7c2 : Code := { maxStack := 2, maxLocals := 1, code := jdk_42_method_54_code, exceptionTable := #[], attributes := #[] }
def k7m2 : Method := { name := "length", desc := "()I", sig := { parameters := [], returnType := some .int }, accessFlags := 1, code := some k7c2 }
def k7c3 : Code := { maxStack := 3, maxLocals := 3, code := jdk_42_method_59_code, exceptionTable := #[], attributes := #[] }
def k7m3 : Method := { name := "codePointCount", desc := "(II)I", sig := { parameters := [.int, .int], returnType := some .int }, accessFlags := 1, code := some k7c3 }
def k7c4 : Code := { maxStack := 4, maxLocals := 6, code := jdk_42_method_149_code, exceptionTable := #[], attributes := #[] }
def k7m4 : Method := { name := "<init>", desc := "([CIILjava/lang/Void;)V", sig := { parameters := [(.array .char), .int, .int, (.object "java/lang/Void")], returnType := none }, accessFlags := 2, code := some k7c4 }
def k7c5 : Code := { maxStack := 1, maxLocals := 1, code := jdk_42_method_152_code, exceptionTable := #[], attributes := #[] }
def k7m5 : Method := { name := "coder", desc := "()B", sig := { parameters := [], returnType := some .byte }, accessFlags := 0, code := some k7c5 }
def k7c6 : Code := { maxStack := 1, maxLocals := 1, code := jdk_42_method_154_code, exceptionTable := #[], attributes := #[] }
def k7m6 : Method := { name := "isLatin1", desc := "()Z", sig := { parameters := [], returnType := some .boolean }, accessFlags := 0, code := some k7c6 }
/-- java/lang/String -/
def k7 : Class := { plain "java/lang/String" (some 0) with
  accessFlags := 49
  interfaces := #[2, 3, 4, 5, 6]
  cf := some (fileOf pool7 10 #[.nestMembers #[1103]] #[{ accessFlags := 1, nameIndex := 5, descriptorIndex := 6, attributes := #[] }, { accessFlags := 1, nameIndex := 5, descriptorIndex := 1010, attributes := #[] }, { accessFlags := 1, nameIndex := 507, descriptorIndex := 334, attributes := #[] }, { accessFlags := 1, nameIndex := 516, descriptorIndex := 636, attributes := #[] }, { accessFlags := 2, nameIndex := 5, descriptorIndex := 29, attributes := #[] }, { accessFlags := 0, nameIndex := 17, descriptorIndex := 337, attributes := #[] }, { accessFlags := 0, nameIndex := 494, descriptorIndex := 142, attributes := #[] }] 49 2 #[1106, 1108, 575, 1110, 1112] #[{ accessFlags := 18, nameIndex := 13, descriptorIndex := 14, attributes := #[] }, { accessFlags := 18, nameIndex := 17, descriptorIndex := 18, attributes := #[] }, { accessFlags := 2, nameIndex := 21, descriptorIndex := 22, attributes := #[] }, { accessFlags := 2, nameIndex := 25, descriptorIndex := 26, attributes := #[] }, { accessFlags := 26, nameIndex := 1116, descriptorIndex := 1117, attributes := #[] }, { accessFlags := 24, nameIndex := 40, descriptorIndex := 26, attributes := #[] }, { accessFlags := 26, nameIndex := 1101, descriptorIndex := 1102, attributes := #[] }, { accessFlags := 26, nameIndex := 1121, descriptorIndex := 1122, attributes := #[] }, { accessFlags := 25, nameIndex := 599, descriptorIndex := 600, attributes := #[] }, { accessFlags := 24, nameIndex := 1125, descriptorIndex := 18, attributes := #[] }, { accessFlags := 24, nameIndex := 1127, descriptorIndex := 18, attributes := #[] }])
  fields := #[{ name := "value", type := (.array .byte), accessFlags := 18, slot := 0, constantValue := 0 }, { name := "coder", type := .byte, accessFlags := 18, slot := 1, constantValue := 0 }, { name := "hash", type := .int, accessFlags := 2, slot := 2, constantValue := 0 }, { name := "hashIsZero", type := .boolean, accessFlags := 2, slot := 3, constantValue := 0 }, { name := "serialVersionUID", type := .long, accessFlags := 26, slot := 0, constantValue := 0 }, { name := "COMPACT_STRINGS", type := .boolean, accessFlags := 24, slot := 1, constantValue := 0 }, { name := "serialPersistentFields", type := (.array (.object "java/io/ObjectStreamField")), accessFlags := 26, slot := 2, constantValue := 0 }, { name := "REPL", type := .char, accessFlags := 26, slot := 3, constantValue := 0 }, { name := "CASE_INSENSITIVE_ORDER", type := (.object "java/util/Comparator"), accessFlags := 25, slot := 4, constantValue := 0 }, { name := "LATIN1", type := .byte, accessFlags := 24, slot := 5, constantValue := 0 }, { name := "UTF16", type := .byte, accessFlags := 24, slot := 6, constantValue := 0 }]
  methods := #[k7m0, k7m1, k7m2, k7m3, k7m4, k7m5, k7m6]
  instanceTypes := #[(.array .byte), .byte, .int, .boolean]
  staticTypes := #[.long, .boolean, (.array (.object "java/io/ObjectStreamField")), .char, (.object "java/util/Comparator"), .byte, .byte]
  resolved := Array.replicate 1451 none
  statics := some 0 }

def pool8 : Array CpInfo := pool [(1, .class_ 2), (0, u "java/lang/Math"), (1, .class_ 6), (1, u "java/lang/Object"), (0, u "<init>"), (0, u "()V"), (89, .class_ 100), (1, u "java/lang/Math$RandomNumberGeneratorHolder"), (71, u "negativeZeroFloatBits"), (0, u "J"), (2, u "negativeZeroDoubleBits"), (21, u "max"), (46, u "$assertionsDisabled"), (0, u "Z"), (88, u "(II)I"), (2, u "twoToTheDoubleScaleDown"), (0, u "D"), (4, u "twoToTheDoubleScaleUp"), (9, u "E"), (3, u "PI"), (2, u "TAU"), (2, u "DEGREES_TO_RADIANS"), (0, u "RADIANS_TO_DEGREES")] 94

def k8m0 : Method := { name := "<init>", desc := "()V", sig := { parameters := [], returnType := none }, accessFlags := 2, code := none }
def k8c1 : Code := { maxStack := 2, maxLocals := 2, code := jdk_29_method_65_code, exceptionTable := #[], attributes := #[] }
def k8m1 : Method := { name := "max", desc := "(II)I", sig := { parameters := [.int, .int], returnType := some .int }, accessFlags := 9, code := some k8c1 }
/-- java/lang/Math -/
def k8 : Class := { plain "java/lang/Math" (some 0) with
  accessFlags := 49
  interfaces := #[]
  cf := some (fileOf pool8 1 #[.nestMembers #[98]] #[{ accessFlags := 2, nameIndex := 7, descriptorIndex := 8, attributes := #[] }, { accessFlags := 9, nameIndex := 198, descriptorIndex := 335, attributes := #[] }] 49 4 #[] #[{ accessFlags := 25, nameIndex := 354, descriptorIndex := 339, attributes := #[] }, { accessFlags := 25, nameIndex := 358, descriptorIndex := 339, attributes := #[] }, { accessFlags := 25, nameIndex := 361, descriptorIndex := 339, attributes := #[] }, { accessFlags := 26, nameIndex := 364, descriptorIndex := 339, attributes := #[] }, { accessFlags := 26, nameIndex := 365, descriptorIndex := 339, attributes := #[] }, { accessFlags := 26, nameIndex := 172, descriptorIndex := 173, attributes := #[] }, { accessFlags := 26, nameIndex := 176, descriptorIndex := 173, attributes := #[] }, { accessFlags := 8, nameIndex := 344, descriptorIndex := 339, attributes := #[] }, { accessFlags := 8, nameIndex := 338, descriptorIndex := 339, attributes := #[] }, { accessFlags := 4120, nameIndex := 245, descriptorIndex := 246, attributes := #[] }])
  fields := #[{ name := "E", type := .double, accessFlags := 25, slot := 0, constantValue := 0 }, { name := "PI", type := .double, accessFlags := 25, slot := 1, constantValue := 0 }, { name := "TAU", type := .double, accessFlags := 25, slot := 2, constantValue := 0 }, { name := "DEGREES_TO_RADIANS", type := .double, accessFlags := 26, slot := 3, constantValue := 0 }, { name := "RADIANS_TO_DEGREES", type := .double, accessFlags := 26, slot := 4, constantValue := 0 }, { name := "negativeZeroFloatBits", type := .long, accessFlags := 26, slot := 5, constantValue := 0 }, { name := "negativeZeroDoubleBits", type := .long, accessFlags := 26, slot := 6, constantValue := 0 }, { name := "twoToTheDoubleScaleUp", type := .double, accessFlags := 8, slot := 7, constantValue := 0 }, { name := "twoToTheDoubleScaleDown", type := .double, accessFlags := 8, slot := 8, constantValue := 0 }, { name := "$assertionsDisabled", type := .boolean, accessFlags := 4120, slot := 9, constantValue := 0 }]
  methods := #[k8m0, k8m1]
  instanceTypes := #[]
  staticTypes := #[.double, .double, .double, .double, .double, .long, .long, .double, .double, .boolean]
  resolved := Array.replicate 460 none
  statics := none }

def pool9 : Array CpInfo := pool [(2, .class_ 4), (1, u "java/lang/Object"), (0, u "<init>"), (0, u "()V"), (1, .class_ 10), (1, u "java/lang/Throwable"), (0, u "cause"), (0, u "Ljava/lang/Throwable;"), (2, u "UNASSIGNED_STACK"), (0, u "[Ljava/lang/StackTraceElement;"), (2, u "stackTrace"), (2, u "SUPPRESSED_SENTINEL"), (0, u "Ljava/util/List;"), (2, u "suppressedExceptions"), (6, u "detailMessage"), (0, u "Ljava/lang/String;"), (58, .class_ 94), (0, u "java/lang/Throwable$WrappedPrintStream"), (6, .class_ 103), (1, u "java/lang/Throwable$PrintStreamOrWriter"), (61, u "$assertionsDisabled"), (0, u "Z"), (26, .class_ 194), (0, u "java/lang/Throwable$WrappedPrintWriter"), (5, u "backtrace"), (0, u "Ljava/lang/Object;"), (9, u "depth"), (0, u "I"), (56, .class_ 271), (1, u "java/lang/Throwable$SentinelHolder"), (32, u "EMPTY_THROWABLE_ARRAY"), (0, u "[Ljava/lang/Throwable;"), (12, .class_ 319), (0, u "java/io/Serializable"), (0, u "serialVersionUID"), (0, u "J"), (5, u "NULL_CAUSE_MESSAGE"), (0, u "SELF_SUPPRESSION_MESSAGE"), (0, u "CAUSE_CAPTION"), (0, u "SUPPRESSED_CAPTION")] 73

def k9m0 : Method := { name := "<init>", desc := "()V", sig := { parameters := [], returnType := none }, accessFlags := 1, code := none }
/-- java/lang/Throwable -/
def k9 : Class := { plain "java/lang/Throwable" (some 0) with
  accessFlags := 33
  interfaces := #[2]
  cf := some (fileOf pool9 8 #[.nestMembers #[193, 93, 101, 269]] #[{ accessFlags := 1, nameIndex := 5, descriptorIndex := 6, attributes := #[] }] 33 2 #[318] #[{ accessFlags := 26, nameIndex := 320, descriptorIndex := 321, attributes := #[] }, { accessFlags := 130, nameIndex := 200, descriptorIndex := 201, attributes := #[] }, { accessFlags := 2, nameIndex := 33, descriptorIndex := 34, attributes := #[] }, { accessFlags := 26, nameIndex := 15, descriptorIndex := 16, attributes := #[] }, { accessFlags := 2, nameIndex := 11, descriptorIndex := 12, attributes := #[] }, { accessFlags := 2, nameIndex := 19, descriptorIndex := 16, attributes := #[] }, { accessFlags := 130, nameIndex := 211, descriptorIndex := 212, attributes := #[] }, { accessFlags := 26, nameIndex := 22, descriptorIndex := 23, attributes := #[] }, { accessFlags := 2, nameIndex := 26, descriptorIndex := 23, attributes := #[] }, { accessFlags := 26, nameIndex := 327, descriptorIndex := 34, attributes := #[] }, { accessFlags := 26, nameIndex := 328, descriptorIndex := 34, attributes := #[] }, { accessFlags := 26, nameIndex := 329, descriptorIndex := 34, attributes := #[] }, { accessFlags := 26, nameIndex := 330, descriptorIndex := 34, attributes := #[] }, { accessFlags := 26, nameIndex := 304, descriptorIndex := 305, attributes := #[] }, { accessFlags := 4120, nameIndex := 165, descriptorIndex := 166, attributes := #[] }])
  fields := #[{ name := "serialVersionUID", type := .long, accessFlags := 26, slot := 0, constantValue := 0 }, { name := "backtrace", type := (.object "java/lang/Object"), accessFlags := 130, slot := 0, constantValue := 0 }, { name := "detailMessage", type := (.object "java/lang/String"), accessFlags := 2, slot := 1, constantValue := 0 }, { name := "UNASSIGNED_STACK", type := (.array (.object "java/lang/StackTraceElement")), accessFlags := 26, slot := 1, constantValue := 0 }, { name := "cause", type := (.object "java/lang/Throwable"), accessFlags := 2, slot := 2, constantValue := 0 }, { name := "stackTrace", type := (.array (.object "java/lang/StackTraceElement")), accessFlags := 2, slot := 3, constantValue := 0 }, { name := "depth", type := .int, accessFlags := 130, slot := 4, constantValue := 0 }, { name := "SUPPRESSED_SENTINEL", type := (.object "java/util/List"), accessFlags := 26, slot := 2, constantValue := 0 }, { name := "suppressedExceptions", type := (.object "java/util/List"), accessFlags := 2, slot := 5, constantValue := 0 }, { name := "NULL_CAUSE_MESSAGE", type := (.object "java/lang/String"), accessFlags := 26, slot := 3, constantValue := 0 }, { name := "SELF_SUPPRESSION_MESSAGE", type := (.object "java/lang/String"), accessFlags := 26, slot := 4, constantValue := 0 }, { name := "CAUSE_CAPTION", type := (.object "java/lang/String"), accessFlags := 26, slot := 5, constantValue := 0 }, { name := "SUPPRESSED_CAPTION", type := (.object "java/lang/String"), accessFlags := 26, slot := 6, constantValue := 0 }, { name := "EMPTY_THROWABLE_ARRAY", type := (.array (.object "java/lang/Throwable")), accessFlags := 26, slot := 7, constantValue := 0 }, { name := "$assertionsDisabled", type := .boolean, accessFlags := 4120, slot := 8, constantValue := 0 }]
  methods := #[k9m0]
  instanceTypes := #[(.object "java/lang/Object"), (.object "java/lang/String"), (.object "java/lang/Throwable"), (.array (.object "java/lang/StackTraceElement")), .int, (.object "java/util/List")]
  staticTypes := #[.long, (.array (.object "java/lang/StackTraceElement")), (.object "java/util/List"), (.object "java/lang/String"), (.object "java/lang/String"), (.object "java/lang/String"), (.object "java/lang/String"), (.array (.object "java/lang/Throwable")), .boolean]
  resolved := Array.replicate 404 none
  statics := none }

def pool10 : Array CpInfo := pool [(2, .class_ 4), (1, u "java/lang/Throwable"), (0, u "<init>"), (0, u "()V"), (12, .class_ 20), (0, u "java/lang/Exception"), (0, u "serialVersionUID"), (0, u "J")] 17

def k10m0 : Method := { name := "<init>", desc := "()V", sig := { parameters := [], returnType := none }, accessFlags := 1, code := none }
/-- java/lang/Exception -/
def k10 : Class := { plain "java/lang/Exception" (some 9) with
  accessFlags := 33
  interfaces := #[]
  cf := some (fileOf pool10 19 #[] #[{ accessFlags := 1, nameIndex := 5, descriptorIndex := 6, attributes := #[] }] 33 2 #[] #[{ accessFlags := 24, nameIndex := 21, descriptorIndex := 22, attributes := #[] }])
  fields := #[{ name := "serialVersionUID", type := .long, accessFlags := 24, slot := 0, constantValue := 0 }]
  methods := #[k10m0]
  instanceTypes := #[(.object "java/lang/Object"), (.object "java/lang/String"), (.object "java/lang/Throwable"), (.array (.object "java/lang/StackTraceElement")), .int, (.object "java/util/List")]
  staticTypes := #[.long]
  resolved := Array.replicate 40 none
  statics := none }

def pool11 : Array CpInfo := pool [(2, .class_ 4), (1, u "com/example/deepquery/deepquery/ApiException"), (3, .class_ 10), (1, u "java/lang/Exception"), (3, u "status"), (0, u "I"), (2, u "code"), (0, u "Ljava/lang/String;"), (2, u "quotesBody"), (0, u "Z"), (15, .methodref 40 41), (0, .class_ 42), (0, .nameAndType 43 44), (0, u "java/lang/String"), (0, u "length"), (0, u "()I"), (0, .methodref 40 46), (0, .nameAndType 47 48), (0, u "codePointCount"), (0, u "(II)I"), (13, u "serialVersionUID"), (0, u "J"), (10, u "refuseLonger"), (0, u "(Ljava/lang/String;ILjava/lang/String;Ljava/lang/String;)V")] 26

def k11c0 : Code := { maxStack := 7, maxLocals := 5, code := prog_1_method_6_code, exceptionTable := #[], attributes := #[] }
def k11m0 : Method := { name := "refuseLonger", desc := "(Ljava/lang/String;ILjava/lang/String;Ljava/lang/String;)V", sig := { parameters := [(.object "java/lang/String"), .int, (.object "java/lang/String"), (.object "java/lang/String")], returnType := none }, accessFlags := 8, code := some k11c0 }
/-- com/example/deepquery/deepquery/ApiException -/
def k11 : Class := { plain "com/example/deepquery/deepquery/ApiException" (some 10) with
  accessFlags := 48
  interfaces := #[]
  cf := some (fileOf pool11 2 #[] #[{ accessFlags := 8, nameIndex := 74, descriptorIndex := 75, attributes := #[] }] 48 8 #[] #[{ accessFlags := 26, nameIndex := 62, descriptorIndex := 63, attributes := #[] }, { accessFlags := 18, nameIndex := 14, descriptorIndex := 15, attributes := #[] }, { accessFlags := 18, nameIndex := 18, descriptorIndex := 19, attributes := #[] }, { accessFlags := 18, nameIndex := 22, descriptorIndex := 23, attributes := #[] }])
  fields := #[{ name := "serialVersionUID", type := .long, accessFlags := 26, slot := 0, constantValue := 0 }, { name := "status", type := .int, accessFlags := 18, slot := 6, constantValue := 0 }, { name := "code", type := (.object "java/lang/String"), accessFlags := 18, slot := 7, constantValue := 0 }, { name := "quotesBody", type := .boolean, accessFlags := 18, slot := 8, constantValue := 0 }]
  methods := #[k11m0]
  instanceTypes := #[(.object "java/lang/Object"), (.object "java/lang/String"), (.object "java/lang/Throwable"), (.array (.object "java/lang/StackTraceElement")), .int, (.object "java/util/List"), .int, (.object "java/lang/String"), .boolean]
  staticTypes := #[.long]
  resolved := Array.replicate 102 none
  statics := none }

def pool12 : Array CpInfo := pool [(2, .class_ 4), (1, u "java/lang/Object"), (0, u "<init>"), (0, u "()V"), (35, .class_ 44), (1, u "java/util/Objects"), (61, .class_ 108), (1, u "jdk/internal/util/Preconditions"), (2, .methodref 106 112), (0, .nameAndType 113 114), (0, u "checkFromToIndex"), (0, u "(IIILjava/util/function/BiFunction;)I"), (60, u "(III)I")] 8

def k12m0 : Method := { name := "<init>", desc := "()V", sig := { parameters := [], returnType := none }, accessFlags := 2, code := none }
def k12c1 : Code := { maxStack := 4, maxLocals := 3, code := jdk_31_method_18_code, exceptionTable := #[], attributes := #[] }
def k12m1 : Method := { name := "checkFromToIndex", desc := "(III)I", sig := { parameters := [.int, .int, .int], returnType := some .int }, accessFlags := 9, code := some k12c1 }
/-- java/util/Objects -/
def k12 : Class := { plain "java/util/Objects" (some 0) with
  accessFlags := 49
  interfaces := #[]
  cf := some (fileOf pool12 42 #[] #[{ accessFlags := 2, nameIndex := 5, descriptorIndex := 6, attributes := #[] }, { accessFlags := 9, nameIndex := 113, descriptorIndex := 175, attributes := #[] }] 49 2 #[] #[])
  fields := #[]
  methods := #[k12m0, k12m1]
  instanceTypes := #[]
  staticTypes := #[]
  resolved := Array.replicate 184 none
  statics := none }

def pool13 : Array CpInfo := pool [(2, .class_ 4), (1, u "java/lang/Object"), (0, u "<init>"), (0, u "()V"), (17, .class_ 26), (1, u "jdk/internal/util/Preconditions"), (20, u "checkFromToIndex"), (7, .class_ 56), (0, u "jdk/internal/util/Preconditions$4"), (57, .class_ 115), (0, u "jdk/internal/util/Preconditions$1"), (7, u "SIOOBE_FORMATTER"), (0, u "Ljava/util/function/BiFunction;"), (0, .class_ 126), (0, u "jdk/internal/util/Preconditions$2"), (3, u "AIOOBE_FORMATTER"), (0, .class_ 132), (0, u "jdk/internal/util/Preconditions$3"), (3, u "IOOBE_FORMATTER"), (46, u "(IIILjava/util/function/BiFunction;)I")] 10

def k13m0 : Method := { name := "<init>", desc := "()V", sig := { parameters := [], returnType := none }, accessFlags := 1, code := none }
def k13c1 : Code := { maxStack := 4, maxLocals := 4, code := jdk_41_method_12_code, exceptionTable := #[], attributes := #[] }
def k13m1 : Method := { name := "checkFromToIndex", desc := "(IIILjava/util/function/BiFunction;)I", sig := { parameters := [.int, .int, .int, (.object "java/util/function/BiFunction")], returnType := some .int }, accessFlags := 9, code := some k13c1 }
/-- jdk/internal/util/Preconditions -/
def k13 : Class := { plain "jdk/internal/util/Preconditions" (some 0) with
  accessFlags := 33
  interfaces := #[]
  cf := some (fileOf pool13 24 #[.nestMembers #[55, 131, 125, 114]] #[{ accessFlags := 1, nameIndex := 5, descriptorIndex := 6, attributes := #[] }, { accessFlags := 9, nameIndex := 47, descriptorIndex := 183, attributes := #[] }] 33 2 #[] #[{ accessFlags := 25, nameIndex := 123, descriptorIndex := 124, attributes := #[] }, { accessFlags := 25, nameIndex := 130, descriptorIndex := 124, attributes := #[] }, { accessFlags := 25, nameIndex := 136, descriptorIndex := 124, attributes := #[] }])
  fields := #[{ name := "SIOOBE_FORMATTER", type := (.object "java/util/function/BiFunction"), accessFlags := 25, slot := 0, constantValue := 0 }, { name := "AIOOBE_FORMATTER", type := (.object "java/util/function/BiFunction"), accessFlags := 25, slot := 1, constantValue := 0 }, { name := "IOOBE_FORMATTER", type := (.object "java/util/function/BiFunction"), accessFlags := 25, slot := 2, constantValue := 0 }]
  methods := #[k13m0, k13m1]
  instanceTypes := #[]
  staticTypes := #[(.object "java/util/function/BiFunction"), (.object "java/util/function/BiFunction"), (.object "java/util/function/BiFunction")]
  resolved := Array.replicate 194 none
  statics := some 1 }

def pool14 : Array CpInfo := pool [(6, .class_ 8), (1, u "java/lang/Object"), (0, u "<init>"), (0, u "()V"), (0, .methodref 12 13), (0, .class_ 14), (0, .nameAndType 15 16), (0, u "java/lang/StringUTF16"), (0, u "newBytesLength"), (0, u "(I)I"), (3, .integer 1073741823), (23, .fieldref 12 45), (0, .nameAndType 46 47), (0, u "$assertionsDisabled"), (0, u "Z"), (11, .fieldref 12 60), (0, .nameAndType 61 62), (0, u "HI_BYTE_SHIFT"), (0, u "I"), (0, .fieldref 12 64), (0, .nameAndType 65 62), (0, u "LO_BYTE_SHIFT"), (5, .methodref 12 72), (0, .nameAndType 73 74), (0, u "getChar"), (0, u "([BI)C"), (0, .methodref 76 77), (0, .class_ 78), (0, .nameAndType 79 80), (0, u "java/lang/Character"), (0, u "isHighSurrogate"), (0, u "(C)Z"), (0, .methodref 76 82), (0, .nameAndType 83 80), (0, u "isLowSurrogate"), (7, u "([BIIZ)I"), (8, .methodref 12 101), (0, .nameAndType 102 91), (0, u "codePointCount"), (4, .methodref 12 108), (0, .nameAndType 109 110), (0, u "newBytesFor"), (0, u "(I)[B"), (0, .methodref 12 112), (0, .nameAndType 113 114), (0, u "putChar"), (0, u "([BII)V"), (0, .methodref 12 116), (0, .nameAndType 117 118), (0, u "compress"), (0, u "([CI[BII)I"), (0, .methodref 12 120), (0, .nameAndType 121 122), (0, u "toBytes"), (0, u "([CII)[B"), (127, u "([BII)I"), (10, u "coderFromArrayLen"), (0, u "([BI)B"), (106, .class_ 371), (1, u "java/lang/StringUTF16$LinesSpliterator"), (58, u "MAX_LENGTH"), (196, .class_ 628), (0, u "java/lang/StringUTF16$CodePointsSpliterator"), (0, .class_ 630), (0, u "java/lang/StringUTF16$CharsSpliterator")] 4

def k14m0 : Method := { name := "<init>", desc := "()V", sig := { parameters := [], returnType := none }, accessFlags := 0, code := none }
def k14c1 : Code := { maxStack := 1, maxLocals := 1, code := jdk_52_method_2_code, exceptionTable := #[], attributes := #[] }
def k14m1 : Method := { name := "newBytesFor", desc := "(I)[B", sig := { parameters := [.int], returnType := some (.array .byte) }, accessFlags := 9, code := some k14c1 }
def k14c2 : Code := { maxStack := 4, maxLocals := 1, code := jdk_52_method_3_code, exceptionTable := #[], attributes := #[] }
def k14m2 : Method := { name := "newBytesLength", desc := "(I)I", sig := { parameters := [.int], returnType := some .int }, accessFlags := 9, code := some k14c2 }
def k14c3 : Code := { maxStack := 4, maxLocals := 3, code := jdk_52_method_4_code, exceptionTable := #[], attributes := #[] }
def k14m3 : Method := { name := "putChar", desc := "([BII)V", sig := { parameters := [(.array .byte), .int, .int], returnType := none }, accessFlags := 8, code := some k14c3 }
def k14c4 : Code := { maxStack := 3, maxLocals := 2, code := jdk_52_method_5_code, exceptionTable := #[], attributes := #[] }
def k14m4 : Method := { name := "getChar", desc := "([BI)C", sig := { parameters := [(.array .byte), .int], returnType := some .char }, accessFlags := 8, code := some k14c4 }
def k14c5 : Code := { maxStack := 3, maxLocals := 6, code := jdk_52_method_11_code, exceptionTable := #[], attributes := #[] }
def k14m5 : Method := { name := "codePointCount", desc := "([BIIZ)I", sig := { parameters := [(.array .byte), .int, .int, .boolean], returnType := some .int }, accessFlags := 10, code := some k14c5 }
def k14c6 : Code := { maxStack := 4, maxLocals := 3, code := jdk_52_method_12_code, exceptionTable := #[], attributes := #[] }
def k14m6 : Method := { name := "codePointCount", desc := "([BII)I", sig := { parameters := [(.array .byte), .int, .int], returnType := some .int }, accessFlags := 9, code := some k14c6 }
def k14c7 : Code := { maxStack := 4, maxLocals := 5, code := jdk_52_method_14_code, exceptionTable := #[], attributes := #[] }
def k14m7 : Method := { name := "toBytes", desc := "([CII)[B", sig := { parameters := [(.array .char), .int, .int], returnType := some (.array .byte) }, accessFlags := 9, code := some k14c7 }
def k14c8 : Code := { maxStack := 2, maxLocals := 2, code := jdk_52_method_15_code, exceptionTable := #[], attributes := #[] }
def k14m8 : Method := { name := "coderFromArrayLen", desc := "([BI)B", sig := { parameters := [(.array .byte), .int], returnType := some .byte }, accessFlags := 8, code := some k14c8 }
def k14c9 : Code := { maxStack := 5, maxLocals := 6, code := jdk_52_method_16_code, exceptionTable := #[], attributes := #[] }
def k14m9 : Method := { name := "compress", desc := "([CII)[B", sig := { parameters := [(.array .char), .int, .int], returnType := some (.array .byte) }, accessFlags := 9, code := some k14c9 }
def k14c10 : Code := { maxStack := 3, maxLocals := 7, code := jdk_52_method_21_code, exceptionTable := #[], attributes := #[] }
def k14m10 : Method := { name := "compress", desc := "([CI[BII)I", sig := { parameters := [(.array .char), .int, (.array .byte), .int, .int], returnType := some .int }, accessFlags := 9, code := some k14c10 }
/-- java/lang/StringUTF16 -/
def k14 : Class := { plain "java/lang/StringUTF16" (some 0) with
  accessFlags := 48
  interfaces := #[]
  cf := some (fileOf pool14 12 #[.nestMembers #[627, 629, 369]] #[{ accessFlags := 0, nameIndex := 9, descriptorIndex := 10, attributes := #[] }, { accessFlags := 9, nameIndex := 109, descriptorIndex := 110, attributes := #[] }, { accessFlags := 9, nameIndex := 15, descriptorIndex := 16, attributes := #[] }, { accessFlags := 8, nameIndex := 113, descriptorIndex := 114, attributes := #[] }, { accessFlags := 8, nameIndex := 73, descriptorIndex := 74, attributes := #[] }, { accessFlags := 10, nameIndex := 102, descriptorIndex := 91, attributes := #[] }, { accessFlags := 9, nameIndex := 102, descriptorIndex := 250, attributes := #[] }, { accessFlags := 9, nameIndex := 121, descriptorIndex := 122, attributes := #[] }, { accessFlags := 8, nameIndex := 261, descriptorIndex := 262, attributes := #[] }, { accessFlags := 9, nameIndex := 117, descriptorIndex := 122, attributes := #[] }, { accessFlags := 9, nameIndex := 117, descriptorIndex := 118, attributes := #[] }] 48 6 #[] #[{ accessFlags := 26, nameIndex := 61, descriptorIndex := 62, attributes := #[] }, { accessFlags := 26, nameIndex := 65, descriptorIndex := 62, attributes := #[] }, { accessFlags := 24, nameIndex := 430, descriptorIndex := 62, attributes := #[] }, { accessFlags := 4120, nameIndex := 46, descriptorIndex := 47, attributes := #[] }])
  fields := #[{ name := "HI_BYTE_SHIFT", type := .int, accessFlags := 26, slot := 0, constantValue := 0 }, { name := "LO_BYTE_SHIFT", type := .int, accessFlags := 26, slot := 1, constantValue := 0 }, { name := "MAX_LENGTH", type := .int, accessFlags := 24, slot := 2, constantValue := 0 }, { name := "$assertionsDisabled", type := .boolean, accessFlags := 4120, slot := 3, constantValue := 0 }]
  methods := #[k14m0, k14m1, k14m2, k14m3, k14m4, k14m5, k14m6, k14m7, k14m8, k14m9, k14m10]
  instanceTypes := #[]
  staticTypes := #[.int, .int, .int, .boolean]
  resolved := Array.replicate 635 none
  statics := some 2 }

def pool15 : Array CpInfo := pool [(1, .class_ 2), (0, u "java/lang/Character"), (18, u "value"), (0, u "C"), (19, .class_ 44), (1, u "java/lang/Object"), (3, .class_ 50), (1, u "java/lang/Character$CharacterCache"), (24, .integer 55296), (0, .integer 56320), (0, .integer 57344), (2, u "isHighSurrogate"), (0, u "(C)Z"), (2, u "isLowSurrogate"), (199, u "$assertionsDisabled"), (0, u "Z"), (21, .class_ 309), (1, u "java/lang/Character$UnicodeBlock"), (73, u "TYPE"), (0, u "Ljava/lang/Class;"), (0, .class_ 386), (0, u "java/io/Serializable"), (0, .class_ 388), (0, u "java/lang/Comparable"), (0, .class_ 390), (0, u "java/lang/constant/Constable"), (0, u "MIN_RADIX"), (0, u "I"), (2, u "MAX_RADIX"), (1, u "MIN_VALUE"), (1, u "MAX_VALUE"), (3, u "UNASSIGNED"), (0, u "B"), (0, u "UPPERCASE_LETTER"), (1, u "LOWERCASE_LETTER"), (0, u "TITLECASE_LETTER"), (1, u "MODIFIER_LETTER"), (1, u "OTHER_LETTER"), (1, u "NON_SPACING_MARK"), (1, u "ENCLOSING_MARK"), (1, u "COMBINING_SPACING_MARK"), (1, u "DECIMAL_DIGIT_NUMBER"), (1, u "LETTER_NUMBER"), (1, u "OTHER_NUMBER"), (1, u "SPACE_SEPARATOR"), (1, u "LINE_SEPARATOR"), (1, u "PARAGRAPH_SEPARATOR"), (1, u "CONTROL"), (1, u "FORMAT"), (1, u "PRIVATE_USE"), (1, u "SURROGATE"), (1, u "DASH_PUNCTUATION"), (1, u "START_PUNCTUATION"), (1, u "END_PUNCTUATION"), (1, u "CONNECTOR_PUNCTUATION"), (1, u "OTHER_PUNCTUATION"), (1, u "MATH_SYMBOL"), (1, u "CURRENCY_SYMBOL"), (1, u "MODIFIER_SYMBOL"), (1, u "OTHER_SYMBOL"), (1, u "INITIAL_QUOTE_PUNCTUATION"), (1, u "FINAL_QUOTE_PUNCTUATION"), (1, u "ERROR"), (1, u "DIRECTIONALITY_UNDEFINED"), (0, u "DIRECTIONALITY_LEFT_TO_RIGHT"), (0, u "DIRECTIONALITY_RIGHT_TO_LEFT"), (0, u "DIRECTIONALITY_RIGHT_TO_LEFT_ARABIC"), (0, u "DIRECTIONALITY_EUROPEAN_NUMBER"), (0, u "DIRECTIONALITY_EUROPEAN_NUMBER_SEPARATOR"), (0, u "DIRECTIONALITY_EUROPEAN_NUMBER_TERMINATOR"), (0, u "DIRECTIONALITY_ARABIC_NUMBER"), (0, u "DIRECTIONALITY_COMMON_NUMBER_SEPARATOR"), (0, u "DIRECTIONALITY_NONSPACING_MARK"), (0, u "DIRECTIONALITY_BOUNDARY_NEUTRAL"), (0, u "DIRECTIONALITY_PARAGRAPH_SEPARATOR"), (0, u "DIRECTIONALITY_SEGMENT_SEPARATOR"), (0, u "DIRECTIONALITY_WHITESPACE"), (0, u "DIRECTIONALITY_OTHER_NEUTRALS"), (0, u "DIRECTIONALITY_LEFT_TO_RIGHT_EMBEDDING"), (0, u "DIRECTIONALITY_LEFT_TO_RIGHT_OVERRIDE"), (0, u "DIRECTIONALITY_RIGHT_TO_LEFT_EMBEDDING"), (0, u "DIRECTIONALITY_RIGHT_TO_LEFT_OVERRIDE"), (1, u "DIRECTIONALITY_POP_DIRECTIONAL_FORMAT"), (0, u "DIRECTIONALITY_LEFT_TO_RIGHT_ISOLATE"), (0, u "DIRECTIONALITY_RIGHT_TO_LEFT_ISOLATE"), (0, u "DIRECTIONALITY_FIRST_STRONG_ISOLATE"), (0, u "DIRECTIONALITY_POP_DIRECTIONAL_ISOLATE"), (0, u "MIN_HIGH_SURROGATE"), (0, u "MAX_HIGH_SURROGATE"), (1, u "MIN_LOW_SURROGATE"), (0, u "MAX_LOW_SURROGATE"), (1, u "MIN_SURROGATE"), (0, u "MAX_SURROGATE"), (0, u "MIN_SUPPLEMENTARY_CODE_POINT"), (0, u "MIN_CODE_POINT"), (0, u "MAX_CODE_POINT"), (1, u "serialVersionUID"), (0, u "J"), (2, u "SIZE"), (0, u "BYTES"), (88, .class_ 596), (0, u "java/lang/Character$UnicodeScript"), (0, .class_ 598), (0, u "java/lang/Character$Subset")] 5

def k15c0 : Code := { maxStack := 2, maxLocals := 1, code := jdk_89_method_14_code, exceptionTable := #[], attributes := #[] }
def k15m0 : Method := { name := "isHighSurrogate", desc := "(C)Z", sig := { parameters := [.char], returnType := some .boolean }, accessFlags := 9, code := some k15c0 }
def k15c1 : Code := { maxStack := 2, maxLocals := 1, code := jdk_89_method_15_code, exceptionTable := #[], attributes := #[] }
def k15m1 : Method := { name := "isLowSurrogate", desc := "(C)Z", sig := { parameters := [.char], returnType := some .boolean }, accessFlags := 9, code := some k15c1 }
/-- java/lang/Character -/
def k15 : Class := { plain "java/lang/Character" (some 0) with
  accessFlags := 49
  interfaces := #[2, 3, 5]
  cf := some (fileOf pool15 1 #[.nestMembers #[48, 595, 307, 597]] #[{ accessFlags := 9, nameIndex := 80, descriptorIndex := 81, attributes := #[] }, { accessFlags := 9, nameIndex := 84, descriptorIndex := 81, attributes := #[] }] 49 42 #[385, 387, 389] #[{ accessFlags := 25, nameIndex := 391, descriptorIndex := 392, attributes := #[] }, { accessFlags := 25, nameIndex := 395, descriptorIndex := 392, attributes := #[] }, { accessFlags := 25, nameIndex := 397, descriptorIndex := 22, attributes := #[] }, { accessFlags := 25, nameIndex := 399, descriptorIndex := 22, attributes := #[] }, { accessFlags := 25, nameIndex := 383, descriptorIndex := 384, attributes := #[] }, { accessFlags := 25, nameIndex := 403, descriptorIndex := 404, attributes := #[] }, { accessFlags := 25, nameIndex := 405, descriptorIndex := 404, attributes := #[] }, { accessFlags := 25, nameIndex := 407, descriptorIndex := 404, attributes := #[] }, { accessFlags := 25, nameIndex := 408, descriptorIndex := 404, attributes := #[] }, { accessFlags := 25, nameIndex := 410, descriptorIndex := 404, attributes := #[] }, { accessFlags := 25, nameIndex := 412, descriptorIndex := 404, attributes := #[] }, { accessFlags := 25, nameIndex := 414, descriptorIndex := 404, attributes := #[] }, { accessFlags := 25, nameIndex := 416, descriptorIndex := 404, attributes := #[] }, { accessFlags := 25, nameIndex := 418, descriptorIndex := 404, attributes := #[] }, { accessFlags := 25, nameIndex := 420, descriptorIndex := 404, attributes := #[] }, { accessFlags := 25, nameIndex := 422, descriptorIndex := 404, attributes := #[] }, { accessFlags := 25, nameIndex := 424, descriptorIndex := 404, attributes := #[] }, { accessFlags := 25, nameIndex := 426, descriptorIndex := 404, attributes := #[] }, { accessFlags := 25, nameIndex := 428, descriptorIndex := 404, attributes := #[] }, { accessFlags := 25, nameIndex := 430, descriptorIndex := 404, attributes := #[] }, { accessFlags := 25, nameIndex := 432, descriptorIndex := 404, attributes := #[] }, { accessFlags := 25, nameIndex := 434, descriptorIndex := 404, attributes := #[] }, { accessFlags := 25, nameIndex := 436, descriptorIndex := 404, attributes := #[] }, { accessFlags := 25, nameIndex := 438, descriptorIndex := 404, attributes := #[] }, { accessFlags := 25, nameIndex := 440, descriptorIndex := 404, attributes := #[] }, { accessFlags := 25, nameIndex := 442, descriptorIndex := 404, attributes := #[] }, { accessFlags := 25, nameIndex := 444, descriptorIndex := 404, attributes := #[] }, { accessFlags := 25, nameIndex := 446, descriptorIndex := 404, attributes := #[] }, { accessFlags := 25, nameIndex := 448, descriptorIndex := 404, attributes := #[] }, { accessFlags := 25, nameIndex := 450, descriptorIndex := 404, attributes := #[] }, { accessFlags := 25, nameIndex := 452, descriptorIndex := 404, attributes := #[] }, { accessFlags := 25, nameIndex := 454, descriptorIndex := 404, attributes := #[] }, { accessFlags := 25, nameIndex := 456, descriptorIndex := 404, attributes := #[] }, { accessFlags := 25, nameIndex := 458, descriptorIndex := 404, attributes := #[] }, { accessFlags := 25, nameIndex := 460, descriptorIndex := 404, attributes := #[] }, { accessFlags := 24, nameIndex := 462, descriptorIndex := 392, attributes := #[] }, { accessFlags := 25, nameIndex := 464, descriptorIndex := 404, attributes := #[] }, { accessFlags := 25, nameIndex := 465, descriptorIndex := 404, attributes := #[] }, { accessFlags := 25, nameIndex := 466, descriptorIndex := 404, attributes := #[] }, { accessFlags := 25, nameIndex := 467, descriptorIndex := 404, attributes := #[] }, { accessFlags := 25, nameIndex := 468, descriptorIndex := 404, attributes := #[] }, { accessFlags := 25, nameIndex := 469, descriptorIndex := 404, attributes := #[] }, { accessFlags := 25, nameIndex := 470, descriptorIndex := 404, attributes := #[] }, { accessFlags := 25, nameIndex := 471, descriptorIndex := 404, attributes := #[] }, { accessFlags := 25, nameIndex := 472, descriptorIndex := 404, attributes := #[] }, { accessFlags := 25, nameIndex := 473, descriptorIndex := 404, attributes := #[] }, { accessFlags := 25, nameIndex := 474, descriptorIndex := 404, attributes := #[] }, { accessFlags := 25, nameIndex := 475, descriptorIndex := 404, attributes := #[] }, { accessFlags := 25, nameIndex := 476, descriptorIndex := 404, attributes := #[] }, { accessFlags := 25, nameIndex := 477, descriptorIndex := 404, attributes := #[] }, { accessFlags := 25, nameIndex := 478, descriptorIndex := 404, attributes := #[] }, { accessFlags := 25, nameIndex := 479, descriptorIndex := 404, attributes := #[] }, { accessFlags := 25, nameIndex := 480, descriptorIndex := 404, attributes := #[] }, { accessFlags := 25, nameIndex := 481, descriptorIndex := 404, attributes := #[] }, { accessFlags := 25, nameIndex := 482, descriptorIndex := 404, attributes := #[] }, { accessFlags := 25, nameIndex := 484, descriptorIndex := 404, attributes := #[] }, { accessFlags := 25, nameIndex := 485, descriptorIndex := 404, attributes := #[] }, { accessFlags := 25, nameIndex := 486, descriptorIndex := 404, attributes := #[] }, { accessFlags := 25, nameIndex := 487, descriptorIndex := 404, attributes := #[] }, { accessFlags := 25, nameIndex := 488, descriptorIndex := 404, attributes := #[] }, { accessFlags := 25, nameIndex := 489, descriptorIndex := 22, attributes := #[] }, { accessFlags := 25, nameIndex := 490, descriptorIndex := 22, attributes := #[] }, { accessFlags := 25, nameIndex := 492, descriptorIndex := 22, attributes := #[] }, { accessFlags := 25, nameIndex := 493, descriptorIndex := 22, attributes := #[] }, { accessFlags := 25, nameIndex := 495, descriptorIndex := 22, attributes := #[] }, { accessFlags := 25, nameIndex := 496, descriptorIndex := 22, attributes := #[] }, { accessFlags := 25, nameIndex := 497, descriptorIndex := 392, attributes := #[] }, { accessFlags := 25, nameIndex := 498, descriptorIndex := 392, attributes := #[] }, { accessFlags := 25, nameIndex := 499, descriptorIndex := 392, attributes := #[] }, { accessFlags := 18, nameIndex := 21, descriptorIndex := 22, attributes := #[] }, { accessFlags := 26, nameIndex := 501, descriptorIndex := 502, attributes := #[] }, { accessFlags := 25, nameIndex := 505, descriptorIndex := 392, attributes := #[] }, { accessFlags := 25, nameIndex := 506, descriptorIndex := 392, attributes := #[] }, { accessFlags := 4120, nameIndex := 284, descriptorIndex := 285, attributes := #[] }])
  fields := #[{ name := "MIN_RADIX", type := .int, accessFlags := 25, slot := 0, constantValue := 0 }, { name := "MAX_RADIX", type := .int, accessFlags := 25, slot := 1, constantValue := 0 }, { name := "MIN_VALUE", type := .char, accessFlags := 25, slot := 2, constantValue := 0 }, { name := "MAX_VALUE", type := .char, accessFlags := 25, slot := 3, constantValue := 0 }, { name := "TYPE", type := (.object "java/lang/Class"), accessFlags := 25, slot := 4, constantValue := 0 }, { name := "UNASSIGNED", type := .byte, accessFlags := 25, slot := 5, constantValue := 0 }, { name := "UPPERCASE_LETTER", type := .byte, accessFlags := 25, slot := 6, constantValue := 0 }, { name := "LOWERCASE_LETTER", type := .byte, accessFlags := 25, slot := 7, constantValue := 0 }, { name := "TITLECASE_LETTER", type := .byte, accessFlags := 25, slot := 8, constantValue := 0 }, { name := "MODIFIER_LETTER", type := .byte, accessFlags := 25, slot := 9, constantValue := 0 }, { name := "OTHER_LETTER", type := .byte, accessFlags := 25, slot := 10, constantValue := 0 }, { name := "NON_SPACING_MARK", type := .byte, accessFlags := 25, slot := 11, constantValue := 0 }, { name := "ENCLOSING_MARK", type := .byte, accessFlags := 25, slot := 12, constantValue := 0 }, { name := "COMBINING_SPACING_MARK", type := .byte, accessFlags := 25, slot := 13, constantValue := 0 }, { name := "DECIMAL_DIGIT_NUMBER", type := .byte, accessFlags := 25, slot := 14, constantValue := 0 }, { name := "LETTER_NUMBER", type := .byte, accessFlags := 25, slot := 15, constantValue := 0 }, { name := "OTHER_NUMBER", type := .byte, accessFlags := 25, slot := 16, constantValue := 0 }, { name := "SPACE_SEPARATOR", type := .byte, accessFlags := 25, slot := 17, constantValue := 0 }, { name := "LINE_SEPARATOR", type := .byte, accessFlags := 25, slot := 18, constantValue := 0 }, { name := "PARAGRAPH_SEPARATOR", type := .byte, accessFlags := 25, slot := 19, constantValue := 0 }, { name := "CONTROL", type := .byte, accessFlags := 25, slot := 20, constantValue := 0 }, { name := "FORMAT", type := .byte, accessFlags := 25, slot := 21, constantValue := 0 }, { name := "PRIVATE_USE", type := .byte, accessFlags := 25, slot := 22, constantValue := 0 }, { name := "SURROGATE", type := .byte, accessFlags := 25, slot := 23, constantValue := 0 }, { name := "DASH_PUNCTUATION", type := .byte, accessFlags := 25, slot := 24, constantValue := 0 }, { name := "START_PUNCTUATION", type := .byte, accessFlags := 25, slot := 25, constantValue := 0 }, { name := "END_PUNCTUATION", type := .byte, accessFlags := 25, slot := 26, constantValue := 0 }, { name := "CONNECTOR_PUNCTUATION", type := .byte, accessFlags := 25, slot := 27, constantValue := 0 }, { name := "OTHER_PUNCTUATION", type := .byte, accessFlags := 25, slot := 28, constantValue := 0 }, { name := "MATH_SYMBOL", type := .byte, accessFlags := 25, slot := 29, constantValue := 0 }, { name := "CURRENCY_SYMBOL", type := .byte, accessFlags := 25, slot := 30, constantValue := 0 }, { name := "MODIFIER_SYMBOL", type := .byte, accessFlags := 25, slot := 31, constantValue := 0 }, { name := "OTHER_SYMBOL", type := .byte, accessFlags := 25, slot := 32, constantValue := 0 }, { name := "INITIAL_QUOTE_PUNCTUATION", type := .byte, accessFlags := 25, slot := 33, constantValue := 0 }, { name := "FINAL_QUOTE_PUNCTUATION", type := .byte, accessFlags := 25, slot := 34, constantValue := 0 }, { name := "ERROR", type := .int, accessFlags := 24, slot := 35, constantValue := 0 }, { name := "DIRECTIONALITY_UNDEFINED", type := .byte, accessFlags := 25, slot := 36, constantValue := 0 }, { name := "DIRECTIONALITY_LEFT_TO_RIGHT", type := .byte, accessFlags := 25, slot := 37, constantValue := 0 }, { name := "DIRECTIONALITY_RIGHT_TO_LEFT", type := .byte, accessFlags := 25, slot := 38, constantValue := 0 }, { name := "DIRECTIONALITY_RIGHT_TO_LEFT_ARABIC", type := .byte, accessFlags := 25, slot := 39, constantValue := 0 }, { name := "DIRECTIONALITY_EUROPEAN_NUMBER", type := .byte, accessFlags := 25, slot := 40, constantValue := 0 }, { name := "DIRECTIONALITY_EUROPEAN_NUMBER_SEPARATOR", type := .byte, accessFlags := 25, slot := 41, constantValue := 0 }, { name := "DIRECTIONALITY_EUROPEAN_NUMBER_TERMINATOR", type := .byte, accessFlags := 25, slot := 42, constantValue := 0 }, { name := "DIRECTIONALITY_ARABIC_NUMBER", type := .byte, accessFlags := 25, slot := 43, constantValue := 0 }, { name := "DIRECTIONALITY_COMMON_NUMBER_SEPARATOR", type := .byte, accessFlags := 25, slot := 44, constantValue := 0 }, { name := "DIRECTIONALITY_NONSPACING_MARK", type := .byte, accessFlags := 25, slot := 45, constantValue := 0 }, { name := "DIRECTIONALITY_BOUNDARY_NEUTRAL", type := .byte, accessFlags := 25, slot := 46, constantValue := 0 }, { name := "DIRECTIONALITY_PARAGRAPH_SEPARATOR", type := .byte, accessFlags := 25, slot := 47, constantValue := 0 }, { name := "DIRECTIONALITY_SEGMENT_SEPARATOR", type := .byte, accessFlags := 25, slot := 48, constantValue := 0 }, { name := "DIRECTIONALITY_WHITESPACE", type := .byte, accessFlags := 25, slot := 49, constantValue := 0 }, { name := "DIRECTIONALITY_OTHER_NEUTRALS", type := .byte, accessFlags := 25, slot := 50, constantValue := 0 }, { name := "DIRECTIONALITY_LEFT_TO_RIGHT_EMBEDDING", type := .byte, accessFlags := 25, slot := 51, constantValue := 0 }, { name := "DIRECTIONALITY_LEFT_TO_RIGHT_OVERRIDE", type := .byte, accessFlags := 25, slot := 52, constantValue := 0 }, { name := "DIRECTIONALITY_RIGHT_TO_LEFT_EMBEDDING", type := .byte, accessFlags := 25, slot := 53, constantValue := 0 }, { name := "DIRECTIONALITY_RIGHT_TO_LEFT_OVERRIDE", type := .byte, accessFlags := 25, slot := 54, constantValue := 0 }, { name := "DIRECTIONALITY_POP_DIRECTIONAL_FORMAT", type := .byte, accessFlags := 25, slot := 55, constantValue := 0 }, { name := "DIRECTIONALITY_LEFT_TO_RIGHT_ISOLATE", type := .byte, accessFlags := 25, slot := 56, constantValue := 0 }, { name := "DIRECTIONALITY_RIGHT_TO_LEFT_ISOLATE", type := .byte, accessFlags := 25, slot := 57, constantValue := 0 }, { name := "DIRECTIONALITY_FIRST_STRONG_ISOLATE", type := .byte, accessFlags := 25, slot := 58, constantValue := 0 }, { name := "DIRECTIONALITY_POP_DIRECTIONAL_ISOLATE", type := .byte, accessFlags := 25, slot := 59, constantValue := 0 }, { name := "MIN_HIGH_SURROGATE", type := .char, accessFlags := 25, slot := 60, constantValue := 0 }, { name := "MAX_HIGH_SURROGATE", type := .char, accessFlags := 25, slot := 61, constantValue := 0 }, { name := "MIN_LOW_SURROGATE", type := .char, accessFlags := 25, slot := 62, constantValue := 0 }, { name := "MAX_LOW_SURROGATE", type := .char, accessFlags := 25, slot := 63, constantValue := 0 }, { name := "MIN_SURROGATE", type := .char, accessFlags := 25, slot := 64, constantValue := 0 }, { name := "MAX_SURROGATE", type := .char, accessFlags := 25, slot := 65, constantValue := 0 }, { name := "MIN_SUPPLEMENTARY_CODE_POINT", type := .int, accessFlags := 25, slot := 66, constantValue := 0 }, { name := "MIN_CODE_POINT", type := .int, accessFlags := 25, slot := 67, constantValue := 0 }, { name := "MAX_CODE_POINT", type := .int, accessFlags := 25, slot := 68, constantValue := 0 }, { name := "value", type := .char, accessFlags := 18, slot := 0, constantValue := 0 }, { name := "serialVersionUID", type := .long, accessFlags := 26, slot := 69, constantValue := 0 }, { name := "SIZE", type := .int, accessFlags := 25, slot := 70, constantValue := 0 }, { name := "BYTES", type := .int, accessFlags := 25, slot := 71, constantValue := 0 }, { name := "$assertionsDisabled", type := .boolean, accessFlags := 4120, slot := 72, constantValue := 0 }]
  methods := #[k15m0, k15m1]
  instanceTypes := #[.char]
  staticTypes := #[.int, .int, .char, .char, (.object "java/lang/Class"), .byte, .byte, .byte, .byte, .byte, .byte, .byte, .byte, .byte, .byte, .byte, .byte, .byte, .byte, .byte, .byte, .byte, .byte, .byte, .byte, .byte, .byte, .byte, .byte, .byte, .byte, .byte, .byte, .byte, .byte, .int, .byte, .byte, .byte, .byte, .byte, .byte, .byte, .byte, .byte, .byte, .byte, .byte, .byte, .byte, .byte, .byte, .byte, .byte, .byte, .byte, .byte, .byte, .byte, .byte, .char, .char, .char, .char, .char, .char, .int, .int, .int, .long, .int, .int, .boolean]
  resolved := Array.replicate 604 none
  statics := none }

def pool16 : Array CpInfo := pool [(4, .class_ 6), (1, u "java/lang/Object"), (0, u "<init>"), (0, u "()V"), (5, .class_ 16), (1, u "java/lang/StringLatin1"), (104, u "$assertionsDisabled"), (0, u "Z"), (98, .class_ 223), (1, u "java/lang/StringLatin1$LinesSpliterator"), (166, .class_ 391), (0, u "java/lang/StringLatin1$CharsSpliterator")] 3

def k16m0 : Method := { name := "<init>", desc := "()V", sig := { parameters := [], returnType := none }, accessFlags := 0, code := none }
/-- java/lang/StringLatin1 -/
def k16 : Class := { plain "java/lang/StringLatin1" (some 0) with
  accessFlags := 48
  interfaces := #[]
  cf := some (fileOf pool16 14 #[.nestMembers #[390, 221]] #[{ accessFlags := 0, nameIndex := 7, descriptorIndex := 8, attributes := #[] }] 48 4 #[] #[{ accessFlags := 4120, nameIndex := 121, descriptorIndex := 122, attributes := #[] }])
  fields := #[{ name := "$assertionsDisabled", type := .boolean, accessFlags := 4120, slot := 0, constantValue := 0 }]
  methods := #[k16m0]
  instanceTypes := #[]
  staticTypes := #[.boolean]
  resolved := Array.replicate 395 none
  statics := none }

def pool17 : Array CpInfo := pool [(9, u "<init>"), (6, .class_ 18), (1, u "java/lang/Object"), (0, u "()V"), (1, .class_ 23), (1, u "jdk/internal/util/ArraysSupport"), (0, u "LOG2_ARRAY_LONG_INDEX_SCALE"), (0, u "I"), (2, u "U"), (0, u "Ljdk/internal/misc/Unsafe;"), (8, u "BIG_ENDIAN"), (0, u "Z"), (8, u "LOG2_BYTE_BIT_SIZE"), (4, u "LOG2_ARRAY_INT_INDEX_SCALE"), (54, u "JLA"), (0, u "Ljdk/internal/access/JavaLangAccess;"), (11, u "LOG2_ARRAY_BOOLEAN_INDEX_SCALE"), (9, u "LOG2_ARRAY_BYTE_INDEX_SCALE"), (5, u "LOG2_ARRAY_CHAR_INDEX_SCALE"), (5, u "LOG2_ARRAY_SHORT_INDEX_SCALE"), (18, u "LOG2_ARRAY_FLOAT_INDEX_SCALE"), (24, u "LOG2_ARRAY_DOUBLE_INDEX_SCALE"), (89, u "T_BOOLEAN"), (2, u "T_CHAR"), (1, u "T_FLOAT"), (1, u "T_DOUBLE"), (1, u "T_BYTE"), (1, u "T_SHORT"), (1, u "T_INT"), (1, u "T_LONG"), (1, u "SOFT_MAX_ARRAY_LENGTH")] 83

def k17m0 : Method := { name := "<init>", desc := "()V", sig := { parameters := [], returnType := none }, accessFlags := 2, code := none }
/-- jdk/internal/util/ArraysSupport -/
def k17 : Class := { plain "jdk/internal/util/ArraysSupport" (some 0) with
  accessFlags := 33
  interfaces := #[]
  cf := some (fileOf pool17 21 #[] #[{ accessFlags := 2, nameIndex := 9, descriptorIndex := 19, attributes := #[] }] 33 16 #[] #[{ accessFlags := 24, nameIndex := 28, descriptorIndex := 29, attributes := #[] }, { accessFlags := 26, nameIndex := 38, descriptorIndex := 39, attributes := #[] }, { accessFlags := 25, nameIndex := 121, descriptorIndex := 25, attributes := #[] }, { accessFlags := 25, nameIndex := 131, descriptorIndex := 25, attributes := #[] }, { accessFlags := 25, nameIndex := 137, descriptorIndex := 25, attributes := #[] }, { accessFlags := 25, nameIndex := 143, descriptorIndex := 25, attributes := #[] }, { accessFlags := 25, nameIndex := 53, descriptorIndex := 25, attributes := #[] }, { accessFlags := 25, nameIndex := 24, descriptorIndex := 25, attributes := #[] }, { accessFlags := 25, nameIndex := 162, descriptorIndex := 25, attributes := #[] }, { accessFlags := 25, nameIndex := 187, descriptorIndex := 25, attributes := #[] }, { accessFlags := 26, nameIndex := 48, descriptorIndex := 25, attributes := #[] }, { accessFlags := 25, nameIndex := 277, descriptorIndex := 25, attributes := #[] }, { accessFlags := 25, nameIndex := 280, descriptorIndex := 25, attributes := #[] }, { accessFlags := 25, nameIndex := 282, descriptorIndex := 25, attributes := #[] }, { accessFlags := 25, nameIndex := 284, descriptorIndex := 25, attributes := #[] }, { accessFlags := 25, nameIndex := 286, descriptorIndex := 25, attributes := #[] }, { accessFlags := 25, nameIndex := 288, descriptorIndex := 25, attributes := #[] }, { accessFlags := 25, nameIndex := 290, descriptorIndex := 25, attributes := #[] }, { accessFlags := 25, nameIndex := 292, descriptorIndex := 25, attributes := #[] }, { accessFlags := 26, nameIndex := 108, descriptorIndex := 109, attributes := #[] }, { accessFlags := 25, nameIndex := 294, descriptorIndex := 25, attributes := #[] }])
  fields := #[{ name := "U", type := (.object "jdk/internal/misc/Unsafe"), accessFlags := 24, slot := 0, constantValue := 0 }, { name := "BIG_ENDIAN", type := .boolean, accessFlags := 26, slot := 1, constantValue := 0 }, { name := "LOG2_ARRAY_BOOLEAN_INDEX_SCALE", type := .int, accessFlags := 25, slot := 2, constantValue := 0 }, { name := "LOG2_ARRAY_BYTE_INDEX_SCALE", type := .int, accessFlags := 25, slot := 3, constantValue := 0 }, { name := "LOG2_ARRAY_CHAR_INDEX_SCALE", type := .int, accessFlags := 25, slot := 4, constantValue := 0 }, { name := "LOG2_ARRAY_SHORT_INDEX_SCALE", type := .int, accessFlags := 25, slot := 5, constantValue := 0 }, { name := "LOG2_ARRAY_INT_INDEX_SCALE", type := .int, accessFlags := 25, slot := 6, constantValue := 0 }, { name := "LOG2_ARRAY_LONG_INDEX_SCALE", type := .int, accessFlags := 25, slot := 7, constantValue := 0 }, { name := "LOG2_ARRAY_FLOAT_INDEX_SCALE", type := .int, accessFlags := 25, slot := 8, constantValue := 0 }, { name := "LOG2_ARRAY_DOUBLE_INDEX_SCALE", type := .int, accessFlags := 25, slot := 9, constantValue := 0 }, { name := "LOG2_BYTE_BIT_SIZE", type := .int, accessFlags := 26, slot := 10, constantValue := 0 }, { name := "T_BOOLEAN", type := .int, accessFlags := 25, slot := 11, constantValue := 0 }, { name := "T_CHAR", type := .int, accessFlags := 25, slot := 12, constantValue := 0 }, { name := "T_FLOAT", type := .int, accessFlags := 25, slot := 13, constantValue := 0 }, { name := "T_DOUBLE", type := .int, accessFlags := 25, slot := 14, constantValue := 0 }, { name := "T_BYTE", type := .int, accessFlags := 25, slot := 15, constantValue := 0 }, { name := "T_SHORT", type := .int, accessFlags := 25, slot := 16, constantValue := 0 }, { name := "T_INT", type := .int, accessFlags := 25, slot := 17, constantValue := 0 }, { name := "T_LONG", type := .int, accessFlags := 25, slot := 18, constantValue := 0 }, { name := "JLA", type := (.object "jdk/internal/access/JavaLangAccess"), accessFlags := 26, slot := 19, constantValue := 0 }, { name := "SOFT_MAX_ARRAY_LENGTH", type := .int, accessFlags := 25, slot := 20, constantValue := 0 }]
  methods := #[k17m0]
  instanceTypes := #[]
  staticTypes := #[(.object "jdk/internal/misc/Unsafe"), .boolean, .int, .int, .int, .int, .int, .int, .int, .int, .int, .int, .int, .int, .int, .int, .int, .int, .int, (.object "jdk/internal/access/JavaLangAccess"), .int]
  resolved := Array.replicate 378 none
  statics := none }

def pool18 : Array CpInfo := pool [(1, u "java/lang/Cloneable"), (0, .class_ 1), (0, u "java/lang/Object"), (0, .class_ 3)] 3

/-- java/lang/Cloneable -/
def k18 : Class := { plain "java/lang/Cloneable" (some 0) with
  accessFlags := 1537
  interfaces := #[]
  cf := some (fileOf pool18 2 #[] #[] 1537 4 #[] #[])
  fields := #[]
  methods := #[]
  instanceTypes := #[]
  staticTypes := #[]
  resolved := Array.replicate 8 none
  statics := none }

/-- the primitive byte -/
def k19 : Class := { plain "byte" none with kind := .primitive 'B', accessFlags := 0x411 }
/-- [B -/
def k20 : Class := { plain "[B" (some 0) with kind := .array 19 .byte, interfaces := #[18, 2], accessFlags := 1041 }

/-- the primitive char -/
def k21 : Class := { plain "char" none with kind := .primitive 'C', accessFlags := 0x411 }
/-- [C -/
def k22 : Class := { plain "[C" (some 0) with kind := .array 21 .char, interfaces := #[18, 2], accessFlags := 1041 }

/-- the primitive int -/
def k23 : Class := { plain "int" none with kind := .primitive 'I', accessFlags := 0x411 }
/-- [I -/
def k24 : Class := { plain "[I" (some 0) with kind := .array 23 .int, interfaces := #[18, 2], accessFlags := 1041 }

def heap : Heap := #[{ cls := 7, slots := #[.long 0, .int 1, .null, .int 0, .null, .int 0, .int 0], vm := .statics 7 },
  { cls := 13, slots := #[.null, .null, .null], vm := .statics 13 },
  { cls := 14, slots := #[.int 0, .int 8, .int 0, .int 1], vm := .statics 14 }]
def classes : Array Class := #[k0, k1, k2, k3, k4, k5, k6, k7, k8, k9, k10, k11, k12, k13, k14, k15, k16, k17, k18, k19, k20, k21, k22, k23, k24]
def interned : List (Array UInt16 × Addr) := []
def slotsUsed : Nat := 14
def theMethod : MethodId := ⟨1, 4⟩
def args0 : Array Value := #[.int 65, .int 66, .int 67, .int 68, .int 3, .int 9]
def aboutOver (below : List Frame) : State where
  vm := { classes := classes, interned := interned.toArray }
  heap := heap
  slotsUsed := slotsUsed
  threads := #[{ frames := .invoking theMethod args0 :: below }]
def below0 : List Frame := [.native { method := ⟨0, 0⟩, args := #[] }]
def about1 : State := aboutOver below0
def p0 : Program := .bare "" "" ""
def e0 : Env := launch0.env 0 0 0
theorem w_frames : about1.frames = Frame.invoking theMethod args0 :: below0 := rfl
set_option maxRecDepth 65536 in
theorem w_args : argsFit about1.vm theMethod args0 = true := by decide +kernel
set_option maxRecDepth 65536 in
theorem w_heap : heapFits about1 = true := by decide +kernel
set_option maxRecDepth 65536 in
theorem w_runnable : about1.curStatus? = some .runnable := by decide +kernel
set_option maxRecDepth 65536 in
theorem w_alone : about1.alone = true := by decide +kernel
set_option maxRecDepth 65536 in
theorem w_named : about1.methodNamed? x = some theMethod := by decide +kernel
set_option maxRecDepth 65536 in
theorem w_hears : about1.hears theMethod below0 = true := by decide +kernel
set_option maxRecDepth 65536 in
theorem w_ripe : about1.ripe theMethod args0 below0 = true := by decide +kernel
theorem w_running : about1.status = .running := rfl
set_option maxRecDepth 65536 in
theorem w_room : about1.hasRoom e0.platform room_1 = true :=
  launch0.hasRoom_least _ room_1 (by decide +kernel) (by decide +kernel) (by decide +kernel) (by decide +kernel) (by decide +kernel) (by decide +kernel)
theorem allAtoms_all (ts : List Jvm.Cond) (a : Array Jvm.Value) (st : Jvm.State) : (allAtoms ts).before a st = ts.all (fun c => c.before a st) := by
  induction ts with
  | nil => rfl
  | cons c t ih =>
    show (Jvm.Cond.and c (allAtoms t)).before a st = _
    rw [Jvm.Cond.before_and, ih, List.all_cons]
def words1 : List Jvm.Cond := Jvm.Cond.code x code maxLocals ret :: tables_1
/-- a 'code' word, met by the world's own term for the bytes: nothing is compared byte by byte -/
theorem code_word {y : MethodName} {bytes : ByteArray} {mx : Nat} {rt : Option FieldType} {a : Array Value} {s : State} {m : MethodId} {meth : Method} {c : Code} (h1 : s.methodNamed? y = some m) (h2 : s.vm.method? m = some meth) (h3 : meth.code = some c) (h4 : c.code = bytes)
    (h5 : (c.maxLocals == mx && c.exceptionTable.isEmpty && decide (c.maxStack ≤ mostOperands) && decide (meth.sig.returnType = rt) && !meth.locks && decide (parseMethodDescriptor y.desc = some meth.sig)) = true) : (Jvm.Cond.code y bytes mx rt).before a s = true := by
  simp only [Bool.and_eq_true, beq_iff_eq, Bool.not_eq_true', decide_eq_true_eq] at h5
  obtain ⟨⟨⟨⟨⟨g1, g2⟩, g3⟩, g4⟩, g5⟩, g6⟩ := h5
  simp [Cond.before, Cond.holds, Cond.value, h1, h2, h3, h4, g1, g2, g3, g4, g5, g6]
def isCode : Jvm.Cond → Bool
  | .code _ _ _ _ => true
  | _ => false
theorem all_split {L : List Jvm.Cond} {P : Jvm.Cond → Bool} (h1 : L.all (fun c => isCode c || P c) = true) (h2 : ∀ c ∈ L.filter isCode, P c = true) : L.all P = true := by
  refine List.all_eq_true.mpr fun c hc => ?_
  have h := List.all_eq_true.mp h1 c hc
  rcases Bool.eq_false_or_eq_true (isCode c) with hi | hi
  · exact h2 c (List.mem_filter.mpr ⟨hc, hi⟩)
  · simpa [hi] using h
set_option maxRecDepth 65536 in
theorem w_c0 : (Jvm.Cond.code x code maxLocals ret).before args0 about1 = true := code_word (m := ⟨1, 4⟩) (meth := k1m4) (c := k1c4) (by decide +kernel) rfl rfl rfl (by decide +kernel)
set_option maxRecDepth 65536 in
theorem w_c1 : (Jvm.Cond.code ({ cls := "com/example/deepquery/deepquery/ApiExceptionRefuseLongerPinLaw", name := "ch", desc := "(I)C" } : Jvm.MethodName) method_2_code (3 : Nat) (Option.some Jvm.ClassFile.FieldType.char)).before args0 about1 = true := code_word (m := ⟨1, 1⟩) (meth := k1m1) (c := k1c1) (by decide +kernel) rfl rfl rfl (by decide +kernel)
set_option maxRecDepth 65536 in
theorem w_c2 : (Jvm.Cond.code ({ cls := "com/example/deepquery/deepquery/ApiExceptionRefuseLongerPinLaw", name := "prefix", desc := "(CCCCI)[C" } : Jvm.MethodName) method_4_code (5 : Nat) (Option.some (Jvm.ClassFile.FieldType.array Jvm.ClassFile.FieldType.char))).before args0 about1 = true := code_word (m := ⟨1, 3⟩) (meth := k1m3) (c := k1c3) (by decide +kernel) rfl rfl rfl (by decide +kernel)
set_option maxRecDepth 65536 in
theorem w_c3 : (Jvm.Cond.code ({ cls := "java/lang/String", name := "<init>", desc := "([C)V" } : Jvm.MethodName) jdk_42_method_3_code (2 : Nat) (Option.none : Option Jvm.ClassFile.FieldType)).before args0 about1 = true := code_word (m := ⟨7, 1⟩) (meth := k7m1) (c := k7c1) (by decide +kernel) rfl rfl rfl (by decide +kernel)
set_option maxRecDepth 65536 in
theorem w_c4 : (Jvm.Cond.code ({ cls := "java/lang/String", name := "<init>", desc := "([CIILjava/lang/Void;)V" } : Jvm.MethodName) jdk_42_method_149_code (6 : Nat) (Option.none : Option Jvm.ClassFile.FieldType)).before args0 about1 = true := code_word (m := ⟨7, 4⟩) (meth := k7m4) (c := k7c4) (by decide +kernel) rfl rfl rfl (by decide +kernel)
set_option maxRecDepth 65536 in
theorem w_c5 : (Jvm.Cond.code ({ cls := "java/lang/Object", name := "<init>", desc := "()V" } : Jvm.MethodName) object_method_1_code (1 : Nat) (Option.none : Option Jvm.ClassFile.FieldType)).before args0 about1 = true := code_word (m := ⟨0, 0⟩) (meth := k0m0) (c := k0c0) (by decide +kernel) rfl rfl rfl (by decide +kernel)
set_option maxRecDepth 65536 in
theorem w_c6 : (Jvm.Cond.code ({ cls := "java/lang/Math", name := "max", desc := "(II)I" } : Jvm.MethodName) jdk_29_method_65_code (2 : Nat) (Option.some Jvm.ClassFile.FieldType.int)).before args0 about1 = true := code_word (m := ⟨8, 1⟩) (meth := k8m1) (c := k8c1) (by decide +kernel) rfl rfl rfl (by decide +kernel)
set_option maxRecDepth 65536 in
theorem w_c7 : (Jvm.Cond.code ({ cls := "com/example/deepquery/deepquery/ApiException", name := "refuseLonger", desc := "(Ljava/lang/String;ILjava/lang/String;Ljava/lang/String;)V" } : Jvm.MethodName) prog_1_method_6_code (5 : Nat) (Option.none : Option Jvm.ClassFile.FieldType)).before args0 about1 = true := code_word (m := ⟨11, 0⟩) (meth := k11m0) (c := k11c0) (by decide +kernel) rfl rfl rfl (by decide +kernel)
set_option maxRecDepth 65536 in
theorem w_c8 : (Jvm.Cond.code ({ cls := "java/lang/String", name := "length", desc := "()I" } : Jvm.MethodName) jdk_42_method_54_code (1 : Nat) (Option.some Jvm.ClassFile.FieldType.int)).before args0 about1 = true := code_word (m := ⟨7, 2⟩) (meth := k7m2) (c := k7c2) (by decide +kernel) rfl rfl rfl (by decide +kernel)
set_option maxRecDepth 65536 in
theorem w_c9 : (Jvm.Cond.code ({ cls := "java/lang/String", name := "coder", desc := "()B" } : Jvm.MethodName) jdk_42_method_152_code (1 : Nat) (Option.some Jvm.ClassFile.FieldType.byte)).before args0 about1 = true := code_word (m := ⟨7, 5⟩) (meth := k7m5) (c := k7c5) (by decide +kernel) rfl rfl rfl (by decide +kernel)
set_option maxRecDepth 65536 in
theorem w_c10 : (Jvm.Cond.code ({ cls := "java/lang/String", name := "codePointCount", desc := "(II)I" } : Jvm.MethodName) jdk_42_method_59_code (3 : Nat) (Option.some Jvm.ClassFile.FieldType.int)).before args0 about1 = true := code_word (m := ⟨7, 3⟩) (meth := k7m3) (c := k7c3) (by decide +kernel) rfl rfl rfl (by decide +kernel)
set_option maxRecDepth 65536 in
theorem w_c11 : (Jvm.Cond.code ({ cls := "java/util/Objects", name := "checkFromToIndex", desc := "(III)I" } : Jvm.MethodName) jdk_31_method_18_code (3 : Nat) (Option.some Jvm.ClassFile.FieldType.int)).before args0 about1 = true := code_word (m := ⟨12, 1⟩) (meth := k12m1) (c := k12c1) (by decide +kernel) rfl rfl rfl (by decide +kernel)
set_option maxRecDepth 65536 in
theorem w_c12 : (Jvm.Cond.code ({ cls := "jdk/internal/util/Preconditions", name := "checkFromToIndex", desc := "(IIILjava/util/function/BiFunction;)I" } : Jvm.MethodName) jdk_41_method_12_code (4 : Nat) (Option.some Jvm.ClassFile.FieldType.int)).before args0 about1 = true := code_word (m := ⟨13, 1⟩) (meth := k13m1) (c := k13c1) (by decide +kernel) rfl rfl rfl (by decide +kernel)
set_option maxRecDepth 65536 in
theorem w_c13 : (Jvm.Cond.code ({ cls := "java/lang/String", name := "isLatin1", desc := "()Z" } : Jvm.MethodName) jdk_42_method_154_code (1 : Nat) (Option.some Jvm.ClassFile.FieldType.boolean)).before args0 about1 = true := code_word (m := ⟨7, 6⟩) (meth := k7m6) (c := k7c6) (by decide +kernel) rfl rfl rfl (by decide +kernel)
set_option maxRecDepth 65536 in
theorem w_c14 : (Jvm.Cond.code ({ cls := "java/lang/StringUTF16", name := "compress", desc := "([CII)[B" } : Jvm.MethodName) jdk_52_method_16_code (6 : Nat) (Option.some (Jvm.ClassFile.FieldType.array Jvm.ClassFile.FieldType.byte))).before args0 about1 = true := code_word (m := ⟨14, 9⟩) (meth := k14m9) (c := k14c9) (by decide +kernel) rfl rfl rfl (by decide +kernel)
set_option maxRecDepth 65536 in
theorem w_c15 : (Jvm.Cond.code ({ cls := "java/lang/StringUTF16", name := "compress", desc := "([CI[BII)I" } : Jvm.MethodName) jdk_52_method_21_code (7 : Nat) (Option.some Jvm.ClassFile.FieldType.int)).before args0 about1 = true := code_word (m := ⟨14, 10⟩) (meth := k14m10) (c := k14c10) (by decide +kernel) rfl rfl rfl (by decide +kernel)
set_option maxRecDepth 65536 in
theorem w_c16 : (Jvm.Cond.code ({ cls := "java/lang/StringUTF16", name := "coderFromArrayLen", desc := "([BI)B" } : Jvm.MethodName) jdk_52_method_15_code (2 : Nat) (Option.some Jvm.ClassFile.FieldType.byte)).before args0 about1 = true := code_word (m := ⟨14, 8⟩) (meth := k14m8) (c := k14c8) (by decide +kernel) rfl rfl rfl (by decide +kernel)
set_option maxRecDepth 65536 in
theorem w_c17 : (Jvm.Cond.code ({ cls := "com/example/deepquery/deepquery/ApiExceptionRefuseLongerPinLaw", name := "pair", desc := "(CC)Z" } : Jvm.MethodName) method_3_code (2 : Nat) (Option.some Jvm.ClassFile.FieldType.boolean)).before args0 about1 = true := code_word (m := ⟨1, 2⟩) (meth := k1m2) (c := k1c2) (by decide +kernel) rfl rfl rfl (by decide +kernel)
set_option maxRecDepth 65536 in
theorem w_c18 : (Jvm.Cond.code ({ cls := "java/lang/StringUTF16", name := "toBytes", desc := "([CII)[B" } : Jvm.MethodName) jdk_52_method_14_code (5 : Nat) (Option.some (Jvm.ClassFile.FieldType.array Jvm.ClassFile.FieldType.byte))).before args0 about1 = true := code_word (m := ⟨14, 7⟩) (meth := k14m7) (c := k14c7) (by decide +kernel) rfl rfl rfl (by decide +kernel)
set_option maxRecDepth 65536 in
theorem w_c19 : (Jvm.Cond.code ({ cls := "java/lang/StringUTF16", name := "newBytesFor", desc := "(I)[B" } : Jvm.MethodName) jdk_52_method_2_code (1 : Nat) (Option.some (Jvm.ClassFile.FieldType.array Jvm.ClassFile.FieldType.byte))).before args0 about1 = true := code_word (m := ⟨14, 1⟩) (meth := k14m1) (c := k14c1) (by decide +kernel) rfl rfl rfl (by decide +kernel)
set_option maxRecDepth 65536 in
theorem w_c20 : (Jvm.Cond.code ({ cls := "java/lang/StringUTF16", name := "newBytesLength", desc := "(I)I" } : Jvm.MethodName) jdk_52_method_3_code (1 : Nat) (Option.some Jvm.ClassFile.FieldType.int)).before args0 about1 = true := code_word (m := ⟨14, 2⟩) (meth := k14m2) (c := k14c2) (by decide +kernel) rfl rfl rfl (by decide +kernel)
set_option maxRecDepth 65536 in
theorem w_c21 : (Jvm.Cond.code ({ cls := "java/lang/StringUTF16", name := "putChar", desc := "([BII)V" } : Jvm.MethodName) jdk_52_method_4_code (3 : Nat) (Option.none : Option Jvm.ClassFile.FieldType)).before args0 about1 = true := code_word (m := ⟨14, 3⟩) (meth := k14m3) (c := k14c3) (by decide +kernel) rfl rfl rfl (by decide +kernel)
set_option maxRecDepth 65536 in
theorem w_c22 : (Jvm.Cond.code ({ cls := "java/lang/StringUTF16", name := "getChar", desc := "([BI)C" } : Jvm.MethodName) jdk_52_method_5_code (2 : Nat) (Option.some Jvm.ClassFile.FieldType.char)).before args0 about1 = true := code_word (m := ⟨14, 4⟩) (meth := k14m4) (c := k14c4) (by decide +kernel) rfl rfl rfl (by decide +kernel)
set_option maxRecDepth 65536 in
theorem w_c23 : (Jvm.Cond.code ({ cls := "java/lang/StringUTF16", name := "codePointCount", desc := "([BII)I" } : Jvm.MethodName) jdk_52_method_12_code (3 : Nat) (Option.some Jvm.ClassFile.FieldType.int)).before args0 about1 = true := code_word (m := ⟨14, 6⟩) (meth := k14m6) (c := k14c6) (by decide +kernel) rfl rfl rfl (by decide +kernel)
set_option maxRecDepth 65536 in
theorem w_c24 : (Jvm.Cond.code ({ cls := "java/lang/StringUTF16", name := "codePointCount", desc := "([BIIZ)I" } : Jvm.MethodName) jdk_52_method_11_code (6 : Nat) (Option.some Jvm.ClassFile.FieldType.int)).before args0 about1 = true := code_word (m := ⟨14, 5⟩) (meth := k14m5) (c := k14c5) (by decide +kernel) rfl rfl rfl (by decide +kernel)
set_option maxRecDepth 65536 in
theorem w_c25 : (Jvm.Cond.code ({ cls := "java/lang/Character", name := "isHighSurrogate", desc := "(C)Z" } : Jvm.MethodName) jdk_89_method_14_code (1 : Nat) (Option.some Jvm.ClassFile.FieldType.boolean)).before args0 about1 = true := code_word (m := ⟨15, 0⟩) (meth := k15m0) (c := k15c0) (by decide +kernel) rfl rfl rfl (by decide +kernel)
set_option maxRecDepth 65536 in
theorem w_c26 : (Jvm.Cond.code ({ cls := "java/lang/Character", name := "isLowSurrogate", desc := "(C)Z" } : Jvm.MethodName) jdk_89_method_15_code (1 : Nat) (Option.some Jvm.ClassFile.FieldType.boolean)).before args0 about1 = true := code_word (m := ⟨15, 1⟩) (meth := k15m1) (c := k15c1) (by decide +kernel) rfl rfl rfl (by decide +kernel)
def codes1 : List Jvm.Cond := [Jvm.Cond.code x code maxLocals ret, Jvm.Cond.code ({ cls := "com/example/deepquery/deepquery/ApiExceptionRefuseLongerPinLaw", name := "ch", desc := "(I)C" } : Jvm.MethodName) method_2_code (3 : Nat) (Option.some Jvm.ClassFile.FieldType.char), Jvm.Cond.code ({ cls := "com/example/deepquery/deepquery/ApiExceptionRefuseLongerPinLaw", name := "prefix", desc := "(CCCCI)[C" } : Jvm.MethodName) method_4_code (5 : Nat) (Option.some (Jvm.ClassFile.FieldType.array Jvm.ClassFile.FieldType.char)), Jvm.Cond.code ({ cls := "java/lang/String", name := "<init>", desc := "([C)V" } : Jvm.MethodName) jdk_42_method_3_code (2 : Nat) (Option.none : Option Jvm.ClassFile.FieldType), Jvm.Cond.code ({ cls := "java/lang/String", name := "<init>", desc := "([CIILjava/lang/Void;)V" } : Jvm.MethodName) jdk_42_method_149_code (6 : Nat) (Option.none : Option Jvm.ClassFile.FieldType), Jvm.Cond.code ({ cls := "java/lang/Object", name := "<init>", desc := "()V" } : Jvm.MethodName) object_method_1_code (1 : Nat) (Option.none : Option Jvm.ClassFile.FieldType), Jvm.Cond.code ({ cls := "java/lang/Math", name := "max", desc := "(II)I" } : Jvm.MethodName) jdk_29_method_65_code (2 : Nat) (Option.some Jvm.ClassFile.FieldType.int), Jvm.Cond.code ({ cls := "com/example/deepquery/deepquery/ApiException", name := "refuseLonger", desc := "(Ljava/lang/String;ILjava/lang/String;Ljava/lang/String;)V" } : Jvm.MethodName) prog_1_method_6_code (5 : Nat) (Option.none : Option Jvm.ClassFile.FieldType), Jvm.Cond.code ({ cls := "java/lang/String", name := "length", desc := "()I" } : Jvm.MethodName) jdk_42_method_54_code (1 : Nat) (Option.some Jvm.ClassFile.FieldType.int), Jvm.Cond.code ({ cls := "java/lang/String", name := "coder", desc := "()B" } : Jvm.MethodName) jdk_42_method_152_code (1 : Nat) (Option.some Jvm.ClassFile.FieldType.byte), Jvm.Cond.code ({ cls := "java/lang/String", name := "codePointCount", desc := "(II)I" } : Jvm.MethodName) jdk_42_method_59_code (3 : Nat) (Option.some Jvm.ClassFile.FieldType.int), Jvm.Cond.code ({ cls := "java/util/Objects", name := "checkFromToIndex", desc := "(III)I" } : Jvm.MethodName) jdk_31_method_18_code (3 : Nat) (Option.some Jvm.ClassFile.FieldType.int), Jvm.Cond.code ({ cls := "jdk/internal/util/Preconditions", name := "checkFromToIndex", desc := "(IIILjava/util/function/BiFunction;)I" } : Jvm.MethodName) jdk_41_method_12_code (4 : Nat) (Option.some Jvm.ClassFile.FieldType.int), Jvm.Cond.code ({ cls := "java/lang/String", name := "isLatin1", desc := "()Z" } : Jvm.MethodName) jdk_42_method_154_code (1 : Nat) (Option.some Jvm.ClassFile.FieldType.boolean), Jvm.Cond.code ({ cls := "java/lang/StringUTF16", name := "compress", desc := "([CII)[B" } : Jvm.MethodName) jdk_52_method_16_code (6 : Nat) (Option.some (Jvm.ClassFile.FieldType.array Jvm.ClassFile.FieldType.byte)), Jvm.Cond.code ({ cls := "java/lang/StringUTF16", name := "compress", desc := "([CI[BII)I" } : Jvm.MethodName) jdk_52_method_21_code (7 : Nat) (Option.some Jvm.ClassFile.FieldType.int), Jvm.Cond.code ({ cls := "java/lang/StringUTF16", name := "coderFromArrayLen", desc := "([BI)B" } : Jvm.MethodName) jdk_52_method_15_code (2 : Nat) (Option.some Jvm.ClassFile.FieldType.byte), Jvm.Cond.code ({ cls := "com/example/deepquery/deepquery/ApiExceptionRefuseLongerPinLaw", name := "pair", desc := "(CC)Z" } : Jvm.MethodName) method_3_code (2 : Nat) (Option.some Jvm.ClassFile.FieldType.boolean), Jvm.Cond.code ({ cls := "java/lang/StringUTF16", name := "toBytes", desc := "([CII)[B" } : Jvm.MethodName) jdk_52_method_14_code (5 : Nat) (Option.some (Jvm.ClassFile.FieldType.array Jvm.ClassFile.FieldType.byte)), Jvm.Cond.code ({ cls := "java/lang/StringUTF16", name := "newBytesFor", desc := "(I)[B" } : Jvm.MethodName) jdk_52_method_2_code (1 : Nat) (Option.some (Jvm.ClassFile.FieldType.array Jvm.ClassFile.FieldType.byte)), Jvm.Cond.code ({ cls := "java/lang/StringUTF16", name := "newBytesLength", desc := "(I)I" } : Jvm.MethodName) jdk_52_method_3_code (1 : Nat) (Option.some Jvm.ClassFile.FieldType.int), Jvm.Cond.code ({ cls := "java/lang/StringUTF16", name := "putChar", desc := "([BII)V" } : Jvm.MethodName) jdk_52_method_4_code (3 : Nat) (Option.none : Option Jvm.ClassFile.FieldType), Jvm.Cond.code ({ cls := "java/lang/StringUTF16", name := "getChar", desc := "([BI)C" } : Jvm.MethodName) jdk_52_method_5_code (2 : Nat) (Option.some Jvm.ClassFile.FieldType.char), Jvm.Cond.code ({ cls := "java/lang/StringUTF16", name := "codePointCount", desc := "([BII)I" } : Jvm.MethodName) jdk_52_method_12_code (3 : Nat) (Option.some Jvm.ClassFile.FieldType.int), Jvm.Cond.code ({ cls := "java/lang/StringUTF16", name := "codePointCount", desc := "([BIIZ)I" } : Jvm.MethodName) jdk_52_method_11_code (6 : Nat) (Option.some Jvm.ClassFile.FieldType.int), Jvm.Cond.code ({ cls := "java/lang/Character", name := "isHighSurrogate", desc := "(C)Z" } : Jvm.MethodName) jdk_89_method_14_code (1 : Nat) (Option.some Jvm.ClassFile.FieldType.boolean), Jvm.Cond.code ({ cls := "java/lang/Character", name := "isLowSurrogate", desc := "(C)Z" } : Jvm.MethodName) jdk_89_method_15_code (1 : Nat) (Option.some Jvm.ClassFile.FieldType.boolean)]
set_option maxRecDepth 65536 in
theorem codes_eq : words1.filter isCode = codes1 := rfl
theorem w_codes : ∀ c ∈ words1.filter isCode, c.before args0 about1 = true := by
  rw [codes_eq]
  intro c hc
  simp only [codes1, List.mem_cons, List.not_mem_nil, or_false] at hc
  rcases hc with rfl | rfl | rfl | rfl | rfl | rfl | rfl | rfl | rfl | rfl | rfl | rfl | rfl | rfl | rfl | rfl | rfl | rfl | rfl | rfl | rfl | rfl | rfl | rfl | rfl | rfl | rfl
  · exact w_c0
  · exact w_c1
  · exact w_c2
  · exact w_c3
  · exact w_c4
  · exact w_c5
  · exact w_c6
  · exact w_c7
  · exact w_c8
  · exact w_c9
  · exact w_c10
  · exact w_c11
  · exact w_c12
  · exact w_c13
  · exact w_c14
  · exact w_c15
  · exact w_c16
  · exact w_c17
  · exact w_c18
  · exact w_c19
  · exact w_c20
  · exact w_c21
  · exact w_c22
  · exact w_c23
  · exact w_c24
  · exact w_c25
  · exact w_c26
set_option maxRecDepth 65536 in
theorem w_t1 : (words1.take 24).all (fun c => isCode c || c.before args0 about1) = true := by decide +kernel
set_option maxRecDepth 65536 in
theorem w_t2 : ((words1.drop 24).take 24).all (fun c => isCode c || c.before args0 about1) = true := by decide +kernel
set_option maxRecDepth 65536 in
theorem w_t3 : (((words1.drop 24).drop 24).take 24).all (fun c => isCode c || c.before args0 about1) = true := by decide +kernel
set_option maxRecDepth 65536 in
theorem w_t4 : ((((words1.drop 24).drop 24).drop 24).take 24).all (fun c => isCode c || c.before args0 about1) = true := by decide +kernel
set_option maxRecDepth 65536 in
theorem w_t5 : (((((words1.drop 24).drop 24).drop 24).drop 24).take 24).all (fun c => isCode c || c.before args0 about1) = true := by decide +kernel
set_option maxRecDepth 65536 in
theorem w_t6 : (((((words1.drop 24).drop 24).drop 24).drop 24).drop 24).all (fun c => isCode c || c.before args0 about1) = true := by decide +kernel
theorem w_tables : (allAtoms (Jvm.Cond.code x code maxLocals ret :: tables_1)).before args0 about1 = true := by
  rw [allAtoms_all]
  show words1.all (fun c => c.before args0 about1) = true
  refine all_split ?_ w_codes
  rw [← List.take_append_drop 24 words1, List.all_append, w_t1, ← List.take_append_drop 24 (words1.drop 24), List.all_append, w_t2, ← List.take_append_drop 24 ((words1.drop 24).drop 24), List.all_append, w_t3, ← List.take_append_drop 24 (((words1.drop 24).drop 24).drop 24), List.all_append, w_t4, ← List.take_append_drop 24 ((((words1.drop 24).drop 24).drop 24).drop 24), List.all_append, w_t5, w_t6]
  rfl
set_option maxRecDepth 65536 in
theorem w_rest : rest_1_c.before args0 about1 = true := by decide +kernel
set_option maxRecDepth 65536 in
theorem w_case : (Jvm.Cond.and given_1 narrow_1).before args0 about1 = true := by decide +kernel
set_option maxRecDepth 65536 in
theorem w_consts : constsHeld consts_1 about1 := Jvm.Lit.constsHeldB_iff.mp (by decide +kernel)
theorem w_applies : (headSpec (Jvm.Cond.code x code maxLocals ret :: tables_1) room_1).applies x e0.platform about1 = true :=
  (Spec.applies_iff w_frames).mpr ⟨w_running, w_runnable, w_alone, w_named, w_hears, w_ripe, w_room, w_tables⟩
theorem atStart : AtStart classFile x code maxLocals ret World_1 tables_1 room_1 Calls_1 rest_1 Pre_1 launch0 p0 e0 about1 theMethod args0 below0 :=
  ⟨lists_1, trivial, launch0.admits_env _ _ _, launch0.least_env, fairChoices_fair.cas, fairChoices_fair.clock, w_frames, w_args, w_heap, w_applies, ⟨w_consts, trivial⟩, w_rest, w_case⟩
end start1
theorem witness_1 : WitnessClaimed_1 := ⟨start1.p0, start1.e0, start1.about1, start1.theMethod, start1.args0, start1.below0, start1.atStart⟩
end Jvm.Pilot.@@N@@
